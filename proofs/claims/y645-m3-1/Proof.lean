import JvmDerived
import JvmDerived.Pilot.@@N@@Statement
import JvmDerived.Pilot.@@N@@Code
set_option linter.unusedVariables false
set_option linter.unusedSimpArgs false
namespace Jvm.Pilot.@@N@@
open Jvm Jvm.ClassFile Sem Op Lib Jvm.Free Jvm.Stand Jvm.LawKit Jvm.RoadKit Bundle Jvm.Pilot.@@N@@.Jvm.D
theorem own_exa_ns {Z : State} {h : Heap} {a : Addr} {C : String} (E : Exa Z h a C) : ∀ c : Cell, h[a]? = some c → c.vm.isStatics = false := fun c hc => by
  obtain ⟨cell, k, h1, -, -, h4, -⟩ := E
  rw [h1] at hc; cases hc; exact h4
theorem own_sta_keep {Z : State} {h h' : Heap} {C n d : String} {v : Value} {ws : List Addr} (F : Sta Z h C n d v) (K : Keep h h' ws) (q : ∀ x ∈ ws, ∀ c : Cell, h[x]? = some c → c.vm.isStatics = false) : Sta Z h' C n d v := by
  obtain ⟨cf, i, k, f, st, cell, h1, h2, h3, h4, h5, h6, h7⟩ := F
  exact ⟨cf, i, k, f, st, cell, h1, h2, h3, h4, K.2.1 st cell h5 (fun hm => by have := q st hm cell h5; rw [h6] at this; cases this), h6, h7⟩
theorem own_ins_keep {Z : State} {h h' : Heap} {a : Addr} {C : String} {b : Bool} {ws : List Addr} (F : Ins Z h a C b) (K : Keep h h' ws) : Ins Z h' a C b := by
  obtain ⟨cell, cT, h1, h2, h3⟩ := F
  obtain ⟨c', q1, q2, q3, -⟩ := K.2.2 a cell h1
  exact ⟨c', cT, q1, h2, by rw [q3, q2]; exact h3⟩
theorem own_ne {r c : Int32} (k : Int) (hc : c.toInt = k) (h : ¬ r = c) : ¬ r.toInt = k := fun e => h (Int32.toInt_inj.mp (e.trans hc.symm))
theorem own_nz {z : Int32} (h : z = 0 ∨ z = 1) : narrow .boolean (.int z) = .int z := by rcases h with rfl | rfl <;> rfl
theorem own_eqi {a : Term} {args : Array Value} {s : State} {k : Int32} (h : (Jvm.Cond.eq a (Term.int k)).value args s none s [] = some true) : a.eval args s none [] s = some (.int k) := by
  cases ha : a.eval args s none [] s with
  | none => simp [Cond.value, ha] at h
  | some x => cases x <;> simp [Cond.value, ha, Term.eval] at h ⊢; exact h
theorem own_eqr {a b : Term} {args : Array Value} {s : State} {y : Addr} (hb : b.eval args s none [] s = some (.ref y)) (h : (Jvm.Cond.eq a b).value args s none s [] = some true) : a.eval args s none [] s = some (.ref y) := by
  cases ha : a.eval args s none [] s with
  | none => simp [Cond.value, ha] at h
  | some x => cases x <;> simp [Cond.value, ha, hb] at h ⊢; exact h
theorem own_len {t : Term} {args : Array Value} {s : State} {n : Int32} {x : Addr} {c : Cell} {ty : FieldType} (h : (Term.length t).eval args s none [] s = some (.int n)) (ht : t.eval args s none [] s = some (.ref x)) (A : Arr s s.heap x c ty) : c.slots.size < 2 ^ 31 ∧ c.slots.size.toInt32 = n := by
  have ha : s.arrayAt? x = some c := Arr.fin (Vm.Alike.refl _) A
  simp only [Term.eval, ht, ha, Option.bind_eq_bind, Option.bind_some] at h
  split at h
  · rename_i hl; simp at h; exact ⟨hl, h⟩
  · cases h
theorem d2_0 : decode prog_27_method_4_code 0 = .ok (.iload_n 0, 1) := by decide +kernel
theorem d2_1 : decode prog_27_method_4_code 1 = .ok (.sipush 204, 3) := by decide +kernel
theorem d2_4 : decode prog_27_method_4_code 4 = .ok (.if_icmp .ne 7, 3) := by decide +kernel
theorem d2_7 : decode prog_27_method_4_code 7 = .ok (.getstatic 5, 3) := by decide +kernel
theorem d2_10 : decode prog_27_method_4_code 10 = .ok (.areturn, 1) := by decide +kernel
theorem d2_11 : decode prog_27_method_4_code 11 = .ok (.iload_n 0, 1) := by decide +kernel
theorem d2_12 : decode prog_27_method_4_code 12 = .ok (.sipush 200, 3) := by decide +kernel
theorem d2_15 : decode prog_27_method_4_code 15 = .ok (.if_icmp .lt 16, 3) := by decide +kernel
theorem d2_31 : decode prog_27_method_4_code 31 = .ok (.getstatic 12, 3) := by decide +kernel
theorem d2_34 : decode prog_27_method_4_code 34 = .ok (.areturn, 1) := by decide +kernel
theorem d2_18 : decode prog_27_method_4_code 18 = .ok (.iload_n 0, 1) := by decide +kernel
theorem d2_19 : decode prog_27_method_4_code 19 = .ok (.sipush 399, 3) := by decide +kernel
theorem d2_22 : decode prog_27_method_4_code 22 = .ok (.if_icmp .gt 9, 3) := by decide +kernel
theorem d2_25 : decode prog_27_method_4_code 25 = .ok (.getstatic 9, 3) := by decide +kernel
theorem d2_28 : decode prog_27_method_4_code 28 = .ok (.goto 6, 3) := by decide +kernel
theorem pn_15 : plainName "com/example/probe/probe/Connectivity$Verdict" = true := by first | (simp [plainName, overriddenIn]; done) | decide +kernel
def f2 (p0 : Int32) (s_FULL : Addr) (s_PORTAL : Addr) (s_LIMITED : Addr) : Addr := (if p0 = (204 : Int32) then s_FULL else (if p0 < (200 : Int32) then s_LIMITED else (if (399 : Int32) < p0 then s_LIMITED else s_PORTAL)))
def Q2 (Z : State) (n0 : Nat) (p0 : Int32) (s_FULL : Addr) (s_PORTAL : Addr) (s_LIMITED : Addr) (h0 : Heap) (v : Option Value) (h : Heap) (L : List Loc) : Prop := v = some (.ref (f2 p0 s_FULL s_PORTAL s_LIMITED)) ∧ Fr n0 L ∧ h = h0
theorem ef2 (m : MethodId) (p0 : Int32) : entryFrame m #[(.int p0)] 1 = mkF m 0 #[.val (.int p0)] [] := by first | (simp [entryFrame, mkF, argsToLocals, Value.category]; done) | rfl
set_option maxRecDepth 65536 in
set_option maxHeartbeats 40000000 in
theorem rm2 (l : Launch) (Z : State) (aZ : Array Value) (hw : ∀ d ∈ tables_1, d.before aZ Z = true) (ws : List Jvm.Cond) (p0 : Int32) (s_FULL : Addr) (s_PORTAL : Addr) (s_LIMITED : Addr) (h0 : Heap) (n0 : Nat) (Z0 : n0 ≤ h0.size) (S_FULL : Sta Z h0 "com/example/probe/probe/Connectivity$Verdict" "FULL" "Lcom/example/probe/probe/Connectivity$Verdict;" (.ref s_FULL)) (S_PORTAL : Sta Z h0 "com/example/probe/probe/Connectivity$Verdict" "PORTAL" "Lcom/example/probe/probe/Connectivity$Verdict;" (.ref s_PORTAL)) (S_LIMITED : Sta Z h0 "com/example/probe/probe/Connectivity$Verdict" "LIMITED" "Lcom/example/probe/probe/Connectivity$Verdict;" (.ref s_LIMITED)) :
    MetFree l (⟨"com/example/probe/probe/Connectivity$Verdict", "of", "(I)Lcom/example/probe/probe/Connectivity$Verdict;"⟩ : MethodName) (head1 (Jvm.Cond.code (⟨"com/example/probe/probe/Connectivity$Verdict", "of", "(I)Lcom/example/probe/probe/Connectivity$Verdict;"⟩ : MethodName) prog_27_method_4_code 1 (some (.object "com/example/probe/probe/Connectivity$Verdict")) :: ws) ({ frames := 0, cells := 0, slots := 0, locals := 0 } : Room)) (fun a U => a = #[(.int p0)] ∧ Z.Warmed39 U.vm ∧ U.heap = h0) (fun _ _ _ _ _ => True) (fun _ U o U' => ∃ v L, o = .returned v ∧ Q2 Z n0 p0 s_FULL s_PORTAL s_LIMITED h0 v U'.heap L ∧ FrameEnd U o U' L ({ frames := 0, cells := 0, slots := 0, locals := 0 } : Room).cells ({ frames := 0, cells := 0, slots := 0, locals := 0 } : Room).slots) := by
  refine MetFree.of_bodySF (plainFor_of_name pn_15) hisR ?_
  intro p e s m args below meth c s₁ Bd hml0 hP hK
  obtain ⟨rfl, hZ, hh⟩ := hP
  have hx := Bd.exec
  have hby := Bd.bytes
  have hml : c.maxLocals = 1 := hml0
  have hown : s.vm.findClass "com/example/probe/probe/Connectivity$Verdict" = some m.cls := findClass_of_methodNamed Bd.named
  have hnm := (name_of_methodNamed Bd.named Bd.method).1
  have X0 : Stand p l e ({ frames := 0, cells := 0, slots := 0, locals := 0 } : Room) s m #[(.int p0)] below meth c s₁ [] 0 0 := Stand.of_body Bd
  have e0 : s₁.heap = h0 := by rw [← hh, Bd.state]; rfl
  have N0 := Fr.nil n0
  have K0 : Keep h0 h0 [] := Keep.refl _ _
  have go0 : ∀ t, Steps p.tables e below (s₁.setTop (mkF m 0 #[.val (.int p0)] [])) t → Steps p.tables e below (s₁.setTop (entryFrame m #[(.int p0)] 1)) t := fun t k => castTop (ef2 m p0) k
  have go1 : ∀ t, Steps p.tables e below (s₁.setTop (mkF m 4 #[.val (.int p0)] [(.int (204 : Int32)), (.int p0)])) t → Steps p.tables e below (s₁.setTop (entryFrame m #[(.int p0)] 1)) t := by
    intro t k
    refine go0 _ ?_
    refine XS.iloadN X0.here hx rfl (hb hby d2_0) rfl ?_
    show Steps p.tables e below (s₁.setTop (mkF m 1 #[.val (.int p0)] [(.int p0)])) t
    refine XS.sipush X0.here hx rfl (hb hby d2_1) ?_
    show Steps p.tables e below (s₁.setTop (mkF m 4 #[.val (.int p0)] [(.int (204 : Int32)), (.int p0)])) t
    exact k
  by_cases hs2 : p0 = (204 : Int32)
  · have go3 : ∀ t, Steps p.tables e below (s₁.setTop (mkF m 7 #[.val (.int p0)] [])) t → Steps p.tables e below (s₁.setTop (entryFrame m #[(.int p0)] 1)) t := by
      intro t k
      refine go1 _ ?_
      refine XS.icmpNo X0.here hx rfl (hb hby d2_4) rfl (XT.ii_ne_f hs2) ?_
      show Steps p.tables e below (s₁.setTop (mkF m 7 #[.val (.int p0)] [])) t
      exact k
    obtain ⟨T4, X4, e4, st4⟩ := getS2 X0 hx hZ hown (host := "") (Or.inl (hw _ (List.mem_of_getElem? (i := 17) rfl))) Via.refl e0 S_FULL (g := (mkF m 7 #[.val (.int p0)] [])) rfl (hb hby d2_7)
    have go5 : ∀ t, Steps p.tables e below (T4.setTop (mkF m 10 #[.val (.int p0)] [(.ref s_FULL)])) t → Steps p.tables e below (s₁.setTop (entryFrame m #[(.int p0)] 1)) t := fun t k => go3 _ (st4 _ k)
    obtain ⟨fs, hr, hrun, hended, hW, hsame⟩ := X4.leave (v := some (.ref s_FULL)) (fun h => by rw [Bd.returns] at h; cases h)
    refine ⟨_, _, go5 _ (Jvm.RoadKit.retOut X4 hx Bd.returns rfl (Or.inr (Or.inr (Or.inr (Or.inr ⟨rfl, rfl, rfl⟩)))) (hb hby d2_10) hr), hrun, hended, _, _, rfl, ?_, ⟨_, rfl⟩, hW, hsame.mono (by decide) (by decide)⟩
    show Q2 _ _ p0 s_FULL s_PORTAL s_LIMITED h0 _ (T4.setFrames fs).heap _
    have hE : (T4.setFrames fs).heap = h0 := e4
    rw [hE]
    exact ⟨by rw [f2, if_pos hs2], N0, rfl⟩
  · have go6 : ∀ t, Steps p.tables e below (s₁.setTop (mkF m 15 #[.val (.int p0)] [(.int (200 : Int32)), (.int p0)])) t → Steps p.tables e below (s₁.setTop (entryFrame m #[(.int p0)] 1)) t := by
      intro t k
      refine go1 _ ?_
      refine XS.icmpYes X0.here hx rfl (pc0 := 4) (pc' := 11) rfl (hb hby d2_4) rfl (XT.ii_ne_t hs2) (by decide) (by decide) ?_
      show Steps p.tables e below (s₁.setTop (mkF m 11 #[.val (.int p0)] [])) t
      refine XS.iloadN X0.here hx rfl (hb hby d2_11) rfl ?_
      show Steps p.tables e below (s₁.setTop (mkF m 12 #[.val (.int p0)] [(.int p0)])) t
      refine XS.sipush X0.here hx rfl (hb hby d2_12) ?_
      show Steps p.tables e below (s₁.setTop (mkF m 15 #[.val (.int p0)] [(.int (200 : Int32)), (.int p0)])) t
      exact k
    by_cases hs7 : p0 < (200 : Int32)
    · have go8 : ∀ t, Steps p.tables e below (s₁.setTop (mkF m 31 #[.val (.int p0)] [])) t → Steps p.tables e below (s₁.setTop (entryFrame m #[(.int p0)] 1)) t := by
        intro t k
        refine go6 _ ?_
        refine XS.icmpYes X0.here hx rfl (pc0 := 15) (pc' := 31) rfl (hb hby d2_15) rfl (XT.ii_lt_t hs7) (by decide) (by decide) ?_
        show Steps p.tables e below (s₁.setTop (mkF m 31 #[.val (.int p0)] [])) t
        exact k
      obtain ⟨T9, X9, e9, st9⟩ := getS2 X0 hx hZ hown (host := "") (Or.inl (hw _ (List.mem_of_getElem? (i := 8) rfl))) Via.refl e0 S_LIMITED (g := (mkF m 31 #[.val (.int p0)] [])) rfl (hb hby d2_31)
      have go10 : ∀ t, Steps p.tables e below (T9.setTop (mkF m 34 #[.val (.int p0)] [(.ref s_LIMITED)])) t → Steps p.tables e below (s₁.setTop (entryFrame m #[(.int p0)] 1)) t := fun t k => go8 _ (st9 _ k)
      obtain ⟨fs, hr, hrun, hended, hW, hsame⟩ := X9.leave (v := some (.ref s_LIMITED)) (fun h => by rw [Bd.returns] at h; cases h)
      refine ⟨_, _, go10 _ (Jvm.RoadKit.retOut X9 hx Bd.returns rfl (Or.inr (Or.inr (Or.inr (Or.inr ⟨rfl, rfl, rfl⟩)))) (hb hby d2_34) hr), hrun, hended, _, _, rfl, ?_, ⟨_, rfl⟩, hW, hsame.mono (by decide) (by decide)⟩
      show Q2 _ _ p0 s_FULL s_PORTAL s_LIMITED h0 _ (T9.setFrames fs).heap _
      have hE : (T9.setFrames fs).heap = h0 := e9
      rw [hE]
      exact ⟨by rw [f2, if_neg hs2, if_pos hs7], N0, rfl⟩
    · have go11 : ∀ t, Steps p.tables e below (s₁.setTop (mkF m 22 #[.val (.int p0)] [(.int (399 : Int32)), (.int p0)])) t → Steps p.tables e below (s₁.setTop (entryFrame m #[(.int p0)] 1)) t := by
        intro t k
        refine go6 _ ?_
        refine XS.icmpNo X0.here hx rfl (hb hby d2_15) rfl (XT.ii_lt_f hs7) ?_
        show Steps p.tables e below (s₁.setTop (mkF m 18 #[.val (.int p0)] [])) t
        refine XS.iloadN X0.here hx rfl (hb hby d2_18) rfl ?_
        show Steps p.tables e below (s₁.setTop (mkF m 19 #[.val (.int p0)] [(.int p0)])) t
        refine XS.sipush X0.here hx rfl (hb hby d2_19) ?_
        show Steps p.tables e below (s₁.setTop (mkF m 22 #[.val (.int p0)] [(.int (399 : Int32)), (.int p0)])) t
        exact k
      by_cases hs12 : (399 : Int32) < p0
      · have go13 : ∀ t, Steps p.tables e below (s₁.setTop (mkF m 31 #[.val (.int p0)] [])) t → Steps p.tables e below (s₁.setTop (entryFrame m #[(.int p0)] 1)) t := by
          intro t k
          refine go11 _ ?_
          refine XS.icmpYes X0.here hx rfl (pc0 := 22) (pc' := 31) rfl (hb hby d2_22) rfl (XT.ii_gt_t hs12) (by decide) (by decide) ?_
          show Steps p.tables e below (s₁.setTop (mkF m 31 #[.val (.int p0)] [])) t
          exact k
        obtain ⟨T14, X14, e14, st14⟩ := getS2 X0 hx hZ hown (host := "") (Or.inl (hw _ (List.mem_of_getElem? (i := 8) rfl))) Via.refl e0 S_LIMITED (g := (mkF m 31 #[.val (.int p0)] [])) rfl (hb hby d2_31)
        have go15 : ∀ t, Steps p.tables e below (T14.setTop (mkF m 34 #[.val (.int p0)] [(.ref s_LIMITED)])) t → Steps p.tables e below (s₁.setTop (entryFrame m #[(.int p0)] 1)) t := fun t k => go13 _ (st14 _ k)
        obtain ⟨fs, hr, hrun, hended, hW, hsame⟩ := X14.leave (v := some (.ref s_LIMITED)) (fun h => by rw [Bd.returns] at h; cases h)
        refine ⟨_, _, go15 _ (Jvm.RoadKit.retOut X14 hx Bd.returns rfl (Or.inr (Or.inr (Or.inr (Or.inr ⟨rfl, rfl, rfl⟩)))) (hb hby d2_34) hr), hrun, hended, _, _, rfl, ?_, ⟨_, rfl⟩, hW, hsame.mono (by decide) (by decide)⟩
        show Q2 _ _ p0 s_FULL s_PORTAL s_LIMITED h0 _ (T14.setFrames fs).heap _
        have hE : (T14.setFrames fs).heap = h0 := e14
        rw [hE]
        exact ⟨by rw [f2, if_neg hs2, if_neg hs7, if_pos hs12], N0, rfl⟩
      · have go16 : ∀ t, Steps p.tables e below (s₁.setTop (mkF m 25 #[.val (.int p0)] [])) t → Steps p.tables e below (s₁.setTop (entryFrame m #[(.int p0)] 1)) t := by
          intro t k
          refine go11 _ ?_
          refine XS.icmpNo X0.here hx rfl (hb hby d2_22) rfl (XT.ii_gt_f hs12) ?_
          show Steps p.tables e below (s₁.setTop (mkF m 25 #[.val (.int p0)] [])) t
          exact k
        obtain ⟨T17, X17, e17, st17⟩ := getS2 X0 hx hZ hown (host := "") (Or.inl (hw _ (List.mem_of_getElem? (i := 14) rfl))) Via.refl e0 S_PORTAL (g := (mkF m 25 #[.val (.int p0)] [])) rfl (hb hby d2_25)
        have go18 : ∀ t, Steps p.tables e below (T17.setTop (mkF m 28 #[.val (.int p0)] [(.ref s_PORTAL)])) t → Steps p.tables e below (s₁.setTop (entryFrame m #[(.int p0)] 1)) t := fun t k => go16 _ (st17 _ k)
        have go19 : ∀ t, Steps p.tables e below (T17.setTop (mkF m 34 #[.val (.int p0)] [(.ref s_PORTAL)])) t → Steps p.tables e below (s₁.setTop (entryFrame m #[(.int p0)] 1)) t := by
          intro t k
          refine go18 _ ?_
          refine XS.goto X17.here hx rfl (pc0 := 28) (pc' := 34) rfl (hb hby d2_28) (by decide) (by decide) ?_
          show Steps p.tables e below (T17.setTop (mkF m 34 #[.val (.int p0)] [(.ref s_PORTAL)])) t
          exact k
        obtain ⟨fs, hr, hrun, hended, hW, hsame⟩ := X17.leave (v := some (.ref s_PORTAL)) (fun h => by rw [Bd.returns] at h; cases h)
        refine ⟨_, _, go19 _ (Jvm.RoadKit.retOut X17 hx Bd.returns rfl (Or.inr (Or.inr (Or.inr (Or.inr ⟨rfl, rfl, rfl⟩)))) (hb hby d2_34) hr), hrun, hended, _, _, rfl, ?_, ⟨_, rfl⟩, hW, hsame.mono (by decide) (by decide)⟩
        show Q2 _ _ p0 s_FULL s_PORTAL s_LIMITED h0 _ (T17.setFrames fs).heap _
        have hE : (T17.setFrames fs).heap = h0 := e17
        rw [hE]
        exact ⟨by rw [f2, if_neg hs2, if_neg hs7, if_neg hs12], N0, rfl⟩
theorem d3_0 : decode method_4_code 0 = .ok (.iload_n 0, 1) := by decide +kernel
theorem d3_1 : decode method_4_code 1 = .ok (.sipush 204, 3) := by decide +kernel
theorem d3_4 : decode method_4_code 4 = .ok (.if_icmp .ne 7, 3) := by decide +kernel
theorem d3_7 : decode method_4_code 7 = .ok (.getstatic 22, 3) := by decide +kernel
theorem d3_10 : decode method_4_code 10 = .ok (.areturn, 1) := by decide +kernel
theorem d3_11 : decode method_4_code 11 = .ok (.iload_n 0, 1) := by decide +kernel
theorem d3_12 : decode method_4_code 12 = .ok (.bipush 100, 2) := by decide +kernel
theorem d3_14 : decode method_4_code 14 = .ok (.idiv, 1) := by decide +kernel
theorem d3_15 : decode method_4_code 15 = .ok (.istore_n 1, 1) := by decide +kernel
theorem d3_16 : decode method_4_code 16 = .ok (.iload_n 1, 1) := by decide +kernel
theorem d3_17 : decode method_4_code 17 = .ok (.iconst 2, 1) := by decide +kernel
theorem d3_18 : decode method_4_code 18 = .ok (.if_icmp .eq 8, 3) := by decide +kernel
theorem d3_26 : decode method_4_code 26 = .ok (.getstatic 26, 3) := by decide +kernel
theorem d3_29 : decode method_4_code 29 = .ok (.areturn, 1) := by decide +kernel
theorem d3_21 : decode method_4_code 21 = .ok (.iload_n 1, 1) := by decide +kernel
theorem d3_22 : decode method_4_code 22 = .ok (.iconst 3, 1) := by decide +kernel
theorem d3_23 : decode method_4_code 23 = .ok (.if_icmp .ne 7, 3) := by decide +kernel
theorem d3_30 : decode method_4_code 30 = .ok (.getstatic 29, 3) := by decide +kernel
theorem d3_33 : decode method_4_code 33 = .ok (.areturn, 1) := by decide +kernel
theorem pn_35 : plainName "com/example/probe/probe/VerdictOfPinLaw" = true := by first | (simp [plainName, overriddenIn]; done) | decide +kernel
def f3 (p0 : Int32) (s_FULL : Addr) (s_PORTAL : Addr) (s_LIMITED : Addr) : Addr := (if p0 = (204 : Int32) then s_FULL else (if (p0 / (100 : Int32)) = (2 : Int32) then s_PORTAL else (if (p0 / (100 : Int32)) = (3 : Int32) then s_PORTAL else s_LIMITED)))
def Q3 (Z : State) (n0 : Nat) (p0 : Int32) (s_FULL : Addr) (s_PORTAL : Addr) (s_LIMITED : Addr) (h0 : Heap) (v : Option Value) (h : Heap) (L : List Loc) : Prop := v = some (.ref (f3 p0 s_FULL s_PORTAL s_LIMITED)) ∧ Fr n0 L ∧ h = h0
theorem ef3 (m : MethodId) (p0 : Int32) : entryFrame m #[(.int p0)] 2 = mkF m 0 #[.val (.int p0), .unset] [] := by first | (simp [entryFrame, mkF, argsToLocals, Value.category]; done) | rfl
set_option maxRecDepth 65536 in
set_option maxHeartbeats 40000000 in
theorem rm3 (l : Launch) (Z : State) (aZ : Array Value) (hw : ∀ d ∈ tables_1, d.before aZ Z = true) (ws : List Jvm.Cond) (p0 : Int32) (s_FULL : Addr) (s_PORTAL : Addr) (s_LIMITED : Addr) (h0 : Heap) (n0 : Nat) (Z0 : n0 ≤ h0.size) (S_FULL : Sta Z h0 "com/example/probe/probe/Connectivity$Verdict" "FULL" "Lcom/example/probe/probe/Connectivity$Verdict;" (.ref s_FULL)) (S_PORTAL : Sta Z h0 "com/example/probe/probe/Connectivity$Verdict" "PORTAL" "Lcom/example/probe/probe/Connectivity$Verdict;" (.ref s_PORTAL)) (S_LIMITED : Sta Z h0 "com/example/probe/probe/Connectivity$Verdict" "LIMITED" "Lcom/example/probe/probe/Connectivity$Verdict;" (.ref s_LIMITED)) :
    MetFree l (⟨"com/example/probe/probe/VerdictOfPinLaw", "expected", "(I)Lcom/example/probe/probe/Connectivity$Verdict;"⟩ : MethodName) (head1 (Jvm.Cond.code (⟨"com/example/probe/probe/VerdictOfPinLaw", "expected", "(I)Lcom/example/probe/probe/Connectivity$Verdict;"⟩ : MethodName) method_4_code 2 (some (.object "com/example/probe/probe/Connectivity$Verdict")) :: ws) ({ frames := 0, cells := 0, slots := 0, locals := 0 } : Room)) (fun a U => a = #[(.int p0)] ∧ Z.Warmed39 U.vm ∧ U.heap = h0) (fun _ _ _ _ _ => True) (fun _ U o U' => ∃ v L, o = .returned v ∧ Q3 Z n0 p0 s_FULL s_PORTAL s_LIMITED h0 v U'.heap L ∧ FrameEnd U o U' L ({ frames := 0, cells := 0, slots := 0, locals := 0 } : Room).cells ({ frames := 0, cells := 0, slots := 0, locals := 0 } : Room).slots) := by
  refine MetFree.of_bodySF (plainFor_of_name pn_35) hisR ?_
  intro p e s m args below meth c s₁ Bd hml0 hP hK
  obtain ⟨rfl, hZ, hh⟩ := hP
  have hx := Bd.exec
  have hby := Bd.bytes
  have hml : c.maxLocals = 2 := hml0
  have hown : s.vm.findClass "com/example/probe/probe/VerdictOfPinLaw" = some m.cls := findClass_of_methodNamed Bd.named
  have hnm := (name_of_methodNamed Bd.named Bd.method).1
  have X0 : Stand p l e ({ frames := 0, cells := 0, slots := 0, locals := 0 } : Room) s m #[(.int p0)] below meth c s₁ [] 0 0 := Stand.of_body Bd
  have e0 : s₁.heap = h0 := by rw [← hh, Bd.state]; rfl
  have N0 := Fr.nil n0
  have K0 : Keep h0 h0 [] := Keep.refl _ _
  have go0 : ∀ t, Steps p.tables e below (s₁.setTop (mkF m 0 #[.val (.int p0), .unset] [])) t → Steps p.tables e below (s₁.setTop (entryFrame m #[(.int p0)] 2)) t := fun t k => castTop (ef3 m p0) k
  have go1 : ∀ t, Steps p.tables e below (s₁.setTop (mkF m 4 #[.val (.int p0), .unset] [(.int (204 : Int32)), (.int p0)])) t → Steps p.tables e below (s₁.setTop (entryFrame m #[(.int p0)] 2)) t := by
    intro t k
    refine go0 _ ?_
    refine XS.iloadN X0.here hx rfl (hb hby d3_0) rfl ?_
    show Steps p.tables e below (s₁.setTop (mkF m 1 #[.val (.int p0), .unset] [(.int p0)])) t
    refine XS.sipush X0.here hx rfl (hb hby d3_1) ?_
    show Steps p.tables e below (s₁.setTop (mkF m 4 #[.val (.int p0), .unset] [(.int (204 : Int32)), (.int p0)])) t
    exact k
  by_cases hs2 : p0 = (204 : Int32)
  · have go3 : ∀ t, Steps p.tables e below (s₁.setTop (mkF m 7 #[.val (.int p0), .unset] [])) t → Steps p.tables e below (s₁.setTop (entryFrame m #[(.int p0)] 2)) t := by
      intro t k
      refine go1 _ ?_
      refine XS.icmpNo X0.here hx rfl (hb hby d3_4) rfl (XT.ii_ne_f hs2) ?_
      show Steps p.tables e below (s₁.setTop (mkF m 7 #[.val (.int p0), .unset] [])) t
      exact k
    obtain ⟨T4, X4, e4, st4⟩ := getS2 X0 hx hZ hown (host := "") (Or.inl (hw _ (List.mem_of_getElem? (i := 19) rfl))) Via.refl e0 S_FULL (g := (mkF m 7 #[.val (.int p0), .unset] [])) rfl (hb hby d3_7)
    have go5 : ∀ t, Steps p.tables e below (T4.setTop (mkF m 10 #[.val (.int p0), .unset] [(.ref s_FULL)])) t → Steps p.tables e below (s₁.setTop (entryFrame m #[(.int p0)] 2)) t := fun t k => go3 _ (st4 _ k)
    obtain ⟨fs, hr, hrun, hended, hW, hsame⟩ := X4.leave (v := some (.ref s_FULL)) (fun h => by rw [Bd.returns] at h; cases h)
    refine ⟨_, _, go5 _ (Jvm.RoadKit.retOut X4 hx Bd.returns rfl (Or.inr (Or.inr (Or.inr (Or.inr ⟨rfl, rfl, rfl⟩)))) (hb hby d3_10) hr), hrun, hended, _, _, rfl, ?_, ⟨_, rfl⟩, hW, hsame.mono (by decide) (by decide)⟩
    show Q3 _ _ p0 s_FULL s_PORTAL s_LIMITED h0 _ (T4.setFrames fs).heap _
    have hE : (T4.setFrames fs).heap = h0 := e4
    rw [hE]
    exact ⟨by rw [f3, if_pos hs2], N0, rfl⟩
  · have go6 : ∀ t, Steps p.tables e below (s₁.setTop (mkF m 18 #[.val (.int p0), .val (.int (p0 / (100 : Int32)))] [(.int (2 : Int32)), (.int (p0 / (100 : Int32)))])) t → Steps p.tables e below (s₁.setTop (entryFrame m #[(.int p0)] 2)) t := by
      intro t k
      refine go1 _ ?_
      refine XS.icmpYes X0.here hx rfl (pc0 := 4) (pc' := 11) rfl (hb hby d3_4) rfl (XT.ii_ne_t hs2) (by decide) (by decide) ?_
      show Steps p.tables e below (s₁.setTop (mkF m 11 #[.val (.int p0), .unset] [])) t
      refine XS.iloadN X0.here hx rfl (hb hby d3_11) rfl ?_
      show Steps p.tables e below (s₁.setTop (mkF m 12 #[.val (.int p0), .unset] [(.int p0)])) t
      refine XS.bipush X0.here hx rfl (hb hby d3_12) ?_
      show Steps p.tables e below (s₁.setTop (mkF m 14 #[.val (.int p0), .unset] [(.int (100 : Int32)), (.int p0)])) t
      refine XS.idiv X0.here hx rfl (hb hby d3_14) rfl (by decide) ?_
      show Steps p.tables e below (s₁.setTop (mkF m 15 #[.val (.int p0), .unset] [(.int (p0 / (100 : Int32)))])) t
      refine XS.istoreN X0.here hx rfl (hb hby d3_15) rfl (l' := #[.val (.int p0), .val (.int (p0 / (100 : Int32)))]) rfl ?_
      show Steps p.tables e below (s₁.setTop (mkF m 16 #[.val (.int p0), .val (.int (p0 / (100 : Int32)))] [])) t
      refine XS.iloadN X0.here hx rfl (hb hby d3_16) rfl ?_
      show Steps p.tables e below (s₁.setTop (mkF m 17 #[.val (.int p0), .val (.int (p0 / (100 : Int32)))] [(.int (p0 / (100 : Int32)))])) t
      refine XS.iconst X0.here hx rfl (hb hby d3_17) ?_
      show Steps p.tables e below (s₁.setTop (mkF m 18 #[.val (.int p0), .val (.int (p0 / (100 : Int32)))] [(.int (2 : Int32)), (.int (p0 / (100 : Int32)))])) t
      exact k
    by_cases hs7 : (p0 / (100 : Int32)) = (2 : Int32)
    · have go8 : ∀ t, Steps p.tables e below (s₁.setTop (mkF m 26 #[.val (.int p0), .val (.int (p0 / (100 : Int32)))] [])) t → Steps p.tables e below (s₁.setTop (entryFrame m #[(.int p0)] 2)) t := by
        intro t k
        refine go6 _ ?_
        refine XS.icmpYes X0.here hx rfl (pc0 := 18) (pc' := 26) rfl (hb hby d3_18) rfl (XT.ii_eq_t hs7) (by decide) (by decide) ?_
        show Steps p.tables e below (s₁.setTop (mkF m 26 #[.val (.int p0), .val (.int (p0 / (100 : Int32)))] [])) t
        exact k
      obtain ⟨T9, X9, e9, st9⟩ := getS2 X0 hx hZ hown (host := "") (Or.inl (hw _ (List.mem_of_getElem? (i := 16) rfl))) Via.refl e0 S_PORTAL (g := (mkF m 26 #[.val (.int p0), .val (.int (p0 / (100 : Int32)))] [])) rfl (hb hby d3_26)
      have go10 : ∀ t, Steps p.tables e below (T9.setTop (mkF m 29 #[.val (.int p0), .val (.int (p0 / (100 : Int32)))] [(.ref s_PORTAL)])) t → Steps p.tables e below (s₁.setTop (entryFrame m #[(.int p0)] 2)) t := fun t k => go8 _ (st9 _ k)
      obtain ⟨fs, hr, hrun, hended, hW, hsame⟩ := X9.leave (v := some (.ref s_PORTAL)) (fun h => by rw [Bd.returns] at h; cases h)
      refine ⟨_, _, go10 _ (Jvm.RoadKit.retOut X9 hx Bd.returns rfl (Or.inr (Or.inr (Or.inr (Or.inr ⟨rfl, rfl, rfl⟩)))) (hb hby d3_29) hr), hrun, hended, _, _, rfl, ?_, ⟨_, rfl⟩, hW, hsame.mono (by decide) (by decide)⟩
      show Q3 _ _ p0 s_FULL s_PORTAL s_LIMITED h0 _ (T9.setFrames fs).heap _
      have hE : (T9.setFrames fs).heap = h0 := e9
      rw [hE]
      exact ⟨by rw [f3, if_neg hs2, if_pos hs7], N0, rfl⟩
    · have go11 : ∀ t, Steps p.tables e below (s₁.setTop (mkF m 23 #[.val (.int p0), .val (.int (p0 / (100 : Int32)))] [(.int (3 : Int32)), (.int (p0 / (100 : Int32)))])) t → Steps p.tables e below (s₁.setTop (entryFrame m #[(.int p0)] 2)) t := by
        intro t k
        refine go6 _ ?_
        refine XS.icmpNo X0.here hx rfl (hb hby d3_18) rfl (XT.ii_eq_f hs7) ?_
        show Steps p.tables e below (s₁.setTop (mkF m 21 #[.val (.int p0), .val (.int (p0 / (100 : Int32)))] [])) t
        refine XS.iloadN X0.here hx rfl (hb hby d3_21) rfl ?_
        show Steps p.tables e below (s₁.setTop (mkF m 22 #[.val (.int p0), .val (.int (p0 / (100 : Int32)))] [(.int (p0 / (100 : Int32)))])) t
        refine XS.iconst X0.here hx rfl (hb hby d3_22) ?_
        show Steps p.tables e below (s₁.setTop (mkF m 23 #[.val (.int p0), .val (.int (p0 / (100 : Int32)))] [(.int (3 : Int32)), (.int (p0 / (100 : Int32)))])) t
        exact k
      by_cases hs12 : (p0 / (100 : Int32)) = (3 : Int32)
      · have go13 : ∀ t, Steps p.tables e below (s₁.setTop (mkF m 26 #[.val (.int p0), .val (.int (p0 / (100 : Int32)))] [])) t → Steps p.tables e below (s₁.setTop (entryFrame m #[(.int p0)] 2)) t := by
          intro t k
          refine go11 _ ?_
          refine XS.icmpNo X0.here hx rfl (hb hby d3_23) rfl (XT.ii_ne_f hs12) ?_
          show Steps p.tables e below (s₁.setTop (mkF m 26 #[.val (.int p0), .val (.int (p0 / (100 : Int32)))] [])) t
          exact k
        obtain ⟨T14, X14, e14, st14⟩ := getS2 X0 hx hZ hown (host := "") (Or.inl (hw _ (List.mem_of_getElem? (i := 16) rfl))) Via.refl e0 S_PORTAL (g := (mkF m 26 #[.val (.int p0), .val (.int (p0 / (100 : Int32)))] [])) rfl (hb hby d3_26)
        have go15 : ∀ t, Steps p.tables e below (T14.setTop (mkF m 29 #[.val (.int p0), .val (.int (p0 / (100 : Int32)))] [(.ref s_PORTAL)])) t → Steps p.tables e below (s₁.setTop (entryFrame m #[(.int p0)] 2)) t := fun t k => go13 _ (st14 _ k)
        obtain ⟨fs, hr, hrun, hended, hW, hsame⟩ := X14.leave (v := some (.ref s_PORTAL)) (fun h => by rw [Bd.returns] at h; cases h)
        refine ⟨_, _, go15 _ (Jvm.RoadKit.retOut X14 hx Bd.returns rfl (Or.inr (Or.inr (Or.inr (Or.inr ⟨rfl, rfl, rfl⟩)))) (hb hby d3_29) hr), hrun, hended, _, _, rfl, ?_, ⟨_, rfl⟩, hW, hsame.mono (by decide) (by decide)⟩
        show Q3 _ _ p0 s_FULL s_PORTAL s_LIMITED h0 _ (T14.setFrames fs).heap _
        have hE : (T14.setFrames fs).heap = h0 := e14
        rw [hE]
        exact ⟨by rw [f3, if_neg hs2, if_neg hs7, if_pos hs12], N0, rfl⟩
      · have go16 : ∀ t, Steps p.tables e below (s₁.setTop (mkF m 30 #[.val (.int p0), .val (.int (p0 / (100 : Int32)))] [])) t → Steps p.tables e below (s₁.setTop (entryFrame m #[(.int p0)] 2)) t := by
          intro t k
          refine go11 _ ?_
          refine XS.icmpYes X0.here hx rfl (pc0 := 23) (pc' := 30) rfl (hb hby d3_23) rfl (XT.ii_ne_t hs12) (by decide) (by decide) ?_
          show Steps p.tables e below (s₁.setTop (mkF m 30 #[.val (.int p0), .val (.int (p0 / (100 : Int32)))] [])) t
          exact k
        obtain ⟨T17, X17, e17, st17⟩ := getS2 X0 hx hZ hown (host := "") (Or.inl (hw _ (List.mem_of_getElem? (i := 13) rfl))) Via.refl e0 S_LIMITED (g := (mkF m 30 #[.val (.int p0), .val (.int (p0 / (100 : Int32)))] [])) rfl (hb hby d3_30)
        have go18 : ∀ t, Steps p.tables e below (T17.setTop (mkF m 33 #[.val (.int p0), .val (.int (p0 / (100 : Int32)))] [(.ref s_LIMITED)])) t → Steps p.tables e below (s₁.setTop (entryFrame m #[(.int p0)] 2)) t := fun t k => go16 _ (st17 _ k)
        obtain ⟨fs, hr, hrun, hended, hW, hsame⟩ := X17.leave (v := some (.ref s_LIMITED)) (fun h => by rw [Bd.returns] at h; cases h)
        refine ⟨_, _, go18 _ (Jvm.RoadKit.retOut X17 hx Bd.returns rfl (Or.inr (Or.inr (Or.inr (Or.inr ⟨rfl, rfl, rfl⟩)))) (hb hby d3_33) hr), hrun, hended, _, _, rfl, ?_, ⟨_, rfl⟩, hW, hsame.mono (by decide) (by decide)⟩
        show Q3 _ _ p0 s_FULL s_PORTAL s_LIMITED h0 _ (T17.setFrames fs).heap _
        have hE : (T17.setFrames fs).heap = h0 := e17
        rw [hE]
        exact ⟨by rw [f3, if_neg hs2, if_neg hs7, if_neg hs12], N0, rfl⟩
theorem d1_0 : decode method_3_code 0 = .ok (.iload_n 0, 1) := by decide +kernel
theorem d1_1 : decode method_3_code 1 = .ok (.invokestatic 13, 3) := by decide +kernel
theorem pd_38 : parseMethodDescriptor "(I)Lcom/example/probe/probe/Connectivity$Verdict;" = some ⟨[.int], some (.object "com/example/probe/probe/Connectivity$Verdict")⟩ := by decide +kernel
theorem d1_4 : decode method_3_code 4 = .ok (.astore_n 1, 1) := by decide +kernel
theorem d1_5 : decode method_3_code 5 = .ok (.aload_n 1, 1) := by decide +kernel
theorem d1_6 : decode method_3_code 6 = .ok (.iload_n 0, 1) := by decide +kernel
theorem d1_7 : decode method_3_code 7 = .ok (.invokestatic 19, 3) := by decide +kernel
theorem d1_10 : decode method_3_code 10 = .ok (.if_acmp .ne 7, 3) := by decide +kernel
theorem d1_13 : decode method_3_code 13 = .ok (.iconst 1, 1) := by decide +kernel
theorem d1_14 : decode method_3_code 14 = .ok (.goto 4, 3) := by decide +kernel
theorem d1_17 : decode method_3_code 17 = .ok (.iconst 0, 1) := by decide +kernel
theorem d1_18 : decode method_3_code 18 = .ok (.ireturn, 1) := by decide +kernel
def b1_9 (p0 : Int32) (s_FULL : Addr) (s_PORTAL : Addr) (s_LIMITED : Addr) : Int32 := (if (f2 p0 s_FULL s_PORTAL s_LIMITED) = (f3 p0 s_FULL s_PORTAL s_LIMITED) then (1 : Int32) else (0 : Int32))
def f1 (p0 : Int32) (s_FULL : Addr) (s_PORTAL : Addr) (s_LIMITED : Addr) : Int32 := (b1_9 p0 s_FULL s_PORTAL s_LIMITED)
def Q1 (Z : State) (n0 : Nat) (p0 : Int32) (s_FULL : Addr) (s_PORTAL : Addr) (s_LIMITED : Addr) (h0 : Heap) (v : Option Value) (h : Heap) (L : List Loc) : Prop := v = some (.int (f1 p0 s_FULL s_PORTAL s_LIMITED)) ∧ Fr n0 L ∧ h = h0
theorem ef1 (m : MethodId) (p0 : Int32) : entryFrame m #[(.int p0)] 2 = mkF m 0 #[.val (.int p0), .unset] [] := by first | (simp [entryFrame, mkF, argsToLocals, Value.category]; done) | rfl
set_option maxRecDepth 65536 in
set_option maxHeartbeats 40000000 in
theorem rm1 (l : Launch) (Z : State) (aZ : Array Value) (hw : ∀ d ∈ tables_1, d.before aZ Z = true) (ws : List Jvm.Cond) (p0 : Int32) (s_FULL : Addr) (s_PORTAL : Addr) (s_LIMITED : Addr) (h0 : Heap) (n0 : Nat) (Z0 : n0 ≤ h0.size) (S_FULL : Sta Z h0 "com/example/probe/probe/Connectivity$Verdict" "FULL" "Lcom/example/probe/probe/Connectivity$Verdict;" (.ref s_FULL)) (S_PORTAL : Sta Z h0 "com/example/probe/probe/Connectivity$Verdict" "PORTAL" "Lcom/example/probe/probe/Connectivity$Verdict;" (.ref s_PORTAL)) (S_LIMITED : Sta Z h0 "com/example/probe/probe/Connectivity$Verdict" "LIMITED" "Lcom/example/probe/probe/Connectivity$Verdict;" (.ref s_LIMITED)) :
    MetFree l (⟨"com/example/probe/probe/VerdictOfPinLaw", "agrees", "(I)Z"⟩ : MethodName) (head1 (Jvm.Cond.code (⟨"com/example/probe/probe/VerdictOfPinLaw", "agrees", "(I)Z"⟩ : MethodName) method_3_code 2 (some .boolean) :: ws) ({ frames := 1, cells := 0, slots := 0, locals := 14 } : Room)) (fun a U => a = #[(.int p0)] ∧ Z.Warmed39 U.vm ∧ U.heap = h0) (fun _ _ _ _ _ => True) (fun _ U o U' => ∃ v L, o = .returned v ∧ Q1 Z n0 p0 s_FULL s_PORTAL s_LIMITED h0 v U'.heap L ∧ FrameEnd U o U' L ({ frames := 1, cells := 0, slots := 0, locals := 14 } : Room).cells ({ frames := 1, cells := 0, slots := 0, locals := 14 } : Room).slots) := by
  refine MetFree.of_bodySF (plainFor_of_name pn_35) hisR ?_
  intro p e s m args below meth c s₁ Bd hml0 hP hK
  obtain ⟨rfl, hZ, hh⟩ := hP
  have hx := Bd.exec
  have hby := Bd.bytes
  have hml : c.maxLocals = 2 := hml0
  have hown : s.vm.findClass "com/example/probe/probe/VerdictOfPinLaw" = some m.cls := findClass_of_methodNamed Bd.named
  have hnm := (name_of_methodNamed Bd.named Bd.method).1
  have X0 : Stand p l e ({ frames := 1, cells := 0, slots := 0, locals := 14 } : Room) s m #[(.int p0)] below meth c s₁ [] 0 0 := Stand.of_body Bd
  have e0 : s₁.heap = h0 := by rw [← hh, Bd.state]; rfl
  have N0 := Fr.nil n0
  have K0 : Keep h0 h0 [] := Keep.refl _ _
  have go0 : ∀ t, Steps p.tables e below (s₁.setTop (mkF m 0 #[.val (.int p0), .unset] [])) t → Steps p.tables e below (s₁.setTop (entryFrame m #[(.int p0)] 2)) t := fun t k => castTop (ef1 m p0) k
  have go1 : ∀ t, Steps p.tables e below (s₁.setTop (mkF m 1 #[.val (.int p0), .unset] [(.int p0)])) t → Steps p.tables e below (s₁.setTop (entryFrame m #[(.int p0)] 2)) t := by
    intro t k
    refine go0 _ ?_
    refine XS.iloadN X0.here hx rfl (hb hby d1_0) rfl ?_
    show Steps p.tables e below (s₁.setTop (mkF m 1 #[.val (.int p0), .unset] [(.int p0)])) t
    exact k
  obtain ⟨_, _, ⟨T2, L2, k2, n2⟩, -, X2, ⟨Lc2, hQ2, l2, y2, z2⟩, st2⟩ := Jvm.LawKit.callS X0 hx (y := (⟨"com/example/probe/probe/Connectivity$Verdict", "of", "(I)Lcom/example/probe/probe/Connectivity$Verdict;"⟩ : MethodName)) hown (mvT hZ (hw _ (List.mem_of_getElem? (i := 4) rfl))) (mvT hZ (hw _ (List.mem_of_getElem? (i := 5) rfl))) (mvT hZ (hw _ (List.mem_of_getElem? (i := 6) rfl))) (mvT hZ (hw _ (List.mem_of_getElem? (i := 7) rfl))) (by decide) (backOf (W := 0) (rm2 l Z aZ hw [] p0 s_FULL s_PORTAL s_LIMITED h0 n0 Z0 S_FULL S_PORTAL S_LIMITED) hZ (hw _ (List.mem_of_getElem? (i := 7) rfl)) (hw _ (List.mem_of_getElem? (i := 6) rfl)) (by decide) (by decide)) (g := (mkF m 1 #[.val (.int p0), .unset] [(.int p0)])) rfl (by rw [hml]; rfl) (argsL := [(.int p0)]) (rest := []) (lenOf pd_38 rfl) rfl (by show 2 * 0 + _ ≤ _; exact Nat.le_of_eq rfl) (hb hby d1_1) (fun _ _ => ⟨rfl, e0, (by decide : 0 + 0 ≤ _), (by decide : 0 + 0 ≤ _)⟩)
  dsimp only [Pt.U, Pt.locs, Pt.cells, Pt.slots] at X2 l2 y2 z2 st2 hQ2
  subst l2 y2 z2
  obtain ⟨rfl, N2q, e2⟩ := hQ2
  have N2 := Fr.app N0 N2q
  have go3 : ∀ t, Steps p.tables e below (T2.setTop (mkF m 4 #[.val (.int p0), .unset] [(.ref (f2 p0 s_FULL s_PORTAL s_LIMITED))])) t → Steps p.tables e below (s₁.setTop (entryFrame m #[(.int p0)] 2)) t := fun t k => go1 _ (st2 _ k)
  have go4 : ∀ t, Steps p.tables e below (T2.setTop (mkF m 7 #[.val (.int p0), .val (.ref (f2 p0 s_FULL s_PORTAL s_LIMITED))] [(.int p0), (.ref (f2 p0 s_FULL s_PORTAL s_LIMITED))])) t → Steps p.tables e below (s₁.setTop (entryFrame m #[(.int p0)] 2)) t := by
    intro t k
    refine go3 _ ?_
    refine XS.astoreN X2.here hx rfl (hb hby d1_4) rfl rfl (l' := #[.val (.int p0), .val (.ref (f2 p0 s_FULL s_PORTAL s_LIMITED))]) rfl ?_
    show Steps p.tables e below (T2.setTop (mkF m 5 #[.val (.int p0), .val (.ref (f2 p0 s_FULL s_PORTAL s_LIMITED))] [])) t
    refine XS.aloadN X2.here hx rfl (hb hby d1_5) rfl rfl ?_
    show Steps p.tables e below (T2.setTop (mkF m 6 #[.val (.int p0), .val (.ref (f2 p0 s_FULL s_PORTAL s_LIMITED))] [(.ref (f2 p0 s_FULL s_PORTAL s_LIMITED))])) t
    refine XS.iloadN X2.here hx rfl (hb hby d1_6) rfl ?_
    show Steps p.tables e below (T2.setTop (mkF m 7 #[.val (.int p0), .val (.ref (f2 p0 s_FULL s_PORTAL s_LIMITED))] [(.int p0), (.ref (f2 p0 s_FULL s_PORTAL s_LIMITED))])) t
    exact k
  obtain ⟨_, _, ⟨T5, L5, k5, n5⟩, -, X5, ⟨Lc5, hQ5, l5, y5, z5⟩, st5⟩ := Jvm.LawKit.callS X2 hx (y := (⟨"com/example/probe/probe/VerdictOfPinLaw", "expected", "(I)Lcom/example/probe/probe/Connectivity$Verdict;"⟩ : MethodName)) hown (mvT hZ (hw _ (List.mem_of_getElem? (i := 10) rfl))) (mvT hZ (hw _ (List.mem_of_getElem? (i := 11) rfl))) (mvT hZ (hw _ (List.mem_of_getElem? (i := 2) rfl))) (mvT hZ (hw _ (List.mem_of_getElem? (i := 12) rfl))) (by decide) (backOf (W := 1) (rm3 l Z aZ hw [] p0 s_FULL s_PORTAL s_LIMITED h0 n0 Z0 S_FULL S_PORTAL S_LIMITED) hZ (hw _ (List.mem_of_getElem? (i := 12) rfl)) (hw _ (List.mem_of_getElem? (i := 2) rfl)) (by decide) (by decide)) (g := (mkF m 7 #[.val (.int p0), .val (.ref (f2 p0 s_FULL s_PORTAL s_LIMITED))] [(.int p0), (.ref (f2 p0 s_FULL s_PORTAL s_LIMITED))])) rfl (by rw [hml]; rfl) (argsL := [(.int p0)]) (rest := [(.ref (f2 p0 s_FULL s_PORTAL s_LIMITED))]) (lenOf pd_38 rfl) rfl (by show 2 * 0 + _ ≤ _; exact Nat.le_of_eq rfl) (hb hby d1_7) (fun _ _ => ⟨rfl, e2, (by decide : 0 + 0 ≤ _), (by decide : 0 + 0 ≤ _)⟩)
  dsimp only [Pt.U, Pt.locs, Pt.cells, Pt.slots] at X5 l5 y5 z5 st5 hQ5
  subst l5 y5 z5
  obtain ⟨rfl, N5q, e5⟩ := hQ5
  have N5 := Fr.app N2 N5q
  have go6 : ∀ t, Steps p.tables e below (T5.setTop (mkF m 10 #[.val (.int p0), .val (.ref (f2 p0 s_FULL s_PORTAL s_LIMITED))] [(.ref (f3 p0 s_FULL s_PORTAL s_LIMITED)), (.ref (f2 p0 s_FULL s_PORTAL s_LIMITED))])) t → Steps p.tables e below (s₁.setTop (entryFrame m #[(.int p0)] 2)) t := fun t k => go4 _ (st5 _ k)
  have go8 : ∀ t, Steps p.tables e below (T5.setTop (mkF m 18 #[.val (.int p0), .val (.ref (f2 p0 s_FULL s_PORTAL s_LIMITED))] [(.int (b1_9 p0 s_FULL s_PORTAL s_LIMITED))])) t → Steps p.tables e below (s₁.setTop (entryFrame m #[(.int p0)] 2)) t := by
    intro t k
    refine go6 _ ?_
    by_cases hc7 : (f2 p0 s_FULL s_PORTAL s_LIMITED) = (f3 p0 s_FULL s_PORTAL s_LIMITED)
    · refine Jvm.RoadKit.acmp (g := (mkF m 10 #[.val (.int p0), .val (.ref (f2 p0 s_FULL s_PORTAL s_LIMITED))] [(.ref (f3 p0 s_FULL s_PORTAL s_LIMITED)), (.ref (f2 p0 s_FULL s_PORTAL s_LIMITED))])) X5 hx rfl rfl rfl (pc0 := 10) (pc' := 13) (same := true) rfl (hb hby d1_10) rfl (decide_eq_true (congrArg Value.ref hc7)) (by decide) (by decide) ?_
      show Steps p.tables e below (T5.setTop (mkF m 13 #[.val (.int p0), .val (.ref (f2 p0 s_FULL s_PORTAL s_LIMITED))] [])) t
      refine XS.iconst X5.here hx rfl (hb hby d1_13) ?_
      show Steps p.tables e below (T5.setTop (mkF m 14 #[.val (.int p0), .val (.ref (f2 p0 s_FULL s_PORTAL s_LIMITED))] [(.int (1 : Int32))])) t
      refine XS.goto X5.here hx rfl (pc0 := 14) (pc' := 18) rfl (hb hby d1_14) (by decide) (by decide) ?_
      show Steps p.tables e below (T5.setTop (mkF m 18 #[.val (.int p0), .val (.ref (f2 p0 s_FULL s_PORTAL s_LIMITED))] [(.int (1 : Int32))])) t
      have hq10 : (b1_9 p0 s_FULL s_PORTAL s_LIMITED) = (1 : Int32) := by rw [b1_9, if_pos hc7]
      rw [hq10] at k
      exact k
    · refine Jvm.RoadKit.acmp (g := (mkF m 10 #[.val (.int p0), .val (.ref (f2 p0 s_FULL s_PORTAL s_LIMITED))] [(.ref (f3 p0 s_FULL s_PORTAL s_LIMITED)), (.ref (f2 p0 s_FULL s_PORTAL s_LIMITED))])) X5 hx rfl rfl rfl (pc0 := 10) (pc' := 17) (same := false) rfl (hb hby d1_10) rfl (decide_eq_false fun q => hc7 (Value.ref.inj q)) (by decide) (by decide) ?_
      show Steps p.tables e below (T5.setTop (mkF m 17 #[.val (.int p0), .val (.ref (f2 p0 s_FULL s_PORTAL s_LIMITED))] [])) t
      refine XS.iconst X5.here hx rfl (hb hby d1_17) ?_
      show Steps p.tables e below (T5.setTop (mkF m 18 #[.val (.int p0), .val (.ref (f2 p0 s_FULL s_PORTAL s_LIMITED))] [(.int (0 : Int32))])) t
      have hq11 : (b1_9 p0 s_FULL s_PORTAL s_LIMITED) = (0 : Int32) := by rw [b1_9, if_neg hc7]
      rw [hq11] at k
      exact k
  obtain ⟨fs, hr, hrun, hended, hW, hsame⟩ := X5.leave (v := some (.int (b1_9 p0 s_FULL s_PORTAL s_LIMITED))) (fun h => by rw [Bd.returns] at h; cases h)
  refine ⟨_, _, go8 _ (Jvm.RoadKit.retOut X5 hx Bd.returns (own_nz (by unfold b1_9; (repeat' split) <;> first | exact Or.inl rfl | exact Or.inr rfl)) (Or.inl ⟨rfl, Or.inr (Or.inl rfl), _, rfl⟩) (hb hby d1_18) hr), hrun, hended, _, _, rfl, ?_, ⟨_, rfl⟩, hW, hsame.mono (by decide) (by decide)⟩
  show Q1 _ _ p0 s_FULL s_PORTAL s_LIMITED h0 _ (T5.setFrames fs).heap _
  have hE : (T5.setFrames fs).heap = h0 := e5
  rw [hE]
  exact ⟨by rw [f1], N5, rfl⟩
theorem pd_51 : parseMethodDescriptor "(I)Z" = some ⟨[.int], some .boolean⟩ := by decide +kernel
def v0_1 (p1 : Int32) : Int32 := ((195 : Int32) + (p1 &&& (255 : Int32)))
def v0_2 (p2 : Int32) : Int32 := ((p2 &&& (1023 : Int32)) - (512 : Int32))
def b0_18 (p2 : Int32) (s_LIMITED : Addr) (s_PORTAL : Addr) (s_FULL : Addr) : Int32 := (if (f1 (v0_2 p2) s_FULL s_PORTAL s_LIMITED) = (0 : Int32) then (0 : Int32) else (1 : Int32))
def f0 (p0 : Int32) (p1 : Int32) (p2 : Int32) (s_LIMITED : Addr) (s_PORTAL : Addr) (s_FULL : Addr) : Int32 := (if (f1 p0 s_FULL s_PORTAL s_LIMITED) = (0 : Int32) then (0 : Int32) else (if (f1 (v0_1 p1) s_FULL s_PORTAL s_LIMITED) = (0 : Int32) then (0 : Int32) else (b0_18 p2 s_LIMITED s_PORTAL s_FULL)))
theorem own_eq (p : Int32) (F P L : Addr) : f2 p F P L = f3 p F P L := by
  have hd := c_idiv p 100 100 (by decide) (by decide)
  have e1 : (p / 100 = 2) ↔ (p / 100).toInt = 2 := by rw [← Int32.toInt_inj]; rfl
  have e2 : (p / 100 = 3) ↔ (p / 100).toInt = 3 := by rw [← Int32.toInt_inj]; rfl
  have l1 : (p < 200) ↔ p.toInt < 200 := Int32.lt_iff_toInt_lt
  have l2 : (399 < p) ↔ 399 < p.toInt := Int32.lt_iff_toInt_lt
  unfold f2 f3
  by_cases h0 : p = 204
  · rw [if_pos h0, if_pos h0]
  · rw [if_neg h0, if_neg h0]
    simp only [e1, e2, l1, l2]
    (repeat' split) <;> first | rfl | (exfalso; omega)
theorem own_ag (p : Int32) (F P L : Addr) : f1 p F P L = 1 := by
  simp only [f1, b1_9, own_eq]; rfl
theorem f0_one (p0 : Int32) (p1 : Int32) (p2 : Int32) (s_LIMITED : Addr) (s_PORTAL : Addr) (s_FULL : Addr) : f0 p0 p1 p2 s_LIMITED s_PORTAL s_FULL = 1 := by
  simp [f0, v0_1, v0_2, b0_18, own_ag]
def Q0 (Z : State) (n0 : Nat) (p0 : Int32) (p1 : Int32) (p2 : Int32) (s_LIMITED : Addr) (s_PORTAL : Addr) (s_FULL : Addr) (h0 : Heap) (v : Option Value) (h : Heap) (L : List Loc) : Prop := v = some (.int 1) ∧ Fr n0 L
theorem ef0 (m : MethodId) (p0 : Int32) (p1 : Int32) (p2 : Int32) : entryFrame m #[(.int p0), (.int p1), (.int p2)] maxLocals = mkF m 0 #[.val (.int p0), .val (.int p1), .val (.int p2), .unset, .unset] [] := by first | (simp [entryFrame, mkF, argsToLocals, Value.category, maxLocals]; done) | rfl
set_option maxRecDepth 65536 in
set_option maxHeartbeats 40000000 in
theorem rm0 (l : Launch) (Z : State) (aZ : Array Value) (hw : ∀ d ∈ tables_1, d.before aZ Z = true) (ws : List Jvm.Cond) (p0 : Int32) (p1 : Int32) (p2 : Int32) (s_LIMITED : Addr) (s_PORTAL : Addr) (s_FULL : Addr) (h0 : Heap) (n0 : Nat) (Z0 : n0 ≤ h0.size) (S_LIMITED : Sta Z h0 "com/example/probe/probe/Connectivity$Verdict" "LIMITED" "Lcom/example/probe/probe/Connectivity$Verdict;" (.ref s_LIMITED)) (E_LIMITED : Exa Z h0 s_LIMITED "com/example/probe/probe/Connectivity$Verdict") (S_PORTAL : Sta Z h0 "com/example/probe/probe/Connectivity$Verdict" "PORTAL" "Lcom/example/probe/probe/Connectivity$Verdict;" (.ref s_PORTAL)) (E_PORTAL : Exa Z h0 s_PORTAL "com/example/probe/probe/Connectivity$Verdict") (S_FULL : Sta Z h0 "com/example/probe/probe/Connectivity$Verdict" "FULL" "Lcom/example/probe/probe/Connectivity$Verdict;" (.ref s_FULL)) (E_FULL : Exa Z h0 s_FULL "com/example/probe/probe/Connectivity$Verdict") :
    MetFree l x (head1 (Jvm.Cond.code x code maxLocals ret :: ws) room_1) (fun a U => a = #[(.int p0), (.int p1), (.int p2)] ∧ Z.Warmed39 U.vm ∧ U.heap = h0) (fun _ _ _ _ _ => True) (fun _ U o U' => ∃ v L, o = .returned v ∧ Q0 Z n0 p0 p1 p2 s_LIMITED s_PORTAL s_FULL h0 v U'.heap L ∧ FrameEnd U o U' L room_1.cells room_1.slots) := by
  refine MetFree.of_bodySF (plainFor_of_name pn_35) hisR ?_
  intro p e s m args below meth c s₁ Bd hml0 hP hK
  obtain ⟨rfl, hZ, hh⟩ := hP
  have hx := Bd.exec
  have hby := Bd.bytes
  have hml : c.maxLocals = 5 := hml0
  have hown : s.vm.findClass "com/example/probe/probe/VerdictOfPinLaw" = some m.cls := findClass_of_methodNamed Bd.named
  have hnm := (name_of_methodNamed Bd.named Bd.method).1
  have X0 : Stand p l e room_1 s m #[(.int p0), (.int p1), (.int p2)] below meth c s₁ [] 0 0 := Stand.of_body Bd
  have e0 : s₁.heap = h0 := by rw [← hh, Bd.state]; rfl
  have N0 := Fr.nil n0
  have K0 : Keep h0 h0 [] := Keep.refl _ _
  have go0 : ∀ t, Steps p.tables e below (s₁.setTop (mkF m 0 #[.val (.int p0), .val (.int p1), .val (.int p2), .unset, .unset] [])) t → Steps p.tables e below (s₁.setTop (entryFrame m #[(.int p0), (.int p1), (.int p2)] maxLocals)) t := fun t k => castTop (ef0 m p0 p1 p2) k
  have go3 : ∀ t, Steps p.tables e below (s₁.setTop (mkF m 22 #[.val (.int p0), .val (.int p1), .val (.int p2), .val (.int (v0_1 p1)), .val (.int (v0_2 p2))] [(.int p0)])) t → Steps p.tables e below (s₁.setTop (entryFrame m #[(.int p0), (.int p1), (.int p2)] maxLocals)) t := by
    intro t k
    refine go0 _ ?_
    refine XS.sipush X0.here hx rfl (hb hby at_0) ?_
    show Steps p.tables e below (s₁.setTop (mkF m 3 #[.val (.int p0), .val (.int p1), .val (.int p2), .unset, .unset] [(.int (195 : Int32))])) t
    refine XS.iloadN X0.here hx rfl (hb hby at_3) rfl ?_
    show Steps p.tables e below (s₁.setTop (mkF m 4 #[.val (.int p0), .val (.int p1), .val (.int p2), .unset, .unset] [(.int p1), (.int (195 : Int32))])) t
    refine XS.sipush X0.here hx rfl (hb hby at_4) ?_
    show Steps p.tables e below (s₁.setTop (mkF m 7 #[.val (.int p0), .val (.int p1), .val (.int p2), .unset, .unset] [(.int (255 : Int32)), (.int p1), (.int (195 : Int32))])) t
    refine XS.iand X0.here hx rfl (hb hby at_7) rfl ?_
    show Steps p.tables e below (s₁.setTop (mkF m 8 #[.val (.int p0), .val (.int p1), .val (.int p2), .unset, .unset] [(.int (p1 &&& (255 : Int32))), (.int (195 : Int32))])) t
    refine XS.iadd X0.here hx rfl (hb hby at_8) rfl ?_
    show Steps p.tables e below (s₁.setTop (mkF m 9 #[.val (.int p0), .val (.int p1), .val (.int p2), .unset, .unset] [(.int ((195 : Int32) + (p1 &&& (255 : Int32))))])) t
    show Steps p.tables e below (s₁.setTop (mkF m 9 #[.val (.int p0), .val (.int p1), .val (.int p2), .unset, .unset] [(.int (v0_1 p1))])) t
    refine XS.istoreN X0.here hx rfl (hb hby at_9) rfl (l' := #[.val (.int p0), .val (.int p1), .val (.int p2), .val (.int (v0_1 p1)), .unset]) rfl ?_
    show Steps p.tables e below (s₁.setTop (mkF m 10 #[.val (.int p0), .val (.int p1), .val (.int p2), .val (.int (v0_1 p1)), .unset] [])) t
    refine XS.iloadN X0.here hx rfl (hb hby at_10) rfl ?_
    show Steps p.tables e below (s₁.setTop (mkF m 11 #[.val (.int p0), .val (.int p1), .val (.int p2), .val (.int (v0_1 p1)), .unset] [(.int p2)])) t
    refine XS.sipush X0.here hx rfl (hb hby at_11) ?_
    show Steps p.tables e below (s₁.setTop (mkF m 14 #[.val (.int p0), .val (.int p1), .val (.int p2), .val (.int (v0_1 p1)), .unset] [(.int (1023 : Int32)), (.int p2)])) t
    refine XS.iand X0.here hx rfl (hb hby at_14) rfl ?_
    show Steps p.tables e below (s₁.setTop (mkF m 15 #[.val (.int p0), .val (.int p1), .val (.int p2), .val (.int (v0_1 p1)), .unset] [(.int (p2 &&& (1023 : Int32)))])) t
    refine XS.sipush X0.here hx rfl (hb hby at_15) ?_
    show Steps p.tables e below (s₁.setTop (mkF m 18 #[.val (.int p0), .val (.int p1), .val (.int p2), .val (.int (v0_1 p1)), .unset] [(.int (512 : Int32)), (.int (p2 &&& (1023 : Int32)))])) t
    refine XS.isub X0.here hx rfl (hb hby at_18) rfl ?_
    show Steps p.tables e below (s₁.setTop (mkF m 19 #[.val (.int p0), .val (.int p1), .val (.int p2), .val (.int (v0_1 p1)), .unset] [(.int ((p2 &&& (1023 : Int32)) - (512 : Int32)))])) t
    show Steps p.tables e below (s₁.setTop (mkF m 19 #[.val (.int p0), .val (.int p1), .val (.int p2), .val (.int (v0_1 p1)), .unset] [(.int (v0_2 p2))])) t
    refine XS.istore X0.here hx rfl (hb hby at_19) rfl (l' := #[.val (.int p0), .val (.int p1), .val (.int p2), .val (.int (v0_1 p1)), .val (.int (v0_2 p2))]) rfl ?_
    show Steps p.tables e below (s₁.setTop (mkF m 21 #[.val (.int p0), .val (.int p1), .val (.int p2), .val (.int (v0_1 p1)), .val (.int (v0_2 p2))] [])) t
    refine XS.iloadN X0.here hx rfl (hb hby at_21) rfl ?_
    show Steps p.tables e below (s₁.setTop (mkF m 22 #[.val (.int p0), .val (.int p1), .val (.int p2), .val (.int (v0_1 p1)), .val (.int (v0_2 p2))] [(.int p0)])) t
    exact k
  obtain ⟨_, _, ⟨T4, L4, k4, n4⟩, -, X4, ⟨Lc4, hQ4, l4, y4, z4⟩, st4⟩ := Jvm.LawKit.callS X0 hx (y := (⟨"com/example/probe/probe/VerdictOfPinLaw", "agrees", "(I)Z"⟩ : MethodName)) hown (mvT hZ (hw _ (List.mem_of_getElem? (i := 0) rfl))) (mvT hZ (hw _ (List.mem_of_getElem? (i := 1) rfl))) (mvT hZ (hw _ (List.mem_of_getElem? (i := 2) rfl))) (mvT hZ (hw _ (List.mem_of_getElem? (i := 3) rfl))) (by decide) (backOf (W := 0) (rm1 l Z aZ hw [] p0 s_FULL s_PORTAL s_LIMITED h0 n0 Z0 S_FULL S_PORTAL S_LIMITED) hZ (hw _ (List.mem_of_getElem? (i := 3) rfl)) (hw _ (List.mem_of_getElem? (i := 2) rfl)) (by decide) (by decide)) (g := (mkF m 22 #[.val (.int p0), .val (.int p1), .val (.int p2), .val (.int (v0_1 p1)), .val (.int (v0_2 p2))] [(.int p0)])) rfl (by rw [hml]; rfl) (argsL := [(.int p0)]) (rest := []) (lenOf pd_51 rfl) rfl (by show 2 * 0 + _ ≤ _; exact Nat.le_of_eq rfl) (hb hby at_22) (fun _ _ => ⟨rfl, e0, (by decide : 0 + 0 ≤ _), (by decide : 0 + 0 ≤ _)⟩)
  dsimp only [Pt.U, Pt.locs, Pt.cells, Pt.slots] at X4 l4 y4 z4 st4 hQ4
  subst l4 y4 z4
  obtain ⟨rfl, N4q, e4⟩ := hQ4
  have N4 := Fr.app N0 N4q
  have go5 : ∀ t, Steps p.tables e below (T4.setTop (mkF m 25 #[.val (.int p0), .val (.int p1), .val (.int p2), .val (.int (v0_1 p1)), .val (.int (v0_2 p2))] [(.int (f1 p0 s_FULL s_PORTAL s_LIMITED))])) t → Steps p.tables e below (s₁.setTop (entryFrame m #[(.int p0), (.int p1), (.int p2)] maxLocals)) t := fun t k => go3 _ (st4 _ k)
  by_cases hs6 : (f1 p0 s_FULL s_PORTAL s_LIMITED) = (0 : Int32)
  · have go7 : ∀ t, Steps p.tables e below (T4.setTop (mkF m 48 #[.val (.int p0), .val (.int p1), .val (.int p2), .val (.int (v0_1 p1)), .val (.int (v0_2 p2))] [(.int (0 : Int32))])) t → Steps p.tables e below (s₁.setTop (entryFrame m #[(.int p0), (.int p1), (.int p2)] maxLocals)) t := by
      intro t k
      refine go5 _ ?_
      refine XS.ifYes X4.here hx rfl (pc0 := 25) (pc' := 47) rfl (hb hby at_25) rfl (XT.i0_eq_t hs6) (by decide) (by decide) ?_
      show Steps p.tables e below (T4.setTop (mkF m 47 #[.val (.int p0), .val (.int p1), .val (.int p2), .val (.int (v0_1 p1)), .val (.int (v0_2 p2))] [])) t
      refine XS.iconst X4.here hx rfl (hb hby at_47) ?_
      show Steps p.tables e below (T4.setTop (mkF m 48 #[.val (.int p0), .val (.int p1), .val (.int p2), .val (.int (v0_1 p1)), .val (.int (v0_2 p2))] [(.int (0 : Int32))])) t
      exact k
    obtain ⟨fs, hr, hrun, hended, hW, hsame⟩ := X4.leave (v := some (.int (0 : Int32))) (fun h => by rw [Bd.returns] at h; cases h)
    refine ⟨_, _, go7 _ (Jvm.RoadKit.retOut X4 hx Bd.returns rfl (Or.inl ⟨rfl, Or.inr (Or.inl rfl), _, rfl⟩) (hb hby at_48) hr), hrun, hended, _, _, rfl, ?_, ⟨_, rfl⟩, hW, hsame.mono (by decide) (by decide)⟩
    show Q0 _ _ p0 p1 p2 s_LIMITED s_PORTAL s_FULL h0 _ (T4.setFrames fs).heap _
    have hE : (T4.setFrames fs).heap = h0 := e4
    rw [hE]
    exact ⟨congrArg (fun z => some (Value.int z)) ((by rw [f0, if_pos hs6] : (0 : Int32) = (f0 p0 p1 p2 s_LIMITED s_PORTAL s_FULL)).trans (f0_one p0 p1 p2 s_LIMITED s_PORTAL s_FULL)), N4⟩
  · have go8 : ∀ t, Steps p.tables e below (T4.setTop (mkF m 29 #[.val (.int p0), .val (.int p1), .val (.int p2), .val (.int (v0_1 p1)), .val (.int (v0_2 p2))] [(.int (v0_1 p1))])) t → Steps p.tables e below (s₁.setTop (entryFrame m #[(.int p0), (.int p1), (.int p2)] maxLocals)) t := by
      intro t k
      refine go5 _ ?_
      refine XS.ifNo X4.here hx rfl (hb hby at_25) rfl (XT.i0_eq_f hs6) ?_
      show Steps p.tables e below (T4.setTop (mkF m 28 #[.val (.int p0), .val (.int p1), .val (.int p2), .val (.int (v0_1 p1)), .val (.int (v0_2 p2))] [])) t
      refine XS.iloadN X4.here hx rfl (hb hby at_28) rfl ?_
      show Steps p.tables e below (T4.setTop (mkF m 29 #[.val (.int p0), .val (.int p1), .val (.int p2), .val (.int (v0_1 p1)), .val (.int (v0_2 p2))] [(.int (v0_1 p1))])) t
      exact k
    obtain ⟨_, _, ⟨T9, L9, k9, n9⟩, -, X9, ⟨Lc9, hQ9, l9, y9, z9⟩, st9⟩ := Jvm.LawKit.callS X4 hx (y := (⟨"com/example/probe/probe/VerdictOfPinLaw", "agrees", "(I)Z"⟩ : MethodName)) hown (mvT hZ (hw _ (List.mem_of_getElem? (i := 0) rfl))) (mvT hZ (hw _ (List.mem_of_getElem? (i := 1) rfl))) (mvT hZ (hw _ (List.mem_of_getElem? (i := 2) rfl))) (mvT hZ (hw _ (List.mem_of_getElem? (i := 3) rfl))) (by decide) (backOf (W := 0) (rm1 l Z aZ hw [] (v0_1 p1) s_FULL s_PORTAL s_LIMITED h0 n0 Z0 S_FULL S_PORTAL S_LIMITED) hZ (hw _ (List.mem_of_getElem? (i := 3) rfl)) (hw _ (List.mem_of_getElem? (i := 2) rfl)) (by decide) (by decide)) (g := (mkF m 29 #[.val (.int p0), .val (.int p1), .val (.int p2), .val (.int (v0_1 p1)), .val (.int (v0_2 p2))] [(.int (v0_1 p1))])) rfl (by rw [hml]; rfl) (argsL := [(.int (v0_1 p1))]) (rest := []) (lenOf pd_51 rfl) rfl (by show 2 * 0 + _ ≤ _; exact Nat.le_of_eq rfl) (hb hby at_29) (fun _ _ => ⟨rfl, e4, (by decide : 0 + 0 ≤ _), (by decide : 0 + 0 ≤ _)⟩)
    dsimp only [Pt.U, Pt.locs, Pt.cells, Pt.slots] at X9 l9 y9 z9 st9 hQ9
    subst l9 y9 z9
    obtain ⟨rfl, N9q, e9⟩ := hQ9
    have N9 := Fr.app N4 N9q
    have go10 : ∀ t, Steps p.tables e below (T9.setTop (mkF m 32 #[.val (.int p0), .val (.int p1), .val (.int p2), .val (.int (v0_1 p1)), .val (.int (v0_2 p2))] [(.int (f1 (v0_1 p1) s_FULL s_PORTAL s_LIMITED))])) t → Steps p.tables e below (s₁.setTop (entryFrame m #[(.int p0), (.int p1), (.int p2)] maxLocals)) t := fun t k => go8 _ (st9 _ k)
    by_cases hs11 : (f1 (v0_1 p1) s_FULL s_PORTAL s_LIMITED) = (0 : Int32)
    · have go12 : ∀ t, Steps p.tables e below (T9.setTop (mkF m 48 #[.val (.int p0), .val (.int p1), .val (.int p2), .val (.int (v0_1 p1)), .val (.int (v0_2 p2))] [(.int (0 : Int32))])) t → Steps p.tables e below (s₁.setTop (entryFrame m #[(.int p0), (.int p1), (.int p2)] maxLocals)) t := by
        intro t k
        refine go10 _ ?_
        refine XS.ifYes X9.here hx rfl (pc0 := 32) (pc' := 47) rfl (hb hby at_32) rfl (XT.i0_eq_t hs11) (by decide) (by decide) ?_
        show Steps p.tables e below (T9.setTop (mkF m 47 #[.val (.int p0), .val (.int p1), .val (.int p2), .val (.int (v0_1 p1)), .val (.int (v0_2 p2))] [])) t
        refine XS.iconst X9.here hx rfl (hb hby at_47) ?_
        show Steps p.tables e below (T9.setTop (mkF m 48 #[.val (.int p0), .val (.int p1), .val (.int p2), .val (.int (v0_1 p1)), .val (.int (v0_2 p2))] [(.int (0 : Int32))])) t
        exact k
      obtain ⟨fs, hr, hrun, hended, hW, hsame⟩ := X9.leave (v := some (.int (0 : Int32))) (fun h => by rw [Bd.returns] at h; cases h)
      refine ⟨_, _, go12 _ (Jvm.RoadKit.retOut X9 hx Bd.returns rfl (Or.inl ⟨rfl, Or.inr (Or.inl rfl), _, rfl⟩) (hb hby at_48) hr), hrun, hended, _, _, rfl, ?_, ⟨_, rfl⟩, hW, hsame.mono (by decide) (by decide)⟩
      show Q0 _ _ p0 p1 p2 s_LIMITED s_PORTAL s_FULL h0 _ (T9.setFrames fs).heap _
      have hE : (T9.setFrames fs).heap = h0 := e9
      rw [hE]
      exact ⟨congrArg (fun z => some (Value.int z)) ((by rw [f0, if_neg hs6, if_pos hs11] : (0 : Int32) = (f0 p0 p1 p2 s_LIMITED s_PORTAL s_FULL)).trans (f0_one p0 p1 p2 s_LIMITED s_PORTAL s_FULL)), N9⟩
    · have go13 : ∀ t, Steps p.tables e below (T9.setTop (mkF m 37 #[.val (.int p0), .val (.int p1), .val (.int p2), .val (.int (v0_1 p1)), .val (.int (v0_2 p2))] [(.int (v0_2 p2))])) t → Steps p.tables e below (s₁.setTop (entryFrame m #[(.int p0), (.int p1), (.int p2)] maxLocals)) t := by
        intro t k
        refine go10 _ ?_
        refine XS.ifNo X9.here hx rfl (hb hby at_32) rfl (XT.i0_eq_f hs11) ?_
        show Steps p.tables e below (T9.setTop (mkF m 35 #[.val (.int p0), .val (.int p1), .val (.int p2), .val (.int (v0_1 p1)), .val (.int (v0_2 p2))] [])) t
        refine XS.iload X9.here hx rfl (hb hby at_35) rfl ?_
        show Steps p.tables e below (T9.setTop (mkF m 37 #[.val (.int p0), .val (.int p1), .val (.int p2), .val (.int (v0_1 p1)), .val (.int (v0_2 p2))] [(.int (v0_2 p2))])) t
        exact k
      obtain ⟨_, _, ⟨T14, L14, k14, n14⟩, -, X14, ⟨Lc14, hQ14, l14, y14, z14⟩, st14⟩ := Jvm.LawKit.callS X9 hx (y := (⟨"com/example/probe/probe/VerdictOfPinLaw", "agrees", "(I)Z"⟩ : MethodName)) hown (mvT hZ (hw _ (List.mem_of_getElem? (i := 0) rfl))) (mvT hZ (hw _ (List.mem_of_getElem? (i := 1) rfl))) (mvT hZ (hw _ (List.mem_of_getElem? (i := 2) rfl))) (mvT hZ (hw _ (List.mem_of_getElem? (i := 3) rfl))) (by decide) (backOf (W := 0) (rm1 l Z aZ hw [] (v0_2 p2) s_FULL s_PORTAL s_LIMITED h0 n0 Z0 S_FULL S_PORTAL S_LIMITED) hZ (hw _ (List.mem_of_getElem? (i := 3) rfl)) (hw _ (List.mem_of_getElem? (i := 2) rfl)) (by decide) (by decide)) (g := (mkF m 37 #[.val (.int p0), .val (.int p1), .val (.int p2), .val (.int (v0_1 p1)), .val (.int (v0_2 p2))] [(.int (v0_2 p2))])) rfl (by rw [hml]; rfl) (argsL := [(.int (v0_2 p2))]) (rest := []) (lenOf pd_51 rfl) rfl (by show 2 * 0 + _ ≤ _; exact Nat.le_of_eq rfl) (hb hby at_37) (fun _ _ => ⟨rfl, e9, (by decide : 0 + 0 ≤ _), (by decide : 0 + 0 ≤ _)⟩)
      dsimp only [Pt.U, Pt.locs, Pt.cells, Pt.slots] at X14 l14 y14 z14 st14 hQ14
      subst l14 y14 z14
      obtain ⟨rfl, N14q, e14⟩ := hQ14
      have N14 := Fr.app N9 N14q
      have go15 : ∀ t, Steps p.tables e below (T14.setTop (mkF m 40 #[.val (.int p0), .val (.int p1), .val (.int p2), .val (.int (v0_1 p1)), .val (.int (v0_2 p2))] [(.int (f1 (v0_2 p2) s_FULL s_PORTAL s_LIMITED))])) t → Steps p.tables e below (s₁.setTop (entryFrame m #[(.int p0), (.int p1), (.int p2)] maxLocals)) t := fun t k => go13 _ (st14 _ k)
      have go17 : ∀ t, Steps p.tables e below (T14.setTop (mkF m 48 #[.val (.int p0), .val (.int p1), .val (.int p2), .val (.int (v0_1 p1)), .val (.int (v0_2 p2))] [(.int (b0_18 p2 s_LIMITED s_PORTAL s_FULL))])) t → Steps p.tables e below (s₁.setTop (entryFrame m #[(.int p0), (.int p1), (.int p2)] maxLocals)) t := by
        intro t k
        refine go15 _ ?_
        by_cases hc16 : (f1 (v0_2 p2) s_FULL s_PORTAL s_LIMITED) = (0 : Int32)
        · refine XS.ifYes X14.here hx rfl (pc0 := 40) (pc' := 47) rfl (hb hby at_40) rfl (XT.i0_eq_t hc16) (by decide) (by decide) ?_
          show Steps p.tables e below (T14.setTop (mkF m 47 #[.val (.int p0), .val (.int p1), .val (.int p2), .val (.int (v0_1 p1)), .val (.int (v0_2 p2))] [])) t
          refine XS.iconst X14.here hx rfl (hb hby at_47) ?_
          show Steps p.tables e below (T14.setTop (mkF m 48 #[.val (.int p0), .val (.int p1), .val (.int p2), .val (.int (v0_1 p1)), .val (.int (v0_2 p2))] [(.int (0 : Int32))])) t
          have hq19 : (b0_18 p2 s_LIMITED s_PORTAL s_FULL) = (0 : Int32) := by rw [b0_18, if_pos hc16]
          rw [hq19] at k
          exact k
        · refine XS.ifNo X14.here hx rfl (hb hby at_40) rfl (XT.i0_eq_f hc16) ?_
          show Steps p.tables e below (T14.setTop (mkF m 43 #[.val (.int p0), .val (.int p1), .val (.int p2), .val (.int (v0_1 p1)), .val (.int (v0_2 p2))] [])) t
          refine XS.iconst X14.here hx rfl (hb hby at_43) ?_
          show Steps p.tables e below (T14.setTop (mkF m 44 #[.val (.int p0), .val (.int p1), .val (.int p2), .val (.int (v0_1 p1)), .val (.int (v0_2 p2))] [(.int (1 : Int32))])) t
          refine XS.goto X14.here hx rfl (pc0 := 44) (pc' := 48) rfl (hb hby at_44) (by decide) (by decide) ?_
          show Steps p.tables e below (T14.setTop (mkF m 48 #[.val (.int p0), .val (.int p1), .val (.int p2), .val (.int (v0_1 p1)), .val (.int (v0_2 p2))] [(.int (1 : Int32))])) t
          have hq20 : (b0_18 p2 s_LIMITED s_PORTAL s_FULL) = (1 : Int32) := by rw [b0_18, if_neg hc16]
          rw [hq20] at k
          exact k
      obtain ⟨fs, hr, hrun, hended, hW, hsame⟩ := X14.leave (v := some (.int (b0_18 p2 s_LIMITED s_PORTAL s_FULL))) (fun h => by rw [Bd.returns] at h; cases h)
      refine ⟨_, _, go17 _ (Jvm.RoadKit.retOut X14 hx Bd.returns (own_nz (by unfold b0_18; (repeat' split) <;> first | exact Or.inl rfl | exact Or.inr rfl)) (Or.inl ⟨rfl, Or.inr (Or.inl rfl), _, rfl⟩) (hb hby at_48) hr), hrun, hended, _, _, rfl, ?_, ⟨_, rfl⟩, hW, hsame.mono (by decide) (by decide)⟩
      show Q0 _ _ p0 p1 p2 s_LIMITED s_PORTAL s_FULL h0 _ (T14.setFrames fs).heap _
      have hE : (T14.setFrames fs).heap = h0 := e14
      rw [hE]
      exact ⟨congrArg (fun z => some (Value.int z)) ((by rw [f0, if_neg hs6, if_neg hs11] : (b0_18 p2 s_LIMITED s_PORTAL s_FULL) = (f0 p0 p1 p2 s_LIMITED s_PORTAL s_FULL)).trans (f0_one p0 p1 p2 s_LIMITED s_PORTAL s_FULL)), N14⟩
set_option maxRecDepth 65536 in
set_option maxHeartbeats 40000000 in
theorem comes_1 {Post : Tables → Env → Array Value → State → Outcome → State → Prop} (hpost : ∀ tb e args s v u, (limb_1_1.after args s (.returned v) u = true ∧ limb_1_2.after args s (.returned v) u = true ∧ True) → FrameEnd s (.returned v) u (Jvm.fieldLocs frame_1_writes args s ++ Jvm.arrayLocs frame_1_arrays args s ++ Jvm.staticLocs frame_1_statics s) 0 0 → Post tb e args s (.returned v) u) :
    ArmFor flags0 classFile x code maxLocals ret World_1 tables_1 room_1 Calls_1 rest_1 Pre_1 Post := by
  intro l hfl _ _ p e ha hc hk s m args below hf hA hF happ hP
  obtain ⟨hcalls, hrest, hpre⟩ := hP
  obtain ⟨-, -, -, hnamed, -, -, -, hat⟩ := (Spec.applies_iff hf).mp happ
  obtain ⟨hg, hn⟩ := and_e (Cond.before_iff.mp (show (Jvm.Cond.and given_1 narrow_1).before args s = true from hpre))
  obtain ⟨hcount, hg1⟩ := and_e hg
  obtain ⟨ha0, hb0⟩ := and_e hg1
  obtain ⟨ha1, hb1⟩ := and_e hb0
  obtain ⟨w0, w1, w2, rfl⟩ : ∃ w0 w1 w2 : Value, args = #[w0, w1, w2] := by
    have hs : args.size = 3 := by simpa [Cond.value, given_1] using hcount
    obtain ⟨L⟩ := args
    match L, hs with
    | [w0, w1, w2], _ => exact ⟨w0, w1, w2, rfl⟩
  have hw := fun d (hd : d ∈ tables_1) => atoms_spec (ws := Jvm.Cond.code x code maxLocals ret :: tables_1) hat d (List.mem_cons_of_mem _ hd)
  have hfit : Fit s := fun {y c} hc i hi => by
    obtain ⟨ha, rfl⟩ := Array.getElem?_eq_some_iff.mp hc
    have q := List.all_eq_true.mp ((Array.all_eq_true_iff_forall_mem.mp hF) _ (Array.getElem_mem ha)) i (List.mem_range.mpr hi)
    simpa [Array.getElem?_eq_getElem hi] using q
  obtain ⟨i0, ei0⟩ := is_v ha0
  obtain rfl : w0 = (.int i0) := Option.some.inj ei0
  obtain ⟨i1, ei1⟩ := is_v ha1
  obtain rfl : w1 = (.int i1) := Option.some.inj ei1
  obtain ⟨i2, ei2⟩ := is_v hb1
  obtain rfl : w2 = (.int i2) := Option.some.inj ei2
  obtain ⟨na0, nb0⟩ := and_e hn
  obtain ⟨na1, nb1⟩ := and_e nb0
  obtain ⟨s_LIMITED, ev_s_LIMITED⟩ := exa_v na0
  have S_LIMITED : Sta s s.heap "com/example/probe/probe/Connectivity$Verdict" "LIMITED" "Lcom/example/probe/probe/Connectivity$Verdict;" (.ref s_LIMITED) := Sta.start ev_s_LIMITED (Or.inr ⟨(hw _ (List.mem_of_getElem? (i := 6) rfl)), (hw _ (List.mem_of_getElem? (i := 9) rfl))⟩)
  have E_LIMITED : Exa s s.heap s_LIMITED "com/example/probe/probe/Connectivity$Verdict" := Exa.start ev_s_LIMITED na0
  obtain ⟨s_PORTAL, ev_s_PORTAL⟩ := exa_v na1
  have S_PORTAL : Sta s s.heap "com/example/probe/probe/Connectivity$Verdict" "PORTAL" "Lcom/example/probe/probe/Connectivity$Verdict;" (.ref s_PORTAL) := Sta.start ev_s_PORTAL (Or.inr ⟨(hw _ (List.mem_of_getElem? (i := 6) rfl)), (hw _ (List.mem_of_getElem? (i := 15) rfl))⟩)
  have E_PORTAL : Exa s s.heap s_PORTAL "com/example/probe/probe/Connectivity$Verdict" := Exa.start ev_s_PORTAL na1
  obtain ⟨s_FULL, ev_s_FULL⟩ := exa_v nb1
  have S_FULL : Sta s s.heap "com/example/probe/probe/Connectivity$Verdict" "FULL" "Lcom/example/probe/probe/Connectivity$Verdict;" (.ref s_FULL) := Sta.start ev_s_FULL (Or.inr ⟨(hw _ (List.mem_of_getElem? (i := 6) rfl)), (hw _ (List.mem_of_getElem? (i := 18) rfl))⟩)
  have E_FULL : Exa s s.heap s_FULL "com/example/probe/probe/Connectivity$Verdict" := Exa.start ev_s_FULL nb1
  obtain ⟨n, o, h1, h2, h3, _, L, rfl, ⟨rfl, N⟩, hq⟩ := rm0 l s _ hw tables_1 i0 i1 i2 s_LIMITED s_PORTAL s_FULL s.heap s.heap.size (Nat.le_refl _) S_LIMITED E_LIMITED S_PORTAL E_PORTAL S_FULL E_FULL p e ha hc hk s m _ below hf ((Spec.applies_iff_loose hf).mp happ).1 ⟨rfl, State.Warmed39.refl s, rfl⟩ trivial
  refine ⟨n, _, h1, h2, h3, hpost _ _ _ _ _ _ ⟨Cond.after_iff.mpr rfl, Cond.after_iff.mpr (eq_i res_at (Term.int_eval (1)) rfl), trivial⟩ ⟨hq.1, hq.2.1, (hq.2.2.sift fun y hy => Or.inr (N y hy)).mono (by decide) (by decide)⟩⟩
theorem main_1_1 : Claimed_1_1 := comes_1 fun _ _ _ _ _ _ h hF => ⟨h.1, hF⟩
theorem main_1_2 : Claimed_1_2 := comes_1 fun _ _ _ _ _ _ h hF => ⟨h.2.1, hF⟩
end Jvm.Pilot.@@N@@
namespace Jvm.Pilot.@@N@@
open Jvm Jvm.ClassFile Sem Op Lib Jvm.Free Jvm.Stand Jvm.Pilot.@@N@@.Jvm.D
/-! MADE BY PROGRAM (witnessworld.py) out of the Statement's table words and the real class files: 12 classes; the members and pool entries that the words name. The judged class is class 1, her method 1. -/
namespace start1
open Jvm.ClassFile
def u (s : String) : CpInfo := .utf8 (stringToUtf16 s)
/-- a pool by its gaps: so many unusable entries, then the entry; so many at the end -/
def gap : Nat → List CpInfo → List CpInfo
  | 0, r => r
  | n + 1, r => .unusable :: gap n r
def poolList (es : List (Nat × CpInfo)) (last : Nat) : List CpInfo := es.foldr (fun e r => gap e.1 (e.2 :: r)) (gap last [])
def pool (es : List (Nat × CpInfo)) (last : Nat) : Array CpInfo := ⟨poolList es last⟩
def fileOf (pool : Array CpInfo) (this : Nat) (attrs : Array Attribute := #[]) (ms : Array MethodInfo := #[]) (fl : Nat := 33) (sup : Nat := 0) (ifs : Array Nat := #[]) (fds : Array FieldInfo := #[]) : ClassFile where
  minorVersion := 0
  majorVersion := 65
  constantPool := pool
  accessFlags := fl
  thisClass := this
  superClass := sup
  interfaces := ifs
  fields := fds
  methods := ms
  attributes := attrs
def plain (name : String) (sup : Option ClassId) : Class where
  name := name
  kind := .ordinary
  loader := none
  accessFlags := 33
  super := sup
  interfaces := #[]
  cf := none
  fields := #[]
  methods := #[]
  instanceTypes := #[]
  staticTypes := #[]
  resolved := #[]
  callSites := []
  init := .initialized
  statics := none
  mirror := none

def pool0 : Array CpInfo := pool [(5, u "<init>"), (0, u "()V"), (1, .class_ 10), (1, u "java/lang/Object")] 113

def k0m0 : Method := { name := "<init>", desc := "()V", sig := { parameters := [], returnType := none }, accessFlags := 1, code := none }
/-- java/lang/Object -/
def k0 : Class := { plain "java/lang/Object" none with
  accessFlags := 33
  interfaces := #[]
  cf := some (fileOf pool0 8 #[] #[{ accessFlags := 1, nameIndex := 5, descriptorIndex := 6, attributes := #[] }] 33 0 #[] #[])
  fields := #[]
  methods := #[k0m0]
  instanceTypes := #[]
  staticTypes := #[]
  resolved := Array.replicate 124 none
  statics := none }

def pool1 : Array CpInfo := pool [(2, .class_ 4), (1, u "java/lang/Object"), (0, u "<init>"), (0, u "()V"), (0, .methodref 8 9), (0, .class_ 10), (0, .nameAndType 11 12), (0, u "com/example/probe/probe/VerdictOfPinLaw"), (0, u "agrees"), (0, u "(I)Z"), (0, .methodref 14 15), (0, .class_ 16), (0, .nameAndType 17 18), (0, u "com/example/probe/probe/Connectivity$Verdict"), (0, u "of"), (0, u "(I)Lcom/example/probe/probe/Connectivity$Verdict;"), (0, .methodref 8 20), (0, .nameAndType 21 18), (0, u "expected"), (0, .fieldref 14 23), (0, .nameAndType 24 25), (0, u "FULL"), (0, u "Lcom/example/probe/probe/Connectivity$Verdict;"), (0, .fieldref 14 27), (0, .nameAndType 28 25), (0, u "PORTAL"), (0, .fieldref 14 30), (0, .nameAndType 31 25), (0, u "LIMITED"), (2, u "law"), (0, u "(III)Z")] 7

def k1m0 : Method := { name := "<init>", desc := "()V", sig := { parameters := [], returnType := none }, accessFlags := 2, code := none }
def k1c1 : Code := { maxStack := 3, maxLocals := 5, code := code, exceptionTable := #[], attributes := #[] }
def k1m1 : Method := { name := "law", desc := "(III)Z", sig := { parameters := [.int, .int, .int], returnType := some .boolean }, accessFlags := 9, code := some k1c1 }
def k1c2 : Code := { maxStack := 2, maxLocals := 2, code := method_3_code, exceptionTable := #[], attributes := #[] }
def k1m2 : Method := { name := "agrees", desc := "(I)Z", sig := { parameters := [.int], returnType := some .boolean }, accessFlags := 10, code := some k1c2 }
def k1c3 : Code := { maxStack := 2, maxLocals := 2, code := method_4_code, exceptionTable := #[], attributes := #[] }
def k1m3 : Method := { name := "expected", desc := "(I)Lcom/example/probe/probe/Connectivity$Verdict;", sig := { parameters := [.int], returnType := some (.object "com/example/probe/probe/Connectivity$Verdict") }, accessFlags := 10, code := some k1c3 }
/-- com/example/probe/probe/VerdictOfPinLaw -/
def k1 : Class := { plain "com/example/probe/probe/VerdictOfPinLaw" (some 0) with
  accessFlags := 49
  interfaces := #[]
  cf := some (fileOf pool1 8 #[] #[{ accessFlags := 2, nameIndex := 5, descriptorIndex := 6, attributes := #[] }, { accessFlags := 9, nameIndex := 34, descriptorIndex := 35, attributes := #[] }, { accessFlags := 10, nameIndex := 11, descriptorIndex := 12, attributes := #[] }, { accessFlags := 10, nameIndex := 21, descriptorIndex := 18, attributes := #[] }] 49 2 #[] #[])
  fields := #[]
  methods := #[k1m0, k1m1, k1m2, k1m3]
  instanceTypes := #[]
  staticTypes := #[]
  resolved := Array.replicate 43 none
  statics := none }

def pool2 : Array CpInfo := pool [(1, .class_ 2), (0, u "java/lang/constant/Constable"), (0, .class_ 4), (0, u "java/lang/Object")] 6

/-- java/lang/constant/Constable -/
def k2 : Class := { plain "java/lang/constant/Constable" (some 0) with
  accessFlags := 1537
  interfaces := #[]
  cf := some (fileOf pool2 1 #[] #[] 1537 3 #[] #[])
  fields := #[]
  methods := #[]
  instanceTypes := #[]
  staticTypes := #[]
  resolved := Array.replicate 11 none
  statics := none }

def pool3 : Array CpInfo := pool [(1, .class_ 2), (0, u "java/lang/Comparable"), (0, .class_ 4), (0, u "java/lang/Object")] 7

/-- java/lang/Comparable -/
def k3 : Class := { plain "java/lang/Comparable" (some 0) with
  accessFlags := 1537
  interfaces := #[]
  cf := some (fileOf pool3 1 #[] #[] 1537 3 #[] #[])
  fields := #[]
  methods := #[]
  instanceTypes := #[]
  staticTypes := #[]
  resolved := Array.replicate 12 none
  statics := none }

def pool4 : Array CpInfo := pool [(1, .class_ 2), (0, u "java/io/Serializable"), (0, .class_ 4), (0, u "java/lang/Object")] 2

/-- java/io/Serializable -/
def k4 : Class := { plain "java/io/Serializable" (some 0) with
  accessFlags := 1537
  interfaces := #[]
  cf := some (fileOf pool4 1 #[] #[] 1537 3 #[] #[])
  fields := #[]
  methods := #[]
  instanceTypes := #[]
  staticTypes := #[]
  resolved := Array.replicate 7 none
  statics := none }

def pool5 : Array CpInfo := pool [(2, .class_ 4), (1, u "java/lang/Enum"), (0, u "name"), (0, u "Ljava/lang/String;"), (2, u "ordinal"), (0, u "I"), (1, .class_ 14), (1, u "java/lang/Object"), (4, u "hash"), (86, .class_ 108), (1, u "java/lang/Enum$EnumDesc"), (2, .class_ 112), (0, u "java/lang/constant/Constable"), (0, .class_ 114), (0, u "java/lang/Comparable"), (0, .class_ 116), (0, u "java/io/Serializable")] 87

/-- java/lang/Enum -/
def k5 : Class := { plain "java/lang/Enum" (some 0) with
  accessFlags := 1057
  interfaces := #[2, 3, 4]
  cf := some (fileOf pool5 2 #[.nestMembers #[106]] #[] 1057 12 #[111, 113, 115] #[{ accessFlags := 18, nameIndex := 5, descriptorIndex := 6, attributes := #[] }, { accessFlags := 18, nameIndex := 9, descriptorIndex := 10, attributes := #[] }, { accessFlags := 2, nameIndex := 19, descriptorIndex := 10, attributes := #[] }])
  fields := #[{ name := "name", type := (.object "java/lang/String"), accessFlags := 18, slot := 0, constantValue := 0 }, { name := "ordinal", type := .int, accessFlags := 18, slot := 1, constantValue := 0 }, { name := "hash", type := .int, accessFlags := 2, slot := 2, constantValue := 0 }]
  methods := #[]
  instanceTypes := #[(.object "java/lang/String"), .int, .int]
  staticTypes := #[]
  resolved := Array.replicate 204 none
  statics := none }

def pool6 : Array CpInfo := pool [(1, .class_ 2), (0, u "com/example/probe/probe/Connectivity"), (0, .class_ 4), (0, u "com/example/probe/probe/Connectivity$Verdict"), (0, .fieldref 3 6), (0, .nameAndType 7 8), (0, u "FULL"), (0, u "Lcom/example/probe/probe/Connectivity$Verdict;"), (0, .fieldref 3 10), (0, .nameAndType 11 8), (0, u "PORTAL"), (0, .fieldref 3 13), (0, .nameAndType 14 8), (0, u "LIMITED"), (2, u "NONE"), (2, u "$VALUES"), (0, u "[Lcom/example/probe/probe/Connectivity$Verdict;"), (6, .class_ 30), (1, u "java/lang/Enum"), (31, u "of"), (0, u "(I)Lcom/example/probe/probe/Connectivity$Verdict;")] 9

def k6c0 : Code := { maxStack := 2, maxLocals := 1, code := prog_27_method_4_code, exceptionTable := #[], attributes := #[] }
def k6m0 : Method := { name := "of", desc := "(I)Lcom/example/probe/probe/Connectivity$Verdict;", sig := { parameters := [.int], returnType := some (.object "com/example/probe/probe/Connectivity$Verdict") }, accessFlags := 9, code := some k6c0 }
/-- com/example/probe/probe/Connectivity$Verdict -/
def k6 : Class := { plain "com/example/probe/probe/Connectivity$Verdict" (some 5) with
  accessFlags := 16433
  interfaces := #[]
  cf := some (fileOf pool6 3 #[.nestHost 1] #[{ accessFlags := 9, nameIndex := 62, descriptorIndex := 63, attributes := #[] }] 16433 28 #[] #[{ accessFlags := 16409, nameIndex := 7, descriptorIndex := 8, attributes := #[] }, { accessFlags := 16409, nameIndex := 11, descriptorIndex := 8, attributes := #[] }, { accessFlags := 16409, nameIndex := 14, descriptorIndex := 8, attributes := #[] }, { accessFlags := 16409, nameIndex := 17, descriptorIndex := 8, attributes := #[] }, { accessFlags := 4122, nameIndex := 20, descriptorIndex := 21, attributes := #[] }])
  fields := #[{ name := "FULL", type := (.object "com/example/probe/probe/Connectivity$Verdict"), accessFlags := 16409, slot := 0, constantValue := 0 }, { name := "PORTAL", type := (.object "com/example/probe/probe/Connectivity$Verdict"), accessFlags := 16409, slot := 1, constantValue := 0 }, { name := "LIMITED", type := (.object "com/example/probe/probe/Connectivity$Verdict"), accessFlags := 16409, slot := 2, constantValue := 0 }, { name := "NONE", type := (.object "com/example/probe/probe/Connectivity$Verdict"), accessFlags := 16409, slot := 3, constantValue := 0 }, { name := "$VALUES", type := (.array (.object "com/example/probe/probe/Connectivity$Verdict")), accessFlags := 4122, slot := 4, constantValue := 0 }]
  methods := #[k6m0]
  instanceTypes := #[(.object "java/lang/String"), .int, .int]
  staticTypes := #[(.object "com/example/probe/probe/Connectivity$Verdict"), (.object "com/example/probe/probe/Connectivity$Verdict"), (.object "com/example/probe/probe/Connectivity$Verdict"), (.object "com/example/probe/probe/Connectivity$Verdict"), (.array (.object "com/example/probe/probe/Connectivity$Verdict"))]
  resolved := Array.replicate 73 none
  statics := some 0 }

def pool7 : Array CpInfo := pool [(1, u "java/lang/Cloneable"), (0, .class_ 1), (0, u "java/lang/Object"), (0, .class_ 3)] 3

/-- java/lang/Cloneable -/
def k7 : Class := { plain "java/lang/Cloneable" (some 0) with
  accessFlags := 1537
  interfaces := #[]
  cf := some (fileOf pool7 2 #[] #[] 1537 4 #[] #[])
  fields := #[]
  methods := #[]
  instanceTypes := #[]
  staticTypes := #[]
  resolved := Array.replicate 8 none
  statics := none }

/-- the primitive byte -/
def k8 : Class := { plain "byte" none with kind := .primitive 'B', accessFlags := 0x411 }
/-- [B -/
def k9 : Class := { plain "[B" (some 0) with kind := .array 8 .byte, interfaces := #[7, 4], accessFlags := 1041 }

/-- the primitive int -/
def k10 : Class := { plain "int" none with kind := .primitive 'I', accessFlags := 0x411 }
/-- [I -/
def k11 : Class := { plain "[I" (some 0) with kind := .array 10 .int, interfaces := #[7, 4], accessFlags := 1041 }

def heap : Heap := #[{ cls := 6, slots := #[.ref 3, .ref 2, .ref 1, .null, .null], vm := .statics 6 },
  { cls := 6, slots := #[.null, .int 0, .int 0], vm := .none },
  { cls := 6, slots := #[.null, .int 0, .int 0], vm := .none },
  { cls := 6, slots := #[.null, .int 0, .int 0], vm := .none }]
def classes : Array Class := #[k0, k1, k2, k3, k4, k5, k6, k7, k8, k9, k10, k11]
def interned : List (Array UInt16 × Addr) := []
def slotsUsed : Nat := 14
def theMethod : MethodId := ⟨1, 1⟩
def args0 : Array Value := #[.int 5, .int 300, .int 7]
def aboutOver (below : List Frame) : State where
  vm := { classes := classes, interned := interned.toArray }
  heap := heap
  slotsUsed := slotsUsed
  threads := #[{ frames := .invoking theMethod args0 :: below }]
def below0 : List Frame := [.native { method := ⟨0, 0⟩, args := #[] }]
def about1 : State := aboutOver below0
def p0 : Program := .bare "" "" ""
def e0 : Env := launch0.env 0 0 0
theorem w_frames : about1.frames = Frame.invoking theMethod args0 :: below0 := rfl
set_option maxRecDepth 65536 in
theorem w_args : argsFit about1.vm theMethod args0 = true := by decide +kernel
set_option maxRecDepth 65536 in
theorem w_heap : heapFits about1 = true := by decide +kernel
set_option maxRecDepth 65536 in
theorem w_runnable : about1.curStatus? = some .runnable := by decide +kernel
set_option maxRecDepth 65536 in
theorem w_alone : about1.alone = true := by decide +kernel
set_option maxRecDepth 65536 in
theorem w_named : about1.methodNamed? x = some theMethod := by decide +kernel
set_option maxRecDepth 65536 in
theorem w_hears : about1.hears theMethod below0 = true := by decide +kernel
set_option maxRecDepth 65536 in
theorem w_ripe : about1.ripe theMethod args0 below0 = true := by decide +kernel
theorem w_running : about1.status = .running := rfl
set_option maxRecDepth 65536 in
theorem w_room : about1.hasRoom e0.platform room_1 = true :=
  launch0.hasRoom_least _ room_1 (by decide +kernel) (by decide +kernel) (by decide +kernel) (by decide +kernel) (by decide +kernel) (by decide +kernel)
theorem allAtoms_all (ts : List Jvm.Cond) (a : Array Jvm.Value) (st : Jvm.State) : (allAtoms ts).before a st = ts.all (fun c => c.before a st) := by
  induction ts with
  | nil => rfl
  | cons c t ih =>
    show (Jvm.Cond.and c (allAtoms t)).before a st = _
    rw [Jvm.Cond.before_and, ih, List.all_cons]
def words1 : List Jvm.Cond := Jvm.Cond.code x code maxLocals ret :: tables_1
/-- a 'code' word, met by the world's own term for the bytes: nothing is compared byte by byte -/
theorem code_word {y : MethodName} {bytes : ByteArray} {mx : Nat} {rt : Option FieldType} {a : Array Value} {s : State} {m : MethodId} {meth : Method} {c : Code} (h1 : s.methodNamed? y = some m) (h2 : s.vm.method? m = some meth) (h3 : meth.code = some c) (h4 : c.code = bytes)
    (h5 : (c.maxLocals == mx && c.exceptionTable.isEmpty && decide (c.maxStack ≤ mostOperands) && decide (meth.sig.returnType = rt) && !meth.locks && decide (parseMethodDescriptor y.desc = some meth.sig)) = true) : (Jvm.Cond.code y bytes mx rt).before a s = true := by
  simp only [Bool.and_eq_true, beq_iff_eq, Bool.not_eq_true', decide_eq_true_eq] at h5
  obtain ⟨⟨⟨⟨⟨g1, g2⟩, g3⟩, g4⟩, g5⟩, g6⟩ := h5
  simp [Cond.before, Cond.holds, Cond.value, h1, h2, h3, h4, g1, g2, g3, g4, g5, g6]
def isCode : Jvm.Cond → Bool
  | .code _ _ _ _ => true
  | _ => false
theorem all_split {L : List Jvm.Cond} {P : Jvm.Cond → Bool} (h1 : L.all (fun c => isCode c || P c) = true) (h2 : ∀ c ∈ L.filter isCode, P c = true) : L.all P = true := by
  refine List.all_eq_true.mpr fun c hc => ?_
  have h := List.all_eq_true.mp h1 c hc
  rcases Bool.eq_false_or_eq_true (isCode c) with hi | hi
  · exact h2 c (List.mem_filter.mpr ⟨hc, hi⟩)
  · simpa [hi] using h
set_option maxRecDepth 65536 in
theorem w_c0 : (Jvm.Cond.code x code maxLocals ret).before args0 about1 = true := code_word (m := ⟨1, 1⟩) (meth := k1m1) (c := k1c1) (by decide +kernel) rfl rfl rfl (by decide +kernel)
set_option maxRecDepth 65536 in
theorem w_c1 : (Jvm.Cond.code ({ cls := "com/example/probe/probe/VerdictOfPinLaw", name := "agrees", desc := "(I)Z" } : Jvm.MethodName) method_3_code (2 : Nat) (Option.some Jvm.ClassFile.FieldType.boolean)).before args0 about1 = true := code_word (m := ⟨1, 2⟩) (meth := k1m2) (c := k1c2) (by decide +kernel) rfl rfl rfl (by decide +kernel)
set_option maxRecDepth 65536 in
theorem w_c2 : (Jvm.Cond.code ({ cls := "com/example/probe/probe/Connectivity$Verdict", name := "of", desc := "(I)Lcom/example/probe/probe/Connectivity$Verdict;" } : Jvm.MethodName) prog_27_method_4_code (1 : Nat) (Option.some (Jvm.ClassFile.FieldType.object "com/example/probe/probe/Connectivity$Verdict"))).before args0 about1 = true := code_word (m := ⟨6, 0⟩) (meth := k6m0) (c := k6c0) (by decide +kernel) rfl rfl rfl (by decide +kernel)
set_option maxRecDepth 65536 in
theorem w_c3 : (Jvm.Cond.code ({ cls := "com/example/probe/probe/VerdictOfPinLaw", name := "expected", desc := "(I)Lcom/example/probe/probe/Connectivity$Verdict;" } : Jvm.MethodName) method_4_code (2 : Nat) (Option.some (Jvm.ClassFile.FieldType.object "com/example/probe/probe/Connectivity$Verdict"))).before args0 about1 = true := code_word (m := ⟨1, 3⟩) (meth := k1m3) (c := k1c3) (by decide +kernel) rfl rfl rfl (by decide +kernel)
def codes1 : List Jvm.Cond := [Jvm.Cond.code x code maxLocals ret, Jvm.Cond.code ({ cls := "com/example/probe/probe/VerdictOfPinLaw", name := "agrees", desc := "(I)Z" } : Jvm.MethodName) method_3_code (2 : Nat) (Option.some Jvm.ClassFile.FieldType.boolean), Jvm.Cond.code ({ cls := "com/example/probe/probe/Connectivity$Verdict", name := "of", desc := "(I)Lcom/example/probe/probe/Connectivity$Verdict;" } : Jvm.MethodName) prog_27_method_4_code (1 : Nat) (Option.some (Jvm.ClassFile.FieldType.object "com/example/probe/probe/Connectivity$Verdict")), Jvm.Cond.code ({ cls := "com/example/probe/probe/VerdictOfPinLaw", name := "expected", desc := "(I)Lcom/example/probe/probe/Connectivity$Verdict;" } : Jvm.MethodName) method_4_code (2 : Nat) (Option.some (Jvm.ClassFile.FieldType.object "com/example/probe/probe/Connectivity$Verdict"))]
set_option maxRecDepth 65536 in
theorem codes_eq : words1.filter isCode = codes1 := rfl
theorem w_codes : ∀ c ∈ words1.filter isCode, c.before args0 about1 = true := by
  rw [codes_eq]
  intro c hc
  simp only [codes1, List.mem_cons, List.not_mem_nil, or_false] at hc
  rcases hc with rfl | rfl | rfl | rfl
  · exact w_c0
  · exact w_c1
  · exact w_c2
  · exact w_c3
set_option maxRecDepth 65536 in
theorem w_t1 : words1.all (fun c => isCode c || c.before args0 about1) = true := by decide +kernel
theorem w_tables : (allAtoms (Jvm.Cond.code x code maxLocals ret :: tables_1)).before args0 about1 = true := by
  rw [allAtoms_all]
  show words1.all (fun c => c.before args0 about1) = true
  refine all_split ?_ w_codes
  rw [w_t1]
set_option maxRecDepth 65536 in
theorem w_case : (Jvm.Cond.and given_1 narrow_1).before args0 about1 = true := by decide +kernel
theorem w_applies : (headSpec (Jvm.Cond.code x code maxLocals ret :: tables_1) room_1).applies x e0.platform about1 = true :=
  (Spec.applies_iff w_frames).mpr ⟨w_running, w_runnable, w_alone, w_named, w_hears, w_ripe, w_room, w_tables⟩
theorem atStart : AtStart classFile x code maxLocals ret World_1 tables_1 room_1 Calls_1 rest_1 Pre_1 launch0 p0 e0 about1 theMethod args0 below0 :=
  ⟨lists_1, trivial, launch0.admits_env _ _ _, launch0.least_env, fairChoices_fair.cas, fairChoices_fair.clock, w_frames, w_args, w_heap, w_applies, trivial, trivial, w_case⟩
end start1
theorem witness_1 : WitnessClaimed_1 := ⟨start1.p0, start1.e0, start1.about1, start1.theMethod, start1.args0, start1.below0, start1.atStart⟩
end Jvm.Pilot.@@N@@
