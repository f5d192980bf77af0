import JvmDerived
import JvmDerived.Pilot.@@N@@Statement
import JvmDerived.Pilot.@@N@@Code
set_option linter.unusedVariables false
set_option linter.unusedSimpArgs false
namespace Jvm.Pilot.@@N@@
open Jvm Jvm.ClassFile Sem Op Lib Jvm.Free Jvm.Stand Jvm.LawKit Jvm.RoadKit Bundle Jvm.Pilot.@@N@@.Jvm.D
theorem own_exa_ns {Z : State} {h : Heap} {a : Addr} {C : String} (E : Exa Z h a C) : ∀ c : Cell, h[a]? = some c → c.vm.isStatics = false := fun c hc => by
  obtain ⟨cell, k, h1, -, -, h4, -⟩ := E
  rw [h1] at hc; cases hc; exact h4
theorem own_sta_keep {Z : State} {h h' : Heap} {C n d : String} {v : Value} {ws : List Addr} (F : Sta Z h C n d v) (K : Keep h h' ws) (q : ∀ x ∈ ws, ∀ c : Cell, h[x]? = some c → c.vm.isStatics = false) : Sta Z h' C n d v := by
  obtain ⟨cf, i, k, f, st, cell, h1, h2, h3, h4, h5, h6, h7⟩ := F
  exact ⟨cf, i, k, f, st, cell, h1, h2, h3, h4, K.2.1 st cell h5 (fun hm => by have := q st hm cell h5; rw [h6] at this; cases this), h6, h7⟩
theorem own_ins_keep {Z : State} {h h' : Heap} {a : Addr} {C : String} {b : Bool} {ws : List Addr} (F : Ins Z h a C b) (K : Keep h h' ws) : Ins Z h' a C b := by
  obtain ⟨cell, cT, h1, h2, h3⟩ := F
  obtain ⟨c', q1, q2, q3, -⟩ := K.2.2 a cell h1
  exact ⟨c', cT, q1, h2, by rw [q3, q2]; exact h3⟩
theorem own_ne {r c : Int32} (k : Int) (hc : c.toInt = k) (h : ¬ r = c) : ¬ r.toInt = k := fun e => h (Int32.toInt_inj.mp (e.trans hc.symm))
theorem own_cat1 {v : Value} (h : v.isRef = true) : 2 * 0 + ([v].map fun v => v.category).sum ≤ 1 := by simp [XT.cat1 h]
theorem own_nz {z : Int32} (h : z = 0 ∨ z = 1) : narrow .boolean (.int z) = .int z := by rcases h with rfl | rfl <;> rfl
theorem own_eqi {a : Term} {args : Array Value} {s : State} {k : Int32} (h : (Jvm.Cond.eq a (Term.int k)).value args s none s [] = some true) : a.eval args s none [] s = some (.int k) := by
  cases ha : a.eval args s none [] s with
  | none => simp [Cond.value, ha] at h
  | some x => cases x <;> simp [Cond.value, ha, Term.eval] at h ⊢; exact h
theorem own_eqr {a b : Term} {args : Array Value} {s : State} {y : Addr} (hb : b.eval args s none [] s = some (.ref y)) (h : (Jvm.Cond.eq a b).value args s none s [] = some true) : a.eval args s none [] s = some (.ref y) := by
  cases ha : a.eval args s none [] s with
  | none => simp [Cond.value, ha] at h
  | some x => cases x <;> simp [Cond.value, ha, hb] at h ⊢; exact h
theorem own_len {t : Term} {args : Array Value} {s : State} {n : Int32} {x : Addr} {c : Cell} {ty : FieldType} (h : (Term.length t).eval args s none [] s = some (.int n)) (ht : t.eval args s none [] s = some (.ref x)) (A : Arr s s.heap x c ty) : c.slots.size < 2 ^ 31 ∧ c.slots.size.toInt32 = n := by
  have ha : s.arrayAt? x = some c := Arr.fin (Vm.Alike.refl _) A
  simp only [Term.eval, ht, ha, Option.bind_eq_bind, Option.bind_some] at h
  split at h
  · rename_i hl; simp at h; exact ⟨hl, h⟩
  · cases h
theorem d1_0 : decode method_2_code 0 = .ok (.iload_n 0, 1) := by decide +kernel
theorem d1_1 : decode method_2_code 1 = .ok (.ifCond .ne 7, 3) := by decide +kernel
theorem d1_4 : decode method_2_code 4 = .ok (.getstatic 7, 3) := by decide +kernel
theorem d1_7 : decode method_2_code 7 = .ok (.areturn, 1) := by decide +kernel
theorem d1_8 : decode method_2_code 8 = .ok (.iload_n 0, 1) := by decide +kernel
theorem d1_9 : decode method_2_code 9 = .ok (.iconst 1, 1) := by decide +kernel
theorem d1_10 : decode method_2_code 10 = .ok (.if_icmp .ne 7, 3) := by decide +kernel
theorem d1_13 : decode method_2_code 13 = .ok (.getstatic 13, 3) := by decide +kernel
theorem d1_16 : decode method_2_code 16 = .ok (.areturn, 1) := by decide +kernel
theorem d1_17 : decode method_2_code 17 = .ok (.iload_n 0, 1) := by decide +kernel
theorem d1_18 : decode method_2_code 18 = .ok (.iconst 2, 1) := by decide +kernel
theorem d1_19 : decode method_2_code 19 = .ok (.if_icmp .ne 7, 3) := by decide +kernel
theorem d1_22 : decode method_2_code 22 = .ok (.getstatic 16, 3) := by decide +kernel
theorem d1_25 : decode method_2_code 25 = .ok (.areturn, 1) := by decide +kernel
theorem d1_26 : decode method_2_code 26 = .ok (.iload_n 0, 1) := by decide +kernel
theorem d1_27 : decode method_2_code 27 = .ok (.iconst 3, 1) := by decide +kernel
theorem d1_28 : decode method_2_code 28 = .ok (.if_icmp .ne 7, 3) := by decide +kernel
theorem d1_31 : decode method_2_code 31 = .ok (.getstatic 19, 3) := by decide +kernel
theorem d1_34 : decode method_2_code 34 = .ok (.areturn, 1) := by decide +kernel
theorem d1_35 : decode method_2_code 35 = .ok (.getstatic 22, 3) := by decide +kernel
theorem d1_38 : decode method_2_code 38 = .ok (.areturn, 1) := by decide +kernel
theorem pn_21 : plainName "com/example/hauora_id/hauoraid/model/ConfidenceLevelAtLeastPinLaw" = true := by first | (simp [plainName, overriddenIn]; done) | decide +kernel
def f1 (p0 : Int32) (s_L1 : Addr) (s_L2 : Addr) (s_L2N : Addr) (s_L3 : Addr) (s_L3N : Addr) : Addr := (if p0 = (0 : Int32) then s_L1 else (if p0 = (1 : Int32) then s_L2 else (if p0 = (2 : Int32) then s_L2N else (if p0 = (3 : Int32) then s_L3 else s_L3N))))
def Q1 (Z : State) (n0 : Nat) (p0 : Int32) (s_L1 : Addr) (s_L2 : Addr) (s_L2N : Addr) (s_L3 : Addr) (s_L3N : Addr) (h0 : Heap) (v : Option Value) (h : Heap) (L : List Loc) : Prop := v = some (.ref (f1 p0 s_L1 s_L2 s_L2N s_L3 s_L3N)) ∧ Fr n0 L ∧ h = h0
theorem ef1 (m : MethodId) (p0 : Int32) : entryFrame m #[(.int p0)] 1 = mkF m 0 #[.val (.int p0)] [] := by first | (simp [entryFrame, mkF, argsToLocals, Value.category]; done) | rfl
set_option maxRecDepth 65536 in
set_option maxHeartbeats 40000000 in
theorem rm1 (l : Launch) (Z : State) (aZ : Array Value) (hw : ∀ d ∈ tables_1, d.before aZ Z = true) (ws : List Jvm.Cond) (p0 : Int32) (s_L1 : Addr) (s_L2 : Addr) (s_L2N : Addr) (s_L3 : Addr) (s_L3N : Addr) (h0 : Heap) (n0 : Nat) (Z0 : n0 ≤ h0.size) (S_L1 : Sta Z h0 "com/example/hauora_id/hauoraid/model/ConfidenceLevel" "L1" "Lcom/example/hauora_id/hauoraid/model/ConfidenceLevel;" (.ref s_L1)) (S_L2 : Sta Z h0 "com/example/hauora_id/hauoraid/model/ConfidenceLevel" "L2" "Lcom/example/hauora_id/hauoraid/model/ConfidenceLevel;" (.ref s_L2)) (S_L2N : Sta Z h0 "com/example/hauora_id/hauoraid/model/ConfidenceLevel" "L2N" "Lcom/example/hauora_id/hauoraid/model/ConfidenceLevel;" (.ref s_L2N)) (S_L3 : Sta Z h0 "com/example/hauora_id/hauoraid/model/ConfidenceLevel" "L3" "Lcom/example/hauora_id/hauoraid/model/ConfidenceLevel;" (.ref s_L3)) (S_L3N : Sta Z h0 "com/example/hauora_id/hauoraid/model/ConfidenceLevel" "L3N" "Lcom/example/hauora_id/hauoraid/model/ConfidenceLevel;" (.ref s_L3N)) :
    MetFree l (⟨"com/example/hauora_id/hauoraid/model/ConfidenceLevelAtLeastPinLaw", "pick", "(I)Lcom/example/hauora_id/hauoraid/model/ConfidenceLevel;"⟩ : MethodName) (head1 (Jvm.Cond.code (⟨"com/example/hauora_id/hauoraid/model/ConfidenceLevelAtLeastPinLaw", "pick", "(I)Lcom/example/hauora_id/hauoraid/model/ConfidenceLevel;"⟩ : MethodName) method_2_code 1 (some (.object "com/example/hauora_id/hauoraid/model/ConfidenceLevel")) :: ws) ({ frames := 0, cells := 0, slots := 0, locals := 0 } : Room)) (fun a U => a = #[(.int p0)] ∧ Z.Warmed39 U.vm ∧ U.heap = h0) (fun _ _ _ _ _ => True) (fun _ U o U' => ∃ v L, o = .returned v ∧ Q1 Z n0 p0 s_L1 s_L2 s_L2N s_L3 s_L3N h0 v U'.heap L ∧ FrameEnd U o U' L ({ frames := 0, cells := 0, slots := 0, locals := 0 } : Room).cells ({ frames := 0, cells := 0, slots := 0, locals := 0 } : Room).slots) := by
  refine MetFree.of_bodySF (plainFor_of_name pn_21) hisR ?_
  intro p e s m args below meth c s₁ Bd hml0 hP hK
  obtain ⟨rfl, hZ, hh⟩ := hP
  have hx := Bd.exec
  have hby := Bd.bytes
  have hml : c.maxLocals = 1 := hml0
  have hown : s.vm.findClass "com/example/hauora_id/hauoraid/model/ConfidenceLevelAtLeastPinLaw" = some m.cls := findClass_of_methodNamed Bd.named
  have hnm := (name_of_methodNamed Bd.named Bd.method).1
  have X0 : Stand p l e ({ frames := 0, cells := 0, slots := 0, locals := 0 } : Room) s m #[(.int p0)] below meth c s₁ [] 0 0 := Stand.of_body Bd
  have e0 : s₁.heap = h0 := by rw [← hh, Bd.state]; rfl
  have N0 := Fr.nil n0
  have K0 : Keep h0 h0 [] := Keep.refl _ _
  have go0 : ∀ t, Steps p.tables e below (s₁.setTop (mkF m 0 #[.val (.int p0)] [])) t → Steps p.tables e below (s₁.setTop (entryFrame m #[(.int p0)] 1)) t := fun t k => castTop (ef1 m p0) k
  have go1 : ∀ t, Steps p.tables e below (s₁.setTop (mkF m 1 #[.val (.int p0)] [(.int p0)])) t → Steps p.tables e below (s₁.setTop (entryFrame m #[(.int p0)] 1)) t := by
    intro t k
    refine go0 _ ?_
    refine XS.iloadN X0.here hx rfl (hb hby d1_0) rfl ?_
    show Steps p.tables e below (s₁.setTop (mkF m 1 #[.val (.int p0)] [(.int p0)])) t
    exact k
  by_cases hs2 : p0 = (0 : Int32)
  · have go3 : ∀ t, Steps p.tables e below (s₁.setTop (mkF m 4 #[.val (.int p0)] [])) t → Steps p.tables e below (s₁.setTop (entryFrame m #[(.int p0)] 1)) t := by
      intro t k
      refine go1 _ ?_
      refine XS.ifNo X0.here hx rfl (hb hby d1_1) rfl (XT.i0_ne_f hs2) ?_
      show Steps p.tables e below (s₁.setTop (mkF m 4 #[.val (.int p0)] [])) t
      exact k
    obtain ⟨T4, X4, e4, st4⟩ := getS2 X0 hx hZ hown (host := "") (Or.inl (hw _ (List.mem_of_getElem? (i := 5) rfl))) Via.refl e0 S_L1 (g := (mkF m 4 #[.val (.int p0)] [])) rfl (hb hby d1_4)
    have go5 : ∀ t, Steps p.tables e below (T4.setTop (mkF m 7 #[.val (.int p0)] [(.ref s_L1)])) t → Steps p.tables e below (s₁.setTop (entryFrame m #[(.int p0)] 1)) t := fun t k => go3 _ (st4 _ k)
    obtain ⟨fs, hr, hrun, hended, hW, hsame⟩ := X4.leave (v := some (.ref s_L1)) (fun h => by rw [Bd.returns] at h; cases h)
    refine ⟨_, _, go5 _ (Jvm.RoadKit.retOut X4 hx Bd.returns rfl (Or.inr (Or.inr (Or.inr (Or.inr ⟨rfl, rfl, rfl⟩)))) (hb hby d1_7) hr), hrun, hended, _, _, rfl, ?_, ⟨_, rfl⟩, hW, hsame.mono (by decide) (by decide)⟩
    show Q1 _ _ p0 s_L1 s_L2 s_L2N s_L3 s_L3N h0 _ (T4.setFrames fs).heap _
    have hE : (T4.setFrames fs).heap = h0 := e4
    rw [hE]
    exact ⟨by rw [f1, if_pos hs2], N0, rfl⟩
  · have go6 : ∀ t, Steps p.tables e below (s₁.setTop (mkF m 10 #[.val (.int p0)] [(.int (1 : Int32)), (.int p0)])) t → Steps p.tables e below (s₁.setTop (entryFrame m #[(.int p0)] 1)) t := by
      intro t k
      refine go1 _ ?_
      refine XS.ifYes X0.here hx rfl (pc0 := 1) (pc' := 8) rfl (hb hby d1_1) rfl (XT.i0_ne_t hs2) (by decide) (by decide) ?_
      show Steps p.tables e below (s₁.setTop (mkF m 8 #[.val (.int p0)] [])) t
      refine XS.iloadN X0.here hx rfl (hb hby d1_8) rfl ?_
      show Steps p.tables e below (s₁.setTop (mkF m 9 #[.val (.int p0)] [(.int p0)])) t
      refine XS.iconst X0.here hx rfl (hb hby d1_9) ?_
      show Steps p.tables e below (s₁.setTop (mkF m 10 #[.val (.int p0)] [(.int (1 : Int32)), (.int p0)])) t
      exact k
    by_cases hs7 : p0 = (1 : Int32)
    · have go8 : ∀ t, Steps p.tables e below (s₁.setTop (mkF m 13 #[.val (.int p0)] [])) t → Steps p.tables e below (s₁.setTop (entryFrame m #[(.int p0)] 1)) t := by
        intro t k
        refine go6 _ ?_
        refine XS.icmpNo X0.here hx rfl (hb hby d1_10) rfl (XT.ii_ne_f hs7) ?_
        show Steps p.tables e below (s₁.setTop (mkF m 13 #[.val (.int p0)] [])) t
        exact k
      obtain ⟨T9, X9, e9, st9⟩ := getS2 X0 hx hZ hown (host := "") (Or.inl (hw _ (List.mem_of_getElem? (i := 50) rfl))) Via.refl e0 S_L2 (g := (mkF m 13 #[.val (.int p0)] [])) rfl (hb hby d1_13)
      have go10 : ∀ t, Steps p.tables e below (T9.setTop (mkF m 16 #[.val (.int p0)] [(.ref s_L2)])) t → Steps p.tables e below (s₁.setTop (entryFrame m #[(.int p0)] 1)) t := fun t k => go8 _ (st9 _ k)
      obtain ⟨fs, hr, hrun, hended, hW, hsame⟩ := X9.leave (v := some (.ref s_L2)) (fun h => by rw [Bd.returns] at h; cases h)
      refine ⟨_, _, go10 _ (Jvm.RoadKit.retOut X9 hx Bd.returns rfl (Or.inr (Or.inr (Or.inr (Or.inr ⟨rfl, rfl, rfl⟩)))) (hb hby d1_16) hr), hrun, hended, _, _, rfl, ?_, ⟨_, rfl⟩, hW, hsame.mono (by decide) (by decide)⟩
      show Q1 _ _ p0 s_L1 s_L2 s_L2N s_L3 s_L3N h0 _ (T9.setFrames fs).heap _
      have hE : (T9.setFrames fs).heap = h0 := e9
      rw [hE]
      exact ⟨by rw [f1, if_neg hs2, if_pos hs7], N0, rfl⟩
    · have go11 : ∀ t, Steps p.tables e below (s₁.setTop (mkF m 19 #[.val (.int p0)] [(.int (2 : Int32)), (.int p0)])) t → Steps p.tables e below (s₁.setTop (entryFrame m #[(.int p0)] 1)) t := by
        intro t k
        refine go6 _ ?_
        refine XS.icmpYes X0.here hx rfl (pc0 := 10) (pc' := 17) rfl (hb hby d1_10) rfl (XT.ii_ne_t hs7) (by decide) (by decide) ?_
        show Steps p.tables e below (s₁.setTop (mkF m 17 #[.val (.int p0)] [])) t
        refine XS.iloadN X0.here hx rfl (hb hby d1_17) rfl ?_
        show Steps p.tables e below (s₁.setTop (mkF m 18 #[.val (.int p0)] [(.int p0)])) t
        refine XS.iconst X0.here hx rfl (hb hby d1_18) ?_
        show Steps p.tables e below (s₁.setTop (mkF m 19 #[.val (.int p0)] [(.int (2 : Int32)), (.int p0)])) t
        exact k
      by_cases hs12 : p0 = (2 : Int32)
      · have go13 : ∀ t, Steps p.tables e below (s₁.setTop (mkF m 22 #[.val (.int p0)] [])) t → Steps p.tables e below (s₁.setTop (entryFrame m #[(.int p0)] 1)) t := by
          intro t k
          refine go11 _ ?_
          refine XS.icmpNo X0.here hx rfl (hb hby d1_19) rfl (XT.ii_ne_f hs12) ?_
          show Steps p.tables e below (s₁.setTop (mkF m 22 #[.val (.int p0)] [])) t
          exact k
        obtain ⟨T14, X14, e14, st14⟩ := getS2 X0 hx hZ hown (host := "") (Or.inl (hw _ (List.mem_of_getElem? (i := 52) rfl))) Via.refl e0 S_L2N (g := (mkF m 22 #[.val (.int p0)] [])) rfl (hb hby d1_22)
        have go15 : ∀ t, Steps p.tables e below (T14.setTop (mkF m 25 #[.val (.int p0)] [(.ref s_L2N)])) t → Steps p.tables e below (s₁.setTop (entryFrame m #[(.int p0)] 1)) t := fun t k => go13 _ (st14 _ k)
        obtain ⟨fs, hr, hrun, hended, hW, hsame⟩ := X14.leave (v := some (.ref s_L2N)) (fun h => by rw [Bd.returns] at h; cases h)
        refine ⟨_, _, go15 _ (Jvm.RoadKit.retOut X14 hx Bd.returns rfl (Or.inr (Or.inr (Or.inr (Or.inr ⟨rfl, rfl, rfl⟩)))) (hb hby d1_25) hr), hrun, hended, _, _, rfl, ?_, ⟨_, rfl⟩, hW, hsame.mono (by decide) (by decide)⟩
        show Q1 _ _ p0 s_L1 s_L2 s_L2N s_L3 s_L3N h0 _ (T14.setFrames fs).heap _
        have hE : (T14.setFrames fs).heap = h0 := e14
        rw [hE]
        exact ⟨by rw [f1, if_neg hs2, if_neg hs7, if_pos hs12], N0, rfl⟩
      · have go16 : ∀ t, Steps p.tables e below (s₁.setTop (mkF m 28 #[.val (.int p0)] [(.int (3 : Int32)), (.int p0)])) t → Steps p.tables e below (s₁.setTop (entryFrame m #[(.int p0)] 1)) t := by
          intro t k
          refine go11 _ ?_
          refine XS.icmpYes X0.here hx rfl (pc0 := 19) (pc' := 26) rfl (hb hby d1_19) rfl (XT.ii_ne_t hs12) (by decide) (by decide) ?_
          show Steps p.tables e below (s₁.setTop (mkF m 26 #[.val (.int p0)] [])) t
          refine XS.iloadN X0.here hx rfl (hb hby d1_26) rfl ?_
          show Steps p.tables e below (s₁.setTop (mkF m 27 #[.val (.int p0)] [(.int p0)])) t
          refine XS.iconst X0.here hx rfl (hb hby d1_27) ?_
          show Steps p.tables e below (s₁.setTop (mkF m 28 #[.val (.int p0)] [(.int (3 : Int32)), (.int p0)])) t
          exact k
        by_cases hs17 : p0 = (3 : Int32)
        · have go18 : ∀ t, Steps p.tables e below (s₁.setTop (mkF m 31 #[.val (.int p0)] [])) t → Steps p.tables e below (s₁.setTop (entryFrame m #[(.int p0)] 1)) t := by
            intro t k
            refine go16 _ ?_
            refine XS.icmpNo X0.here hx rfl (hb hby d1_28) rfl (XT.ii_ne_f hs17) ?_
            show Steps p.tables e below (s₁.setTop (mkF m 31 #[.val (.int p0)] [])) t
            exact k
          obtain ⟨T19, X19, e19, st19⟩ := getS2 X0 hx hZ hown (host := "") (Or.inl (hw _ (List.mem_of_getElem? (i := 8) rfl))) Via.refl e0 S_L3 (g := (mkF m 31 #[.val (.int p0)] [])) rfl (hb hby d1_31)
          have go20 : ∀ t, Steps p.tables e below (T19.setTop (mkF m 34 #[.val (.int p0)] [(.ref s_L3)])) t → Steps p.tables e below (s₁.setTop (entryFrame m #[(.int p0)] 1)) t := fun t k => go18 _ (st19 _ k)
          obtain ⟨fs, hr, hrun, hended, hW, hsame⟩ := X19.leave (v := some (.ref s_L3)) (fun h => by rw [Bd.returns] at h; cases h)
          refine ⟨_, _, go20 _ (Jvm.RoadKit.retOut X19 hx Bd.returns rfl (Or.inr (Or.inr (Or.inr (Or.inr ⟨rfl, rfl, rfl⟩)))) (hb hby d1_34) hr), hrun, hended, _, _, rfl, ?_, ⟨_, rfl⟩, hW, hsame.mono (by decide) (by decide)⟩
          show Q1 _ _ p0 s_L1 s_L2 s_L2N s_L3 s_L3N h0 _ (T19.setFrames fs).heap _
          have hE : (T19.setFrames fs).heap = h0 := e19
          rw [hE]
          exact ⟨by rw [f1, if_neg hs2, if_neg hs7, if_neg hs12, if_pos hs17], N0, rfl⟩
        · have go21 : ∀ t, Steps p.tables e below (s₁.setTop (mkF m 35 #[.val (.int p0)] [])) t → Steps p.tables e below (s₁.setTop (entryFrame m #[(.int p0)] 1)) t := by
            intro t k
            refine go16 _ ?_
            refine XS.icmpYes X0.here hx rfl (pc0 := 28) (pc' := 35) rfl (hb hby d1_28) rfl (XT.ii_ne_t hs17) (by decide) (by decide) ?_
            show Steps p.tables e below (s₁.setTop (mkF m 35 #[.val (.int p0)] [])) t
            exact k
          obtain ⟨T22, X22, e22, st22⟩ := getS2 X0 hx hZ hown (host := "") (Or.inl (hw _ (List.mem_of_getElem? (i := 48) rfl))) Via.refl e0 S_L3N (g := (mkF m 35 #[.val (.int p0)] [])) rfl (hb hby d1_35)
          have go23 : ∀ t, Steps p.tables e below (T22.setTop (mkF m 38 #[.val (.int p0)] [(.ref s_L3N)])) t → Steps p.tables e below (s₁.setTop (entryFrame m #[(.int p0)] 1)) t := fun t k => go21 _ (st22 _ k)
          obtain ⟨fs, hr, hrun, hended, hW, hsame⟩ := X22.leave (v := some (.ref s_L3N)) (fun h => by rw [Bd.returns] at h; cases h)
          refine ⟨_, _, go23 _ (Jvm.RoadKit.retOut X22 hx Bd.returns rfl (Or.inr (Or.inr (Or.inr (Or.inr ⟨rfl, rfl, rfl⟩)))) (hb hby d1_38) hr), hrun, hended, _, _, rfl, ?_, ⟨_, rfl⟩, hW, hsame.mono (by decide) (by decide)⟩
          show Q1 _ _ p0 s_L1 s_L2 s_L2N s_L3 s_L3N h0 _ (T22.setFrames fs).heap _
          have hE : (T22.setFrames fs).heap = h0 := e22
          rw [hE]
          exact ⟨by rw [f1, if_neg hs2, if_neg hs7, if_neg hs12, if_neg hs17], N0, rfl⟩
theorem d2_0 : decode method_3_code 0 = .ok (.iload_n 0, 1) := by decide +kernel
theorem d2_1 : decode method_3_code 1 = .ok (.ifCond .ne 5, 3) := by decide +kernel
theorem d2_4 : decode method_3_code 4 = .ok (.iconst 1, 1) := by decide +kernel
theorem d2_5 : decode method_3_code 5 = .ok (.ireturn, 1) := by decide +kernel
theorem d2_6 : decode method_3_code 6 = .ok (.iload_n 0, 1) := by decide +kernel
theorem d2_7 : decode method_3_code 7 = .ok (.iconst 2, 1) := by decide +kernel
theorem d2_8 : decode method_3_code 8 = .ok (.if_icmp .gt 5, 3) := by decide +kernel
theorem d2_13 : decode method_3_code 13 = .ok (.iconst 3, 1) := by decide +kernel
theorem d2_14 : decode method_3_code 14 = .ok (.ireturn, 1) := by decide +kernel
theorem d2_11 : decode method_3_code 11 = .ok (.iconst 2, 1) := by decide +kernel
theorem d2_12 : decode method_3_code 12 = .ok (.ireturn, 1) := by decide +kernel
def f2 (p0 : Int32) : Int32 := (if p0 = (0 : Int32) then (1 : Int32) else (if (2 : Int32) < p0 then (3 : Int32) else (2 : Int32)))
def Q2 (Z : State) (n0 : Nat) (p0 : Int32) (h0 : Heap) (v : Option Value) (h : Heap) (L : List Loc) : Prop := v = some (.int (f2 p0)) ∧ Fr n0 L ∧ h = h0
theorem ef2 (m : MethodId) (p0 : Int32) : entryFrame m #[(.int p0)] 1 = mkF m 0 #[.val (.int p0)] [] := by first | (simp [entryFrame, mkF, argsToLocals, Value.category]; done) | rfl
set_option maxRecDepth 65536 in
set_option maxHeartbeats 40000000 in
theorem rm2 (l : Launch) (Z : State) (aZ : Array Value) (hw : ∀ d ∈ tables_1, d.before aZ Z = true) (ws : List Jvm.Cond) (p0 : Int32) (h0 : Heap) (n0 : Nat) (Z0 : n0 ≤ h0.size) :
    MetFree l (⟨"com/example/hauora_id/hauoraid/model/ConfidenceLevelAtLeastPinLaw", "digit", "(I)I"⟩ : MethodName) (head1 (Jvm.Cond.code (⟨"com/example/hauora_id/hauoraid/model/ConfidenceLevelAtLeastPinLaw", "digit", "(I)I"⟩ : MethodName) method_3_code 1 (some .int) :: ws) ({ frames := 0, cells := 0, slots := 0, locals := 0 } : Room)) (fun a U => a = #[(.int p0)] ∧ Z.Warmed39 U.vm ∧ U.heap = h0) (fun _ _ _ _ _ => True) (fun _ U o U' => ∃ v L, o = .returned v ∧ Q2 Z n0 p0 h0 v U'.heap L ∧ FrameEnd U o U' L ({ frames := 0, cells := 0, slots := 0, locals := 0 } : Room).cells ({ frames := 0, cells := 0, slots := 0, locals := 0 } : Room).slots) := by
  refine MetFree.of_bodySF (plainFor_of_name pn_21) hisR ?_
  intro p e s m args below meth c s₁ Bd hml0 hP hK
  obtain ⟨rfl, hZ, hh⟩ := hP
  have hx := Bd.exec
  have hby := Bd.bytes
  have hml : c.maxLocals = 1 := hml0
  have hown : s.vm.findClass "com/example/hauora_id/hauoraid/model/ConfidenceLevelAtLeastPinLaw" = some m.cls := findClass_of_methodNamed Bd.named
  have hnm := (name_of_methodNamed Bd.named Bd.method).1
  have X0 : Stand p l e ({ frames := 0, cells := 0, slots := 0, locals := 0 } : Room) s m #[(.int p0)] below meth c s₁ [] 0 0 := Stand.of_body Bd
  have e0 : s₁.heap = h0 := by rw [← hh, Bd.state]; rfl
  have N0 := Fr.nil n0
  have K0 : Keep h0 h0 [] := Keep.refl _ _
  have go0 : ∀ t, Steps p.tables e below (s₁.setTop (mkF m 0 #[.val (.int p0)] [])) t → Steps p.tables e below (s₁.setTop (entryFrame m #[(.int p0)] 1)) t := fun t k => castTop (ef2 m p0) k
  have go1 : ∀ t, Steps p.tables e below (s₁.setTop (mkF m 1 #[.val (.int p0)] [(.int p0)])) t → Steps p.tables e below (s₁.setTop (entryFrame m #[(.int p0)] 1)) t := by
    intro t k
    refine go0 _ ?_
    refine XS.iloadN X0.here hx rfl (hb hby d2_0) rfl ?_
    show Steps p.tables e below (s₁.setTop (mkF m 1 #[.val (.int p0)] [(.int p0)])) t
    exact k
  by_cases hs2 : p0 = (0 : Int32)
  · have go3 : ∀ t, Steps p.tables e below (s₁.setTop (mkF m 5 #[.val (.int p0)] [(.int (1 : Int32))])) t → Steps p.tables e below (s₁.setTop (entryFrame m #[(.int p0)] 1)) t := by
      intro t k
      refine go1 _ ?_
      refine XS.ifNo X0.here hx rfl (hb hby d2_1) rfl (XT.i0_ne_f hs2) ?_
      show Steps p.tables e below (s₁.setTop (mkF m 4 #[.val (.int p0)] [])) t
      refine XS.iconst X0.here hx rfl (hb hby d2_4) ?_
      show Steps p.tables e below (s₁.setTop (mkF m 5 #[.val (.int p0)] [(.int (1 : Int32))])) t
      exact k
    obtain ⟨fs, hr, hrun, hended, hW, hsame⟩ := X0.leave (v := some (.int (1 : Int32))) (fun h => by rw [Bd.returns] at h; cases h)
    refine ⟨_, _, go3 _ (Jvm.RoadKit.retOut X0 hx Bd.returns rfl (Or.inl ⟨rfl, Or.inl rfl, _, rfl⟩) (hb hby d2_5) hr), hrun, hended, _, _, rfl, ?_, ⟨_, rfl⟩, hW, hsame.mono (by decide) (by decide)⟩
    show Q2 _ _ p0 h0 _ (s₁.setFrames fs).heap _
    have hE : (s₁.setFrames fs).heap = h0 := e0
    rw [hE]
    exact ⟨by rw [f2, if_pos hs2], N0, rfl⟩
  · have go4 : ∀ t, Steps p.tables e below (s₁.setTop (mkF m 8 #[.val (.int p0)] [(.int (2 : Int32)), (.int p0)])) t → Steps p.tables e below (s₁.setTop (entryFrame m #[(.int p0)] 1)) t := by
      intro t k
      refine go1 _ ?_
      refine XS.ifYes X0.here hx rfl (pc0 := 1) (pc' := 6) rfl (hb hby d2_1) rfl (XT.i0_ne_t hs2) (by decide) (by decide) ?_
      show Steps p.tables e below (s₁.setTop (mkF m 6 #[.val (.int p0)] [])) t
      refine XS.iloadN X0.here hx rfl (hb hby d2_6) rfl ?_
      show Steps p.tables e below (s₁.setTop (mkF m 7 #[.val (.int p0)] [(.int p0)])) t
      refine XS.iconst X0.here hx rfl (hb hby d2_7) ?_
      show Steps p.tables e below (s₁.setTop (mkF m 8 #[.val (.int p0)] [(.int (2 : Int32)), (.int p0)])) t
      exact k
    by_cases hs5 : (2 : Int32) < p0
    · have go6 : ∀ t, Steps p.tables e below (s₁.setTop (mkF m 14 #[.val (.int p0)] [(.int (3 : Int32))])) t → Steps p.tables e below (s₁.setTop (entryFrame m #[(.int p0)] 1)) t := by
        intro t k
        refine go4 _ ?_
        refine XS.icmpYes X0.here hx rfl (pc0 := 8) (pc' := 13) rfl (hb hby d2_8) rfl (XT.ii_gt_t hs5) (by decide) (by decide) ?_
        show Steps p.tables e below (s₁.setTop (mkF m 13 #[.val (.int p0)] [])) t
        refine XS.iconst X0.here hx rfl (hb hby d2_13) ?_
        show Steps p.tables e below (s₁.setTop (mkF m 14 #[.val (.int p0)] [(.int (3 : Int32))])) t
        exact k
      obtain ⟨fs, hr, hrun, hended, hW, hsame⟩ := X0.leave (v := some (.int (3 : Int32))) (fun h => by rw [Bd.returns] at h; cases h)
      refine ⟨_, _, go6 _ (Jvm.RoadKit.retOut X0 hx Bd.returns rfl (Or.inl ⟨rfl, Or.inl rfl, _, rfl⟩) (hb hby d2_14) hr), hrun, hended, _, _, rfl, ?_, ⟨_, rfl⟩, hW, hsame.mono (by decide) (by decide)⟩
      show Q2 _ _ p0 h0 _ (s₁.setFrames fs).heap _
      have hE : (s₁.setFrames fs).heap = h0 := e0
      rw [hE]
      exact ⟨by rw [f2, if_neg hs2, if_pos hs5], N0, rfl⟩
    · have go7 : ∀ t, Steps p.tables e below (s₁.setTop (mkF m 12 #[.val (.int p0)] [(.int (2 : Int32))])) t → Steps p.tables e below (s₁.setTop (entryFrame m #[(.int p0)] 1)) t := by
        intro t k
        refine go4 _ ?_
        refine XS.icmpNo X0.here hx rfl (hb hby d2_8) rfl (XT.ii_gt_f hs5) ?_
        show Steps p.tables e below (s₁.setTop (mkF m 11 #[.val (.int p0)] [])) t
        refine XS.iconst X0.here hx rfl (hb hby d2_11) ?_
        show Steps p.tables e below (s₁.setTop (mkF m 12 #[.val (.int p0)] [(.int (2 : Int32))])) t
        exact k
      obtain ⟨fs, hr, hrun, hended, hW, hsame⟩ := X0.leave (v := some (.int (2 : Int32))) (fun h => by rw [Bd.returns] at h; cases h)
      refine ⟨_, _, go7 _ (Jvm.RoadKit.retOut X0 hx Bd.returns rfl (Or.inl ⟨rfl, Or.inl rfl, _, rfl⟩) (hb hby d2_12) hr), hrun, hended, _, _, rfl, ?_, ⟨_, rfl⟩, hW, hsame.mono (by decide) (by decide)⟩
      show Q2 _ _ p0 h0 _ (s₁.setFrames fs).heap _
      have hE : (s₁.setFrames fs).heap = h0 := e0
      rw [hE]
      exact ⟨by rw [f2, if_neg hs2, if_neg hs5], N0, rfl⟩
theorem d8_0 : decode jdk_41_method_11_code 0 = .ok (.iload_n 0, 1) := by decide +kernel
theorem d8_1 : decode jdk_41_method_11_code 1 = .ok (.ifCond .lt 8, 3) := by decide +kernel
theorem d8_4 : decode jdk_41_method_11_code 4 = .ok (.iload_n 0, 1) := by decide +kernel
theorem d8_5 : decode jdk_41_method_11_code 5 = .ok (.iload_n 1, 1) := by decide +kernel
theorem d8_6 : decode jdk_41_method_11_code 6 = .ok (.if_icmp .lt 10, 3) := by decide +kernel
theorem d8_16 : decode jdk_41_method_11_code 16 = .ok (.iload_n 0, 1) := by decide +kernel
theorem d8_17 : decode jdk_41_method_11_code 17 = .ok (.ireturn, 1) := by decide +kernel
theorem pn_40 : plainName "jdk/internal/util/Preconditions" = true := by first | (simp [plainName, overriddenIn]; done) | decide +kernel
def Q8 (Z : State) (n0 : Nat) (p0 : Int32) (p1 : Int32) (u2 : Value) (h0 : Heap) (v : Option Value) (h : Heap) (L : List Loc) : Prop := v = some (.int p0) ∧ Fr n0 L ∧ h = h0
theorem ef8 (m : MethodId) (p0 : Int32) (p1 : Int32) (u2 : Value) (h0 : u2.isRef = true) : entryFrame m #[(.int p0), (.int p1), u2] 3 = mkF m 0 #[.val (.int p0), .val (.int p1), .val u2] [] := by rcases XT.refc h0 with rfl | ⟨_, rfl⟩ <;> first | (simp [entryFrame, mkF, argsToLocals, Value.category]; done) | rfl
set_option maxRecDepth 65536 in
set_option maxHeartbeats 40000000 in
theorem rm8 (l : Launch) (Z : State) (aZ : Array Value) (hw : ∀ d ∈ tables_1, d.before aZ Z = true) (ws : List Jvm.Cond) (p0 : Int32) (p1 : Int32) (u2 : Value) (h0 : Heap) (n0 : Nat) (Z0 : n0 ≤ h0.size) (hn : ¬ p0 < (0 : Int32)) (hl : p0 < p1) (hu : u2.isRef = true) :
    MetFree l (⟨"jdk/internal/util/Preconditions", "checkIndex", "(IILjava/util/function/BiFunction;)I"⟩ : MethodName) (head1 (Jvm.Cond.code (⟨"jdk/internal/util/Preconditions", "checkIndex", "(IILjava/util/function/BiFunction;)I"⟩ : MethodName) jdk_41_method_11_code 3 (some .int) :: ws) ({ frames := 0, cells := 0, slots := 0, locals := 0 } : Room)) (fun a U => a = #[(.int p0), (.int p1), u2] ∧ Z.Warmed39 U.vm ∧ U.heap = h0) (fun _ _ _ _ _ => True) (fun _ U o U' => ∃ v L, o = .returned v ∧ Q8 Z n0 p0 p1 u2 h0 v U'.heap L ∧ FrameEnd U o U' L ({ frames := 0, cells := 0, slots := 0, locals := 0 } : Room).cells ({ frames := 0, cells := 0, slots := 0, locals := 0 } : Room).slots) := by
  refine MetFree.of_bodySF (plainFor_of_name pn_40) hisR ?_
  intro p e s m args below meth c s₁ Bd hml0 hP hK
  obtain ⟨rfl, hZ, hh⟩ := hP
  have hx := Bd.exec
  have hby := Bd.bytes
  have hml : c.maxLocals = 3 := hml0
  have hown : s.vm.findClass "jdk/internal/util/Preconditions" = some m.cls := findClass_of_methodNamed Bd.named
  have hnm := (name_of_methodNamed Bd.named Bd.method).1
  have X0 : Stand p l e ({ frames := 0, cells := 0, slots := 0, locals := 0 } : Room) s m #[(.int p0), (.int p1), u2] below meth c s₁ [] 0 0 := Stand.of_body Bd
  have e0 : s₁.heap = h0 := by rw [← hh, Bd.state]; rfl
  have N0 := Fr.nil n0
  have K0 : Keep h0 h0 [] := Keep.refl _ _
  have go0 : ∀ t, Steps p.tables e below (s₁.setTop (mkF m 0 #[.val (.int p0), .val (.int p1), .val u2] [])) t → Steps p.tables e below (s₁.setTop (entryFrame m #[(.int p0), (.int p1), u2] 3)) t := fun t k => castTop (ef8 m p0 p1 u2 hu) k
  have go1 : ∀ t, Steps p.tables e below (s₁.setTop (mkF m 17 #[.val (.int p0), .val (.int p1), .val u2] [(.int p0)])) t → Steps p.tables e below (s₁.setTop (entryFrame m #[(.int p0), (.int p1), u2] 3)) t := by
    intro t k
    refine go0 _ ?_
    refine XS.iloadN X0.here hx rfl (hb hby d8_0) rfl ?_
    show Steps p.tables e below (s₁.setTop (mkF m 1 #[.val (.int p0), .val (.int p1), .val u2] [(.int p0)])) t
    refine XS.ifNo X0.here hx rfl (hb hby d8_1) rfl (XT.i0_lt_f hn) ?_
    show Steps p.tables e below (s₁.setTop (mkF m 4 #[.val (.int p0), .val (.int p1), .val u2] [])) t
    refine XS.iloadN X0.here hx rfl (hb hby d8_4) rfl ?_
    show Steps p.tables e below (s₁.setTop (mkF m 5 #[.val (.int p0), .val (.int p1), .val u2] [(.int p0)])) t
    refine XS.iloadN X0.here hx rfl (hb hby d8_5) rfl ?_
    show Steps p.tables e below (s₁.setTop (mkF m 6 #[.val (.int p0), .val (.int p1), .val u2] [(.int p1), (.int p0)])) t
    refine XS.icmpYes X0.here hx rfl (pc0 := 6) (pc' := 16) rfl (hb hby d8_6) rfl (XT.ii_lt_t hl) (by decide) (by decide) ?_
    show Steps p.tables e below (s₁.setTop (mkF m 16 #[.val (.int p0), .val (.int p1), .val u2] [])) t
    refine XS.iloadN X0.here hx rfl (hb hby d8_16) rfl ?_
    show Steps p.tables e below (s₁.setTop (mkF m 17 #[.val (.int p0), .val (.int p1), .val u2] [(.int p0)])) t
    exact k
  obtain ⟨fs, hr, hrun, hended, hW, hsame⟩ := X0.leave (v := some (.int p0)) (fun h => by rw [Bd.returns] at h; cases h)
  refine ⟨_, _, go1 _ (Jvm.RoadKit.retOut X0 hx Bd.returns rfl (Or.inl ⟨rfl, Or.inl rfl, _, rfl⟩) (hb hby d8_17) hr), hrun, hended, _, _, rfl, ?_, ⟨_, rfl⟩, hW, hsame.mono (by decide) (by decide)⟩
  show Q8 _ _ p0 p1 u2 h0 _ (s₁.setFrames fs).heap _
  have hE : (s₁.setFrames fs).heap = h0 := e0
  rw [hE]
  exact ⟨rfl, N0, rfl⟩
theorem d7_0 : decode jdk_42_method_155_code 0 = .ok (.iload_n 0, 1) := by decide +kernel
theorem d7_1 : decode jdk_42_method_155_code 1 = .ok (.iload_n 1, 1) := by decide +kernel
theorem d7_2 : decode jdk_42_method_155_code 2 = .ok (.getstatic 1053, 3) := by decide +kernel
theorem d7_5 : decode jdk_42_method_155_code 5 = .ok (.invokestatic 1059, 3) := by decide +kernel
theorem pd_45 : parseMethodDescriptor "(IILjava/util/function/BiFunction;)I" = some ⟨[.int, .int, (.object "java/util/function/BiFunction")], some .int⟩ := by decide +kernel
theorem d7_8 : decode jdk_42_method_155_code 8 = .ok (.pop, 1) := by decide +kernel
theorem d7_9 : decode jdk_42_method_155_code 9 = .ok (.return_, 1) := by decide +kernel
theorem pn_48 : plainName "java/lang/String" = true := by first | (simp [plainName, overriddenIn]; done) | decide +kernel
def Q7 (Z : State) (n0 : Nat) (p0 : Int32) (p1 : Int32) (s_SIOOBE_FORMATTER : Value) (h0 : Heap) (v : Option Value) (h : Heap) (L : List Loc) : Prop := v = none ∧ Fr n0 L ∧ h = h0
theorem ef7 (m : MethodId) (p0 : Int32) (p1 : Int32) : entryFrame m #[(.int p0), (.int p1)] 2 = mkF m 0 #[.val (.int p0), .val (.int p1)] [] := by first | (simp [entryFrame, mkF, argsToLocals, Value.category]; done) | rfl
set_option maxRecDepth 65536 in
set_option maxHeartbeats 40000000 in
theorem rm7 (l : Launch) (Z : State) (aZ : Array Value) (hw : ∀ d ∈ tables_1, d.before aZ Z = true) (ws : List Jvm.Cond) (p0 : Int32) (p1 : Int32) (s_SIOOBE_FORMATTER : Value) (h0 : Heap) (n0 : Nat) (Z0 : n0 ≤ h0.size) (S_SIOOBE_FORMATTER : Sta Z h0 "jdk/internal/util/Preconditions" "SIOOBE_FORMATTER" "Ljava/util/function/BiFunction;" s_SIOOBE_FORMATTER) (rS_SIOOBE_FORMATTER : s_SIOOBE_FORMATTER.isRef = true) (hn : ¬ p0 < (0 : Int32)) (hl : p0 < p1) :
    MetFree l (⟨"java/lang/String", "checkIndex", "(II)V"⟩ : MethodName) (head1 (Jvm.Cond.code (⟨"java/lang/String", "checkIndex", "(II)V"⟩ : MethodName) jdk_42_method_155_code 2 none :: ws) ({ frames := 1, cells := 0, slots := 0, locals := 14 } : Room)) (fun a U => a = #[(.int p0), (.int p1)] ∧ Z.Warmed39 U.vm ∧ U.heap = h0) (fun _ _ _ _ _ => True) (fun _ U o U' => ∃ v L, o = .returned v ∧ Q7 Z n0 p0 p1 s_SIOOBE_FORMATTER h0 v U'.heap L ∧ FrameEnd U o U' L ({ frames := 1, cells := 0, slots := 0, locals := 14 } : Room).cells ({ frames := 1, cells := 0, slots := 0, locals := 14 } : Room).slots) := by
  refine MetFree.of_bodySF (plainFor_of_name pn_48) hisR ?_
  intro p e s m args below meth c s₁ Bd hml0 hP hK
  obtain ⟨rfl, hZ, hh⟩ := hP
  have hx := Bd.exec
  have hby := Bd.bytes
  have hml : c.maxLocals = 2 := hml0
  have hown : s.vm.findClass "java/lang/String" = some m.cls := findClass_of_methodNamed Bd.named
  have hnm := (name_of_methodNamed Bd.named Bd.method).1
  have X0 : Stand p l e ({ frames := 1, cells := 0, slots := 0, locals := 14 } : Room) s m #[(.int p0), (.int p1)] below meth c s₁ [] 0 0 := Stand.of_body Bd
  have e0 : s₁.heap = h0 := by rw [← hh, Bd.state]; rfl
  have N0 := Fr.nil n0
  have K0 : Keep h0 h0 [] := Keep.refl _ _
  have go0 : ∀ t, Steps p.tables e below (s₁.setTop (mkF m 0 #[.val (.int p0), .val (.int p1)] [])) t → Steps p.tables e below (s₁.setTop (entryFrame m #[(.int p0), (.int p1)] 2)) t := fun t k => castTop (ef7 m p0 p1) k
  have go1 : ∀ t, Steps p.tables e below (s₁.setTop (mkF m 2 #[.val (.int p0), .val (.int p1)] [(.int p1), (.int p0)])) t → Steps p.tables e below (s₁.setTop (entryFrame m #[(.int p0), (.int p1)] 2)) t := by
    intro t k
    refine go0 _ ?_
    refine XS.iloadN X0.here hx rfl (hb hby d7_0) rfl ?_
    show Steps p.tables e below (s₁.setTop (mkF m 1 #[.val (.int p0), .val (.int p1)] [(.int p0)])) t
    refine XS.iloadN X0.here hx rfl (hb hby d7_1) rfl ?_
    show Steps p.tables e below (s₁.setTop (mkF m 2 #[.val (.int p0), .val (.int p1)] [(.int p1), (.int p0)])) t
    exact k
  obtain ⟨T2, X2, e2, st2⟩ := getS2 X0 hx hZ hown (host := "") (Or.inl (hw _ (List.mem_of_getElem? (i := 43) rfl))) Via.refl e0 S_SIOOBE_FORMATTER (g := (mkF m 2 #[.val (.int p0), .val (.int p1)] [(.int p1), (.int p0)])) rfl (hb hby d7_2)
  have go3 : ∀ t, Steps p.tables e below (T2.setTop (mkF m 5 #[.val (.int p0), .val (.int p1)] [s_SIOOBE_FORMATTER, (.int p1), (.int p0)])) t → Steps p.tables e below (s₁.setTop (entryFrame m #[(.int p0), (.int p1)] 2)) t := fun t k => go1 _ (st2 _ k)
  obtain ⟨_, _, ⟨T4, L4, k4, n4⟩, -, X4, ⟨Lc4, hQ4, l4, y4, z4⟩, st4⟩ := Jvm.LawKit.callS X2 hx (y := (⟨"jdk/internal/util/Preconditions", "checkIndex", "(IILjava/util/function/BiFunction;)I"⟩ : MethodName)) hown (mvT hZ (hw _ (List.mem_of_getElem? (i := 45) rfl))) (mvT hZ (hw _ (List.mem_of_getElem? (i := 46) rfl))) (mvT hZ (hw _ (List.mem_of_getElem? (i := 44) rfl))) (mvT hZ (hw _ (List.mem_of_getElem? (i := 47) rfl))) (by decide) (backOf (W := 0) (rm8 l Z aZ hw [] p0 p1 s_SIOOBE_FORMATTER h0 n0 Z0 hn hl rS_SIOOBE_FORMATTER) hZ (hw _ (List.mem_of_getElem? (i := 47) rfl)) (hw _ (List.mem_of_getElem? (i := 44) rfl)) (by decide) (by decide)) (g := (mkF m 5 #[.val (.int p0), .val (.int p1)] [s_SIOOBE_FORMATTER, (.int p1), (.int p0)])) rfl (by rw [hml]; rfl) (argsL := [(.int p0), (.int p1), s_SIOOBE_FORMATTER]) (rest := []) (lenOf pd_45 rfl) rfl (by show 2 * 0 + _ ≤ _; exact Nat.le_of_eq rfl) (hb hby d7_5) (fun _ _ => ⟨rfl, e2, (by decide : 0 + 0 ≤ _), (by decide : 0 + 0 ≤ _)⟩)
  dsimp only [Pt.U, Pt.locs, Pt.cells, Pt.slots] at X4 l4 y4 z4 st4 hQ4
  subst l4 y4 z4
  obtain ⟨rfl, N4q, e4⟩ := hQ4
  have N4 := Fr.app N0 N4q
  have go5 : ∀ t, Steps p.tables e below (T4.setTop (mkF m 8 #[.val (.int p0), .val (.int p1)] [(.int p0)])) t → Steps p.tables e below (s₁.setTop (entryFrame m #[(.int p0), (.int p1)] 2)) t := fun t k => go3 _ (st4 _ k)
  have go6 : ∀ t, Steps p.tables e below (T4.setTop (mkF m 9 #[.val (.int p0), .val (.int p1)] [])) t → Steps p.tables e below (s₁.setTop (entryFrame m #[(.int p0), (.int p1)] 2)) t := by
    intro t k
    refine go5 _ ?_
    refine XS.pop X4.here hx rfl (hb hby d7_8) rfl rfl ?_
    show Steps p.tables e below (T4.setTop (mkF m 9 #[.val (.int p0), .val (.int p1)] [])) t
    exact k
  obtain ⟨fs, hr, hrun, hended, hW, hsame⟩ := X4.leave (v := none) (fun _ => rfl)
  refine ⟨_, _, go6 _ (X4.returnOut hx Bd.returns (hb hby d7_9) hr), hrun, hended, _, _, rfl, ?_, ⟨_, rfl⟩, hW, hsame.mono (by decide) (by decide)⟩
  show Q7 _ _ p0 p1 s_SIOOBE_FORMATTER h0 _ (T4.setFrames fs).heap _
  have hE : (T4.setFrames fs).heap = h0 := e4
  rw [hE]
  exact ⟨rfl, N4, rfl⟩
theorem d6_0 : decode jdk_43_method_2_code 0 = .ok (.iload_n 1, 1) := by decide +kernel
theorem d6_1 : decode jdk_43_method_2_code 1 = .ok (.aload_n 0, 1) := by decide +kernel
theorem d6_2 : decode jdk_43_method_2_code 2 = .ok (.arraylength, 1) := by decide +kernel
theorem d6_3 : decode jdk_43_method_2_code 3 = .ok (.invokestatic 9, 3) := by decide +kernel
theorem pd_53 : parseMethodDescriptor "(II)V" = some ⟨[.int, .int], none⟩ := by decide +kernel
theorem d6_6 : decode jdk_43_method_2_code 6 = .ok (.aload_n 0, 1) := by decide +kernel
theorem d6_7 : decode jdk_43_method_2_code 7 = .ok (.iload_n 1, 1) := by decide +kernel
theorem d6_8 : decode jdk_43_method_2_code 8 = .ok (.baload, 1) := by decide +kernel
theorem d6_9 : decode jdk_43_method_2_code 9 = .ok (.sipush 255, 3) := by decide +kernel
theorem d6_12 : decode jdk_43_method_2_code 12 = .ok (.iand, 1) := by decide +kernel
theorem d6_13 : decode jdk_43_method_2_code 13 = .ok (.i2c, 1) := by decide +kernel
theorem d6_14 : decode jdk_43_method_2_code 14 = .ok (.ireturn, 1) := by decide +kernel
theorem pn_62 : plainName "java/lang/StringLatin1" = true := by first | (simp [plainName, overriddenIn]; done) | decide +kernel
def v6_5 (x : Int32) : Int32 := (x &&& (255 : Int32)).toUInt32.toUInt16.toUInt32.toInt32
def f6 (x : Int32) : Int32 := (v6_5 x)
def Q6 (Z : State) (n0 : Nat) (a0 : Addr) (p1 : Int32) (k_a0 : ClassId) (n_a0 : Int32) (vs_a0 : List Value) (s_SIOOBE_FORMATTER : Value) (x : Int32) (h0 : Heap) (v : Option Value) (h : Heap) (L : List Loc) : Prop := v = some (.int (f6 x)) ∧ Fr n0 L ∧ h = h0
theorem ef6 (m : MethodId) (a0 : Addr) (p1 : Int32) : entryFrame m #[(.ref a0), (.int p1)] 2 = mkF m 0 #[.val (.ref a0), .val (.int p1)] [] := by first | (simp [entryFrame, mkF, argsToLocals, Value.category]; done) | rfl
set_option maxRecDepth 65536 in
set_option maxHeartbeats 40000000 in
theorem rm6 (l : Launch) (Z : State) (aZ : Array Value) (hw : ∀ d ∈ tables_1, d.before aZ Z = true) (ws : List Jvm.Cond) (a0 : Addr) (p1 : Int32) (k_a0 : ClassId) (n_a0 : Int32) (vs_a0 : List Value) (s_SIOOBE_FORMATTER : Value) (x : Int32) (h0 : Heap) (n0 : Nat) (Z0 : n0 ≤ h0.size) (V_a0 : Arv Z h0 a0 k_a0 .byte n_a0 vs_a0 (.int (0 : Int32))) (S_SIOOBE_FORMATTER : Sta Z h0 "jdk/internal/util/Preconditions" "SIOOBE_FORMATTER" "Ljava/util/function/BiFunction;" s_SIOOBE_FORMATTER) (rS_SIOOBE_FORMATTER : s_SIOOBE_FORMATTER.isRef = true) (hn : ¬ p1 < (0 : Int32)) (hl : p1 < n_a0) (hel : vs_a0.getD p1.toNatClampNeg (.int (0 : Int32)) = .int x) :
    MetFree l (⟨"java/lang/StringLatin1", "charAt", "([BI)C"⟩ : MethodName) (head1 (Jvm.Cond.code (⟨"java/lang/StringLatin1", "charAt", "([BI)C"⟩ : MethodName) jdk_43_method_2_code 2 (some .char) :: ws) ({ frames := 2, cells := 0, slots := 0, locals := 27 } : Room)) (fun a U => a = #[(.ref a0), (.int p1)] ∧ Z.Warmed39 U.vm ∧ U.heap = h0) (fun _ _ _ _ _ => True) (fun _ U o U' => ∃ v L, o = .returned v ∧ Q6 Z n0 a0 p1 k_a0 n_a0 vs_a0 s_SIOOBE_FORMATTER x h0 v U'.heap L ∧ FrameEnd U o U' L ({ frames := 2, cells := 0, slots := 0, locals := 27 } : Room).cells ({ frames := 2, cells := 0, slots := 0, locals := 27 } : Room).slots) := by
  refine MetFree.of_bodySF (plainFor_of_name pn_62) hisR ?_
  intro p e s m args below meth c s₁ Bd hml0 hP hK
  obtain ⟨rfl, hZ, hh⟩ := hP
  have hx := Bd.exec
  have hby := Bd.bytes
  have hml : c.maxLocals = 2 := hml0
  have hown : s.vm.findClass "java/lang/StringLatin1" = some m.cls := findClass_of_methodNamed Bd.named
  have hnm := (name_of_methodNamed Bd.named Bd.method).1
  have X0 : Stand p l e ({ frames := 2, cells := 0, slots := 0, locals := 27 } : Room) s m #[(.ref a0), (.int p1)] below meth c s₁ [] 0 0 := Stand.of_body Bd
  have e0 : s₁.heap = h0 := by rw [← hh, Bd.state]; rfl
  have N0 := Fr.nil n0
  have K0 : Keep h0 h0 [] := Keep.refl _ _
  have go0 : ∀ t, Steps p.tables e below (s₁.setTop (mkF m 0 #[.val (.ref a0), .val (.int p1)] [])) t → Steps p.tables e below (s₁.setTop (entryFrame m #[(.ref a0), (.int p1)] 2)) t := fun t k => castTop (ef6 m a0 p1) k
  obtain ⟨cl1, Ar1, q1, S1, N1, H1, G1⟩ := id V_a0
  have go2 : ∀ t, Steps p.tables e below (s₁.setTop (mkF m 3 #[.val (.ref a0), .val (.int p1)] [(.int n_a0), (.int p1)])) t → Steps p.tables e below (s₁.setTop (entryFrame m #[(.ref a0), (.int p1)] 2)) t := by
    intro t k
    refine go0 _ ?_
    refine XS.iloadN X0.here hx rfl (hb hby d6_0) rfl ?_
    show Steps p.tables e below (s₁.setTop (mkF m 1 #[.val (.ref a0), .val (.int p1)] [(.int p1)])) t
    refine XS.aloadN X0.here hx rfl (hb hby d6_1) rfl rfl ?_
    show Steps p.tables e below (s₁.setTop (mkF m 2 #[.val (.ref a0), .val (.int p1)] [(.ref a0), (.int p1)])) t
    refine X0.arraylength hx (by rw [e0]; exact Ar1.1) (State.isArrayOf_alike hZ.alike Ar1.2.1) (g := (mkF m 2 #[.val (.ref a0), .val (.int p1)] [(.ref a0), (.int p1)])) rfl rfl (hb hby d6_2) _ ?_
    rw [len_of S1 N1]
    show Steps p.tables e below (s₁.setTop (mkF m 3 #[.val (.ref a0), .val (.int p1)] [(.int n_a0), (.int p1)])) t
    exact k
  obtain ⟨_, _, ⟨T3, L3, k3, n3⟩, -, X3, ⟨Lc3, hQ3, l3, y3, z3⟩, st3⟩ := Jvm.LawKit.callS X0 hx (y := (⟨"java/lang/String", "checkIndex", "(II)V"⟩ : MethodName)) hown (mvT hZ (hw _ (List.mem_of_getElem? (i := 40) rfl))) (mvT hZ (hw _ (List.mem_of_getElem? (i := 41) rfl))) (mvT hZ (hw _ (List.mem_of_getElem? (i := 24) rfl))) (mvT hZ (hw _ (List.mem_of_getElem? (i := 42) rfl))) (by decide) (backOf (W := 0) (rm7 l Z aZ hw [] p1 n_a0 s_SIOOBE_FORMATTER h0 n0 Z0 S_SIOOBE_FORMATTER rS_SIOOBE_FORMATTER hn hl) hZ (hw _ (List.mem_of_getElem? (i := 42) rfl)) (hw _ (List.mem_of_getElem? (i := 24) rfl)) (by decide) (by decide)) (g := (mkF m 3 #[.val (.ref a0), .val (.int p1)] [(.int n_a0), (.int p1)])) rfl (by rw [hml]; rfl) (argsL := [(.int p1), (.int n_a0)]) (rest := []) (lenOf pd_53 rfl) rfl (by show 2 * 0 + _ ≤ _; exact Nat.le_of_eq rfl) (hb hby d6_3) (fun _ _ => ⟨rfl, e0, (by decide : 0 + 0 ≤ _), (by decide : 0 + 0 ≤ _)⟩)
  dsimp only [Pt.U, Pt.locs, Pt.cells, Pt.slots] at X3 l3 y3 z3 st3 hQ3
  subst l3 y3 z3
  obtain ⟨rfl, N3q, e3⟩ := hQ3
  have N3 := Fr.app N0 N3q
  have go4 : ∀ t, Steps p.tables e below (T3.setTop (mkF m 6 #[.val (.ref a0), .val (.int p1)] [])) t → Steps p.tables e below (s₁.setTop (entryFrame m #[(.ref a0), (.int p1)] 2)) t := fun t k => go2 _ (st3 _ k)
  have go6 : ∀ t, Steps p.tables e below (T3.setTop (mkF m 14 #[.val (.ref a0), .val (.int p1)] [(.int (v6_5 x))])) t → Steps p.tables e below (s₁.setTop (entryFrame m #[(.ref a0), (.int p1)] 2)) t := by
    intro t k
    refine go4 _ ?_
    refine XS.aloadN X3.here hx rfl (hb hby d6_6) rfl rfl ?_
    show Steps p.tables e below (T3.setTop (mkF m 7 #[.val (.ref a0), .val (.int p1)] [(.ref a0)])) t
    refine XS.iloadN X3.here hx rfl (hb hby d6_7) rfl ?_
    show Steps p.tables e below (T3.setTop (mkF m 8 #[.val (.ref a0), .val (.int p1)] [(.int p1), (.ref a0)])) t
    refine X3.baloadBytes hx (j := p1) (v := (.int x)) (by rw [e3]; exact Ar1.1) (State.isArrayOf_alike hZ.alike Ar1.2.1) Ar1.2.2 (inb_of S1 ⟨hn, hl⟩) (Has.at H1 (inb_of S1 ⟨hn, hl⟩) hel) (g := (mkF m 8 #[.val (.ref a0), .val (.int p1)] [(.int p1), (.ref a0)])) rfl rfl (hb hby d6_8) _ ?_
    show Steps p.tables e below (T3.setTop (mkF m 9 #[.val (.ref a0), .val (.int p1)] [(.int x)])) t
    refine XS.sipush X3.here hx rfl (hb hby d6_9) ?_
    show Steps p.tables e below (T3.setTop (mkF m 12 #[.val (.ref a0), .val (.int p1)] [(.int (255 : Int32)), (.int x)])) t
    refine XS.iand X3.here hx rfl (hb hby d6_12) rfl ?_
    show Steps p.tables e below (T3.setTop (mkF m 13 #[.val (.ref a0), .val (.int p1)] [(.int (x &&& (255 : Int32)))])) t
    refine XS.i2c X3.here hx rfl (hb hby d6_13) rfl ?_
    show Steps p.tables e below (T3.setTop (mkF m 14 #[.val (.ref a0), .val (.int p1)] [(.int (x &&& (255 : Int32)).toUInt32.toUInt16.toUInt32.toInt32)])) t
    show Steps p.tables e below (T3.setTop (mkF m 14 #[.val (.ref a0), .val (.int p1)] [(.int (v6_5 x))])) t
    exact k
  obtain ⟨fs, hr, hrun, hended, hW, hsame⟩ := X3.leave (v := some (.int (v6_5 x))) (fun h => by rw [Bd.returns] at h; cases h)
  refine ⟨_, _, go6 _ (Jvm.RoadKit.retOut X3 hx Bd.returns (XT.narrow_c _) (Or.inl ⟨rfl, Or.inr (Or.inr (Or.inr (Or.inl rfl))), _, rfl⟩) (hb hby d6_14) hr), hrun, hended, _, _, rfl, ?_, ⟨_, rfl⟩, hW, hsame.mono (by decide) (by decide)⟩
  show Q6 _ _ a0 p1 k_a0 n_a0 vs_a0 s_SIOOBE_FORMATTER x h0 _ (T3.setFrames fs).heap _
  have hE : (T3.setFrames fs).heap = h0 := e3
  rw [hE]
  exact ⟨by rw [f6], N3, rfl⟩
theorem d5_0 : decode jdk_42_method_154_code 0 = .ok (.getstatic 38, 3) := by decide +kernel
theorem d5_3 : decode jdk_42_method_154_code 3 = .ok (.ifCond .eq 14, 3) := by decide +kernel
theorem d5_6 : decode jdk_42_method_154_code 6 = .ok (.aload_n 0, 1) := by decide +kernel
theorem d5_7 : decode jdk_42_method_154_code 7 = .ok (.getfield 15, 3) := by decide +kernel
theorem d5_10 : decode jdk_42_method_154_code 10 = .ok (.ifCond .ne 7, 3) := by decide +kernel
theorem d5_13 : decode jdk_42_method_154_code 13 = .ok (.iconst 1, 1) := by decide +kernel
theorem d5_14 : decode jdk_42_method_154_code 14 = .ok (.goto 4, 3) := by decide +kernel
theorem d5_18 : decode jdk_42_method_154_code 18 = .ok (.ireturn, 1) := by decide +kernel
def Q5 (Z : State) (n0 : Nat) (a0 : Addr) (s_COMPACT_STRINGS : Int32) (h0 : Heap) (v : Option Value) (h : Heap) (L : List Loc) : Prop := v = some (.int (1 : Int32)) ∧ Fr n0 L ∧ h = h0
theorem ef5 (m : MethodId) (a0 : Addr) : entryFrame m #[(.ref a0)] 1 = mkF m 0 #[.val (.ref a0)] [] := by first | (simp [entryFrame, mkF, argsToLocals, Value.category]; done) | rfl
set_option maxRecDepth 65536 in
set_option maxHeartbeats 40000000 in
theorem rm5 (l : Launch) (Z : State) (aZ : Array Value) (hw : ∀ d ∈ tables_1, d.before aZ Z = true) (ws : List Jvm.Cond) (a0 : Addr) (s_COMPACT_STRINGS : Int32) (h0 : Heap) (n0 : Nat) (Z0 : n0 ≤ h0.size) (S_COMPACT_STRINGS : Sta Z h0 "java/lang/String" "COMPACT_STRINGS" "Z" (.int s_COMPACT_STRINGS)) (F_a0_coder : Fld Z h0 a0 "java/lang/String" "coder" "B" (.int (0 : Int32))) (hcs : ¬ s_COMPACT_STRINGS = (0 : Int32)) :
    MetFree l (⟨"java/lang/String", "isLatin1", "()Z"⟩ : MethodName) (head1 (Jvm.Cond.code (⟨"java/lang/String", "isLatin1", "()Z"⟩ : MethodName) jdk_42_method_154_code 1 (some .boolean) :: ws) ({ frames := 0, cells := 0, slots := 0, locals := 0 } : Room)) (fun a U => a = #[(.ref a0)] ∧ Z.Warmed39 U.vm ∧ U.heap = h0) (fun _ _ _ _ _ => True) (fun _ U o U' => ∃ v L, o = .returned v ∧ Q5 Z n0 a0 s_COMPACT_STRINGS h0 v U'.heap L ∧ FrameEnd U o U' L ({ frames := 0, cells := 0, slots := 0, locals := 0 } : Room).cells ({ frames := 0, cells := 0, slots := 0, locals := 0 } : Room).slots) := by
  refine MetFree.of_bodySF (plainFor_of_name pn_48) hisR ?_
  intro p e s m args below meth c s₁ Bd hml0 hP hK
  obtain ⟨rfl, hZ, hh⟩ := hP
  have hx := Bd.exec
  have hby := Bd.bytes
  have hml : c.maxLocals = 1 := hml0
  have hown : s.vm.findClass "java/lang/String" = some m.cls := findClass_of_methodNamed Bd.named
  have hnm := (name_of_methodNamed Bd.named Bd.method).1
  have X0 : Stand p l e ({ frames := 0, cells := 0, slots := 0, locals := 0 } : Room) s m #[(.ref a0)] below meth c s₁ [] 0 0 := Stand.of_body Bd
  have e0 : s₁.heap = h0 := by rw [← hh, Bd.state]; rfl
  have N0 := Fr.nil n0
  have K0 : Keep h0 h0 [] := Keep.refl _ _
  have go0 : ∀ t, Steps p.tables e below (s₁.setTop (mkF m 0 #[.val (.ref a0)] [])) t → Steps p.tables e below (s₁.setTop (entryFrame m #[(.ref a0)] 1)) t := fun t k => castTop (ef5 m a0) k
  obtain ⟨T1, X1, e1, st1⟩ := getS2 X0 hx hZ hown (host := "") (Or.inl (hw _ (List.mem_of_getElem? (i := 31) rfl))) Via.refl e0 S_COMPACT_STRINGS (g := (mkF m 0 #[.val (.ref a0)] [])) rfl (hb hby d5_0)
  have go2 : ∀ t, Steps p.tables e below (T1.setTop (mkF m 3 #[.val (.ref a0)] [(.int s_COMPACT_STRINGS)])) t → Steps p.tables e below (s₁.setTop (entryFrame m #[(.ref a0)] 1)) t := fun t k => go0 _ (st1 _ k)
  have go3 : ∀ t, Steps p.tables e below (T1.setTop (mkF m 7 #[.val (.ref a0)] [(.ref a0)])) t → Steps p.tables e below (s₁.setTop (entryFrame m #[(.ref a0)] 1)) t := by
    intro t k
    refine go2 _ ?_
    refine XS.ifNo X1.here hx rfl (hb hby d5_3) rfl (XT.i0_eq_f hcs) ?_
    show Steps p.tables e below (T1.setTop (mkF m 6 #[.val (.ref a0)] [])) t
    refine XS.aloadN X1.here hx rfl (hb hby d5_6) rfl rfl ?_
    show Steps p.tables e below (T1.setTop (mkF m 7 #[.val (.ref a0)] [(.ref a0)])) t
    exact k
  obtain ⟨T4, X4, e4, st4⟩ := getF X1 hx hZ hown (host := "") (Or.inl (hw _ (List.mem_of_getElem? (i := 32) rfl))) Via.refl e1 F_a0_coder (g := (mkF m 7 #[.val (.ref a0)] [(.ref a0)])) rfl rfl (hb hby d5_7)
  have go5 : ∀ t, Steps p.tables e below (T4.setTop (mkF m 10 #[.val (.ref a0)] [(.int (0 : Int32))])) t → Steps p.tables e below (s₁.setTop (entryFrame m #[(.ref a0)] 1)) t := fun t k => go3 _ (st4 _ k)
  have go6 : ∀ t, Steps p.tables e below (T4.setTop (mkF m 18 #[.val (.ref a0)] [(.int (1 : Int32))])) t → Steps p.tables e below (s₁.setTop (entryFrame m #[(.ref a0)] 1)) t := by
    intro t k
    refine go5 _ ?_
    refine XS.ifNo X4.here hx rfl (hb hby d5_10) rfl (XT.i0_ne_f (by decide : ((0 : Int32) = (0 : Int32)))) ?_
    show Steps p.tables e below (T4.setTop (mkF m 13 #[.val (.ref a0)] [])) t
    refine XS.iconst X4.here hx rfl (hb hby d5_13) ?_
    show Steps p.tables e below (T4.setTop (mkF m 14 #[.val (.ref a0)] [(.int (1 : Int32))])) t
    refine XS.goto X4.here hx rfl (pc0 := 14) (pc' := 18) rfl (hb hby d5_14) (by decide) (by decide) ?_
    show Steps p.tables e below (T4.setTop (mkF m 18 #[.val (.ref a0)] [(.int (1 : Int32))])) t
    exact k
  obtain ⟨fs, hr, hrun, hended, hW, hsame⟩ := X4.leave (v := some (.int (1 : Int32))) (fun h => by rw [Bd.returns] at h; cases h)
  refine ⟨_, _, go6 _ (Jvm.RoadKit.retOut X4 hx Bd.returns rfl (Or.inl ⟨rfl, Or.inr (Or.inl rfl), _, rfl⟩) (hb hby d5_18) hr), hrun, hended, _, _, rfl, ?_, ⟨_, rfl⟩, hW, hsame.mono (by decide) (by decide)⟩
  show Q5 _ _ a0 s_COMPACT_STRINGS h0 _ (T4.setFrames fs).heap _
  have hE : (T4.setFrames fs).heap = h0 := e4
  rw [hE]
  exact ⟨rfl, N0, rfl⟩
theorem d4_0 : decode jdk_42_method_56_code 0 = .ok (.aload_n 0, 1) := by decide +kernel
theorem d4_1 : decode jdk_42_method_56_code 1 = .ok (.invokevirtual 492, 3) := by decide +kernel
theorem pd_73 : parseMethodDescriptor "()Z" = some ⟨[], some .boolean⟩ := by decide +kernel
theorem d4_4 : decode jdk_42_method_56_code 4 = .ok (.ifCond .eq 12, 3) := by decide +kernel
theorem d4_7 : decode jdk_42_method_56_code 7 = .ok (.aload_n 0, 1) := by decide +kernel
theorem d4_8 : decode jdk_42_method_56_code 8 = .ok (.getfield 9, 3) := by decide +kernel
theorem d4_11 : decode jdk_42_method_56_code 11 = .ok (.iload_n 1, 1) := by decide +kernel
theorem d4_12 : decode jdk_42_method_56_code 12 = .ok (.invokestatic 495, 3) := by decide +kernel
theorem pd_79 : parseMethodDescriptor "([BI)C" = some ⟨[(.array .byte), .int], some .char⟩ := by decide +kernel
theorem d4_15 : decode jdk_42_method_56_code 15 = .ok (.ireturn, 1) := by decide +kernel
def f4 (x : Int32) : Int32 := (f6 x)
def Q4 (Z : State) (n0 : Nat) (a0 : Addr) (p1 : Int32) (s_COMPACT_STRINGS : Int32) (s_SIOOBE_FORMATTER : Value) (w_a0_value : Addr) (k_w_a0_value : ClassId) (n_w_a0_value : Int32) (vs_w_a0_value : List Value) (x : Int32) (h0 : Heap) (v : Option Value) (h : Heap) (L : List Loc) : Prop := v = some (.int (f4 x)) ∧ Fr n0 L ∧ h = h0
theorem ef4 (m : MethodId) (a0 : Addr) (p1 : Int32) : entryFrame m #[(.ref a0), (.int p1)] 2 = mkF m 0 #[.val (.ref a0), .val (.int p1)] [] := by first | (simp [entryFrame, mkF, argsToLocals, Value.category]; done) | rfl
set_option maxRecDepth 65536 in
set_option maxHeartbeats 40000000 in
theorem rm4 (l : Launch) (Z : State) (aZ : Array Value) (hw : ∀ d ∈ tables_1, d.before aZ Z = true) (ws : List Jvm.Cond) (a0 : Addr) (p1 : Int32) (s_COMPACT_STRINGS : Int32) (s_SIOOBE_FORMATTER : Value) (w_a0_value : Addr) (k_w_a0_value : ClassId) (n_w_a0_value : Int32) (vs_w_a0_value : List Value) (x : Int32) (h0 : Heap) (n0 : Nat) (Z0 : n0 ≤ h0.size) (E_a0 : Exa Z h0 a0 "java/lang/String") (S_COMPACT_STRINGS : Sta Z h0 "java/lang/String" "COMPACT_STRINGS" "Z" (.int s_COMPACT_STRINGS)) (S_SIOOBE_FORMATTER : Sta Z h0 "jdk/internal/util/Preconditions" "SIOOBE_FORMATTER" "Ljava/util/function/BiFunction;" s_SIOOBE_FORMATTER) (rS_SIOOBE_FORMATTER : s_SIOOBE_FORMATTER.isRef = true) (F_a0_coder : Fld Z h0 a0 "java/lang/String" "coder" "B" (.int (0 : Int32))) (F_a0_value : Fld Z h0 a0 "java/lang/String" "value" "[B" (.ref w_a0_value)) (V_w_a0_value : Arv Z h0 w_a0_value k_w_a0_value .byte n_w_a0_value vs_w_a0_value (.int (0 : Int32))) (hcs : ¬ s_COMPACT_STRINGS = (0 : Int32)) (hn : ¬ p1 < (0 : Int32)) (hl : p1 < n_w_a0_value) (hel : vs_w_a0_value.getD p1.toNatClampNeg (.int (0 : Int32)) = .int x) :
    MetFree l (⟨"java/lang/String", "charAt", "(I)C"⟩ : MethodName) (head1 (Jvm.Cond.code (⟨"java/lang/String", "charAt", "(I)C"⟩ : MethodName) jdk_42_method_56_code 2 (some .char) :: ws) ({ frames := 3, cells := 0, slots := 0, locals := 40 } : Room)) (fun a U => a = #[(.ref a0), (.int p1)] ∧ Z.Warmed39 U.vm ∧ U.heap = h0) (fun _ _ _ _ _ => True) (fun _ U o U' => ∃ v L, o = .returned v ∧ Q4 Z n0 a0 p1 s_COMPACT_STRINGS s_SIOOBE_FORMATTER w_a0_value k_w_a0_value n_w_a0_value vs_w_a0_value x h0 v U'.heap L ∧ FrameEnd U o U' L ({ frames := 3, cells := 0, slots := 0, locals := 40 } : Room).cells ({ frames := 3, cells := 0, slots := 0, locals := 40 } : Room).slots) := by
  refine MetFree.of_bodySF (plainFor_of_name pn_48) hisR ?_
  intro p e s m args below meth c s₁ Bd hml0 hP hK
  obtain ⟨rfl, hZ, hh⟩ := hP
  have hx := Bd.exec
  have hby := Bd.bytes
  have hml : c.maxLocals = 2 := hml0
  have hown : s.vm.findClass "java/lang/String" = some m.cls := findClass_of_methodNamed Bd.named
  have hnm := (name_of_methodNamed Bd.named Bd.method).1
  have X0 : Stand p l e ({ frames := 3, cells := 0, slots := 0, locals := 40 } : Room) s m #[(.ref a0), (.int p1)] below meth c s₁ [] 0 0 := Stand.of_body Bd
  have e0 : s₁.heap = h0 := by rw [← hh, Bd.state]; rfl
  have N0 := Fr.nil n0
  have K0 : Keep h0 h0 [] := Keep.refl _ _
  have go0 : ∀ t, Steps p.tables e below (s₁.setTop (mkF m 0 #[.val (.ref a0), .val (.int p1)] [])) t → Steps p.tables e below (s₁.setTop (entryFrame m #[(.ref a0), (.int p1)] 2)) t := fun t k => castTop (ef4 m a0 p1) k
  have go1 : ∀ t, Steps p.tables e below (s₁.setTop (mkF m 1 #[.val (.ref a0), .val (.int p1)] [(.ref a0)])) t → Steps p.tables e below (s₁.setTop (entryFrame m #[(.ref a0), (.int p1)] 2)) t := by
    intro t k
    refine go0 _ ?_
    refine XS.aloadN X0.here hx rfl (hb hby d4_0) rfl rfl ?_
    show Steps p.tables e below (s₁.setTop (mkF m 1 #[.val (.ref a0), .val (.int p1)] [(.ref a0)])) t
    exact k
  obtain ⟨cq2, kq2, q2a, q2b, q2c⟩ := isOf hZ e0 E_a0
  obtain ⟨_, _, ⟨T2, L2, k2, n2⟩, -, X2, ⟨Lc2, hQ2, l2, y2, z2⟩, st2⟩ := X0.virtualBack hx (y := (⟨"java/lang/String", "isLatin1", "()Z"⟩ : MethodName)) (z := (⟨"java/lang/String", "isLatin1", "()Z"⟩ : MethodName)) hown (mvT hZ (hw _ (List.mem_of_getElem? (i := 26) rfl))) (mvT hZ (hw _ (List.mem_of_getElem? (i := 27) rfl))) (notFace_of_selects (args := #[]) (mvT hZ (hw _ (List.mem_of_getElem? (i := 29) rfl)))) (mvT hZ (hw _ (List.mem_of_getElem? (i := 29) rfl))) (mvT hZ (hw _ (List.mem_of_getElem? (i := 28) rfl))) (by decide) (backOf (W := 0) (rm5 l Z aZ hw [] a0 s_COMPACT_STRINGS h0 n0 Z0 S_COMPACT_STRINGS F_a0_coder hcs) hZ (hw _ (List.mem_of_getElem? (i := 30) rfl)) (hw _ (List.mem_of_getElem? (i := 24) rfl)) (by decide) (by decide)) q2a q2c (g := (mkF m 1 #[.val (.ref a0), .val (.int p1)] [(.ref a0)])) rfl (by rw [hml]; rfl) (Steps.refl _) (argsL := []) (rest := []) (lenOf pd_73 rfl) rfl (by show 2 * 0 + _ ≤ _; exact Nat.le_of_eq rfl) (hb hby d4_1) (fun _ _ => ⟨rfl, e0, (by decide : 0 + 0 ≤ _), (by decide : 0 + 0 ≤ _)⟩)
  dsimp only [Pt.U, Pt.locs, Pt.cells, Pt.slots] at X2 l2 y2 z2 st2 hQ2
  subst l2 y2 z2
  obtain ⟨rfl, N2q, e2⟩ := hQ2
  have N2 := Fr.app N0 N2q
  have go3 : ∀ t, Steps p.tables e below (T2.setTop (mkF m 4 #[.val (.ref a0), .val (.int p1)] [(.int (1 : Int32))])) t → Steps p.tables e below (s₁.setTop (entryFrame m #[(.ref a0), (.int p1)] 2)) t := fun t k => go1 _ (st2.trans k)
  have go4 : ∀ t, Steps p.tables e below (T2.setTop (mkF m 8 #[.val (.ref a0), .val (.int p1)] [(.ref a0)])) t → Steps p.tables e below (s₁.setTop (entryFrame m #[(.ref a0), (.int p1)] 2)) t := by
    intro t k
    refine go3 _ ?_
    refine XS.ifNo X2.here hx rfl (hb hby d4_4) rfl (XT.i0_eq_f (by decide : ¬ ((1 : Int32) = (0 : Int32)))) ?_
    show Steps p.tables e below (T2.setTop (mkF m 7 #[.val (.ref a0), .val (.int p1)] [])) t
    refine XS.aloadN X2.here hx rfl (hb hby d4_7) rfl rfl ?_
    show Steps p.tables e below (T2.setTop (mkF m 8 #[.val (.ref a0), .val (.int p1)] [(.ref a0)])) t
    exact k
  obtain ⟨T5, X5, e5, st5⟩ := getF X2 hx hZ hown (host := "") (Or.inl (hw _ (List.mem_of_getElem? (i := 34) rfl))) Via.refl e2 F_a0_value (g := (mkF m 8 #[.val (.ref a0), .val (.int p1)] [(.ref a0)])) rfl rfl (hb hby d4_8)
  have go6 : ∀ t, Steps p.tables e below (T5.setTop (mkF m 11 #[.val (.ref a0), .val (.int p1)] [(.ref w_a0_value)])) t → Steps p.tables e below (s₁.setTop (entryFrame m #[(.ref a0), (.int p1)] 2)) t := fun t k => go4 _ (st5 _ k)
  have go7 : ∀ t, Steps p.tables e below (T5.setTop (mkF m 12 #[.val (.ref a0), .val (.int p1)] [(.int p1), (.ref w_a0_value)])) t → Steps p.tables e below (s₁.setTop (entryFrame m #[(.ref a0), (.int p1)] 2)) t := by
    intro t k
    refine go6 _ ?_
    refine XS.iloadN X5.here hx rfl (hb hby d4_11) rfl ?_
    show Steps p.tables e below (T5.setTop (mkF m 12 #[.val (.ref a0), .val (.int p1)] [(.int p1), (.ref w_a0_value)])) t
    exact k
  obtain ⟨_, _, ⟨T8, L8, k8, n8⟩, -, X8, ⟨Lc8, hQ8, l8, y8, z8⟩, st8⟩ := Jvm.LawKit.callS X5 hx (y := (⟨"java/lang/StringLatin1", "charAt", "([BI)C"⟩ : MethodName)) hown (mvT hZ (hw _ (List.mem_of_getElem? (i := 36) rfl))) (mvT hZ (hw _ (List.mem_of_getElem? (i := 37) rfl))) (mvT hZ (hw _ (List.mem_of_getElem? (i := 38) rfl))) (mvT hZ (hw _ (List.mem_of_getElem? (i := 39) rfl))) (by decide) (backOf (W := 0) (rm6 l Z aZ hw [] w_a0_value p1 k_w_a0_value n_w_a0_value vs_w_a0_value s_SIOOBE_FORMATTER x h0 n0 Z0 V_w_a0_value S_SIOOBE_FORMATTER rS_SIOOBE_FORMATTER hn hl hel) hZ (hw _ (List.mem_of_getElem? (i := 39) rfl)) (hw _ (List.mem_of_getElem? (i := 38) rfl)) (by decide) (by decide)) (g := (mkF m 12 #[.val (.ref a0), .val (.int p1)] [(.int p1), (.ref w_a0_value)])) rfl (by rw [hml]; rfl) (argsL := [(.ref w_a0_value), (.int p1)]) (rest := []) (lenOf pd_79 rfl) rfl (by show 2 * 0 + _ ≤ _; exact Nat.le_of_eq rfl) (hb hby d4_12) (fun _ _ => ⟨rfl, e5, (by decide : 0 + 0 ≤ _), (by decide : 0 + 0 ≤ _)⟩)
  dsimp only [Pt.U, Pt.locs, Pt.cells, Pt.slots] at X8 l8 y8 z8 st8 hQ8
  subst l8 y8 z8
  obtain ⟨rfl, N8q, e8⟩ := hQ8
  have N8 := Fr.app N2 N8q
  have go9 : ∀ t, Steps p.tables e below (T8.setTop (mkF m 15 #[.val (.ref a0), .val (.int p1)] [(.int (f6 x))])) t → Steps p.tables e below (s₁.setTop (entryFrame m #[(.ref a0), (.int p1)] 2)) t := fun t k => go7 _ (st8 _ k)
  obtain ⟨fs, hr, hrun, hended, hW, hsame⟩ := X8.leave (v := some (.int (f6 x))) (fun h => by rw [Bd.returns] at h; cases h)
  refine ⟨_, _, go9 _ (Jvm.RoadKit.retOut X8 hx Bd.returns (XT.narrow_c _) (Or.inl ⟨rfl, Or.inr (Or.inr (Or.inr (Or.inl rfl))), _, rfl⟩) (hb hby d4_15) hr), hrun, hended, _, _, rfl, ?_, ⟨_, rfl⟩, hW, hsame.mono (by decide) (by decide)⟩
  show Q4 _ _ a0 p1 s_COMPACT_STRINGS s_SIOOBE_FORMATTER w_a0_value k_w_a0_value n_w_a0_value vs_w_a0_value x h0 _ (T8.setFrames fs).heap _
  have hE : (T8.setFrames fs).heap = h0 := e8
  rw [hE]
  exact ⟨by rw [f4], N8, rfl⟩
theorem d3_0 : decode prog_7_method_7_code 0 = .ok (.aload_n 0, 1) := by decide +kernel
theorem d3_1 : decode prog_7_method_7_code 1 = .ok (.getfield 38, 3) := by decide +kernel
theorem d3_4 : decode prog_7_method_7_code 4 = .ok (.iconst 0, 1) := by decide +kernel
theorem d3_5 : decode prog_7_method_7_code 5 = .ok (.invokevirtual 74, 3) := by decide +kernel
theorem pd_85 : parseMethodDescriptor "(I)C" = some ⟨[.int], some .char⟩ := by decide +kernel
theorem d3_8 : decode prog_7_method_7_code 8 = .ok (.aload_n 1, 1) := by decide +kernel
theorem d3_9 : decode prog_7_method_7_code 9 = .ok (.getfield 38, 3) := by decide +kernel
theorem d3_12 : decode prog_7_method_7_code 12 = .ok (.iconst 0, 1) := by decide +kernel
theorem d3_13 : decode prog_7_method_7_code 13 = .ok (.invokevirtual 74, 3) := by decide +kernel
theorem d3_16 : decode prog_7_method_7_code 16 = .ok (.if_icmp .lt 7, 3) := by decide +kernel
theorem d3_23 : decode prog_7_method_7_code 23 = .ok (.iconst 0, 1) := by decide +kernel
theorem d3_19 : decode prog_7_method_7_code 19 = .ok (.iconst 1, 1) := by decide +kernel
theorem d3_20 : decode prog_7_method_7_code 20 = .ok (.goto 4, 3) := by decide +kernel
theorem d3_24 : decode prog_7_method_7_code 24 = .ok (.ireturn, 1) := by decide +kernel
theorem pn_96 : plainName "com/example/hauora_id/hauoraid/model/ConfidenceLevel" = true := by first | (simp [plainName, overriddenIn]; done) | decide +kernel
def b3_15 (x0 : Int32) (x1 : Int32) : Int32 := (if (f4 x0) < (f4 x1) then (0 : Int32) else (1 : Int32))
def f3 (x0 : Int32) (x1 : Int32) : Int32 := (b3_15 x0 x1)
def Q3 (Z : State) (n0 : Nat) (a0 : Addr) (a1 : Addr) (s_COMPACT_STRINGS : Int32) (s_SIOOBE_FORMATTER : Value) (w_a0_value : Addr) (w_w_a0_value_value : Addr) (k_w_w_a0_value_value : ClassId) (n_w_w_a0_value_value : Int32) (vs_w_w_a0_value_value : List Value) (x0 : Int32) (w_a1_value : Addr) (w_w_a1_value_value : Addr) (k_w_w_a1_value_value : ClassId) (n_w_w_a1_value_value : Int32) (vs_w_w_a1_value_value : List Value) (x1 : Int32) (h0 : Heap) (v : Option Value) (h : Heap) (L : List Loc) : Prop := v = some (.int (f3 x0 x1)) ∧ Fr n0 L ∧ h = h0
theorem ef3 (m : MethodId) (a0 : Addr) (a1 : Addr) : entryFrame m #[(.ref a0), (.ref a1)] 2 = mkF m 0 #[.val (.ref a0), .val (.ref a1)] [] := by first | (simp [entryFrame, mkF, argsToLocals, Value.category]; done) | rfl
set_option maxRecDepth 65536 in
set_option maxHeartbeats 40000000 in
theorem rm3 (l : Launch) (Z : State) (aZ : Array Value) (hw : ∀ d ∈ tables_1, d.before aZ Z = true) (ws : List Jvm.Cond) (a0 : Addr) (a1 : Addr) (s_COMPACT_STRINGS : Int32) (s_SIOOBE_FORMATTER : Value) (w_a0_value : Addr) (w_w_a0_value_value : Addr) (k_w_w_a0_value_value : ClassId) (n_w_w_a0_value_value : Int32) (vs_w_w_a0_value_value : List Value) (x0 : Int32) (w_a1_value : Addr) (w_w_a1_value_value : Addr) (k_w_w_a1_value_value : ClassId) (n_w_w_a1_value_value : Int32) (vs_w_w_a1_value_value : List Value) (x1 : Int32) (h0 : Heap) (n0 : Nat) (Z0 : n0 ≤ h0.size) (S_COMPACT_STRINGS : Sta Z h0 "java/lang/String" "COMPACT_STRINGS" "Z" (.int s_COMPACT_STRINGS)) (S_SIOOBE_FORMATTER : Sta Z h0 "jdk/internal/util/Preconditions" "SIOOBE_FORMATTER" "Ljava/util/function/BiFunction;" s_SIOOBE_FORMATTER) (rS_SIOOBE_FORMATTER : s_SIOOBE_FORMATTER.isRef = true) (hcs : ¬ s_COMPACT_STRINGS = (0 : Int32)) (F_a0_value : Fld Z h0 a0 "com/example/hauora_id/hauoraid/model/ConfidenceLevel" "value" "Ljava/lang/String;" (.ref w_a0_value)) (E_w_a0_value : Exa Z h0 w_a0_value "java/lang/String") (F_w_a0_value_coder : Fld Z h0 w_a0_value "java/lang/String" "coder" "B" (.int (0 : Int32))) (F_w_a0_value_value : Fld Z h0 w_a0_value "java/lang/String" "value" "[B" (.ref w_w_a0_value_value)) (V_w_w_a0_value_value : Arv Z h0 w_w_a0_value_value k_w_w_a0_value_value .byte n_w_w_a0_value_value vs_w_w_a0_value_value (.int (0 : Int32))) (hl0 : (0 : Int32) < n_w_w_a0_value_value) (hel0 : vs_w_w_a0_value_value.getD (0 : Int32).toNatClampNeg (.int (0 : Int32)) = .int x0) (F_a1_value : Fld Z h0 a1 "com/example/hauora_id/hauoraid/model/ConfidenceLevel" "value" "Ljava/lang/String;" (.ref w_a1_value)) (E_w_a1_value : Exa Z h0 w_a1_value "java/lang/String") (F_w_a1_value_coder : Fld Z h0 w_a1_value "java/lang/String" "coder" "B" (.int (0 : Int32))) (F_w_a1_value_value : Fld Z h0 w_a1_value "java/lang/String" "value" "[B" (.ref w_w_a1_value_value)) (V_w_w_a1_value_value : Arv Z h0 w_w_a1_value_value k_w_w_a1_value_value .byte n_w_w_a1_value_value vs_w_w_a1_value_value (.int (0 : Int32))) (hl1 : (0 : Int32) < n_w_w_a1_value_value) (hel1 : vs_w_w_a1_value_value.getD (0 : Int32).toNatClampNeg (.int (0 : Int32)) = .int x1) :
    MetFree l (⟨"com/example/hauora_id/hauoraid/model/ConfidenceLevel", "atLeast", "(Lcom/example/hauora_id/hauoraid/model/ConfidenceLevel;)Z"⟩ : MethodName) (head1 (Jvm.Cond.code (⟨"com/example/hauora_id/hauoraid/model/ConfidenceLevel", "atLeast", "(Lcom/example/hauora_id/hauoraid/model/ConfidenceLevel;)Z"⟩ : MethodName) prog_7_method_7_code 2 (some .boolean) :: ws) ({ frames := 4, cells := 0, slots := 0, locals := 54 } : Room)) (fun a U => a = #[(.ref a0), (.ref a1)] ∧ Z.Warmed39 U.vm ∧ U.heap = h0) (fun _ _ _ _ _ => True) (fun _ U o U' => ∃ v L, o = .returned v ∧ Q3 Z n0 a0 a1 s_COMPACT_STRINGS s_SIOOBE_FORMATTER w_a0_value w_w_a0_value_value k_w_w_a0_value_value n_w_w_a0_value_value vs_w_w_a0_value_value x0 w_a1_value w_w_a1_value_value k_w_w_a1_value_value n_w_w_a1_value_value vs_w_w_a1_value_value x1 h0 v U'.heap L ∧ FrameEnd U o U' L ({ frames := 4, cells := 0, slots := 0, locals := 54 } : Room).cells ({ frames := 4, cells := 0, slots := 0, locals := 54 } : Room).slots) := by
  refine MetFree.of_bodySF (plainFor_of_name pn_96) hisR ?_
  intro p e s m args below meth c s₁ Bd hml0 hP hK
  obtain ⟨rfl, hZ, hh⟩ := hP
  have hx := Bd.exec
  have hby := Bd.bytes
  have hml : c.maxLocals = 2 := hml0
  have hown : s.vm.findClass "com/example/hauora_id/hauoraid/model/ConfidenceLevel" = some m.cls := findClass_of_methodNamed Bd.named
  have hnm := (name_of_methodNamed Bd.named Bd.method).1
  have X0 : Stand p l e ({ frames := 4, cells := 0, slots := 0, locals := 54 } : Room) s m #[(.ref a0), (.ref a1)] below meth c s₁ [] 0 0 := Stand.of_body Bd
  have e0 : s₁.heap = h0 := by rw [← hh, Bd.state]; rfl
  have N0 := Fr.nil n0
  have K0 : Keep h0 h0 [] := Keep.refl _ _
  have go0 : ∀ t, Steps p.tables e below (s₁.setTop (mkF m 0 #[.val (.ref a0), .val (.ref a1)] [])) t → Steps p.tables e below (s₁.setTop (entryFrame m #[(.ref a0), (.ref a1)] 2)) t := fun t k => castTop (ef3 m a0 a1) k
  have go1 : ∀ t, Steps p.tables e below (s₁.setTop (mkF m 1 #[.val (.ref a0), .val (.ref a1)] [(.ref a0)])) t → Steps p.tables e below (s₁.setTop (entryFrame m #[(.ref a0), (.ref a1)] 2)) t := by
    intro t k
    refine go0 _ ?_
    refine XS.aloadN X0.here hx rfl (hb hby d3_0) rfl rfl ?_
    show Steps p.tables e below (s₁.setTop (mkF m 1 #[.val (.ref a0), .val (.ref a1)] [(.ref a0)])) t
    exact k
  obtain ⟨T2, X2, e2, st2⟩ := getF X0 hx hZ hown (host := "") (Or.inl (hw _ (List.mem_of_getElem? (i := 18) rfl))) Via.refl e0 F_a0_value (g := (mkF m 1 #[.val (.ref a0), .val (.ref a1)] [(.ref a0)])) rfl rfl (hb hby d3_1)
  have go3 : ∀ t, Steps p.tables e below (T2.setTop (mkF m 4 #[.val (.ref a0), .val (.ref a1)] [(.ref w_a0_value)])) t → Steps p.tables e below (s₁.setTop (entryFrame m #[(.ref a0), (.ref a1)] 2)) t := fun t k => go1 _ (st2 _ k)
  have go4 : ∀ t, Steps p.tables e below (T2.setTop (mkF m 5 #[.val (.ref a0), .val (.ref a1)] [(.int (0 : Int32)), (.ref w_a0_value)])) t → Steps p.tables e below (s₁.setTop (entryFrame m #[(.ref a0), (.ref a1)] 2)) t := by
    intro t k
    refine go3 _ ?_
    refine XS.iconst X2.here hx rfl (hb hby d3_4) ?_
    show Steps p.tables e below (T2.setTop (mkF m 5 #[.val (.ref a0), .val (.ref a1)] [(.int (0 : Int32)), (.ref w_a0_value)])) t
    exact k
  obtain ⟨cq5, kq5, q5a, q5b, q5c⟩ := isOf hZ e2 E_w_a0_value
  obtain ⟨_, _, ⟨T5, L5, k5, n5⟩, -, X5, ⟨Lc5, hQ5, l5, y5, z5⟩, st5⟩ := X2.virtualBack hx (y := (⟨"java/lang/String", "charAt", "(I)C"⟩ : MethodName)) (z := (⟨"java/lang/String", "charAt", "(I)C"⟩ : MethodName)) hown (mvT hZ (hw _ (List.mem_of_getElem? (i := 20) rfl))) (mvT hZ (hw _ (List.mem_of_getElem? (i := 21) rfl))) (notFace_of_selects (args := #[]) (mvT hZ (hw _ (List.mem_of_getElem? (i := 23) rfl)))) (mvT hZ (hw _ (List.mem_of_getElem? (i := 23) rfl))) (mvT hZ (hw _ (List.mem_of_getElem? (i := 22) rfl))) (by decide) (backOf (W := 0) (rm4 l Z aZ hw [] w_a0_value (0 : Int32) s_COMPACT_STRINGS s_SIOOBE_FORMATTER w_w_a0_value_value k_w_w_a0_value_value n_w_w_a0_value_value vs_w_w_a0_value_value x0 h0 n0 Z0 E_w_a0_value S_COMPACT_STRINGS S_SIOOBE_FORMATTER rS_SIOOBE_FORMATTER F_w_a0_value_coder F_w_a0_value_value V_w_w_a0_value_value hcs (by decide) hl0 hel0) hZ (hw _ (List.mem_of_getElem? (i := 25) rfl)) (hw _ (List.mem_of_getElem? (i := 24) rfl)) (by decide) (by decide)) q5a q5c (g := (mkF m 5 #[.val (.ref a0), .val (.ref a1)] [(.int (0 : Int32)), (.ref w_a0_value)])) rfl (by rw [hml]; rfl) (Steps.refl _) (argsL := [(.int (0 : Int32))]) (rest := []) (lenOf pd_85 rfl) rfl (by show 2 * 0 + _ ≤ _; exact Nat.le_of_eq rfl) (hb hby d3_5) (fun _ _ => ⟨rfl, e2, (by decide : 0 + 0 ≤ _), (by decide : 0 + 0 ≤ _)⟩)
  dsimp only [Pt.U, Pt.locs, Pt.cells, Pt.slots] at X5 l5 y5 z5 st5 hQ5
  subst l5 y5 z5
  obtain ⟨rfl, N5q, e5⟩ := hQ5
  have N5 := Fr.app N0 N5q
  have go6 : ∀ t, Steps p.tables e below (T5.setTop (mkF m 8 #[.val (.ref a0), .val (.ref a1)] [(.int (f4 x0))])) t → Steps p.tables e below (s₁.setTop (entryFrame m #[(.ref a0), (.ref a1)] 2)) t := fun t k => go4 _ (st5.trans k)
  have go7 : ∀ t, Steps p.tables e below (T5.setTop (mkF m 9 #[.val (.ref a0), .val (.ref a1)] [(.ref a1), (.int (f4 x0))])) t → Steps p.tables e below (s₁.setTop (entryFrame m #[(.ref a0), (.ref a1)] 2)) t := by
    intro t k
    refine go6 _ ?_
    refine XS.aloadN X5.here hx rfl (hb hby d3_8) rfl rfl ?_
    show Steps p.tables e below (T5.setTop (mkF m 9 #[.val (.ref a0), .val (.ref a1)] [(.ref a1), (.int (f4 x0))])) t
    exact k
  obtain ⟨T8, X8, e8, st8⟩ := getF X5 hx hZ hown (host := "") (Or.inl (hw _ (List.mem_of_getElem? (i := 18) rfl))) Via.refl e5 F_a1_value (g := (mkF m 9 #[.val (.ref a0), .val (.ref a1)] [(.ref a1), (.int (f4 x0))])) rfl rfl (hb hby d3_9)
  have go9 : ∀ t, Steps p.tables e below (T8.setTop (mkF m 12 #[.val (.ref a0), .val (.ref a1)] [(.ref w_a1_value), (.int (f4 x0))])) t → Steps p.tables e below (s₁.setTop (entryFrame m #[(.ref a0), (.ref a1)] 2)) t := fun t k => go7 _ (st8 _ k)
  have go10 : ∀ t, Steps p.tables e below (T8.setTop (mkF m 13 #[.val (.ref a0), .val (.ref a1)] [(.int (0 : Int32)), (.ref w_a1_value), (.int (f4 x0))])) t → Steps p.tables e below (s₁.setTop (entryFrame m #[(.ref a0), (.ref a1)] 2)) t := by
    intro t k
    refine go9 _ ?_
    refine XS.iconst X8.here hx rfl (hb hby d3_12) ?_
    show Steps p.tables e below (T8.setTop (mkF m 13 #[.val (.ref a0), .val (.ref a1)] [(.int (0 : Int32)), (.ref w_a1_value), (.int (f4 x0))])) t
    exact k
  obtain ⟨cq11, kq11, q11a, q11b, q11c⟩ := isOf hZ e8 E_w_a1_value
  obtain ⟨_, _, ⟨T11, L11, k11, n11⟩, -, X11, ⟨Lc11, hQ11, l11, y11, z11⟩, st11⟩ := X8.virtualBack hx (y := (⟨"java/lang/String", "charAt", "(I)C"⟩ : MethodName)) (z := (⟨"java/lang/String", "charAt", "(I)C"⟩ : MethodName)) hown (mvT hZ (hw _ (List.mem_of_getElem? (i := 20) rfl))) (mvT hZ (hw _ (List.mem_of_getElem? (i := 21) rfl))) (notFace_of_selects (args := #[]) (mvT hZ (hw _ (List.mem_of_getElem? (i := 23) rfl)))) (mvT hZ (hw _ (List.mem_of_getElem? (i := 23) rfl))) (mvT hZ (hw _ (List.mem_of_getElem? (i := 22) rfl))) (by decide) (backOf (W := 1) (rm4 l Z aZ hw [] w_a1_value (0 : Int32) s_COMPACT_STRINGS s_SIOOBE_FORMATTER w_w_a1_value_value k_w_w_a1_value_value n_w_w_a1_value_value vs_w_w_a1_value_value x1 h0 n0 Z0 E_w_a1_value S_COMPACT_STRINGS S_SIOOBE_FORMATTER rS_SIOOBE_FORMATTER F_w_a1_value_coder F_w_a1_value_value V_w_w_a1_value_value hcs (by decide) hl1 hel1) hZ (hw _ (List.mem_of_getElem? (i := 25) rfl)) (hw _ (List.mem_of_getElem? (i := 24) rfl)) (by decide) (by decide)) q11a q11c (g := (mkF m 13 #[.val (.ref a0), .val (.ref a1)] [(.int (0 : Int32)), (.ref w_a1_value), (.int (f4 x0))])) rfl (by rw [hml]; rfl) (Steps.refl _) (argsL := [(.int (0 : Int32))]) (rest := [(.int (f4 x0))]) (lenOf pd_85 rfl) rfl (by show 2 * 0 + _ ≤ _; exact Nat.le_of_eq rfl) (hb hby d3_13) (fun _ _ => ⟨rfl, e8, (by decide : 0 + 0 ≤ _), (by decide : 0 + 0 ≤ _)⟩)
  dsimp only [Pt.U, Pt.locs, Pt.cells, Pt.slots] at X11 l11 y11 z11 st11 hQ11
  subst l11 y11 z11
  obtain ⟨rfl, N11q, e11⟩ := hQ11
  have N11 := Fr.app N5 N11q
  have go12 : ∀ t, Steps p.tables e below (T11.setTop (mkF m 16 #[.val (.ref a0), .val (.ref a1)] [(.int (f4 x1)), (.int (f4 x0))])) t → Steps p.tables e below (s₁.setTop (entryFrame m #[(.ref a0), (.ref a1)] 2)) t := fun t k => go10 _ (st11.trans k)
  have go14 : ∀ t, Steps p.tables e below (T11.setTop (mkF m 24 #[.val (.ref a0), .val (.ref a1)] [(.int (b3_15 x0 x1))])) t → Steps p.tables e below (s₁.setTop (entryFrame m #[(.ref a0), (.ref a1)] 2)) t := by
    intro t k
    refine go12 _ ?_
    by_cases hc13 : (f4 x0) < (f4 x1)
    · refine XS.icmpYes X11.here hx rfl (pc0 := 16) (pc' := 23) rfl (hb hby d3_16) rfl (XT.ii_lt_t hc13) (by decide) (by decide) ?_
      show Steps p.tables e below (T11.setTop (mkF m 23 #[.val (.ref a0), .val (.ref a1)] [])) t
      refine XS.iconst X11.here hx rfl (hb hby d3_23) ?_
      show Steps p.tables e below (T11.setTop (mkF m 24 #[.val (.ref a0), .val (.ref a1)] [(.int (0 : Int32))])) t
      have hq16 : (b3_15 x0 x1) = (0 : Int32) := by rw [b3_15, if_pos hc13]
      rw [hq16] at k
      exact k
    · refine XS.icmpNo X11.here hx rfl (hb hby d3_16) rfl (XT.ii_lt_f hc13) ?_
      show Steps p.tables e below (T11.setTop (mkF m 19 #[.val (.ref a0), .val (.ref a1)] [])) t
      refine XS.iconst X11.here hx rfl (hb hby d3_19) ?_
      show Steps p.tables e below (T11.setTop (mkF m 20 #[.val (.ref a0), .val (.ref a1)] [(.int (1 : Int32))])) t
      refine XS.goto X11.here hx rfl (pc0 := 20) (pc' := 24) rfl (hb hby d3_20) (by decide) (by decide) ?_
      show Steps p.tables e below (T11.setTop (mkF m 24 #[.val (.ref a0), .val (.ref a1)] [(.int (1 : Int32))])) t
      have hq17 : (b3_15 x0 x1) = (1 : Int32) := by rw [b3_15, if_neg hc13]
      rw [hq17] at k
      exact k
  obtain ⟨fs, hr, hrun, hended, hW, hsame⟩ := X11.leave (v := some (.int (b3_15 x0 x1))) (fun h => by rw [Bd.returns] at h; cases h)
  refine ⟨_, _, go14 _ (Jvm.RoadKit.retOut X11 hx Bd.returns (own_nz (by unfold b3_15; (repeat' split) <;> first | exact Or.inl rfl | exact Or.inr rfl)) (Or.inl ⟨rfl, Or.inr (Or.inl rfl), _, rfl⟩) (hb hby d3_24) hr), hrun, hended, _, _, rfl, ?_, ⟨_, rfl⟩, hW, hsame.mono (by decide) (by decide)⟩
  show Q3 _ _ a0 a1 s_COMPACT_STRINGS s_SIOOBE_FORMATTER w_a0_value w_w_a0_value_value k_w_w_a0_value_value n_w_w_a0_value_value vs_w_w_a0_value_value x0 w_a1_value w_w_a1_value_value k_w_w_a1_value_value n_w_w_a1_value_value vs_w_w_a1_value_value x1 h0 _ (T11.setFrames fs).heap _
  have hE : (T11.setFrames fs).heap = h0 := e11
  rw [hE]
  exact ⟨by rw [f3], N11, rfl⟩
theorem own_dead5 (x : Int32) (h0 : ¬ (x &&& 2147483647) % 5 = 0) (h1 : ¬ (x &&& 2147483647) % 5 = 1) (h2 : ¬ (x &&& 2147483647) % 5 = 2) (h3 : ¬ (x &&& 2147483647) % 5 = 3) (h4 : ¬ (x &&& 2147483647) % 5 = 4) : False := by
  have hm := c_mask x 2147483647 31 (by decide) (by decide)
  have hr := (c_irem (x &&& 2147483647) 5 5 (by decide)).1 (by omega)
  have g0 := own_ne 0 rfl h0
  have g1 := own_ne 1 rfl h1
  have g2 := own_ne 2 rfl h2
  have g3 := own_ne 3 rfl h3
  have g4 := own_ne 4 rfl h4
  omega
theorem pd_99 : parseMethodDescriptor "(I)Lcom/example/hauora_id/hauoraid/model/ConfidenceLevel;" = some ⟨[.int], some (.object "com/example/hauora_id/hauoraid/model/ConfidenceLevel")⟩ := by decide +kernel
theorem pd_100 : parseMethodDescriptor "(I)I" = some ⟨[.int], some .int⟩ := by decide +kernel
theorem pd_101 : parseMethodDescriptor "(Lcom/example/hauora_id/hauoraid/model/ConfidenceLevel;)Z" = some ⟨[(.object "com/example/hauora_id/hauoraid/model/ConfidenceLevel")], some .boolean⟩ := by decide +kernel
def v0_1 (p0 : Int32) : Int32 := ((p0 &&& (2147483647 : Int32)) % (5 : Int32))
def v0_2 (p1 : Int32) : Int32 := ((p1 &&& (2147483647 : Int32)) % (5 : Int32))
def b0_25 : Int32 := (if (f3 (49 : Int32) (49 : Int32)) = (1 : Int32) then (1 : Int32) else (0 : Int32))
def b0_46 : Int32 := (if (f3 (49 : Int32) (50 : Int32)) = (0 : Int32) then (1 : Int32) else (0 : Int32))
def b0_87 : Int32 := (if (f3 (49 : Int32) (51 : Int32)) = (0 : Int32) then (1 : Int32) else (0 : Int32))
def b0_131 : Int32 := (if (f3 (50 : Int32) (49 : Int32)) = (1 : Int32) then (1 : Int32) else (0 : Int32))
def b0_152 : Int32 := (if (f3 (50 : Int32) (50 : Int32)) = (1 : Int32) then (1 : Int32) else (0 : Int32))
def b0_193 : Int32 := (if (f3 (50 : Int32) (51 : Int32)) = (0 : Int32) then (1 : Int32) else (0 : Int32))
def b0_340 : Int32 := (if (f3 (51 : Int32) (49 : Int32)) = (1 : Int32) then (1 : Int32) else (0 : Int32))
def b0_361 : Int32 := (if (f3 (51 : Int32) (50 : Int32)) = (1 : Int32) then (1 : Int32) else (0 : Int32))
def b0_402 : Int32 := (if (f3 (51 : Int32) (51 : Int32)) = (1 : Int32) then (1 : Int32) else (0 : Int32))
def f0 (p0 : Int32) (p1 : Int32) : Int32 := (if (v0_1 p0) = (0 : Int32) then (if (v0_2 p1) = (0 : Int32) then b0_25 else (if (v0_2 p1) = (1 : Int32) then b0_46 else (if (v0_2 p1) = (2 : Int32) then b0_46 else (if (v0_2 p1) = (3 : Int32) then b0_87 else (if (v0_2 p1) = (4 : Int32) then b0_87 else (1 : Int32)))))) else (if (v0_1 p0) = (1 : Int32) then (if (v0_2 p1) = (0 : Int32) then b0_131 else (if (v0_2 p1) = (1 : Int32) then b0_152 else (if (v0_2 p1) = (2 : Int32) then b0_152 else (if (v0_2 p1) = (3 : Int32) then b0_193 else (if (v0_2 p1) = (4 : Int32) then b0_193 else (1 : Int32)))))) else (if (v0_1 p0) = (2 : Int32) then (if (v0_2 p1) = (0 : Int32) then b0_131 else (if (v0_2 p1) = (1 : Int32) then b0_152 else (if (v0_2 p1) = (2 : Int32) then b0_152 else (if (v0_2 p1) = (3 : Int32) then b0_193 else (if (v0_2 p1) = (4 : Int32) then b0_193 else (1 : Int32)))))) else (if (v0_1 p0) = (3 : Int32) then (if (v0_2 p1) = (0 : Int32) then b0_340 else (if (v0_2 p1) = (1 : Int32) then b0_361 else (if (v0_2 p1) = (2 : Int32) then b0_361 else (if (v0_2 p1) = (3 : Int32) then b0_402 else (if (v0_2 p1) = (4 : Int32) then b0_402 else (1 : Int32)))))) else (if (v0_1 p0) = (4 : Int32) then (if (v0_2 p1) = (0 : Int32) then b0_340 else (if (v0_2 p1) = (1 : Int32) then b0_361 else (if (v0_2 p1) = (2 : Int32) then b0_361 else (if (v0_2 p1) = (3 : Int32) then b0_402 else (if (v0_2 p1) = (4 : Int32) then b0_402 else (1 : Int32)))))) else (1 : Int32))))))
theorem f0_one (p0 : Int32) (p1 : Int32) : f0 p0 p1 = 1 := by
  unfold f0; (repeat' split) <;> first | rfl | decide +kernel
def Q0 (Z : State) (n0 : Nat) (p0 : Int32) (p1 : Int32) (s_L1 : Addr) (s_L3 : Addr) (s_L1_value : Addr) (s_L1_value_value : Addr) (s_L3_value : Addr) (s_L3_value_value : Addr) (s_L3N : Addr) (s_L2 : Addr) (s_L3N_value : Addr) (s_L3N_value_value : Addr) (s_L2_value : Addr) (s_L2_value_value : Addr) (s_L2N : Addr) (s_L2N_value : Addr) (s_L2N_value_value : Addr) (k_s_L1_value_value : ClassId) (k_s_L3_value_value : ClassId) (k_s_L3N_value_value : ClassId) (k_s_L2_value_value : ClassId) (k_s_L2N_value_value : ClassId) (s_COMPACT_STRINGS : Int32) (s_SIOOBE_FORMATTER : Value) (h0 : Heap) (v : Option Value) (h : Heap) (L : List Loc) : Prop := v = some (.int 1) ∧ Fr n0 L
theorem ef0 (m : MethodId) (p0 : Int32) (p1 : Int32) : entryFrame m #[(.int p0), (.int p1)] maxLocals = mkF m 0 #[.val (.int p0), .val (.int p1), .unset, .unset, .unset, .unset, .unset] [] := by first | (simp [entryFrame, mkF, argsToLocals, Value.category, maxLocals]; done) | rfl
set_option maxRecDepth 65536 in
set_option maxHeartbeats 40000000 in
theorem rm0 (l : Launch) (Z : State) (aZ : Array Value) (hw : ∀ d ∈ tables_1, d.before aZ Z = true) (ws : List Jvm.Cond) (p0 : Int32) (p1 : Int32) (s_L1 : Addr) (s_L3 : Addr) (s_L1_value : Addr) (s_L1_value_value : Addr) (s_L3_value : Addr) (s_L3_value_value : Addr) (s_L3N : Addr) (s_L2 : Addr) (s_L3N_value : Addr) (s_L3N_value_value : Addr) (s_L2_value : Addr) (s_L2_value_value : Addr) (s_L2N : Addr) (s_L2N_value : Addr) (s_L2N_value_value : Addr) (k_s_L1_value_value : ClassId) (k_s_L3_value_value : ClassId) (k_s_L3N_value_value : ClassId) (k_s_L2_value_value : ClassId) (k_s_L2N_value_value : ClassId) (s_COMPACT_STRINGS : Int32) (s_SIOOBE_FORMATTER : Value) (h0 : Heap) (n0 : Nat) (Z0 : n0 ≤ h0.size) (S_L1 : Sta Z h0 "com/example/hauora_id/hauoraid/model/ConfidenceLevel" "L1" "Lcom/example/hauora_id/hauoraid/model/ConfidenceLevel;" (.ref s_L1)) (E_L1 : Exa Z h0 s_L1 "com/example/hauora_id/hauoraid/model/ConfidenceLevel") (S_L3 : Sta Z h0 "com/example/hauora_id/hauoraid/model/ConfidenceLevel" "L3" "Lcom/example/hauora_id/hauoraid/model/ConfidenceLevel;" (.ref s_L3)) (E_L3 : Exa Z h0 s_L3 "com/example/hauora_id/hauoraid/model/ConfidenceLevel") (F_L1_value : Fld Z h0 s_L1 "com/example/hauora_id/hauoraid/model/ConfidenceLevel" "value" "Ljava/lang/String;" (.ref s_L1_value)) (E_L1_value : Exa Z h0 s_L1_value "java/lang/String") (F_L1_value_coder : Fld Z h0 s_L1_value "java/lang/String" "coder" "B" (.int (0 : Int32))) (F_L1_value_value : Fld Z h0 s_L1_value "java/lang/String" "value" "[B" (.ref s_L1_value_value)) (F_L3_value : Fld Z h0 s_L3 "com/example/hauora_id/hauoraid/model/ConfidenceLevel" "value" "Ljava/lang/String;" (.ref s_L3_value)) (E_L3_value : Exa Z h0 s_L3_value "java/lang/String") (F_L3_value_coder : Fld Z h0 s_L3_value "java/lang/String" "coder" "B" (.int (0 : Int32))) (F_L3_value_value : Fld Z h0 s_L3_value "java/lang/String" "value" "[B" (.ref s_L3_value_value)) (S_L3N : Sta Z h0 "com/example/hauora_id/hauoraid/model/ConfidenceLevel" "L3N" "Lcom/example/hauora_id/hauoraid/model/ConfidenceLevel;" (.ref s_L3N)) (E_L3N : Exa Z h0 s_L3N "com/example/hauora_id/hauoraid/model/ConfidenceLevel") (S_L2 : Sta Z h0 "com/example/hauora_id/hauoraid/model/ConfidenceLevel" "L2" "Lcom/example/hauora_id/hauoraid/model/ConfidenceLevel;" (.ref s_L2)) (E_L2 : Exa Z h0 s_L2 "com/example/hauora_id/hauoraid/model/ConfidenceLevel") (F_L3N_value : Fld Z h0 s_L3N "com/example/hauora_id/hauoraid/model/ConfidenceLevel" "value" "Ljava/lang/String;" (.ref s_L3N_value)) (E_L3N_value : Exa Z h0 s_L3N_value "java/lang/String") (F_L3N_value_coder : Fld Z h0 s_L3N_value "java/lang/String" "coder" "B" (.int (0 : Int32))) (F_L3N_value_value : Fld Z h0 s_L3N_value "java/lang/String" "value" "[B" (.ref s_L3N_value_value)) (F_L2_value : Fld Z h0 s_L2 "com/example/hauora_id/hauoraid/model/ConfidenceLevel" "value" "Ljava/lang/String;" (.ref s_L2_value)) (E_L2_value : Exa Z h0 s_L2_value "java/lang/String") (F_L2_value_coder : Fld Z h0 s_L2_value "java/lang/String" "coder" "B" (.int (0 : Int32))) (F_L2_value_value : Fld Z h0 s_L2_value "java/lang/String" "value" "[B" (.ref s_L2_value_value)) (S_L2N : Sta Z h0 "com/example/hauora_id/hauoraid/model/ConfidenceLevel" "L2N" "Lcom/example/hauora_id/hauoraid/model/ConfidenceLevel;" (.ref s_L2N)) (E_L2N : Exa Z h0 s_L2N "com/example/hauora_id/hauoraid/model/ConfidenceLevel") (F_L2N_value : Fld Z h0 s_L2N "com/example/hauora_id/hauoraid/model/ConfidenceLevel" "value" "Ljava/lang/String;" (.ref s_L2N_value)) (E_L2N_value : Exa Z h0 s_L2N_value "java/lang/String") (F_L2N_value_coder : Fld Z h0 s_L2N_value "java/lang/String" "coder" "B" (.int (0 : Int32))) (F_L2N_value_value : Fld Z h0 s_L2N_value "java/lang/String" "value" "[B" (.ref s_L2N_value_value)) (V_L1_value_value : Arv Z h0 s_L1_value_value k_s_L1_value_value .byte (1 : Int32) [(.int (49 : Int32))] (.int (0 : Int32))) (V_L3_value_value : Arv Z h0 s_L3_value_value k_s_L3_value_value .byte (1 : Int32) [(.int (51 : Int32))] (.int (0 : Int32))) (V_L3N_value_value : Arv Z h0 s_L3N_value_value k_s_L3N_value_value .byte (2 : Int32) [(.int (51 : Int32)), (.int (78 : Int32))] (.int (0 : Int32))) (V_L2_value_value : Arv Z h0 s_L2_value_value k_s_L2_value_value .byte (1 : Int32) [(.int (50 : Int32))] (.int (0 : Int32))) (V_L2N_value_value : Arv Z h0 s_L2N_value_value k_s_L2N_value_value .byte (2 : Int32) [(.int (50 : Int32)), (.int (78 : Int32))] (.int (0 : Int32))) (S_COMPACT_STRINGS : Sta Z h0 "java/lang/String" "COMPACT_STRINGS" "Z" (.int s_COMPACT_STRINGS)) (hcs : ¬ s_COMPACT_STRINGS = (0 : Int32)) (S_SIOOBE_FORMATTER : Sta Z h0 "jdk/internal/util/Preconditions" "SIOOBE_FORMATTER" "Ljava/util/function/BiFunction;" s_SIOOBE_FORMATTER) (rS_SIOOBE_FORMATTER : s_SIOOBE_FORMATTER.isRef = true) :
    MetFree l x (head1 (Jvm.Cond.code x code maxLocals ret :: ws) room_1) (fun a U => a = #[(.int p0), (.int p1)] ∧ Z.Warmed39 U.vm ∧ U.heap = h0) (fun _ _ _ _ _ => True) (fun _ U o U' => ∃ v L, o = .returned v ∧ Q0 Z n0 p0 p1 s_L1 s_L3 s_L1_value s_L1_value_value s_L3_value s_L3_value_value s_L3N s_L2 s_L3N_value s_L3N_value_value s_L2_value s_L2_value_value s_L2N s_L2N_value s_L2N_value_value k_s_L1_value_value k_s_L3_value_value k_s_L3N_value_value k_s_L2_value_value k_s_L2N_value_value s_COMPACT_STRINGS s_SIOOBE_FORMATTER h0 v U'.heap L ∧ FrameEnd U o U' L room_1.cells room_1.slots) := by
  refine MetFree.of_bodySF (plainFor_of_name pn_21) hisR ?_
  intro p e s m args below meth c s₁ Bd hml0 hP hK
  obtain ⟨rfl, hZ, hh⟩ := hP
  have hx := Bd.exec
  have hby := Bd.bytes
  have hml : c.maxLocals = 7 := hml0
  have hown : s.vm.findClass "com/example/hauora_id/hauoraid/model/ConfidenceLevelAtLeastPinLaw" = some m.cls := findClass_of_methodNamed Bd.named
  have hnm := (name_of_methodNamed Bd.named Bd.method).1
  have X0 : Stand p l e room_1 s m #[(.int p0), (.int p1)] below meth c s₁ [] 0 0 := Stand.of_body Bd
  have e0 : s₁.heap = h0 := by rw [← hh, Bd.state]; rfl
  have N0 := Fr.nil n0
  have K0 : Keep h0 h0 [] := Keep.refl _ _
  have go0 : ∀ t, Steps p.tables e below (s₁.setTop (mkF m 0 #[.val (.int p0), .val (.int p1), .unset, .unset, .unset, .unset, .unset] [])) t → Steps p.tables e below (s₁.setTop (entryFrame m #[(.int p0), (.int p1)] maxLocals)) t := fun t k => castTop (ef0 m p0 p1) k
  have go3 : ∀ t, Steps p.tables e below (s₁.setTop (mkF m 14 #[.val (.int p0), .val (.int p1), .val (.int (v0_1 p0)), .val (.int (v0_2 p1)), .unset, .unset, .unset] [])) t → Steps p.tables e below (s₁.setTop (entryFrame m #[(.int p0), (.int p1)] maxLocals)) t := by
    intro t k
    refine go0 _ ?_
    refine XS.iloadN X0.here hx rfl (hb hby at_0) rfl ?_
    show Steps p.tables e below (s₁.setTop (mkF m 1 #[.val (.int p0), .val (.int p1), .unset, .unset, .unset, .unset, .unset] [(.int p0)])) t
    refine X0.ldcInt hx hown (mvT hZ (hw _ (List.mem_of_getElem? (i := 0) rfl))) (g := (mkF m 1 #[.val (.int p0), .val (.int p1), .unset, .unset, .unset, .unset, .unset] [(.int p0)])) rfl (hb hby at_1) _ ?_
    show Steps p.tables e below (s₁.setTop (mkF m 3 #[.val (.int p0), .val (.int p1), .unset, .unset, .unset, .unset, .unset] [(.int (2147483647 : Int32)), (.int p0)])) t
    refine XS.iand X0.here hx rfl (hb hby at_3) rfl ?_
    show Steps p.tables e below (s₁.setTop (mkF m 4 #[.val (.int p0), .val (.int p1), .unset, .unset, .unset, .unset, .unset] [(.int (p0 &&& (2147483647 : Int32)))])) t
    refine XS.iconst X0.here hx rfl (hb hby at_4) ?_
    show Steps p.tables e below (s₁.setTop (mkF m 5 #[.val (.int p0), .val (.int p1), .unset, .unset, .unset, .unset, .unset] [(.int (5 : Int32)), (.int (p0 &&& (2147483647 : Int32)))])) t
    refine iremM X0 hx rfl (hb hby at_5) rfl (by decide) ?_
    show Steps p.tables e below (s₁.setTop (mkF m 6 #[.val (.int p0), .val (.int p1), .unset, .unset, .unset, .unset, .unset] [(.int ((p0 &&& (2147483647 : Int32)) % (5 : Int32)))])) t
    show Steps p.tables e below (s₁.setTop (mkF m 6 #[.val (.int p0), .val (.int p1), .unset, .unset, .unset, .unset, .unset] [(.int (v0_1 p0))])) t
    refine XS.istoreN X0.here hx rfl (hb hby at_6) rfl (l' := #[.val (.int p0), .val (.int p1), .val (.int (v0_1 p0)), .unset, .unset, .unset, .unset]) rfl ?_
    show Steps p.tables e below (s₁.setTop (mkF m 7 #[.val (.int p0), .val (.int p1), .val (.int (v0_1 p0)), .unset, .unset, .unset, .unset] [])) t
    refine XS.iloadN X0.here hx rfl (hb hby at_7) rfl ?_
    show Steps p.tables e below (s₁.setTop (mkF m 8 #[.val (.int p0), .val (.int p1), .val (.int (v0_1 p0)), .unset, .unset, .unset, .unset] [(.int p1)])) t
    refine X0.ldcInt hx hown (mvT hZ (hw _ (List.mem_of_getElem? (i := 0) rfl))) (g := (mkF m 8 #[.val (.int p0), .val (.int p1), .val (.int (v0_1 p0)), .unset, .unset, .unset, .unset] [(.int p1)])) rfl (hb hby at_8) _ ?_
    show Steps p.tables e below (s₁.setTop (mkF m 10 #[.val (.int p0), .val (.int p1), .val (.int (v0_1 p0)), .unset, .unset, .unset, .unset] [(.int (2147483647 : Int32)), (.int p1)])) t
    refine XS.iand X0.here hx rfl (hb hby at_10) rfl ?_
    show Steps p.tables e below (s₁.setTop (mkF m 11 #[.val (.int p0), .val (.int p1), .val (.int (v0_1 p0)), .unset, .unset, .unset, .unset] [(.int (p1 &&& (2147483647 : Int32)))])) t
    refine XS.iconst X0.here hx rfl (hb hby at_11) ?_
    show Steps p.tables e below (s₁.setTop (mkF m 12 #[.val (.int p0), .val (.int p1), .val (.int (v0_1 p0)), .unset, .unset, .unset, .unset] [(.int (5 : Int32)), (.int (p1 &&& (2147483647 : Int32)))])) t
    refine iremM X0 hx rfl (hb hby at_12) rfl (by decide) ?_
    show Steps p.tables e below (s₁.setTop (mkF m 13 #[.val (.int p0), .val (.int p1), .val (.int (v0_1 p0)), .unset, .unset, .unset, .unset] [(.int ((p1 &&& (2147483647 : Int32)) % (5 : Int32)))])) t
    show Steps p.tables e below (s₁.setTop (mkF m 13 #[.val (.int p0), .val (.int p1), .val (.int (v0_1 p0)), .unset, .unset, .unset, .unset] [(.int (v0_2 p1))])) t
    refine XS.istoreN X0.here hx rfl (hb hby at_13) rfl (l' := #[.val (.int p0), .val (.int p1), .val (.int (v0_1 p0)), .val (.int (v0_2 p1)), .unset, .unset, .unset]) rfl ?_
    show Steps p.tables e below (s₁.setTop (mkF m 14 #[.val (.int p0), .val (.int p1), .val (.int (v0_1 p0)), .val (.int (v0_2 p1)), .unset, .unset, .unset] [])) t
    exact k
  by_cases hs4 : (v0_1 p0) = (0 : Int32)
  · have go5 : ∀ t, Steps p.tables e below (s₁.setTop (mkF m 14 #[.val (.int p0), .val (.int p1), .val (.int (0 : Int32)), .val (.int (v0_2 p1)), .unset, .unset, .unset] [])) t → Steps p.tables e below (s₁.setTop (entryFrame m #[(.int p0), (.int p1)] maxLocals)) t := by
      have q := go3
      rw [hs4] at q
      exact q
    have go6 : ∀ t, Steps p.tables e below (s₁.setTop (mkF m 15 #[.val (.int p0), .val (.int p1), .val (.int (0 : Int32)), .val (.int (v0_2 p1)), .unset, .unset, .unset] [(.int (0 : Int32))])) t → Steps p.tables e below (s₁.setTop (entryFrame m #[(.int p0), (.int p1)] maxLocals)) t := by
      intro t k
      refine go5 _ ?_
      refine XS.iloadN X0.here hx rfl (hb hby at_14) rfl ?_
      show Steps p.tables e below (s₁.setTop (mkF m 15 #[.val (.int p0), .val (.int p1), .val (.int (0 : Int32)), .val (.int (v0_2 p1)), .unset, .unset, .unset] [(.int (0 : Int32))])) t
      exact k
    by_cases hs7 : (v0_2 p1) = (0 : Int32)
    · have go8 : ∀ t, Steps p.tables e below (s₁.setTop (mkF m 15 #[.val (.int p0), .val (.int p1), .val (.int (0 : Int32)), .val (.int (0 : Int32)), .unset, .unset, .unset] [(.int (0 : Int32))])) t → Steps p.tables e below (s₁.setTop (entryFrame m #[(.int p0), (.int p1)] maxLocals)) t := by
        have q := go6
        rw [hs7] at q
        exact q
      obtain ⟨_, _, ⟨T9, L9, k9, n9⟩, -, X9, ⟨Lc9, hQ9, l9, y9, z9⟩, st9⟩ := Jvm.LawKit.callS X0 hx (y := (⟨"com/example/hauora_id/hauoraid/model/ConfidenceLevelAtLeastPinLaw", "pick", "(I)Lcom/example/hauora_id/hauoraid/model/ConfidenceLevel;"⟩ : MethodName)) hown (mvT hZ (hw _ (List.mem_of_getElem? (i := 1) rfl))) (mvT hZ (hw _ (List.mem_of_getElem? (i := 2) rfl))) (mvT hZ (hw _ (List.mem_of_getElem? (i := 3) rfl))) (mvT hZ (hw _ (List.mem_of_getElem? (i := 4) rfl))) (by decide) (backOf (W := 0) (rm1 l Z aZ hw [] (0 : Int32) s_L1 s_L2 s_L2N s_L3 s_L3N h0 n0 Z0 S_L1 S_L2 S_L2N S_L3 S_L3N) hZ (hw _ (List.mem_of_getElem? (i := 4) rfl)) (hw _ (List.mem_of_getElem? (i := 3) rfl)) (by decide) (by decide)) (g := (mkF m 15 #[.val (.int p0), .val (.int p1), .val (.int (0 : Int32)), .val (.int (0 : Int32)), .unset, .unset, .unset] [(.int (0 : Int32))])) rfl (by rw [hml]; rfl) (argsL := [(.int (0 : Int32))]) (rest := []) (lenOf pd_99 rfl) rfl (by show 2 * 0 + _ ≤ _; exact Nat.le_of_eq rfl) (hb hby at_15) (fun _ _ => ⟨rfl, e0, (by decide : 0 + 0 ≤ _), (by decide : 0 + 0 ≤ _)⟩)
      dsimp only [Pt.U, Pt.locs, Pt.cells, Pt.slots] at X9 l9 y9 z9 st9 hQ9
      subst l9 y9 z9
      obtain ⟨rfl, N9q, e9⟩ := hQ9
      have N9 := Fr.app N0 N9q
      have go10 : ∀ t, Steps p.tables e below (T9.setTop (mkF m 18 #[.val (.int p0), .val (.int p1), .val (.int (0 : Int32)), .val (.int (0 : Int32)), .unset, .unset, .unset] [(.ref s_L1)])) t → Steps p.tables e below (s₁.setTop (entryFrame m #[(.int p0), (.int p1)] maxLocals)) t := fun t k => go8 _ (st9 _ k)
      have go11 : ∀ t, Steps p.tables e below (T9.setTop (mkF m 21 #[.val (.int p0), .val (.int p1), .val (.int (0 : Int32)), .val (.int (0 : Int32)), .val (.ref s_L1), .unset, .unset] [(.int (0 : Int32))])) t → Steps p.tables e below (s₁.setTop (entryFrame m #[(.int p0), (.int p1)] maxLocals)) t := by
        intro t k
        refine go10 _ ?_
        refine XS.astore X9.here hx rfl (hb hby at_18) rfl rfl (l' := #[.val (.int p0), .val (.int p1), .val (.int (0 : Int32)), .val (.int (0 : Int32)), .val (.ref s_L1), .unset, .unset]) rfl ?_
        show Steps p.tables e below (T9.setTop (mkF m 20 #[.val (.int p0), .val (.int p1), .val (.int (0 : Int32)), .val (.int (0 : Int32)), .val (.ref s_L1), .unset, .unset] [])) t
        refine XS.iloadN X9.here hx rfl (hb hby at_20) rfl ?_
        show Steps p.tables e below (T9.setTop (mkF m 21 #[.val (.int p0), .val (.int p1), .val (.int (0 : Int32)), .val (.int (0 : Int32)), .val (.ref s_L1), .unset, .unset] [(.int (0 : Int32))])) t
        exact k
      obtain ⟨_, _, ⟨T12, L12, k12, n12⟩, -, X12, ⟨Lc12, hQ12, l12, y12, z12⟩, st12⟩ := Jvm.LawKit.callS X9 hx (y := (⟨"com/example/hauora_id/hauoraid/model/ConfidenceLevelAtLeastPinLaw", "pick", "(I)Lcom/example/hauora_id/hauoraid/model/ConfidenceLevel;"⟩ : MethodName)) hown (mvT hZ (hw _ (List.mem_of_getElem? (i := 1) rfl))) (mvT hZ (hw _ (List.mem_of_getElem? (i := 2) rfl))) (mvT hZ (hw _ (List.mem_of_getElem? (i := 3) rfl))) (mvT hZ (hw _ (List.mem_of_getElem? (i := 4) rfl))) (by decide) (backOf (W := 0) (rm1 l Z aZ hw [] (0 : Int32) s_L1 s_L2 s_L2N s_L3 s_L3N h0 n0 Z0 S_L1 S_L2 S_L2N S_L3 S_L3N) hZ (hw _ (List.mem_of_getElem? (i := 4) rfl)) (hw _ (List.mem_of_getElem? (i := 3) rfl)) (by decide) (by decide)) (g := (mkF m 21 #[.val (.int p0), .val (.int p1), .val (.int (0 : Int32)), .val (.int (0 : Int32)), .val (.ref s_L1), .unset, .unset] [(.int (0 : Int32))])) rfl (by rw [hml]; rfl) (argsL := [(.int (0 : Int32))]) (rest := []) (lenOf pd_99 rfl) rfl (by show 2 * 0 + _ ≤ _; exact Nat.le_of_eq rfl) (hb hby at_21) (fun _ _ => ⟨rfl, e9, (by decide : 0 + 0 ≤ _), (by decide : 0 + 0 ≤ _)⟩)
      dsimp only [Pt.U, Pt.locs, Pt.cells, Pt.slots] at X12 l12 y12 z12 st12 hQ12
      subst l12 y12 z12
      obtain ⟨rfl, N12q, e12⟩ := hQ12
      have N12 := Fr.app N9 N12q
      have go13 : ∀ t, Steps p.tables e below (T12.setTop (mkF m 24 #[.val (.int p0), .val (.int p1), .val (.int (0 : Int32)), .val (.int (0 : Int32)), .val (.ref s_L1), .unset, .unset] [(.ref s_L1)])) t → Steps p.tables e below (s₁.setTop (entryFrame m #[(.int p0), (.int p1)] maxLocals)) t := fun t k => go11 _ (st12 _ k)
      have go14 : ∀ t, Steps p.tables e below (T12.setTop (mkF m 27 #[.val (.int p0), .val (.int p1), .val (.int (0 : Int32)), .val (.int (0 : Int32)), .val (.ref s_L1), .val (.ref s_L1), .unset] [(.int (0 : Int32))])) t → Steps p.tables e below (s₁.setTop (entryFrame m #[(.int p0), (.int p1)] maxLocals)) t := by
        intro t k
        refine go13 _ ?_
        refine XS.astore X12.here hx rfl (hb hby at_24) rfl rfl (l' := #[.val (.int p0), .val (.int p1), .val (.int (0 : Int32)), .val (.int (0 : Int32)), .val (.ref s_L1), .val (.ref s_L1), .unset]) rfl ?_
        show Steps p.tables e below (T12.setTop (mkF m 26 #[.val (.int p0), .val (.int p1), .val (.int (0 : Int32)), .val (.int (0 : Int32)), .val (.ref s_L1), .val (.ref s_L1), .unset] [])) t
        refine XS.iloadN X12.here hx rfl (hb hby at_26) rfl ?_
        show Steps p.tables e below (T12.setTop (mkF m 27 #[.val (.int p0), .val (.int p1), .val (.int (0 : Int32)), .val (.int (0 : Int32)), .val (.ref s_L1), .val (.ref s_L1), .unset] [(.int (0 : Int32))])) t
        exact k
      obtain ⟨_, _, ⟨T15, L15, k15, n15⟩, -, X15, ⟨Lc15, hQ15, l15, y15, z15⟩, st15⟩ := Jvm.LawKit.callS X12 hx (y := (⟨"com/example/hauora_id/hauoraid/model/ConfidenceLevelAtLeastPinLaw", "digit", "(I)I"⟩ : MethodName)) hown (mvT hZ (hw _ (List.mem_of_getElem? (i := 10) rfl))) (mvT hZ (hw _ (List.mem_of_getElem? (i := 11) rfl))) (mvT hZ (hw _ (List.mem_of_getElem? (i := 3) rfl))) (mvT hZ (hw _ (List.mem_of_getElem? (i := 12) rfl))) (by decide) (backOf (W := 0) (rm2 l Z aZ hw [] (0 : Int32) h0 n0 Z0 ) hZ (hw _ (List.mem_of_getElem? (i := 12) rfl)) (hw _ (List.mem_of_getElem? (i := 3) rfl)) (by decide) (by decide)) (g := (mkF m 27 #[.val (.int p0), .val (.int p1), .val (.int (0 : Int32)), .val (.int (0 : Int32)), .val (.ref s_L1), .val (.ref s_L1), .unset] [(.int (0 : Int32))])) rfl (by rw [hml]; rfl) (argsL := [(.int (0 : Int32))]) (rest := []) (lenOf pd_100 rfl) rfl (by show 2 * 0 + _ ≤ _; exact Nat.le_of_eq rfl) (hb hby at_27) (fun _ _ => ⟨rfl, e12, (by decide : 0 + 0 ≤ _), (by decide : 0 + 0 ≤ _)⟩)
      dsimp only [Pt.U, Pt.locs, Pt.cells, Pt.slots] at X15 l15 y15 z15 st15 hQ15
      subst l15 y15 z15
      obtain ⟨rfl, N15q, e15⟩ := hQ15
      have N15 := Fr.app N12 N15q
      have go16 : ∀ t, Steps p.tables e below (T15.setTop (mkF m 30 #[.val (.int p0), .val (.int p1), .val (.int (0 : Int32)), .val (.int (0 : Int32)), .val (.ref s_L1), .val (.ref s_L1), .unset] [(.int (1 : Int32))])) t → Steps p.tables e below (s₁.setTop (entryFrame m #[(.int p0), (.int p1)] maxLocals)) t := fun t k => go14 _ (st15 _ k)
      have go17 : ∀ t, Steps p.tables e below (T15.setTop (mkF m 31 #[.val (.int p0), .val (.int p1), .val (.int (0 : Int32)), .val (.int (0 : Int32)), .val (.ref s_L1), .val (.ref s_L1), .unset] [(.int (0 : Int32)), (.int (1 : Int32))])) t → Steps p.tables e below (s₁.setTop (entryFrame m #[(.int p0), (.int p1)] maxLocals)) t := by
        intro t k
        refine go16 _ ?_
        refine XS.iloadN X15.here hx rfl (hb hby at_30) rfl ?_
        show Steps p.tables e below (T15.setTop (mkF m 31 #[.val (.int p0), .val (.int p1), .val (.int (0 : Int32)), .val (.int (0 : Int32)), .val (.ref s_L1), .val (.ref s_L1), .unset] [(.int (0 : Int32)), (.int (1 : Int32))])) t
        exact k
      obtain ⟨_, _, ⟨T18, L18, k18, n18⟩, -, X18, ⟨Lc18, hQ18, l18, y18, z18⟩, st18⟩ := Jvm.LawKit.callS X15 hx (y := (⟨"com/example/hauora_id/hauoraid/model/ConfidenceLevelAtLeastPinLaw", "digit", "(I)I"⟩ : MethodName)) hown (mvT hZ (hw _ (List.mem_of_getElem? (i := 10) rfl))) (mvT hZ (hw _ (List.mem_of_getElem? (i := 11) rfl))) (mvT hZ (hw _ (List.mem_of_getElem? (i := 3) rfl))) (mvT hZ (hw _ (List.mem_of_getElem? (i := 12) rfl))) (by decide) (backOf (W := 1) (rm2 l Z aZ hw [] (0 : Int32) h0 n0 Z0 ) hZ (hw _ (List.mem_of_getElem? (i := 12) rfl)) (hw _ (List.mem_of_getElem? (i := 3) rfl)) (by decide) (by decide)) (g := (mkF m 31 #[.val (.int p0), .val (.int p1), .val (.int (0 : Int32)), .val (.int (0 : Int32)), .val (.ref s_L1), .val (.ref s_L1), .unset] [(.int (0 : Int32)), (.int (1 : Int32))])) rfl (by rw [hml]; rfl) (argsL := [(.int (0 : Int32))]) (rest := [(.int (1 : Int32))]) (lenOf pd_100 rfl) rfl (by show 2 * 0 + _ ≤ _; exact Nat.le_of_eq rfl) (hb hby at_31) (fun _ _ => ⟨rfl, e15, (by decide : 0 + 0 ≤ _), (by decide : 0 + 0 ≤ _)⟩)
      dsimp only [Pt.U, Pt.locs, Pt.cells, Pt.slots] at X18 l18 y18 z18 st18 hQ18
      subst l18 y18 z18
      obtain ⟨rfl, N18q, e18⟩ := hQ18
      have N18 := Fr.app N15 N18q
      have go19 : ∀ t, Steps p.tables e below (T18.setTop (mkF m 34 #[.val (.int p0), .val (.int p1), .val (.int (0 : Int32)), .val (.int (0 : Int32)), .val (.ref s_L1), .val (.ref s_L1), .unset] [(.int (1 : Int32)), (.int (1 : Int32))])) t → Steps p.tables e below (s₁.setTop (entryFrame m #[(.int p0), (.int p1)] maxLocals)) t := fun t k => go17 _ (st18 _ k)
      have go20 : ∀ t, Steps p.tables e below (T18.setTop (mkF m 48 #[.val (.int p0), .val (.int p1), .val (.int (0 : Int32)), .val (.int (0 : Int32)), .val (.ref s_L1), .val (.ref s_L1), .val (.int (1 : Int32))] [(.ref s_L1), (.ref s_L1)])) t → Steps p.tables e below (s₁.setTop (entryFrame m #[(.int p0), (.int p1)] maxLocals)) t := by
        intro t k
        refine go19 _ ?_
        refine XS.icmpNo X18.here hx rfl (hb hby at_34) rfl (XT.ii_lt_f (by decide : ¬ ((1 : Int32) < (1 : Int32)))) ?_
        show Steps p.tables e below (T18.setTop (mkF m 37 #[.val (.int p0), .val (.int p1), .val (.int (0 : Int32)), .val (.int (0 : Int32)), .val (.ref s_L1), .val (.ref s_L1), .unset] [])) t
        refine XS.iconst X18.here hx rfl (hb hby at_37) ?_
        show Steps p.tables e below (T18.setTop (mkF m 38 #[.val (.int p0), .val (.int p1), .val (.int (0 : Int32)), .val (.int (0 : Int32)), .val (.ref s_L1), .val (.ref s_L1), .unset] [(.int (1 : Int32))])) t
        refine XS.goto X18.here hx rfl (pc0 := 38) (pc' := 42) rfl (hb hby at_38) (by decide) (by decide) ?_
        show Steps p.tables e below (T18.setTop (mkF m 42 #[.val (.int p0), .val (.int p1), .val (.int (0 : Int32)), .val (.int (0 : Int32)), .val (.ref s_L1), .val (.ref s_L1), .unset] [(.int (1 : Int32))])) t
        refine XS.istore X18.here hx rfl (hb hby at_42) rfl (l' := #[.val (.int p0), .val (.int p1), .val (.int (0 : Int32)), .val (.int (0 : Int32)), .val (.ref s_L1), .val (.ref s_L1), .val (.int (1 : Int32))]) rfl ?_
        show Steps p.tables e below (T18.setTop (mkF m 44 #[.val (.int p0), .val (.int p1), .val (.int (0 : Int32)), .val (.int (0 : Int32)), .val (.ref s_L1), .val (.ref s_L1), .val (.int (1 : Int32))] [])) t
        refine XS.aload X18.here hx rfl (hb hby at_44) rfl rfl ?_
        show Steps p.tables e below (T18.setTop (mkF m 46 #[.val (.int p0), .val (.int p1), .val (.int (0 : Int32)), .val (.int (0 : Int32)), .val (.ref s_L1), .val (.ref s_L1), .val (.int (1 : Int32))] [(.ref s_L1)])) t
        refine XS.aload X18.here hx rfl (hb hby at_46) rfl rfl ?_
        show Steps p.tables e below (T18.setTop (mkF m 48 #[.val (.int p0), .val (.int p1), .val (.int (0 : Int32)), .val (.int (0 : Int32)), .val (.ref s_L1), .val (.ref s_L1), .val (.int (1 : Int32))] [(.ref s_L1), (.ref s_L1)])) t
        exact k
      obtain ⟨cq21, kq21, q21a, q21b, q21c⟩ := isOf hZ e18 E_L1
      obtain ⟨_, _, ⟨T21, L21, k21, n21⟩, -, X21, ⟨Lc21, hQ21, l21, y21, z21⟩, st21⟩ := X18.virtualBack hx (y := (⟨"com/example/hauora_id/hauoraid/model/ConfidenceLevel", "atLeast", "(Lcom/example/hauora_id/hauoraid/model/ConfidenceLevel;)Z"⟩ : MethodName)) (z := (⟨"com/example/hauora_id/hauoraid/model/ConfidenceLevel", "atLeast", "(Lcom/example/hauora_id/hauoraid/model/ConfidenceLevel;)Z"⟩ : MethodName)) hown (mvT hZ (hw _ (List.mem_of_getElem? (i := 13) rfl))) (mvT hZ (hw _ (List.mem_of_getElem? (i := 14) rfl))) (notFace_of_selects (args := #[]) (mvT hZ (hw _ (List.mem_of_getElem? (i := 16) rfl)))) (mvT hZ (hw _ (List.mem_of_getElem? (i := 16) rfl))) (mvT hZ (hw _ (List.mem_of_getElem? (i := 15) rfl))) (by decide) (backOf (W := 0) (rm3 l Z aZ hw [] s_L1 s_L1 s_COMPACT_STRINGS s_SIOOBE_FORMATTER s_L1_value s_L1_value_value k_s_L1_value_value (1 : Int32) [(.int (49 : Int32))] (49 : Int32) s_L1_value s_L1_value_value k_s_L1_value_value (1 : Int32) [(.int (49 : Int32))] (49 : Int32) h0 n0 Z0 S_COMPACT_STRINGS S_SIOOBE_FORMATTER rS_SIOOBE_FORMATTER hcs F_L1_value E_L1_value F_L1_value_coder F_L1_value_value V_L1_value_value (by decide) rfl F_L1_value E_L1_value F_L1_value_coder F_L1_value_value V_L1_value_value (by decide) rfl) hZ (hw _ (List.mem_of_getElem? (i := 17) rfl)) (hw _ (List.mem_of_getElem? (i := 6) rfl)) (by decide) (by decide)) q21a q21c (g := (mkF m 48 #[.val (.int p0), .val (.int p1), .val (.int (0 : Int32)), .val (.int (0 : Int32)), .val (.ref s_L1), .val (.ref s_L1), .val (.int (1 : Int32))] [(.ref s_L1), (.ref s_L1)])) rfl (by rw [hml]; rfl) (Steps.refl _) (argsL := [(.ref s_L1)]) (rest := []) (lenOf pd_101 rfl) rfl (by show 2 * 0 + _ ≤ _; exact Nat.le_of_eq rfl) (hb hby at_48) (fun _ _ => ⟨rfl, e18, (by decide : 0 + 0 ≤ _), (by decide : 0 + 0 ≤ _)⟩)
      dsimp only [Pt.U, Pt.locs, Pt.cells, Pt.slots] at X21 l21 y21 z21 st21 hQ21
      subst l21 y21 z21
      obtain ⟨rfl, N21q, e21⟩ := hQ21
      have N21 := Fr.app N18 N21q
      have go22 : ∀ t, Steps p.tables e below (T21.setTop (mkF m 51 #[.val (.int p0), .val (.int p1), .val (.int (0 : Int32)), .val (.int (0 : Int32)), .val (.ref s_L1), .val (.ref s_L1), .val (.int (1 : Int32))] [(.int (f3 (49 : Int32) (49 : Int32)))])) t → Steps p.tables e below (s₁.setTop (entryFrame m #[(.int p0), (.int p1)] maxLocals)) t := fun t k => go20 _ (st21.trans k)
      have go24 : ∀ t, Steps p.tables e below (T21.setTop (mkF m 61 #[.val (.int p0), .val (.int p1), .val (.int (0 : Int32)), .val (.int (0 : Int32)), .val (.ref s_L1), .val (.ref s_L1), .val (.int (1 : Int32))] [(.int b0_25)])) t → Steps p.tables e below (s₁.setTop (entryFrame m #[(.int p0), (.int p1)] maxLocals)) t := by
        intro t k
        refine go22 _ ?_
        refine XS.iload X21.here hx rfl (hb hby at_51) rfl ?_
        show Steps p.tables e below (T21.setTop (mkF m 53 #[.val (.int p0), .val (.int p1), .val (.int (0 : Int32)), .val (.int (0 : Int32)), .val (.ref s_L1), .val (.ref s_L1), .val (.int (1 : Int32))] [(.int (1 : Int32)), (.int (f3 (49 : Int32) (49 : Int32)))])) t
        by_cases hc23 : (f3 (49 : Int32) (49 : Int32)) = (1 : Int32)
        · refine XS.icmpNo X21.here hx rfl (hb hby at_53) rfl (XT.ii_ne_f hc23) ?_
          show Steps p.tables e below (T21.setTop (mkF m 56 #[.val (.int p0), .val (.int p1), .val (.int (0 : Int32)), .val (.int (0 : Int32)), .val (.ref s_L1), .val (.ref s_L1), .val (.int (1 : Int32))] [])) t
          refine XS.iconst X21.here hx rfl (hb hby at_56) ?_
          show Steps p.tables e below (T21.setTop (mkF m 57 #[.val (.int p0), .val (.int p1), .val (.int (0 : Int32)), .val (.int (0 : Int32)), .val (.ref s_L1), .val (.ref s_L1), .val (.int (1 : Int32))] [(.int (1 : Int32))])) t
          refine XS.goto X21.here hx rfl (pc0 := 57) (pc' := 61) rfl (hb hby at_57) (by decide) (by decide) ?_
          show Steps p.tables e below (T21.setTop (mkF m 61 #[.val (.int p0), .val (.int p1), .val (.int (0 : Int32)), .val (.int (0 : Int32)), .val (.ref s_L1), .val (.ref s_L1), .val (.int (1 : Int32))] [(.int (1 : Int32))])) t
          have hq26 : b0_25 = (1 : Int32) := by rw [b0_25, if_pos hc23]
          rw [hq26] at k
          exact k
        · refine XS.icmpYes X21.here hx rfl (pc0 := 53) (pc' := 60) rfl (hb hby at_53) rfl (XT.ii_ne_t hc23) (by decide) (by decide) ?_
          show Steps p.tables e below (T21.setTop (mkF m 60 #[.val (.int p0), .val (.int p1), .val (.int (0 : Int32)), .val (.int (0 : Int32)), .val (.ref s_L1), .val (.ref s_L1), .val (.int (1 : Int32))] [])) t
          refine XS.iconst X21.here hx rfl (hb hby at_60) ?_
          show Steps p.tables e below (T21.setTop (mkF m 61 #[.val (.int p0), .val (.int p1), .val (.int (0 : Int32)), .val (.int (0 : Int32)), .val (.ref s_L1), .val (.ref s_L1), .val (.int (1 : Int32))] [(.int (0 : Int32))])) t
          have hq27 : b0_25 = (0 : Int32) := by rw [b0_25, if_neg hc23]
          rw [hq27] at k
          exact k
      obtain ⟨fs, hr, hrun, hended, hW, hsame⟩ := X21.leave (v := some (.int b0_25)) (fun h => by rw [Bd.returns] at h; cases h)
      refine ⟨_, _, go24 _ (Jvm.RoadKit.retOut X21 hx Bd.returns (own_nz (by unfold b0_25; (repeat' split) <;> first | exact Or.inl rfl | exact Or.inr rfl)) (Or.inl ⟨rfl, Or.inr (Or.inl rfl), _, rfl⟩) (hb hby at_61) hr), hrun, hended, _, _, rfl, ?_, ⟨_, rfl⟩, hW, hsame.mono (by decide) (by decide)⟩
      show Q0 _ _ p0 p1 s_L1 s_L3 s_L1_value s_L1_value_value s_L3_value s_L3_value_value s_L3N s_L2 s_L3N_value s_L3N_value_value s_L2_value s_L2_value_value s_L2N s_L2N_value s_L2N_value_value k_s_L1_value_value k_s_L3_value_value k_s_L3N_value_value k_s_L2_value_value k_s_L2N_value_value s_COMPACT_STRINGS s_SIOOBE_FORMATTER h0 _ (T21.setFrames fs).heap _
      have hE : (T21.setFrames fs).heap = h0 := e21
      rw [hE]
      exact ⟨congrArg (fun z => some (Value.int z)) ((by rw [f0, if_pos hs4, if_pos hs7] : b0_25 = (f0 p0 p1)).trans (f0_one p0 p1)), N21⟩
    · by_cases hs28 : (v0_2 p1) = (1 : Int32)
      · have go29 : ∀ t, Steps p.tables e below (s₁.setTop (mkF m 15 #[.val (.int p0), .val (.int p1), .val (.int (0 : Int32)), .val (.int (1 : Int32)), .unset, .unset, .unset] [(.int (0 : Int32))])) t → Steps p.tables e below (s₁.setTop (entryFrame m #[(.int p0), (.int p1)] maxLocals)) t := by
          have q := go6
          rw [hs28] at q
          exact q
        obtain ⟨_, _, ⟨T30, L30, k30, n30⟩, -, X30, ⟨Lc30, hQ30, l30, y30, z30⟩, st30⟩ := Jvm.LawKit.callS X0 hx (y := (⟨"com/example/hauora_id/hauoraid/model/ConfidenceLevelAtLeastPinLaw", "pick", "(I)Lcom/example/hauora_id/hauoraid/model/ConfidenceLevel;"⟩ : MethodName)) hown (mvT hZ (hw _ (List.mem_of_getElem? (i := 1) rfl))) (mvT hZ (hw _ (List.mem_of_getElem? (i := 2) rfl))) (mvT hZ (hw _ (List.mem_of_getElem? (i := 3) rfl))) (mvT hZ (hw _ (List.mem_of_getElem? (i := 4) rfl))) (by decide) (backOf (W := 0) (rm1 l Z aZ hw [] (0 : Int32) s_L1 s_L2 s_L2N s_L3 s_L3N h0 n0 Z0 S_L1 S_L2 S_L2N S_L3 S_L3N) hZ (hw _ (List.mem_of_getElem? (i := 4) rfl)) (hw _ (List.mem_of_getElem? (i := 3) rfl)) (by decide) (by decide)) (g := (mkF m 15 #[.val (.int p0), .val (.int p1), .val (.int (0 : Int32)), .val (.int (1 : Int32)), .unset, .unset, .unset] [(.int (0 : Int32))])) rfl (by rw [hml]; rfl) (argsL := [(.int (0 : Int32))]) (rest := []) (lenOf pd_99 rfl) rfl (by show 2 * 0 + _ ≤ _; exact Nat.le_of_eq rfl) (hb hby at_15) (fun _ _ => ⟨rfl, e0, (by decide : 0 + 0 ≤ _), (by decide : 0 + 0 ≤ _)⟩)
        dsimp only [Pt.U, Pt.locs, Pt.cells, Pt.slots] at X30 l30 y30 z30 st30 hQ30
        subst l30 y30 z30
        obtain ⟨rfl, N30q, e30⟩ := hQ30
        have N30 := Fr.app N0 N30q
        have go31 : ∀ t, Steps p.tables e below (T30.setTop (mkF m 18 #[.val (.int p0), .val (.int p1), .val (.int (0 : Int32)), .val (.int (1 : Int32)), .unset, .unset, .unset] [(.ref s_L1)])) t → Steps p.tables e below (s₁.setTop (entryFrame m #[(.int p0), (.int p1)] maxLocals)) t := fun t k => go29 _ (st30 _ k)
        have go32 : ∀ t, Steps p.tables e below (T30.setTop (mkF m 21 #[.val (.int p0), .val (.int p1), .val (.int (0 : Int32)), .val (.int (1 : Int32)), .val (.ref s_L1), .unset, .unset] [(.int (1 : Int32))])) t → Steps p.tables e below (s₁.setTop (entryFrame m #[(.int p0), (.int p1)] maxLocals)) t := by
          intro t k
          refine go31 _ ?_
          refine XS.astore X30.here hx rfl (hb hby at_18) rfl rfl (l' := #[.val (.int p0), .val (.int p1), .val (.int (0 : Int32)), .val (.int (1 : Int32)), .val (.ref s_L1), .unset, .unset]) rfl ?_
          show Steps p.tables e below (T30.setTop (mkF m 20 #[.val (.int p0), .val (.int p1), .val (.int (0 : Int32)), .val (.int (1 : Int32)), .val (.ref s_L1), .unset, .unset] [])) t
          refine XS.iloadN X30.here hx rfl (hb hby at_20) rfl ?_
          show Steps p.tables e below (T30.setTop (mkF m 21 #[.val (.int p0), .val (.int p1), .val (.int (0 : Int32)), .val (.int (1 : Int32)), .val (.ref s_L1), .unset, .unset] [(.int (1 : Int32))])) t
          exact k
        obtain ⟨_, _, ⟨T33, L33, k33, n33⟩, -, X33, ⟨Lc33, hQ33, l33, y33, z33⟩, st33⟩ := Jvm.LawKit.callS X30 hx (y := (⟨"com/example/hauora_id/hauoraid/model/ConfidenceLevelAtLeastPinLaw", "pick", "(I)Lcom/example/hauora_id/hauoraid/model/ConfidenceLevel;"⟩ : MethodName)) hown (mvT hZ (hw _ (List.mem_of_getElem? (i := 1) rfl))) (mvT hZ (hw _ (List.mem_of_getElem? (i := 2) rfl))) (mvT hZ (hw _ (List.mem_of_getElem? (i := 3) rfl))) (mvT hZ (hw _ (List.mem_of_getElem? (i := 4) rfl))) (by decide) (backOf (W := 0) (rm1 l Z aZ hw [] (1 : Int32) s_L1 s_L2 s_L2N s_L3 s_L3N h0 n0 Z0 S_L1 S_L2 S_L2N S_L3 S_L3N) hZ (hw _ (List.mem_of_getElem? (i := 4) rfl)) (hw _ (List.mem_of_getElem? (i := 3) rfl)) (by decide) (by decide)) (g := (mkF m 21 #[.val (.int p0), .val (.int p1), .val (.int (0 : Int32)), .val (.int (1 : Int32)), .val (.ref s_L1), .unset, .unset] [(.int (1 : Int32))])) rfl (by rw [hml]; rfl) (argsL := [(.int (1 : Int32))]) (rest := []) (lenOf pd_99 rfl) rfl (by show 2 * 0 + _ ≤ _; exact Nat.le_of_eq rfl) (hb hby at_21) (fun _ _ => ⟨rfl, e30, (by decide : 0 + 0 ≤ _), (by decide : 0 + 0 ≤ _)⟩)
        dsimp only [Pt.U, Pt.locs, Pt.cells, Pt.slots] at X33 l33 y33 z33 st33 hQ33
        subst l33 y33 z33
        obtain ⟨rfl, N33q, e33⟩ := hQ33
        have N33 := Fr.app N30 N33q
        have go34 : ∀ t, Steps p.tables e below (T33.setTop (mkF m 24 #[.val (.int p0), .val (.int p1), .val (.int (0 : Int32)), .val (.int (1 : Int32)), .val (.ref s_L1), .unset, .unset] [(.ref s_L2)])) t → Steps p.tables e below (s₁.setTop (entryFrame m #[(.int p0), (.int p1)] maxLocals)) t := fun t k => go32 _ (st33 _ k)
        have go35 : ∀ t, Steps p.tables e below (T33.setTop (mkF m 27 #[.val (.int p0), .val (.int p1), .val (.int (0 : Int32)), .val (.int (1 : Int32)), .val (.ref s_L1), .val (.ref s_L2), .unset] [(.int (0 : Int32))])) t → Steps p.tables e below (s₁.setTop (entryFrame m #[(.int p0), (.int p1)] maxLocals)) t := by
          intro t k
          refine go34 _ ?_
          refine XS.astore X33.here hx rfl (hb hby at_24) rfl rfl (l' := #[.val (.int p0), .val (.int p1), .val (.int (0 : Int32)), .val (.int (1 : Int32)), .val (.ref s_L1), .val (.ref s_L2), .unset]) rfl ?_
          show Steps p.tables e below (T33.setTop (mkF m 26 #[.val (.int p0), .val (.int p1), .val (.int (0 : Int32)), .val (.int (1 : Int32)), .val (.ref s_L1), .val (.ref s_L2), .unset] [])) t
          refine XS.iloadN X33.here hx rfl (hb hby at_26) rfl ?_
          show Steps p.tables e below (T33.setTop (mkF m 27 #[.val (.int p0), .val (.int p1), .val (.int (0 : Int32)), .val (.int (1 : Int32)), .val (.ref s_L1), .val (.ref s_L2), .unset] [(.int (0 : Int32))])) t
          exact k
        obtain ⟨_, _, ⟨T36, L36, k36, n36⟩, -, X36, ⟨Lc36, hQ36, l36, y36, z36⟩, st36⟩ := Jvm.LawKit.callS X33 hx (y := (⟨"com/example/hauora_id/hauoraid/model/ConfidenceLevelAtLeastPinLaw", "digit", "(I)I"⟩ : MethodName)) hown (mvT hZ (hw _ (List.mem_of_getElem? (i := 10) rfl))) (mvT hZ (hw _ (List.mem_of_getElem? (i := 11) rfl))) (mvT hZ (hw _ (List.mem_of_getElem? (i := 3) rfl))) (mvT hZ (hw _ (List.mem_of_getElem? (i := 12) rfl))) (by decide) (backOf (W := 0) (rm2 l Z aZ hw [] (0 : Int32) h0 n0 Z0 ) hZ (hw _ (List.mem_of_getElem? (i := 12) rfl)) (hw _ (List.mem_of_getElem? (i := 3) rfl)) (by decide) (by decide)) (g := (mkF m 27 #[.val (.int p0), .val (.int p1), .val (.int (0 : Int32)), .val (.int (1 : Int32)), .val (.ref s_L1), .val (.ref s_L2), .unset] [(.int (0 : Int32))])) rfl (by rw [hml]; rfl) (argsL := [(.int (0 : Int32))]) (rest := []) (lenOf pd_100 rfl) rfl (by show 2 * 0 + _ ≤ _; exact Nat.le_of_eq rfl) (hb hby at_27) (fun _ _ => ⟨rfl, e33, (by decide : 0 + 0 ≤ _), (by decide : 0 + 0 ≤ _)⟩)
        dsimp only [Pt.U, Pt.locs, Pt.cells, Pt.slots] at X36 l36 y36 z36 st36 hQ36
        subst l36 y36 z36
        obtain ⟨rfl, N36q, e36⟩ := hQ36
        have N36 := Fr.app N33 N36q
        have go37 : ∀ t, Steps p.tables e below (T36.setTop (mkF m 30 #[.val (.int p0), .val (.int p1), .val (.int (0 : Int32)), .val (.int (1 : Int32)), .val (.ref s_L1), .val (.ref s_L2), .unset] [(.int (1 : Int32))])) t → Steps p.tables e below (s₁.setTop (entryFrame m #[(.int p0), (.int p1)] maxLocals)) t := fun t k => go35 _ (st36 _ k)
        have go38 : ∀ t, Steps p.tables e below (T36.setTop (mkF m 31 #[.val (.int p0), .val (.int p1), .val (.int (0 : Int32)), .val (.int (1 : Int32)), .val (.ref s_L1), .val (.ref s_L2), .unset] [(.int (1 : Int32)), (.int (1 : Int32))])) t → Steps p.tables e below (s₁.setTop (entryFrame m #[(.int p0), (.int p1)] maxLocals)) t := by
          intro t k
          refine go37 _ ?_
          refine XS.iloadN X36.here hx rfl (hb hby at_30) rfl ?_
          show Steps p.tables e below (T36.setTop (mkF m 31 #[.val (.int p0), .val (.int p1), .val (.int (0 : Int32)), .val (.int (1 : Int32)), .val (.ref s_L1), .val (.ref s_L2), .unset] [(.int (1 : Int32)), (.int (1 : Int32))])) t
          exact k
        obtain ⟨_, _, ⟨T39, L39, k39, n39⟩, -, X39, ⟨Lc39, hQ39, l39, y39, z39⟩, st39⟩ := Jvm.LawKit.callS X36 hx (y := (⟨"com/example/hauora_id/hauoraid/model/ConfidenceLevelAtLeastPinLaw", "digit", "(I)I"⟩ : MethodName)) hown (mvT hZ (hw _ (List.mem_of_getElem? (i := 10) rfl))) (mvT hZ (hw _ (List.mem_of_getElem? (i := 11) rfl))) (mvT hZ (hw _ (List.mem_of_getElem? (i := 3) rfl))) (mvT hZ (hw _ (List.mem_of_getElem? (i := 12) rfl))) (by decide) (backOf (W := 1) (rm2 l Z aZ hw [] (1 : Int32) h0 n0 Z0 ) hZ (hw _ (List.mem_of_getElem? (i := 12) rfl)) (hw _ (List.mem_of_getElem? (i := 3) rfl)) (by decide) (by decide)) (g := (mkF m 31 #[.val (.int p0), .val (.int p1), .val (.int (0 : Int32)), .val (.int (1 : Int32)), .val (.ref s_L1), .val (.ref s_L2), .unset] [(.int (1 : Int32)), (.int (1 : Int32))])) rfl (by rw [hml]; rfl) (argsL := [(.int (1 : Int32))]) (rest := [(.int (1 : Int32))]) (lenOf pd_100 rfl) rfl (by show 2 * 0 + _ ≤ _; exact Nat.le_of_eq rfl) (hb hby at_31) (fun _ _ => ⟨rfl, e36, (by decide : 0 + 0 ≤ _), (by decide : 0 + 0 ≤ _)⟩)
        dsimp only [Pt.U, Pt.locs, Pt.cells, Pt.slots] at X39 l39 y39 z39 st39 hQ39
        subst l39 y39 z39
        obtain ⟨rfl, N39q, e39⟩ := hQ39
        have N39 := Fr.app N36 N39q
        have go40 : ∀ t, Steps p.tables e below (T39.setTop (mkF m 34 #[.val (.int p0), .val (.int p1), .val (.int (0 : Int32)), .val (.int (1 : Int32)), .val (.ref s_L1), .val (.ref s_L2), .unset] [(.int (2 : Int32)), (.int (1 : Int32))])) t → Steps p.tables e below (s₁.setTop (entryFrame m #[(.int p0), (.int p1)] maxLocals)) t := fun t k => go38 _ (st39 _ k)
        have go41 : ∀ t, Steps p.tables e below (T39.setTop (mkF m 48 #[.val (.int p0), .val (.int p1), .val (.int (0 : Int32)), .val (.int (1 : Int32)), .val (.ref s_L1), .val (.ref s_L2), .val (.int (0 : Int32))] [(.ref s_L2), (.ref s_L1)])) t → Steps p.tables e below (s₁.setTop (entryFrame m #[(.int p0), (.int p1)] maxLocals)) t := by
          intro t k
          refine go40 _ ?_
          refine XS.icmpYes X39.here hx rfl (pc0 := 34) (pc' := 41) rfl (hb hby at_34) rfl (XT.ii_lt_t (by decide : ((1 : Int32) < (2 : Int32)))) (by decide) (by decide) ?_
          show Steps p.tables e below (T39.setTop (mkF m 41 #[.val (.int p0), .val (.int p1), .val (.int (0 : Int32)), .val (.int (1 : Int32)), .val (.ref s_L1), .val (.ref s_L2), .unset] [])) t
          refine XS.iconst X39.here hx rfl (hb hby at_41) ?_
          show Steps p.tables e below (T39.setTop (mkF m 42 #[.val (.int p0), .val (.int p1), .val (.int (0 : Int32)), .val (.int (1 : Int32)), .val (.ref s_L1), .val (.ref s_L2), .unset] [(.int (0 : Int32))])) t
          refine XS.istore X39.here hx rfl (hb hby at_42) rfl (l' := #[.val (.int p0), .val (.int p1), .val (.int (0 : Int32)), .val (.int (1 : Int32)), .val (.ref s_L1), .val (.ref s_L2), .val (.int (0 : Int32))]) rfl ?_
          show Steps p.tables e below (T39.setTop (mkF m 44 #[.val (.int p0), .val (.int p1), .val (.int (0 : Int32)), .val (.int (1 : Int32)), .val (.ref s_L1), .val (.ref s_L2), .val (.int (0 : Int32))] [])) t
          refine XS.aload X39.here hx rfl (hb hby at_44) rfl rfl ?_
          show Steps p.tables e below (T39.setTop (mkF m 46 #[.val (.int p0), .val (.int p1), .val (.int (0 : Int32)), .val (.int (1 : Int32)), .val (.ref s_L1), .val (.ref s_L2), .val (.int (0 : Int32))] [(.ref s_L1)])) t
          refine XS.aload X39.here hx rfl (hb hby at_46) rfl rfl ?_
          show Steps p.tables e below (T39.setTop (mkF m 48 #[.val (.int p0), .val (.int p1), .val (.int (0 : Int32)), .val (.int (1 : Int32)), .val (.ref s_L1), .val (.ref s_L2), .val (.int (0 : Int32))] [(.ref s_L2), (.ref s_L1)])) t
          exact k
        obtain ⟨cq42, kq42, q42a, q42b, q42c⟩ := isOf hZ e39 E_L1
        obtain ⟨_, _, ⟨T42, L42, k42, n42⟩, -, X42, ⟨Lc42, hQ42, l42, y42, z42⟩, st42⟩ := X39.virtualBack hx (y := (⟨"com/example/hauora_id/hauoraid/model/ConfidenceLevel", "atLeast", "(Lcom/example/hauora_id/hauoraid/model/ConfidenceLevel;)Z"⟩ : MethodName)) (z := (⟨"com/example/hauora_id/hauoraid/model/ConfidenceLevel", "atLeast", "(Lcom/example/hauora_id/hauoraid/model/ConfidenceLevel;)Z"⟩ : MethodName)) hown (mvT hZ (hw _ (List.mem_of_getElem? (i := 13) rfl))) (mvT hZ (hw _ (List.mem_of_getElem? (i := 14) rfl))) (notFace_of_selects (args := #[]) (mvT hZ (hw _ (List.mem_of_getElem? (i := 16) rfl)))) (mvT hZ (hw _ (List.mem_of_getElem? (i := 16) rfl))) (mvT hZ (hw _ (List.mem_of_getElem? (i := 15) rfl))) (by decide) (backOf (W := 0) (rm3 l Z aZ hw [] s_L1 s_L2 s_COMPACT_STRINGS s_SIOOBE_FORMATTER s_L1_value s_L1_value_value k_s_L1_value_value (1 : Int32) [(.int (49 : Int32))] (49 : Int32) s_L2_value s_L2_value_value k_s_L2_value_value (1 : Int32) [(.int (50 : Int32))] (50 : Int32) h0 n0 Z0 S_COMPACT_STRINGS S_SIOOBE_FORMATTER rS_SIOOBE_FORMATTER hcs F_L1_value E_L1_value F_L1_value_coder F_L1_value_value V_L1_value_value (by decide) rfl F_L2_value E_L2_value F_L2_value_coder F_L2_value_value V_L2_value_value (by decide) rfl) hZ (hw _ (List.mem_of_getElem? (i := 17) rfl)) (hw _ (List.mem_of_getElem? (i := 6) rfl)) (by decide) (by decide)) q42a q42c (g := (mkF m 48 #[.val (.int p0), .val (.int p1), .val (.int (0 : Int32)), .val (.int (1 : Int32)), .val (.ref s_L1), .val (.ref s_L2), .val (.int (0 : Int32))] [(.ref s_L2), (.ref s_L1)])) rfl (by rw [hml]; rfl) (Steps.refl _) (argsL := [(.ref s_L2)]) (rest := []) (lenOf pd_101 rfl) rfl (by show 2 * 0 + _ ≤ _; exact Nat.le_of_eq rfl) (hb hby at_48) (fun _ _ => ⟨rfl, e39, (by decide : 0 + 0 ≤ _), (by decide : 0 + 0 ≤ _)⟩)
        dsimp only [Pt.U, Pt.locs, Pt.cells, Pt.slots] at X42 l42 y42 z42 st42 hQ42
        subst l42 y42 z42
        obtain ⟨rfl, N42q, e42⟩ := hQ42
        have N42 := Fr.app N39 N42q
        have go43 : ∀ t, Steps p.tables e below (T42.setTop (mkF m 51 #[.val (.int p0), .val (.int p1), .val (.int (0 : Int32)), .val (.int (1 : Int32)), .val (.ref s_L1), .val (.ref s_L2), .val (.int (0 : Int32))] [(.int (f3 (49 : Int32) (50 : Int32)))])) t → Steps p.tables e below (s₁.setTop (entryFrame m #[(.int p0), (.int p1)] maxLocals)) t := fun t k => go41 _ (st42.trans k)
        have go45 : ∀ t, Steps p.tables e below (T42.setTop (mkF m 61 #[.val (.int p0), .val (.int p1), .val (.int (0 : Int32)), .val (.int (1 : Int32)), .val (.ref s_L1), .val (.ref s_L2), .val (.int (0 : Int32))] [(.int b0_46)])) t → Steps p.tables e below (s₁.setTop (entryFrame m #[(.int p0), (.int p1)] maxLocals)) t := by
          intro t k
          refine go43 _ ?_
          refine XS.iload X42.here hx rfl (hb hby at_51) rfl ?_
          show Steps p.tables e below (T42.setTop (mkF m 53 #[.val (.int p0), .val (.int p1), .val (.int (0 : Int32)), .val (.int (1 : Int32)), .val (.ref s_L1), .val (.ref s_L2), .val (.int (0 : Int32))] [(.int (0 : Int32)), (.int (f3 (49 : Int32) (50 : Int32)))])) t
          by_cases hc44 : (f3 (49 : Int32) (50 : Int32)) = (0 : Int32)
          · refine XS.icmpNo X42.here hx rfl (hb hby at_53) rfl (XT.ii_ne_f hc44) ?_
            show Steps p.tables e below (T42.setTop (mkF m 56 #[.val (.int p0), .val (.int p1), .val (.int (0 : Int32)), .val (.int (1 : Int32)), .val (.ref s_L1), .val (.ref s_L2), .val (.int (0 : Int32))] [])) t
            refine XS.iconst X42.here hx rfl (hb hby at_56) ?_
            show Steps p.tables e below (T42.setTop (mkF m 57 #[.val (.int p0), .val (.int p1), .val (.int (0 : Int32)), .val (.int (1 : Int32)), .val (.ref s_L1), .val (.ref s_L2), .val (.int (0 : Int32))] [(.int (1 : Int32))])) t
            refine XS.goto X42.here hx rfl (pc0 := 57) (pc' := 61) rfl (hb hby at_57) (by decide) (by decide) ?_
            show Steps p.tables e below (T42.setTop (mkF m 61 #[.val (.int p0), .val (.int p1), .val (.int (0 : Int32)), .val (.int (1 : Int32)), .val (.ref s_L1), .val (.ref s_L2), .val (.int (0 : Int32))] [(.int (1 : Int32))])) t
            have hq47 : b0_46 = (1 : Int32) := by rw [b0_46, if_pos hc44]
            rw [hq47] at k
            exact k
          · refine XS.icmpYes X42.here hx rfl (pc0 := 53) (pc' := 60) rfl (hb hby at_53) rfl (XT.ii_ne_t hc44) (by decide) (by decide) ?_
            show Steps p.tables e below (T42.setTop (mkF m 60 #[.val (.int p0), .val (.int p1), .val (.int (0 : Int32)), .val (.int (1 : Int32)), .val (.ref s_L1), .val (.ref s_L2), .val (.int (0 : Int32))] [])) t
            refine XS.iconst X42.here hx rfl (hb hby at_60) ?_
            show Steps p.tables e below (T42.setTop (mkF m 61 #[.val (.int p0), .val (.int p1), .val (.int (0 : Int32)), .val (.int (1 : Int32)), .val (.ref s_L1), .val (.ref s_L2), .val (.int (0 : Int32))] [(.int (0 : Int32))])) t
            have hq48 : b0_46 = (0 : Int32) := by rw [b0_46, if_neg hc44]
            rw [hq48] at k
            exact k
        obtain ⟨fs, hr, hrun, hended, hW, hsame⟩ := X42.leave (v := some (.int b0_46)) (fun h => by rw [Bd.returns] at h; cases h)
        refine ⟨_, _, go45 _ (Jvm.RoadKit.retOut X42 hx Bd.returns (own_nz (by unfold b0_46; (repeat' split) <;> first | exact Or.inl rfl | exact Or.inr rfl)) (Or.inl ⟨rfl, Or.inr (Or.inl rfl), _, rfl⟩) (hb hby at_61) hr), hrun, hended, _, _, rfl, ?_, ⟨_, rfl⟩, hW, hsame.mono (by decide) (by decide)⟩
        show Q0 _ _ p0 p1 s_L1 s_L3 s_L1_value s_L1_value_value s_L3_value s_L3_value_value s_L3N s_L2 s_L3N_value s_L3N_value_value s_L2_value s_L2_value_value s_L2N s_L2N_value s_L2N_value_value k_s_L1_value_value k_s_L3_value_value k_s_L3N_value_value k_s_L2_value_value k_s_L2N_value_value s_COMPACT_STRINGS s_SIOOBE_FORMATTER h0 _ (T42.setFrames fs).heap _
        have hE : (T42.setFrames fs).heap = h0 := e42
        rw [hE]
        exact ⟨congrArg (fun z => some (Value.int z)) ((by rw [f0, if_pos hs4, if_neg hs7, if_pos hs28] : b0_46 = (f0 p0 p1)).trans (f0_one p0 p1)), N42⟩
      · by_cases hs49 : (v0_2 p1) = (2 : Int32)
        · have go50 : ∀ t, Steps p.tables e below (s₁.setTop (mkF m 15 #[.val (.int p0), .val (.int p1), .val (.int (0 : Int32)), .val (.int (2 : Int32)), .unset, .unset, .unset] [(.int (0 : Int32))])) t → Steps p.tables e below (s₁.setTop (entryFrame m #[(.int p0), (.int p1)] maxLocals)) t := by
            have q := go6
            rw [hs49] at q
            exact q
          obtain ⟨_, _, ⟨T51, L51, k51, n51⟩, -, X51, ⟨Lc51, hQ51, l51, y51, z51⟩, st51⟩ := Jvm.LawKit.callS X0 hx (y := (⟨"com/example/hauora_id/hauoraid/model/ConfidenceLevelAtLeastPinLaw", "pick", "(I)Lcom/example/hauora_id/hauoraid/model/ConfidenceLevel;"⟩ : MethodName)) hown (mvT hZ (hw _ (List.mem_of_getElem? (i := 1) rfl))) (mvT hZ (hw _ (List.mem_of_getElem? (i := 2) rfl))) (mvT hZ (hw _ (List.mem_of_getElem? (i := 3) rfl))) (mvT hZ (hw _ (List.mem_of_getElem? (i := 4) rfl))) (by decide) (backOf (W := 0) (rm1 l Z aZ hw [] (0 : Int32) s_L1 s_L2 s_L2N s_L3 s_L3N h0 n0 Z0 S_L1 S_L2 S_L2N S_L3 S_L3N) hZ (hw _ (List.mem_of_getElem? (i := 4) rfl)) (hw _ (List.mem_of_getElem? (i := 3) rfl)) (by decide) (by decide)) (g := (mkF m 15 #[.val (.int p0), .val (.int p1), .val (.int (0 : Int32)), .val (.int (2 : Int32)), .unset, .unset, .unset] [(.int (0 : Int32))])) rfl (by rw [hml]; rfl) (argsL := [(.int (0 : Int32))]) (rest := []) (lenOf pd_99 rfl) rfl (by show 2 * 0 + _ ≤ _; exact Nat.le_of_eq rfl) (hb hby at_15) (fun _ _ => ⟨rfl, e0, (by decide : 0 + 0 ≤ _), (by decide : 0 + 0 ≤ _)⟩)
          dsimp only [Pt.U, Pt.locs, Pt.cells, Pt.slots] at X51 l51 y51 z51 st51 hQ51
          subst l51 y51 z51
          obtain ⟨rfl, N51q, e51⟩ := hQ51
          have N51 := Fr.app N0 N51q
          have go52 : ∀ t, Steps p.tables e below (T51.setTop (mkF m 18 #[.val (.int p0), .val (.int p1), .val (.int (0 : Int32)), .val (.int (2 : Int32)), .unset, .unset, .unset] [(.ref s_L1)])) t → Steps p.tables e below (s₁.setTop (entryFrame m #[(.int p0), (.int p1)] maxLocals)) t := fun t k => go50 _ (st51 _ k)
          have go53 : ∀ t, Steps p.tables e below (T51.setTop (mkF m 21 #[.val (.int p0), .val (.int p1), .val (.int (0 : Int32)), .val (.int (2 : Int32)), .val (.ref s_L1), .unset, .unset] [(.int (2 : Int32))])) t → Steps p.tables e below (s₁.setTop (entryFrame m #[(.int p0), (.int p1)] maxLocals)) t := by
            intro t k
            refine go52 _ ?_
            refine XS.astore X51.here hx rfl (hb hby at_18) rfl rfl (l' := #[.val (.int p0), .val (.int p1), .val (.int (0 : Int32)), .val (.int (2 : Int32)), .val (.ref s_L1), .unset, .unset]) rfl ?_
            show Steps p.tables e below (T51.setTop (mkF m 20 #[.val (.int p0), .val (.int p1), .val (.int (0 : Int32)), .val (.int (2 : Int32)), .val (.ref s_L1), .unset, .unset] [])) t
            refine XS.iloadN X51.here hx rfl (hb hby at_20) rfl ?_
            show Steps p.tables e below (T51.setTop (mkF m 21 #[.val (.int p0), .val (.int p1), .val (.int (0 : Int32)), .val (.int (2 : Int32)), .val (.ref s_L1), .unset, .unset] [(.int (2 : Int32))])) t
            exact k
          obtain ⟨_, _, ⟨T54, L54, k54, n54⟩, -, X54, ⟨Lc54, hQ54, l54, y54, z54⟩, st54⟩ := Jvm.LawKit.callS X51 hx (y := (⟨"com/example/hauora_id/hauoraid/model/ConfidenceLevelAtLeastPinLaw", "pick", "(I)Lcom/example/hauora_id/hauoraid/model/ConfidenceLevel;"⟩ : MethodName)) hown (mvT hZ (hw _ (List.mem_of_getElem? (i := 1) rfl))) (mvT hZ (hw _ (List.mem_of_getElem? (i := 2) rfl))) (mvT hZ (hw _ (List.mem_of_getElem? (i := 3) rfl))) (mvT hZ (hw _ (List.mem_of_getElem? (i := 4) rfl))) (by decide) (backOf (W := 0) (rm1 l Z aZ hw [] (2 : Int32) s_L1 s_L2 s_L2N s_L3 s_L3N h0 n0 Z0 S_L1 S_L2 S_L2N S_L3 S_L3N) hZ (hw _ (List.mem_of_getElem? (i := 4) rfl)) (hw _ (List.mem_of_getElem? (i := 3) rfl)) (by decide) (by decide)) (g := (mkF m 21 #[.val (.int p0), .val (.int p1), .val (.int (0 : Int32)), .val (.int (2 : Int32)), .val (.ref s_L1), .unset, .unset] [(.int (2 : Int32))])) rfl (by rw [hml]; rfl) (argsL := [(.int (2 : Int32))]) (rest := []) (lenOf pd_99 rfl) rfl (by show 2 * 0 + _ ≤ _; exact Nat.le_of_eq rfl) (hb hby at_21) (fun _ _ => ⟨rfl, e51, (by decide : 0 + 0 ≤ _), (by decide : 0 + 0 ≤ _)⟩)
          dsimp only [Pt.U, Pt.locs, Pt.cells, Pt.slots] at X54 l54 y54 z54 st54 hQ54
          subst l54 y54 z54
          obtain ⟨rfl, N54q, e54⟩ := hQ54
          have N54 := Fr.app N51 N54q
          have go55 : ∀ t, Steps p.tables e below (T54.setTop (mkF m 24 #[.val (.int p0), .val (.int p1), .val (.int (0 : Int32)), .val (.int (2 : Int32)), .val (.ref s_L1), .unset, .unset] [(.ref s_L2N)])) t → Steps p.tables e below (s₁.setTop (entryFrame m #[(.int p0), (.int p1)] maxLocals)) t := fun t k => go53 _ (st54 _ k)
          have go56 : ∀ t, Steps p.tables e below (T54.setTop (mkF m 27 #[.val (.int p0), .val (.int p1), .val (.int (0 : Int32)), .val (.int (2 : Int32)), .val (.ref s_L1), .val (.ref s_L2N), .unset] [(.int (0 : Int32))])) t → Steps p.tables e below (s₁.setTop (entryFrame m #[(.int p0), (.int p1)] maxLocals)) t := by
            intro t k
            refine go55 _ ?_
            refine XS.astore X54.here hx rfl (hb hby at_24) rfl rfl (l' := #[.val (.int p0), .val (.int p1), .val (.int (0 : Int32)), .val (.int (2 : Int32)), .val (.ref s_L1), .val (.ref s_L2N), .unset]) rfl ?_
            show Steps p.tables e below (T54.setTop (mkF m 26 #[.val (.int p0), .val (.int p1), .val (.int (0 : Int32)), .val (.int (2 : Int32)), .val (.ref s_L1), .val (.ref s_L2N), .unset] [])) t
            refine XS.iloadN X54.here hx rfl (hb hby at_26) rfl ?_
            show Steps p.tables e below (T54.setTop (mkF m 27 #[.val (.int p0), .val (.int p1), .val (.int (0 : Int32)), .val (.int (2 : Int32)), .val (.ref s_L1), .val (.ref s_L2N), .unset] [(.int (0 : Int32))])) t
            exact k
          obtain ⟨_, _, ⟨T57, L57, k57, n57⟩, -, X57, ⟨Lc57, hQ57, l57, y57, z57⟩, st57⟩ := Jvm.LawKit.callS X54 hx (y := (⟨"com/example/hauora_id/hauoraid/model/ConfidenceLevelAtLeastPinLaw", "digit", "(I)I"⟩ : MethodName)) hown (mvT hZ (hw _ (List.mem_of_getElem? (i := 10) rfl))) (mvT hZ (hw _ (List.mem_of_getElem? (i := 11) rfl))) (mvT hZ (hw _ (List.mem_of_getElem? (i := 3) rfl))) (mvT hZ (hw _ (List.mem_of_getElem? (i := 12) rfl))) (by decide) (backOf (W := 0) (rm2 l Z aZ hw [] (0 : Int32) h0 n0 Z0 ) hZ (hw _ (List.mem_of_getElem? (i := 12) rfl)) (hw _ (List.mem_of_getElem? (i := 3) rfl)) (by decide) (by decide)) (g := (mkF m 27 #[.val (.int p0), .val (.int p1), .val (.int (0 : Int32)), .val (.int (2 : Int32)), .val (.ref s_L1), .val (.ref s_L2N), .unset] [(.int (0 : Int32))])) rfl (by rw [hml]; rfl) (argsL := [(.int (0 : Int32))]) (rest := []) (lenOf pd_100 rfl) rfl (by show 2 * 0 + _ ≤ _; exact Nat.le_of_eq rfl) (hb hby at_27) (fun _ _ => ⟨rfl, e54, (by decide : 0 + 0 ≤ _), (by decide : 0 + 0 ≤ _)⟩)
          dsimp only [Pt.U, Pt.locs, Pt.cells, Pt.slots] at X57 l57 y57 z57 st57 hQ57
          subst l57 y57 z57
          obtain ⟨rfl, N57q, e57⟩ := hQ57
          have N57 := Fr.app N54 N57q
          have go58 : ∀ t, Steps p.tables e below (T57.setTop (mkF m 30 #[.val (.int p0), .val (.int p1), .val (.int (0 : Int32)), .val (.int (2 : Int32)), .val (.ref s_L1), .val (.ref s_L2N), .unset] [(.int (1 : Int32))])) t → Steps p.tables e below (s₁.setTop (entryFrame m #[(.int p0), (.int p1)] maxLocals)) t := fun t k => go56 _ (st57 _ k)
          have go59 : ∀ t, Steps p.tables e below (T57.setTop (mkF m 31 #[.val (.int p0), .val (.int p1), .val (.int (0 : Int32)), .val (.int (2 : Int32)), .val (.ref s_L1), .val (.ref s_L2N), .unset] [(.int (2 : Int32)), (.int (1 : Int32))])) t → Steps p.tables e below (s₁.setTop (entryFrame m #[(.int p0), (.int p1)] maxLocals)) t := by
            intro t k
            refine go58 _ ?_
            refine XS.iloadN X57.here hx rfl (hb hby at_30) rfl ?_
            show Steps p.tables e below (T57.setTop (mkF m 31 #[.val (.int p0), .val (.int p1), .val (.int (0 : Int32)), .val (.int (2 : Int32)), .val (.ref s_L1), .val (.ref s_L2N), .unset] [(.int (2 : Int32)), (.int (1 : Int32))])) t
            exact k
          obtain ⟨_, _, ⟨T60, L60, k60, n60⟩, -, X60, ⟨Lc60, hQ60, l60, y60, z60⟩, st60⟩ := Jvm.LawKit.callS X57 hx (y := (⟨"com/example/hauora_id/hauoraid/model/ConfidenceLevelAtLeastPinLaw", "digit", "(I)I"⟩ : MethodName)) hown (mvT hZ (hw _ (List.mem_of_getElem? (i := 10) rfl))) (mvT hZ (hw _ (List.mem_of_getElem? (i := 11) rfl))) (mvT hZ (hw _ (List.mem_of_getElem? (i := 3) rfl))) (mvT hZ (hw _ (List.mem_of_getElem? (i := 12) rfl))) (by decide) (backOf (W := 1) (rm2 l Z aZ hw [] (2 : Int32) h0 n0 Z0 ) hZ (hw _ (List.mem_of_getElem? (i := 12) rfl)) (hw _ (List.mem_of_getElem? (i := 3) rfl)) (by decide) (by decide)) (g := (mkF m 31 #[.val (.int p0), .val (.int p1), .val (.int (0 : Int32)), .val (.int (2 : Int32)), .val (.ref s_L1), .val (.ref s_L2N), .unset] [(.int (2 : Int32)), (.int (1 : Int32))])) rfl (by rw [hml]; rfl) (argsL := [(.int (2 : Int32))]) (rest := [(.int (1 : Int32))]) (lenOf pd_100 rfl) rfl (by show 2 * 0 + _ ≤ _; exact Nat.le_of_eq rfl) (hb hby at_31) (fun _ _ => ⟨rfl, e57, (by decide : 0 + 0 ≤ _), (by decide : 0 + 0 ≤ _)⟩)
          dsimp only [Pt.U, Pt.locs, Pt.cells, Pt.slots] at X60 l60 y60 z60 st60 hQ60
          subst l60 y60 z60
          obtain ⟨rfl, N60q, e60⟩ := hQ60
          have N60 := Fr.app N57 N60q
          have go61 : ∀ t, Steps p.tables e below (T60.setTop (mkF m 34 #[.val (.int p0), .val (.int p1), .val (.int (0 : Int32)), .val (.int (2 : Int32)), .val (.ref s_L1), .val (.ref s_L2N), .unset] [(.int (2 : Int32)), (.int (1 : Int32))])) t → Steps p.tables e below (s₁.setTop (entryFrame m #[(.int p0), (.int p1)] maxLocals)) t := fun t k => go59 _ (st60 _ k)
          have go62 : ∀ t, Steps p.tables e below (T60.setTop (mkF m 48 #[.val (.int p0), .val (.int p1), .val (.int (0 : Int32)), .val (.int (2 : Int32)), .val (.ref s_L1), .val (.ref s_L2N), .val (.int (0 : Int32))] [(.ref s_L2N), (.ref s_L1)])) t → Steps p.tables e below (s₁.setTop (entryFrame m #[(.int p0), (.int p1)] maxLocals)) t := by
            intro t k
            refine go61 _ ?_
            refine XS.icmpYes X60.here hx rfl (pc0 := 34) (pc' := 41) rfl (hb hby at_34) rfl (XT.ii_lt_t (by decide : ((1 : Int32) < (2 : Int32)))) (by decide) (by decide) ?_
            show Steps p.tables e below (T60.setTop (mkF m 41 #[.val (.int p0), .val (.int p1), .val (.int (0 : Int32)), .val (.int (2 : Int32)), .val (.ref s_L1), .val (.ref s_L2N), .unset] [])) t
            refine XS.iconst X60.here hx rfl (hb hby at_41) ?_
            show Steps p.tables e below (T60.setTop (mkF m 42 #[.val (.int p0), .val (.int p1), .val (.int (0 : Int32)), .val (.int (2 : Int32)), .val (.ref s_L1), .val (.ref s_L2N), .unset] [(.int (0 : Int32))])) t
            refine XS.istore X60.here hx rfl (hb hby at_42) rfl (l' := #[.val (.int p0), .val (.int p1), .val (.int (0 : Int32)), .val (.int (2 : Int32)), .val (.ref s_L1), .val (.ref s_L2N), .val (.int (0 : Int32))]) rfl ?_
            show Steps p.tables e below (T60.setTop (mkF m 44 #[.val (.int p0), .val (.int p1), .val (.int (0 : Int32)), .val (.int (2 : Int32)), .val (.ref s_L1), .val (.ref s_L2N), .val (.int (0 : Int32))] [])) t
            refine XS.aload X60.here hx rfl (hb hby at_44) rfl rfl ?_
            show Steps p.tables e below (T60.setTop (mkF m 46 #[.val (.int p0), .val (.int p1), .val (.int (0 : Int32)), .val (.int (2 : Int32)), .val (.ref s_L1), .val (.ref s_L2N), .val (.int (0 : Int32))] [(.ref s_L1)])) t
            refine XS.aload X60.here hx rfl (hb hby at_46) rfl rfl ?_
            show Steps p.tables e below (T60.setTop (mkF m 48 #[.val (.int p0), .val (.int p1), .val (.int (0 : Int32)), .val (.int (2 : Int32)), .val (.ref s_L1), .val (.ref s_L2N), .val (.int (0 : Int32))] [(.ref s_L2N), (.ref s_L1)])) t
            exact k
          obtain ⟨cq63, kq63, q63a, q63b, q63c⟩ := isOf hZ e60 E_L1
          obtain ⟨_, _, ⟨T63, L63, k63, n63⟩, -, X63, ⟨Lc63, hQ63, l63, y63, z63⟩, st63⟩ := X60.virtualBack hx (y := (⟨"com/example/hauora_id/hauoraid/model/ConfidenceLevel", "atLeast", "(Lcom/example/hauora_id/hauoraid/model/ConfidenceLevel;)Z"⟩ : MethodName)) (z := (⟨"com/example/hauora_id/hauoraid/model/ConfidenceLevel", "atLeast", "(Lcom/example/hauora_id/hauoraid/model/ConfidenceLevel;)Z"⟩ : MethodName)) hown (mvT hZ (hw _ (List.mem_of_getElem? (i := 13) rfl))) (mvT hZ (hw _ (List.mem_of_getElem? (i := 14) rfl))) (notFace_of_selects (args := #[]) (mvT hZ (hw _ (List.mem_of_getElem? (i := 16) rfl)))) (mvT hZ (hw _ (List.mem_of_getElem? (i := 16) rfl))) (mvT hZ (hw _ (List.mem_of_getElem? (i := 15) rfl))) (by decide) (backOf (W := 0) (rm3 l Z aZ hw [] s_L1 s_L2N s_COMPACT_STRINGS s_SIOOBE_FORMATTER s_L1_value s_L1_value_value k_s_L1_value_value (1 : Int32) [(.int (49 : Int32))] (49 : Int32) s_L2N_value s_L2N_value_value k_s_L2N_value_value (2 : Int32) [(.int (50 : Int32)), (.int (78 : Int32))] (50 : Int32) h0 n0 Z0 S_COMPACT_STRINGS S_SIOOBE_FORMATTER rS_SIOOBE_FORMATTER hcs F_L1_value E_L1_value F_L1_value_coder F_L1_value_value V_L1_value_value (by decide) rfl F_L2N_value E_L2N_value F_L2N_value_coder F_L2N_value_value V_L2N_value_value (by decide) rfl) hZ (hw _ (List.mem_of_getElem? (i := 17) rfl)) (hw _ (List.mem_of_getElem? (i := 6) rfl)) (by decide) (by decide)) q63a q63c (g := (mkF m 48 #[.val (.int p0), .val (.int p1), .val (.int (0 : Int32)), .val (.int (2 : Int32)), .val (.ref s_L1), .val (.ref s_L2N), .val (.int (0 : Int32))] [(.ref s_L2N), (.ref s_L1)])) rfl (by rw [hml]; rfl) (Steps.refl _) (argsL := [(.ref s_L2N)]) (rest := []) (lenOf pd_101 rfl) rfl (by show 2 * 0 + _ ≤ _; exact Nat.le_of_eq rfl) (hb hby at_48) (fun _ _ => ⟨rfl, e60, (by decide : 0 + 0 ≤ _), (by decide : 0 + 0 ≤ _)⟩)
          dsimp only [Pt.U, Pt.locs, Pt.cells, Pt.slots] at X63 l63 y63 z63 st63 hQ63
          subst l63 y63 z63
          obtain ⟨rfl, N63q, e63⟩ := hQ63
          have N63 := Fr.app N60 N63q
          have go64 : ∀ t, Steps p.tables e below (T63.setTop (mkF m 51 #[.val (.int p0), .val (.int p1), .val (.int (0 : Int32)), .val (.int (2 : Int32)), .val (.ref s_L1), .val (.ref s_L2N), .val (.int (0 : Int32))] [(.int (f3 (49 : Int32) (50 : Int32)))])) t → Steps p.tables e below (s₁.setTop (entryFrame m #[(.int p0), (.int p1)] maxLocals)) t := fun t k => go62 _ (st63.trans k)
          have go66 : ∀ t, Steps p.tables e below (T63.setTop (mkF m 61 #[.val (.int p0), .val (.int p1), .val (.int (0 : Int32)), .val (.int (2 : Int32)), .val (.ref s_L1), .val (.ref s_L2N), .val (.int (0 : Int32))] [(.int b0_46)])) t → Steps p.tables e below (s₁.setTop (entryFrame m #[(.int p0), (.int p1)] maxLocals)) t := by
            intro t k
            refine go64 _ ?_
            refine XS.iload X63.here hx rfl (hb hby at_51) rfl ?_
            show Steps p.tables e below (T63.setTop (mkF m 53 #[.val (.int p0), .val (.int p1), .val (.int (0 : Int32)), .val (.int (2 : Int32)), .val (.ref s_L1), .val (.ref s_L2N), .val (.int (0 : Int32))] [(.int (0 : Int32)), (.int (f3 (49 : Int32) (50 : Int32)))])) t
            by_cases hc65 : (f3 (49 : Int32) (50 : Int32)) = (0 : Int32)
            · refine XS.icmpNo X63.here hx rfl (hb hby at_53) rfl (XT.ii_ne_f hc65) ?_
              show Steps p.tables e below (T63.setTop (mkF m 56 #[.val (.int p0), .val (.int p1), .val (.int (0 : Int32)), .val (.int (2 : Int32)), .val (.ref s_L1), .val (.ref s_L2N), .val (.int (0 : Int32))] [])) t
              refine XS.iconst X63.here hx rfl (hb hby at_56) ?_
              show Steps p.tables e below (T63.setTop (mkF m 57 #[.val (.int p0), .val (.int p1), .val (.int (0 : Int32)), .val (.int (2 : Int32)), .val (.ref s_L1), .val (.ref s_L2N), .val (.int (0 : Int32))] [(.int (1 : Int32))])) t
              refine XS.goto X63.here hx rfl (pc0 := 57) (pc' := 61) rfl (hb hby at_57) (by decide) (by decide) ?_
              show Steps p.tables e below (T63.setTop (mkF m 61 #[.val (.int p0), .val (.int p1), .val (.int (0 : Int32)), .val (.int (2 : Int32)), .val (.ref s_L1), .val (.ref s_L2N), .val (.int (0 : Int32))] [(.int (1 : Int32))])) t
              have hq67 : b0_46 = (1 : Int32) := by rw [b0_46, if_pos hc65]
              rw [hq67] at k
              exact k
            · refine XS.icmpYes X63.here hx rfl (pc0 := 53) (pc' := 60) rfl (hb hby at_53) rfl (XT.ii_ne_t hc65) (by decide) (by decide) ?_
              show Steps p.tables e below (T63.setTop (mkF m 60 #[.val (.int p0), .val (.int p1), .val (.int (0 : Int32)), .val (.int (2 : Int32)), .val (.ref s_L1), .val (.ref s_L2N), .val (.int (0 : Int32))] [])) t
              refine XS.iconst X63.here hx rfl (hb hby at_60) ?_
              show Steps p.tables e below (T63.setTop (mkF m 61 #[.val (.int p0), .val (.int p1), .val (.int (0 : Int32)), .val (.int (2 : Int32)), .val (.ref s_L1), .val (.ref s_L2N), .val (.int (0 : Int32))] [(.int (0 : Int32))])) t
              have hq68 : b0_46 = (0 : Int32) := by rw [b0_46, if_neg hc65]
              rw [hq68] at k
              exact k
          obtain ⟨fs, hr, hrun, hended, hW, hsame⟩ := X63.leave (v := some (.int b0_46)) (fun h => by rw [Bd.returns] at h; cases h)
          refine ⟨_, _, go66 _ (Jvm.RoadKit.retOut X63 hx Bd.returns (own_nz (by unfold b0_46; (repeat' split) <;> first | exact Or.inl rfl | exact Or.inr rfl)) (Or.inl ⟨rfl, Or.inr (Or.inl rfl), _, rfl⟩) (hb hby at_61) hr), hrun, hended, _, _, rfl, ?_, ⟨_, rfl⟩, hW, hsame.mono (by decide) (by decide)⟩
          show Q0 _ _ p0 p1 s_L1 s_L3 s_L1_value s_L1_value_value s_L3_value s_L3_value_value s_L3N s_L2 s_L3N_value s_L3N_value_value s_L2_value s_L2_value_value s_L2N s_L2N_value s_L2N_value_value k_s_L1_value_value k_s_L3_value_value k_s_L3N_value_value k_s_L2_value_value k_s_L2N_value_value s_COMPACT_STRINGS s_SIOOBE_FORMATTER h0 _ (T63.setFrames fs).heap _
          have hE : (T63.setFrames fs).heap = h0 := e63
          rw [hE]
          exact ⟨congrArg (fun z => some (Value.int z)) ((by rw [f0, if_pos hs4, if_neg hs7, if_neg hs28, if_pos hs49] : b0_46 = (f0 p0 p1)).trans (f0_one p0 p1)), N63⟩
        · by_cases hs69 : (v0_2 p1) = (3 : Int32)
          · have go70 : ∀ t, Steps p.tables e below (s₁.setTop (mkF m 15 #[.val (.int p0), .val (.int p1), .val (.int (0 : Int32)), .val (.int (3 : Int32)), .unset, .unset, .unset] [(.int (0 : Int32))])) t → Steps p.tables e below (s₁.setTop (entryFrame m #[(.int p0), (.int p1)] maxLocals)) t := by
              have q := go6
              rw [hs69] at q
              exact q
            obtain ⟨_, _, ⟨T71, L71, k71, n71⟩, -, X71, ⟨Lc71, hQ71, l71, y71, z71⟩, st71⟩ := Jvm.LawKit.callS X0 hx (y := (⟨"com/example/hauora_id/hauoraid/model/ConfidenceLevelAtLeastPinLaw", "pick", "(I)Lcom/example/hauora_id/hauoraid/model/ConfidenceLevel;"⟩ : MethodName)) hown (mvT hZ (hw _ (List.mem_of_getElem? (i := 1) rfl))) (mvT hZ (hw _ (List.mem_of_getElem? (i := 2) rfl))) (mvT hZ (hw _ (List.mem_of_getElem? (i := 3) rfl))) (mvT hZ (hw _ (List.mem_of_getElem? (i := 4) rfl))) (by decide) (backOf (W := 0) (rm1 l Z aZ hw [] (0 : Int32) s_L1 s_L2 s_L2N s_L3 s_L3N h0 n0 Z0 S_L1 S_L2 S_L2N S_L3 S_L3N) hZ (hw _ (List.mem_of_getElem? (i := 4) rfl)) (hw _ (List.mem_of_getElem? (i := 3) rfl)) (by decide) (by decide)) (g := (mkF m 15 #[.val (.int p0), .val (.int p1), .val (.int (0 : Int32)), .val (.int (3 : Int32)), .unset, .unset, .unset] [(.int (0 : Int32))])) rfl (by rw [hml]; rfl) (argsL := [(.int (0 : Int32))]) (rest := []) (lenOf pd_99 rfl) rfl (by show 2 * 0 + _ ≤ _; exact Nat.le_of_eq rfl) (hb hby at_15) (fun _ _ => ⟨rfl, e0, (by decide : 0 + 0 ≤ _), (by decide : 0 + 0 ≤ _)⟩)
            dsimp only [Pt.U, Pt.locs, Pt.cells, Pt.slots] at X71 l71 y71 z71 st71 hQ71
            subst l71 y71 z71
            obtain ⟨rfl, N71q, e71⟩ := hQ71
            have N71 := Fr.app N0 N71q
            have go72 : ∀ t, Steps p.tables e below (T71.setTop (mkF m 18 #[.val (.int p0), .val (.int p1), .val (.int (0 : Int32)), .val (.int (3 : Int32)), .unset, .unset, .unset] [(.ref s_L1)])) t → Steps p.tables e below (s₁.setTop (entryFrame m #[(.int p0), (.int p1)] maxLocals)) t := fun t k => go70 _ (st71 _ k)
            have go73 : ∀ t, Steps p.tables e below (T71.setTop (mkF m 21 #[.val (.int p0), .val (.int p1), .val (.int (0 : Int32)), .val (.int (3 : Int32)), .val (.ref s_L1), .unset, .unset] [(.int (3 : Int32))])) t → Steps p.tables e below (s₁.setTop (entryFrame m #[(.int p0), (.int p1)] maxLocals)) t := by
              intro t k
              refine go72 _ ?_
              refine XS.astore X71.here hx rfl (hb hby at_18) rfl rfl (l' := #[.val (.int p0), .val (.int p1), .val (.int (0 : Int32)), .val (.int (3 : Int32)), .val (.ref s_L1), .unset, .unset]) rfl ?_
              show Steps p.tables e below (T71.setTop (mkF m 20 #[.val (.int p0), .val (.int p1), .val (.int (0 : Int32)), .val (.int (3 : Int32)), .val (.ref s_L1), .unset, .unset] [])) t
              refine XS.iloadN X71.here hx rfl (hb hby at_20) rfl ?_
              show Steps p.tables e below (T71.setTop (mkF m 21 #[.val (.int p0), .val (.int p1), .val (.int (0 : Int32)), .val (.int (3 : Int32)), .val (.ref s_L1), .unset, .unset] [(.int (3 : Int32))])) t
              exact k
            obtain ⟨_, _, ⟨T74, L74, k74, n74⟩, -, X74, ⟨Lc74, hQ74, l74, y74, z74⟩, st74⟩ := Jvm.LawKit.callS X71 hx (y := (⟨"com/example/hauora_id/hauoraid/model/ConfidenceLevelAtLeastPinLaw", "pick", "(I)Lcom/example/hauora_id/hauoraid/model/ConfidenceLevel;"⟩ : MethodName)) hown (mvT hZ (hw _ (List.mem_of_getElem? (i := 1) rfl))) (mvT hZ (hw _ (List.mem_of_getElem? (i := 2) rfl))) (mvT hZ (hw _ (List.mem_of_getElem? (i := 3) rfl))) (mvT hZ (hw _ (List.mem_of_getElem? (i := 4) rfl))) (by decide) (backOf (W := 0) (rm1 l Z aZ hw [] (3 : Int32) s_L1 s_L2 s_L2N s_L3 s_L3N h0 n0 Z0 S_L1 S_L2 S_L2N S_L3 S_L3N) hZ (hw _ (List.mem_of_getElem? (i := 4) rfl)) (hw _ (List.mem_of_getElem? (i := 3) rfl)) (by decide) (by decide)) (g := (mkF m 21 #[.val (.int p0), .val (.int p1), .val (.int (0 : Int32)), .val (.int (3 : Int32)), .val (.ref s_L1), .unset, .unset] [(.int (3 : Int32))])) rfl (by rw [hml]; rfl) (argsL := [(.int (3 : Int32))]) (rest := []) (lenOf pd_99 rfl) rfl (by show 2 * 0 + _ ≤ _; exact Nat.le_of_eq rfl) (hb hby at_21) (fun _ _ => ⟨rfl, e71, (by decide : 0 + 0 ≤ _), (by decide : 0 + 0 ≤ _)⟩)
            dsimp only [Pt.U, Pt.locs, Pt.cells, Pt.slots] at X74 l74 y74 z74 st74 hQ74
            subst l74 y74 z74
            obtain ⟨rfl, N74q, e74⟩ := hQ74
            have N74 := Fr.app N71 N74q
            have go75 : ∀ t, Steps p.tables e below (T74.setTop (mkF m 24 #[.val (.int p0), .val (.int p1), .val (.int (0 : Int32)), .val (.int (3 : Int32)), .val (.ref s_L1), .unset, .unset] [(.ref s_L3)])) t → Steps p.tables e below (s₁.setTop (entryFrame m #[(.int p0), (.int p1)] maxLocals)) t := fun t k => go73 _ (st74 _ k)
            have go76 : ∀ t, Steps p.tables e below (T74.setTop (mkF m 27 #[.val (.int p0), .val (.int p1), .val (.int (0 : Int32)), .val (.int (3 : Int32)), .val (.ref s_L1), .val (.ref s_L3), .unset] [(.int (0 : Int32))])) t → Steps p.tables e below (s₁.setTop (entryFrame m #[(.int p0), (.int p1)] maxLocals)) t := by
              intro t k
              refine go75 _ ?_
              refine XS.astore X74.here hx rfl (hb hby at_24) rfl rfl (l' := #[.val (.int p0), .val (.int p1), .val (.int (0 : Int32)), .val (.int (3 : Int32)), .val (.ref s_L1), .val (.ref s_L3), .unset]) rfl ?_
              show Steps p.tables e below (T74.setTop (mkF m 26 #[.val (.int p0), .val (.int p1), .val (.int (0 : Int32)), .val (.int (3 : Int32)), .val (.ref s_L1), .val (.ref s_L3), .unset] [])) t
              refine XS.iloadN X74.here hx rfl (hb hby at_26) rfl ?_
              show Steps p.tables e below (T74.setTop (mkF m 27 #[.val (.int p0), .val (.int p1), .val (.int (0 : Int32)), .val (.int (3 : Int32)), .val (.ref s_L1), .val (.ref s_L3), .unset] [(.int (0 : Int32))])) t
              exact k
            obtain ⟨_, _, ⟨T77, L77, k77, n77⟩, -, X77, ⟨Lc77, hQ77, l77, y77, z77⟩, st77⟩ := Jvm.LawKit.callS X74 hx (y := (⟨"com/example/hauora_id/hauoraid/model/ConfidenceLevelAtLeastPinLaw", "digit", "(I)I"⟩ : MethodName)) hown (mvT hZ (hw _ (List.mem_of_getElem? (i := 10) rfl))) (mvT hZ (hw _ (List.mem_of_getElem? (i := 11) rfl))) (mvT hZ (hw _ (List.mem_of_getElem? (i := 3) rfl))) (mvT hZ (hw _ (List.mem_of_getElem? (i := 12) rfl))) (by decide) (backOf (W := 0) (rm2 l Z aZ hw [] (0 : Int32) h0 n0 Z0 ) hZ (hw _ (List.mem_of_getElem? (i := 12) rfl)) (hw _ (List.mem_of_getElem? (i := 3) rfl)) (by decide) (by decide)) (g := (mkF m 27 #[.val (.int p0), .val (.int p1), .val (.int (0 : Int32)), .val (.int (3 : Int32)), .val (.ref s_L1), .val (.ref s_L3), .unset] [(.int (0 : Int32))])) rfl (by rw [hml]; rfl) (argsL := [(.int (0 : Int32))]) (rest := []) (lenOf pd_100 rfl) rfl (by show 2 * 0 + _ ≤ _; exact Nat.le_of_eq rfl) (hb hby at_27) (fun _ _ => ⟨rfl, e74, (by decide : 0 + 0 ≤ _), (by decide : 0 + 0 ≤ _)⟩)
            dsimp only [Pt.U, Pt.locs, Pt.cells, Pt.slots] at X77 l77 y77 z77 st77 hQ77
            subst l77 y77 z77
            obtain ⟨rfl, N77q, e77⟩ := hQ77
            have N77 := Fr.app N74 N77q
            have go78 : ∀ t, Steps p.tables e below (T77.setTop (mkF m 30 #[.val (.int p0), .val (.int p1), .val (.int (0 : Int32)), .val (.int (3 : Int32)), .val (.ref s_L1), .val (.ref s_L3), .unset] [(.int (1 : Int32))])) t → Steps p.tables e below (s₁.setTop (entryFrame m #[(.int p0), (.int p1)] maxLocals)) t := fun t k => go76 _ (st77 _ k)
            have go79 : ∀ t, Steps p.tables e below (T77.setTop (mkF m 31 #[.val (.int p0), .val (.int p1), .val (.int (0 : Int32)), .val (.int (3 : Int32)), .val (.ref s_L1), .val (.ref s_L3), .unset] [(.int (3 : Int32)), (.int (1 : Int32))])) t → Steps p.tables e below (s₁.setTop (entryFrame m #[(.int p0), (.int p1)] maxLocals)) t := by
              intro t k
              refine go78 _ ?_
              refine XS.iloadN X77.here hx rfl (hb hby at_30) rfl ?_
              show Steps p.tables e below (T77.setTop (mkF m 31 #[.val (.int p0), .val (.int p1), .val (.int (0 : Int32)), .val (.int (3 : Int32)), .val (.ref s_L1), .val (.ref s_L3), .unset] [(.int (3 : Int32)), (.int (1 : Int32))])) t
              exact k
            obtain ⟨_, _, ⟨T80, L80, k80, n80⟩, -, X80, ⟨Lc80, hQ80, l80, y80, z80⟩, st80⟩ := Jvm.LawKit.callS X77 hx (y := (⟨"com/example/hauora_id/hauoraid/model/ConfidenceLevelAtLeastPinLaw", "digit", "(I)I"⟩ : MethodName)) hown (mvT hZ (hw _ (List.mem_of_getElem? (i := 10) rfl))) (mvT hZ (hw _ (List.mem_of_getElem? (i := 11) rfl))) (mvT hZ (hw _ (List.mem_of_getElem? (i := 3) rfl))) (mvT hZ (hw _ (List.mem_of_getElem? (i := 12) rfl))) (by decide) (backOf (W := 1) (rm2 l Z aZ hw [] (3 : Int32) h0 n0 Z0 ) hZ (hw _ (List.mem_of_getElem? (i := 12) rfl)) (hw _ (List.mem_of_getElem? (i := 3) rfl)) (by decide) (by decide)) (g := (mkF m 31 #[.val (.int p0), .val (.int p1), .val (.int (0 : Int32)), .val (.int (3 : Int32)), .val (.ref s_L1), .val (.ref s_L3), .unset] [(.int (3 : Int32)), (.int (1 : Int32))])) rfl (by rw [hml]; rfl) (argsL := [(.int (3 : Int32))]) (rest := [(.int (1 : Int32))]) (lenOf pd_100 rfl) rfl (by show 2 * 0 + _ ≤ _; exact Nat.le_of_eq rfl) (hb hby at_31) (fun _ _ => ⟨rfl, e77, (by decide : 0 + 0 ≤ _), (by decide : 0 + 0 ≤ _)⟩)
            dsimp only [Pt.U, Pt.locs, Pt.cells, Pt.slots] at X80 l80 y80 z80 st80 hQ80
            subst l80 y80 z80
            obtain ⟨rfl, N80q, e80⟩ := hQ80
            have N80 := Fr.app N77 N80q
            have go81 : ∀ t, Steps p.tables e below (T80.setTop (mkF m 34 #[.val (.int p0), .val (.int p1), .val (.int (0 : Int32)), .val (.int (3 : Int32)), .val (.ref s_L1), .val (.ref s_L3), .unset] [(.int (3 : Int32)), (.int (1 : Int32))])) t → Steps p.tables e below (s₁.setTop (entryFrame m #[(.int p0), (.int p1)] maxLocals)) t := fun t k => go79 _ (st80 _ k)
            have go82 : ∀ t, Steps p.tables e below (T80.setTop (mkF m 48 #[.val (.int p0), .val (.int p1), .val (.int (0 : Int32)), .val (.int (3 : Int32)), .val (.ref s_L1), .val (.ref s_L3), .val (.int (0 : Int32))] [(.ref s_L3), (.ref s_L1)])) t → Steps p.tables e below (s₁.setTop (entryFrame m #[(.int p0), (.int p1)] maxLocals)) t := by
              intro t k
              refine go81 _ ?_
              refine XS.icmpYes X80.here hx rfl (pc0 := 34) (pc' := 41) rfl (hb hby at_34) rfl (XT.ii_lt_t (by decide : ((1 : Int32) < (3 : Int32)))) (by decide) (by decide) ?_
              show Steps p.tables e below (T80.setTop (mkF m 41 #[.val (.int p0), .val (.int p1), .val (.int (0 : Int32)), .val (.int (3 : Int32)), .val (.ref s_L1), .val (.ref s_L3), .unset] [])) t
              refine XS.iconst X80.here hx rfl (hb hby at_41) ?_
              show Steps p.tables e below (T80.setTop (mkF m 42 #[.val (.int p0), .val (.int p1), .val (.int (0 : Int32)), .val (.int (3 : Int32)), .val (.ref s_L1), .val (.ref s_L3), .unset] [(.int (0 : Int32))])) t
              refine XS.istore X80.here hx rfl (hb hby at_42) rfl (l' := #[.val (.int p0), .val (.int p1), .val (.int (0 : Int32)), .val (.int (3 : Int32)), .val (.ref s_L1), .val (.ref s_L3), .val (.int (0 : Int32))]) rfl ?_
              show Steps p.tables e below (T80.setTop (mkF m 44 #[.val (.int p0), .val (.int p1), .val (.int (0 : Int32)), .val (.int (3 : Int32)), .val (.ref s_L1), .val (.ref s_L3), .val (.int (0 : Int32))] [])) t
              refine XS.aload X80.here hx rfl (hb hby at_44) rfl rfl ?_
              show Steps p.tables e below (T80.setTop (mkF m 46 #[.val (.int p0), .val (.int p1), .val (.int (0 : Int32)), .val (.int (3 : Int32)), .val (.ref s_L1), .val (.ref s_L3), .val (.int (0 : Int32))] [(.ref s_L1)])) t
              refine XS.aload X80.here hx rfl (hb hby at_46) rfl rfl ?_
              show Steps p.tables e below (T80.setTop (mkF m 48 #[.val (.int p0), .val (.int p1), .val (.int (0 : Int32)), .val (.int (3 : Int32)), .val (.ref s_L1), .val (.ref s_L3), .val (.int (0 : Int32))] [(.ref s_L3), (.ref s_L1)])) t
              exact k
            obtain ⟨cq83, kq83, q83a, q83b, q83c⟩ := isOf hZ e80 E_L1
            obtain ⟨_, _, ⟨T83, L83, k83, n83⟩, -, X83, ⟨Lc83, hQ83, l83, y83, z83⟩, st83⟩ := X80.virtualBack hx (y := (⟨"com/example/hauora_id/hauoraid/model/ConfidenceLevel", "atLeast", "(Lcom/example/hauora_id/hauoraid/model/ConfidenceLevel;)Z"⟩ : MethodName)) (z := (⟨"com/example/hauora_id/hauoraid/model/ConfidenceLevel", "atLeast", "(Lcom/example/hauora_id/hauoraid/model/ConfidenceLevel;)Z"⟩ : MethodName)) hown (mvT hZ (hw _ (List.mem_of_getElem? (i := 13) rfl))) (mvT hZ (hw _ (List.mem_of_getElem? (i := 14) rfl))) (notFace_of_selects (args := #[]) (mvT hZ (hw _ (List.mem_of_getElem? (i := 16) rfl)))) (mvT hZ (hw _ (List.mem_of_getElem? (i := 16) rfl))) (mvT hZ (hw _ (List.mem_of_getElem? (i := 15) rfl))) (by decide) (backOf (W := 0) (rm3 l Z aZ hw [] s_L1 s_L3 s_COMPACT_STRINGS s_SIOOBE_FORMATTER s_L1_value s_L1_value_value k_s_L1_value_value (1 : Int32) [(.int (49 : Int32))] (49 : Int32) s_L3_value s_L3_value_value k_s_L3_value_value (1 : Int32) [(.int (51 : Int32))] (51 : Int32) h0 n0 Z0 S_COMPACT_STRINGS S_SIOOBE_FORMATTER rS_SIOOBE_FORMATTER hcs F_L1_value E_L1_value F_L1_value_coder F_L1_value_value V_L1_value_value (by decide) rfl F_L3_value E_L3_value F_L3_value_coder F_L3_value_value V_L3_value_value (by decide) rfl) hZ (hw _ (List.mem_of_getElem? (i := 17) rfl)) (hw _ (List.mem_of_getElem? (i := 6) rfl)) (by decide) (by decide)) q83a q83c (g := (mkF m 48 #[.val (.int p0), .val (.int p1), .val (.int (0 : Int32)), .val (.int (3 : Int32)), .val (.ref s_L1), .val (.ref s_L3), .val (.int (0 : Int32))] [(.ref s_L3), (.ref s_L1)])) rfl (by rw [hml]; rfl) (Steps.refl _) (argsL := [(.ref s_L3)]) (rest := []) (lenOf pd_101 rfl) rfl (by show 2 * 0 + _ ≤ _; exact Nat.le_of_eq rfl) (hb hby at_48) (fun _ _ => ⟨rfl, e80, (by decide : 0 + 0 ≤ _), (by decide : 0 + 0 ≤ _)⟩)
            dsimp only [Pt.U, Pt.locs, Pt.cells, Pt.slots] at X83 l83 y83 z83 st83 hQ83
            subst l83 y83 z83
            obtain ⟨rfl, N83q, e83⟩ := hQ83
            have N83 := Fr.app N80 N83q
            have go84 : ∀ t, Steps p.tables e below (T83.setTop (mkF m 51 #[.val (.int p0), .val (.int p1), .val (.int (0 : Int32)), .val (.int (3 : Int32)), .val (.ref s_L1), .val (.ref s_L3), .val (.int (0 : Int32))] [(.int (f3 (49 : Int32) (51 : Int32)))])) t → Steps p.tables e below (s₁.setTop (entryFrame m #[(.int p0), (.int p1)] maxLocals)) t := fun t k => go82 _ (st83.trans k)
            have go86 : ∀ t, Steps p.tables e below (T83.setTop (mkF m 61 #[.val (.int p0), .val (.int p1), .val (.int (0 : Int32)), .val (.int (3 : Int32)), .val (.ref s_L1), .val (.ref s_L3), .val (.int (0 : Int32))] [(.int b0_87)])) t → Steps p.tables e below (s₁.setTop (entryFrame m #[(.int p0), (.int p1)] maxLocals)) t := by
              intro t k
              refine go84 _ ?_
              refine XS.iload X83.here hx rfl (hb hby at_51) rfl ?_
              show Steps p.tables e below (T83.setTop (mkF m 53 #[.val (.int p0), .val (.int p1), .val (.int (0 : Int32)), .val (.int (3 : Int32)), .val (.ref s_L1), .val (.ref s_L3), .val (.int (0 : Int32))] [(.int (0 : Int32)), (.int (f3 (49 : Int32) (51 : Int32)))])) t
              by_cases hc85 : (f3 (49 : Int32) (51 : Int32)) = (0 : Int32)
              · refine XS.icmpNo X83.here hx rfl (hb hby at_53) rfl (XT.ii_ne_f hc85) ?_
                show Steps p.tables e below (T83.setTop (mkF m 56 #[.val (.int p0), .val (.int p1), .val (.int (0 : Int32)), .val (.int (3 : Int32)), .val (.ref s_L1), .val (.ref s_L3), .val (.int (0 : Int32))] [])) t
                refine XS.iconst X83.here hx rfl (hb hby at_56) ?_
                show Steps p.tables e below (T83.setTop (mkF m 57 #[.val (.int p0), .val (.int p1), .val (.int (0 : Int32)), .val (.int (3 : Int32)), .val (.ref s_L1), .val (.ref s_L3), .val (.int (0 : Int32))] [(.int (1 : Int32))])) t
                refine XS.goto X83.here hx rfl (pc0 := 57) (pc' := 61) rfl (hb hby at_57) (by decide) (by decide) ?_
                show Steps p.tables e below (T83.setTop (mkF m 61 #[.val (.int p0), .val (.int p1), .val (.int (0 : Int32)), .val (.int (3 : Int32)), .val (.ref s_L1), .val (.ref s_L3), .val (.int (0 : Int32))] [(.int (1 : Int32))])) t
                have hq88 : b0_87 = (1 : Int32) := by rw [b0_87, if_pos hc85]
                rw [hq88] at k
                exact k
              · refine XS.icmpYes X83.here hx rfl (pc0 := 53) (pc' := 60) rfl (hb hby at_53) rfl (XT.ii_ne_t hc85) (by decide) (by decide) ?_
                show Steps p.tables e below (T83.setTop (mkF m 60 #[.val (.int p0), .val (.int p1), .val (.int (0 : Int32)), .val (.int (3 : Int32)), .val (.ref s_L1), .val (.ref s_L3), .val (.int (0 : Int32))] [])) t
                refine XS.iconst X83.here hx rfl (hb hby at_60) ?_
                show Steps p.tables e below (T83.setTop (mkF m 61 #[.val (.int p0), .val (.int p1), .val (.int (0 : Int32)), .val (.int (3 : Int32)), .val (.ref s_L1), .val (.ref s_L3), .val (.int (0 : Int32))] [(.int (0 : Int32))])) t
                have hq89 : b0_87 = (0 : Int32) := by rw [b0_87, if_neg hc85]
                rw [hq89] at k
                exact k
            obtain ⟨fs, hr, hrun, hended, hW, hsame⟩ := X83.leave (v := some (.int b0_87)) (fun h => by rw [Bd.returns] at h; cases h)
            refine ⟨_, _, go86 _ (Jvm.RoadKit.retOut X83 hx Bd.returns (own_nz (by unfold b0_87; (repeat' split) <;> first | exact Or.inl rfl | exact Or.inr rfl)) (Or.inl ⟨rfl, Or.inr (Or.inl rfl), _, rfl⟩) (hb hby at_61) hr), hrun, hended, _, _, rfl, ?_, ⟨_, rfl⟩, hW, hsame.mono (by decide) (by decide)⟩
            show Q0 _ _ p0 p1 s_L1 s_L3 s_L1_value s_L1_value_value s_L3_value s_L3_value_value s_L3N s_L2 s_L3N_value s_L3N_value_value s_L2_value s_L2_value_value s_L2N s_L2N_value s_L2N_value_value k_s_L1_value_value k_s_L3_value_value k_s_L3N_value_value k_s_L2_value_value k_s_L2N_value_value s_COMPACT_STRINGS s_SIOOBE_FORMATTER h0 _ (T83.setFrames fs).heap _
            have hE : (T83.setFrames fs).heap = h0 := e83
            rw [hE]
            exact ⟨congrArg (fun z => some (Value.int z)) ((by rw [f0, if_pos hs4, if_neg hs7, if_neg hs28, if_neg hs49, if_pos hs69] : b0_87 = (f0 p0 p1)).trans (f0_one p0 p1)), N83⟩
          · by_cases hs90 : (v0_2 p1) = (4 : Int32)
            · have go91 : ∀ t, Steps p.tables e below (s₁.setTop (mkF m 15 #[.val (.int p0), .val (.int p1), .val (.int (0 : Int32)), .val (.int (4 : Int32)), .unset, .unset, .unset] [(.int (0 : Int32))])) t → Steps p.tables e below (s₁.setTop (entryFrame m #[(.int p0), (.int p1)] maxLocals)) t := by
                have q := go6
                rw [hs90] at q
                exact q
              obtain ⟨_, _, ⟨T92, L92, k92, n92⟩, -, X92, ⟨Lc92, hQ92, l92, y92, z92⟩, st92⟩ := Jvm.LawKit.callS X0 hx (y := (⟨"com/example/hauora_id/hauoraid/model/ConfidenceLevelAtLeastPinLaw", "pick", "(I)Lcom/example/hauora_id/hauoraid/model/ConfidenceLevel;"⟩ : MethodName)) hown (mvT hZ (hw _ (List.mem_of_getElem? (i := 1) rfl))) (mvT hZ (hw _ (List.mem_of_getElem? (i := 2) rfl))) (mvT hZ (hw _ (List.mem_of_getElem? (i := 3) rfl))) (mvT hZ (hw _ (List.mem_of_getElem? (i := 4) rfl))) (by decide) (backOf (W := 0) (rm1 l Z aZ hw [] (0 : Int32) s_L1 s_L2 s_L2N s_L3 s_L3N h0 n0 Z0 S_L1 S_L2 S_L2N S_L3 S_L3N) hZ (hw _ (List.mem_of_getElem? (i := 4) rfl)) (hw _ (List.mem_of_getElem? (i := 3) rfl)) (by decide) (by decide)) (g := (mkF m 15 #[.val (.int p0), .val (.int p1), .val (.int (0 : Int32)), .val (.int (4 : Int32)), .unset, .unset, .unset] [(.int (0 : Int32))])) rfl (by rw [hml]; rfl) (argsL := [(.int (0 : Int32))]) (rest := []) (lenOf pd_99 rfl) rfl (by show 2 * 0 + _ ≤ _; exact Nat.le_of_eq rfl) (hb hby at_15) (fun _ _ => ⟨rfl, e0, (by decide : 0 + 0 ≤ _), (by decide : 0 + 0 ≤ _)⟩)
              dsimp only [Pt.U, Pt.locs, Pt.cells, Pt.slots] at X92 l92 y92 z92 st92 hQ92
              subst l92 y92 z92
              obtain ⟨rfl, N92q, e92⟩ := hQ92
              have N92 := Fr.app N0 N92q
              have go93 : ∀ t, Steps p.tables e below (T92.setTop (mkF m 18 #[.val (.int p0), .val (.int p1), .val (.int (0 : Int32)), .val (.int (4 : Int32)), .unset, .unset, .unset] [(.ref s_L1)])) t → Steps p.tables e below (s₁.setTop (entryFrame m #[(.int p0), (.int p1)] maxLocals)) t := fun t k => go91 _ (st92 _ k)
              have go94 : ∀ t, Steps p.tables e below (T92.setTop (mkF m 21 #[.val (.int p0), .val (.int p1), .val (.int (0 : Int32)), .val (.int (4 : Int32)), .val (.ref s_L1), .unset, .unset] [(.int (4 : Int32))])) t → Steps p.tables e below (s₁.setTop (entryFrame m #[(.int p0), (.int p1)] maxLocals)) t := by
                intro t k
                refine go93 _ ?_
                refine XS.astore X92.here hx rfl (hb hby at_18) rfl rfl (l' := #[.val (.int p0), .val (.int p1), .val (.int (0 : Int32)), .val (.int (4 : Int32)), .val (.ref s_L1), .unset, .unset]) rfl ?_
                show Steps p.tables e below (T92.setTop (mkF m 20 #[.val (.int p0), .val (.int p1), .val (.int (0 : Int32)), .val (.int (4 : Int32)), .val (.ref s_L1), .unset, .unset] [])) t
                refine XS.iloadN X92.here hx rfl (hb hby at_20) rfl ?_
                show Steps p.tables e below (T92.setTop (mkF m 21 #[.val (.int p0), .val (.int p1), .val (.int (0 : Int32)), .val (.int (4 : Int32)), .val (.ref s_L1), .unset, .unset] [(.int (4 : Int32))])) t
                exact k
              obtain ⟨_, _, ⟨T95, L95, k95, n95⟩, -, X95, ⟨Lc95, hQ95, l95, y95, z95⟩, st95⟩ := Jvm.LawKit.callS X92 hx (y := (⟨"com/example/hauora_id/hauoraid/model/ConfidenceLevelAtLeastPinLaw", "pick", "(I)Lcom/example/hauora_id/hauoraid/model/ConfidenceLevel;"⟩ : MethodName)) hown (mvT hZ (hw _ (List.mem_of_getElem? (i := 1) rfl))) (mvT hZ (hw _ (List.mem_of_getElem? (i := 2) rfl))) (mvT hZ (hw _ (List.mem_of_getElem? (i := 3) rfl))) (mvT hZ (hw _ (List.mem_of_getElem? (i := 4) rfl))) (by decide) (backOf (W := 0) (rm1 l Z aZ hw [] (4 : Int32) s_L1 s_L2 s_L2N s_L3 s_L3N h0 n0 Z0 S_L1 S_L2 S_L2N S_L3 S_L3N) hZ (hw _ (List.mem_of_getElem? (i := 4) rfl)) (hw _ (List.mem_of_getElem? (i := 3) rfl)) (by decide) (by decide)) (g := (mkF m 21 #[.val (.int p0), .val (.int p1), .val (.int (0 : Int32)), .val (.int (4 : Int32)), .val (.ref s_L1), .unset, .unset] [(.int (4 : Int32))])) rfl (by rw [hml]; rfl) (argsL := [(.int (4 : Int32))]) (rest := []) (lenOf pd_99 rfl) rfl (by show 2 * 0 + _ ≤ _; exact Nat.le_of_eq rfl) (hb hby at_21) (fun _ _ => ⟨rfl, e92, (by decide : 0 + 0 ≤ _), (by decide : 0 + 0 ≤ _)⟩)
              dsimp only [Pt.U, Pt.locs, Pt.cells, Pt.slots] at X95 l95 y95 z95 st95 hQ95
              subst l95 y95 z95
              obtain ⟨rfl, N95q, e95⟩ := hQ95
              have N95 := Fr.app N92 N95q
              have go96 : ∀ t, Steps p.tables e below (T95.setTop (mkF m 24 #[.val (.int p0), .val (.int p1), .val (.int (0 : Int32)), .val (.int (4 : Int32)), .val (.ref s_L1), .unset, .unset] [(.ref s_L3N)])) t → Steps p.tables e below (s₁.setTop (entryFrame m #[(.int p0), (.int p1)] maxLocals)) t := fun t k => go94 _ (st95 _ k)
              have go97 : ∀ t, Steps p.tables e below (T95.setTop (mkF m 27 #[.val (.int p0), .val (.int p1), .val (.int (0 : Int32)), .val (.int (4 : Int32)), .val (.ref s_L1), .val (.ref s_L3N), .unset] [(.int (0 : Int32))])) t → Steps p.tables e below (s₁.setTop (entryFrame m #[(.int p0), (.int p1)] maxLocals)) t := by
                intro t k
                refine go96 _ ?_
                refine XS.astore X95.here hx rfl (hb hby at_24) rfl rfl (l' := #[.val (.int p0), .val (.int p1), .val (.int (0 : Int32)), .val (.int (4 : Int32)), .val (.ref s_L1), .val (.ref s_L3N), .unset]) rfl ?_
                show Steps p.tables e below (T95.setTop (mkF m 26 #[.val (.int p0), .val (.int p1), .val (.int (0 : Int32)), .val (.int (4 : Int32)), .val (.ref s_L1), .val (.ref s_L3N), .unset] [])) t
                refine XS.iloadN X95.here hx rfl (hb hby at_26) rfl ?_
                show Steps p.tables e below (T95.setTop (mkF m 27 #[.val (.int p0), .val (.int p1), .val (.int (0 : Int32)), .val (.int (4 : Int32)), .val (.ref s_L1), .val (.ref s_L3N), .unset] [(.int (0 : Int32))])) t
                exact k
              obtain ⟨_, _, ⟨T98, L98, k98, n98⟩, -, X98, ⟨Lc98, hQ98, l98, y98, z98⟩, st98⟩ := Jvm.LawKit.callS X95 hx (y := (⟨"com/example/hauora_id/hauoraid/model/ConfidenceLevelAtLeastPinLaw", "digit", "(I)I"⟩ : MethodName)) hown (mvT hZ (hw _ (List.mem_of_getElem? (i := 10) rfl))) (mvT hZ (hw _ (List.mem_of_getElem? (i := 11) rfl))) (mvT hZ (hw _ (List.mem_of_getElem? (i := 3) rfl))) (mvT hZ (hw _ (List.mem_of_getElem? (i := 12) rfl))) (by decide) (backOf (W := 0) (rm2 l Z aZ hw [] (0 : Int32) h0 n0 Z0 ) hZ (hw _ (List.mem_of_getElem? (i := 12) rfl)) (hw _ (List.mem_of_getElem? (i := 3) rfl)) (by decide) (by decide)) (g := (mkF m 27 #[.val (.int p0), .val (.int p1), .val (.int (0 : Int32)), .val (.int (4 : Int32)), .val (.ref s_L1), .val (.ref s_L3N), .unset] [(.int (0 : Int32))])) rfl (by rw [hml]; rfl) (argsL := [(.int (0 : Int32))]) (rest := []) (lenOf pd_100 rfl) rfl (by show 2 * 0 + _ ≤ _; exact Nat.le_of_eq rfl) (hb hby at_27) (fun _ _ => ⟨rfl, e95, (by decide : 0 + 0 ≤ _), (by decide : 0 + 0 ≤ _)⟩)
              dsimp only [Pt.U, Pt.locs, Pt.cells, Pt.slots] at X98 l98 y98 z98 st98 hQ98
              subst l98 y98 z98
              obtain ⟨rfl, N98q, e98⟩ := hQ98
              have N98 := Fr.app N95 N98q
              have go99 : ∀ t, Steps p.tables e below (T98.setTop (mkF m 30 #[.val (.int p0), .val (.int p1), .val (.int (0 : Int32)), .val (.int (4 : Int32)), .val (.ref s_L1), .val (.ref s_L3N), .unset] [(.int (1 : Int32))])) t → Steps p.tables e below (s₁.setTop (entryFrame m #[(.int p0), (.int p1)] maxLocals)) t := fun t k => go97 _ (st98 _ k)
              have go100 : ∀ t, Steps p.tables e below (T98.setTop (mkF m 31 #[.val (.int p0), .val (.int p1), .val (.int (0 : Int32)), .val (.int (4 : Int32)), .val (.ref s_L1), .val (.ref s_L3N), .unset] [(.int (4 : Int32)), (.int (1 : Int32))])) t → Steps p.tables e below (s₁.setTop (entryFrame m #[(.int p0), (.int p1)] maxLocals)) t := by
                intro t k
                refine go99 _ ?_
                refine XS.iloadN X98.here hx rfl (hb hby at_30) rfl ?_
                show Steps p.tables e below (T98.setTop (mkF m 31 #[.val (.int p0), .val (.int p1), .val (.int (0 : Int32)), .val (.int (4 : Int32)), .val (.ref s_L1), .val (.ref s_L3N), .unset] [(.int (4 : Int32)), (.int (1 : Int32))])) t
                exact k
              obtain ⟨_, _, ⟨T101, L101, k101, n101⟩, -, X101, ⟨Lc101, hQ101, l101, y101, z101⟩, st101⟩ := Jvm.LawKit.callS X98 hx (y := (⟨"com/example/hauora_id/hauoraid/model/ConfidenceLevelAtLeastPinLaw", "digit", "(I)I"⟩ : MethodName)) hown (mvT hZ (hw _ (List.mem_of_getElem? (i := 10) rfl))) (mvT hZ (hw _ (List.mem_of_getElem? (i := 11) rfl))) (mvT hZ (hw _ (List.mem_of_getElem? (i := 3) rfl))) (mvT hZ (hw _ (List.mem_of_getElem? (i := 12) rfl))) (by decide) (backOf (W := 1) (rm2 l Z aZ hw [] (4 : Int32) h0 n0 Z0 ) hZ (hw _ (List.mem_of_getElem? (i := 12) rfl)) (hw _ (List.mem_of_getElem? (i := 3) rfl)) (by decide) (by decide)) (g := (mkF m 31 #[.val (.int p0), .val (.int p1), .val (.int (0 : Int32)), .val (.int (4 : Int32)), .val (.ref s_L1), .val (.ref s_L3N), .unset] [(.int (4 : Int32)), (.int (1 : Int32))])) rfl (by rw [hml]; rfl) (argsL := [(.int (4 : Int32))]) (rest := [(.int (1 : Int32))]) (lenOf pd_100 rfl) rfl (by show 2 * 0 + _ ≤ _; exact Nat.le_of_eq rfl) (hb hby at_31) (fun _ _ => ⟨rfl, e98, (by decide : 0 + 0 ≤ _), (by decide : 0 + 0 ≤ _)⟩)
              dsimp only [Pt.U, Pt.locs, Pt.cells, Pt.slots] at X101 l101 y101 z101 st101 hQ101
              subst l101 y101 z101
              obtain ⟨rfl, N101q, e101⟩ := hQ101
              have N101 := Fr.app N98 N101q
              have go102 : ∀ t, Steps p.tables e below (T101.setTop (mkF m 34 #[.val (.int p0), .val (.int p1), .val (.int (0 : Int32)), .val (.int (4 : Int32)), .val (.ref s_L1), .val (.ref s_L3N), .unset] [(.int (3 : Int32)), (.int (1 : Int32))])) t → Steps p.tables e below (s₁.setTop (entryFrame m #[(.int p0), (.int p1)] maxLocals)) t := fun t k => go100 _ (st101 _ k)
              have go103 : ∀ t, Steps p.tables e below (T101.setTop (mkF m 48 #[.val (.int p0), .val (.int p1), .val (.int (0 : Int32)), .val (.int (4 : Int32)), .val (.ref s_L1), .val (.ref s_L3N), .val (.int (0 : Int32))] [(.ref s_L3N), (.ref s_L1)])) t → Steps p.tables e below (s₁.setTop (entryFrame m #[(.int p0), (.int p1)] maxLocals)) t := by
                intro t k
                refine go102 _ ?_
                refine XS.icmpYes X101.here hx rfl (pc0 := 34) (pc' := 41) rfl (hb hby at_34) rfl (XT.ii_lt_t (by decide : ((1 : Int32) < (3 : Int32)))) (by decide) (by decide) ?_
                show Steps p.tables e below (T101.setTop (mkF m 41 #[.val (.int p0), .val (.int p1), .val (.int (0 : Int32)), .val (.int (4 : Int32)), .val (.ref s_L1), .val (.ref s_L3N), .unset] [])) t
                refine XS.iconst X101.here hx rfl (hb hby at_41) ?_
                show Steps p.tables e below (T101.setTop (mkF m 42 #[.val (.int p0), .val (.int p1), .val (.int (0 : Int32)), .val (.int (4 : Int32)), .val (.ref s_L1), .val (.ref s_L3N), .unset] [(.int (0 : Int32))])) t
                refine XS.istore X101.here hx rfl (hb hby at_42) rfl (l' := #[.val (.int p0), .val (.int p1), .val (.int (0 : Int32)), .val (.int (4 : Int32)), .val (.ref s_L1), .val (.ref s_L3N), .val (.int (0 : Int32))]) rfl ?_
                show Steps p.tables e below (T101.setTop (mkF m 44 #[.val (.int p0), .val (.int p1), .val (.int (0 : Int32)), .val (.int (4 : Int32)), .val (.ref s_L1), .val (.ref s_L3N), .val (.int (0 : Int32))] [])) t
                refine XS.aload X101.here hx rfl (hb hby at_44) rfl rfl ?_
                show Steps p.tables e below (T101.setTop (mkF m 46 #[.val (.int p0), .val (.int p1), .val (.int (0 : Int32)), .val (.int (4 : Int32)), .val (.ref s_L1), .val (.ref s_L3N), .val (.int (0 : Int32))] [(.ref s_L1)])) t
                refine XS.aload X101.here hx rfl (hb hby at_46) rfl rfl ?_
                show Steps p.tables e below (T101.setTop (mkF m 48 #[.val (.int p0), .val (.int p1), .val (.int (0 : Int32)), .val (.int (4 : Int32)), .val (.ref s_L1), .val (.ref s_L3N), .val (.int (0 : Int32))] [(.ref s_L3N), (.ref s_L1)])) t
                exact k
              obtain ⟨cq104, kq104, q104a, q104b, q104c⟩ := isOf hZ e101 E_L1
              obtain ⟨_, _, ⟨T104, L104, k104, n104⟩, -, X104, ⟨Lc104, hQ104, l104, y104, z104⟩, st104⟩ := X101.virtualBack hx (y := (⟨"com/example/hauora_id/hauoraid/model/ConfidenceLevel", "atLeast", "(Lcom/example/hauora_id/hauoraid/model/ConfidenceLevel;)Z"⟩ : MethodName)) (z := (⟨"com/example/hauora_id/hauoraid/model/ConfidenceLevel", "atLeast", "(Lcom/example/hauora_id/hauoraid/model/ConfidenceLevel;)Z"⟩ : MethodName)) hown (mvT hZ (hw _ (List.mem_of_getElem? (i := 13) rfl))) (mvT hZ (hw _ (List.mem_of_getElem? (i := 14) rfl))) (notFace_of_selects (args := #[]) (mvT hZ (hw _ (List.mem_of_getElem? (i := 16) rfl)))) (mvT hZ (hw _ (List.mem_of_getElem? (i := 16) rfl))) (mvT hZ (hw _ (List.mem_of_getElem? (i := 15) rfl))) (by decide) (backOf (W := 0) (rm3 l Z aZ hw [] s_L1 s_L3N s_COMPACT_STRINGS s_SIOOBE_FORMATTER s_L1_value s_L1_value_value k_s_L1_value_value (1 : Int32) [(.int (49 : Int32))] (49 : Int32) s_L3N_value s_L3N_value_value k_s_L3N_value_value (2 : Int32) [(.int (51 : Int32)), (.int (78 : Int32))] (51 : Int32) h0 n0 Z0 S_COMPACT_STRINGS S_SIOOBE_FORMATTER rS_SIOOBE_FORMATTER hcs F_L1_value E_L1_value F_L1_value_coder F_L1_value_value V_L1_value_value (by decide) rfl F_L3N_value E_L3N_value F_L3N_value_coder F_L3N_value_value V_L3N_value_value (by decide) rfl) hZ (hw _ (List.mem_of_getElem? (i := 17) rfl)) (hw _ (List.mem_of_getElem? (i := 6) rfl)) (by decide) (by decide)) q104a q104c (g := (mkF m 48 #[.val (.int p0), .val (.int p1), .val (.int (0 : Int32)), .val (.int (4 : Int32)), .val (.ref s_L1), .val (.ref s_L3N), .val (.int (0 : Int32))] [(.ref s_L3N), (.ref s_L1)])) rfl (by rw [hml]; rfl) (Steps.refl _) (argsL := [(.ref s_L3N)]) (rest := []) (lenOf pd_101 rfl) rfl (by show 2 * 0 + _ ≤ _; exact Nat.le_of_eq rfl) (hb hby at_48) (fun _ _ => ⟨rfl, e101, (by decide : 0 + 0 ≤ _), (by decide : 0 + 0 ≤ _)⟩)
              dsimp only [Pt.U, Pt.locs, Pt.cells, Pt.slots] at X104 l104 y104 z104 st104 hQ104
              subst l104 y104 z104
              obtain ⟨rfl, N104q, e104⟩ := hQ104
              have N104 := Fr.app N101 N104q
              have go105 : ∀ t, Steps p.tables e below (T104.setTop (mkF m 51 #[.val (.int p0), .val (.int p1), .val (.int (0 : Int32)), .val (.int (4 : Int32)), .val (.ref s_L1), .val (.ref s_L3N), .val (.int (0 : Int32))] [(.int (f3 (49 : Int32) (51 : Int32)))])) t → Steps p.tables e below (s₁.setTop (entryFrame m #[(.int p0), (.int p1)] maxLocals)) t := fun t k => go103 _ (st104.trans k)
              have go107 : ∀ t, Steps p.tables e below (T104.setTop (mkF m 61 #[.val (.int p0), .val (.int p1), .val (.int (0 : Int32)), .val (.int (4 : Int32)), .val (.ref s_L1), .val (.ref s_L3N), .val (.int (0 : Int32))] [(.int b0_87)])) t → Steps p.tables e below (s₁.setTop (entryFrame m #[(.int p0), (.int p1)] maxLocals)) t := by
                intro t k
                refine go105 _ ?_
                refine XS.iload X104.here hx rfl (hb hby at_51) rfl ?_
                show Steps p.tables e below (T104.setTop (mkF m 53 #[.val (.int p0), .val (.int p1), .val (.int (0 : Int32)), .val (.int (4 : Int32)), .val (.ref s_L1), .val (.ref s_L3N), .val (.int (0 : Int32))] [(.int (0 : Int32)), (.int (f3 (49 : Int32) (51 : Int32)))])) t
                by_cases hc106 : (f3 (49 : Int32) (51 : Int32)) = (0 : Int32)
                · refine XS.icmpNo X104.here hx rfl (hb hby at_53) rfl (XT.ii_ne_f hc106) ?_
                  show Steps p.tables e below (T104.setTop (mkF m 56 #[.val (.int p0), .val (.int p1), .val (.int (0 : Int32)), .val (.int (4 : Int32)), .val (.ref s_L1), .val (.ref s_L3N), .val (.int (0 : Int32))] [])) t
                  refine XS.iconst X104.here hx rfl (hb hby at_56) ?_
                  show Steps p.tables e below (T104.setTop (mkF m 57 #[.val (.int p0), .val (.int p1), .val (.int (0 : Int32)), .val (.int (4 : Int32)), .val (.ref s_L1), .val (.ref s_L3N), .val (.int (0 : Int32))] [(.int (1 : Int32))])) t
                  refine XS.goto X104.here hx rfl (pc0 := 57) (pc' := 61) rfl (hb hby at_57) (by decide) (by decide) ?_
                  show Steps p.tables e below (T104.setTop (mkF m 61 #[.val (.int p0), .val (.int p1), .val (.int (0 : Int32)), .val (.int (4 : Int32)), .val (.ref s_L1), .val (.ref s_L3N), .val (.int (0 : Int32))] [(.int (1 : Int32))])) t
                  have hq108 : b0_87 = (1 : Int32) := by rw [b0_87, if_pos hc106]
                  rw [hq108] at k
                  exact k
                · refine XS.icmpYes X104.here hx rfl (pc0 := 53) (pc' := 60) rfl (hb hby at_53) rfl (XT.ii_ne_t hc106) (by decide) (by decide) ?_
                  show Steps p.tables e below (T104.setTop (mkF m 60 #[.val (.int p0), .val (.int p1), .val (.int (0 : Int32)), .val (.int (4 : Int32)), .val (.ref s_L1), .val (.ref s_L3N), .val (.int (0 : Int32))] [])) t
                  refine XS.iconst X104.here hx rfl (hb hby at_60) ?_
                  show Steps p.tables e below (T104.setTop (mkF m 61 #[.val (.int p0), .val (.int p1), .val (.int (0 : Int32)), .val (.int (4 : Int32)), .val (.ref s_L1), .val (.ref s_L3N), .val (.int (0 : Int32))] [(.int (0 : Int32))])) t
                  have hq109 : b0_87 = (0 : Int32) := by rw [b0_87, if_neg hc106]
                  rw [hq109] at k
                  exact k
              obtain ⟨fs, hr, hrun, hended, hW, hsame⟩ := X104.leave (v := some (.int b0_87)) (fun h => by rw [Bd.returns] at h; cases h)
              refine ⟨_, _, go107 _ (Jvm.RoadKit.retOut X104 hx Bd.returns (own_nz (by unfold b0_87; (repeat' split) <;> first | exact Or.inl rfl | exact Or.inr rfl)) (Or.inl ⟨rfl, Or.inr (Or.inl rfl), _, rfl⟩) (hb hby at_61) hr), hrun, hended, _, _, rfl, ?_, ⟨_, rfl⟩, hW, hsame.mono (by decide) (by decide)⟩
              show Q0 _ _ p0 p1 s_L1 s_L3 s_L1_value s_L1_value_value s_L3_value s_L3_value_value s_L3N s_L2 s_L3N_value s_L3N_value_value s_L2_value s_L2_value_value s_L2N s_L2N_value s_L2N_value_value k_s_L1_value_value k_s_L3_value_value k_s_L3N_value_value k_s_L2_value_value k_s_L2N_value_value s_COMPACT_STRINGS s_SIOOBE_FORMATTER h0 _ (T104.setFrames fs).heap _
              have hE : (T104.setFrames fs).heap = h0 := e104
              rw [hE]
              exact ⟨congrArg (fun z => some (Value.int z)) ((by rw [f0, if_pos hs4, if_neg hs7, if_neg hs28, if_neg hs49, if_neg hs69, if_pos hs90] : b0_87 = (f0 p0 p1)).trans (f0_one p0 p1)), N104⟩
            · exact (own_dead5 p1 hs7 hs28 hs49 hs69 hs90).elim
  · by_cases hs110 : (v0_1 p0) = (1 : Int32)
    · have go111 : ∀ t, Steps p.tables e below (s₁.setTop (mkF m 14 #[.val (.int p0), .val (.int p1), .val (.int (1 : Int32)), .val (.int (v0_2 p1)), .unset, .unset, .unset] [])) t → Steps p.tables e below (s₁.setTop (entryFrame m #[(.int p0), (.int p1)] maxLocals)) t := by
        have q := go3
        rw [hs110] at q
        exact q
      have go112 : ∀ t, Steps p.tables e below (s₁.setTop (mkF m 15 #[.val (.int p0), .val (.int p1), .val (.int (1 : Int32)), .val (.int (v0_2 p1)), .unset, .unset, .unset] [(.int (1 : Int32))])) t → Steps p.tables e below (s₁.setTop (entryFrame m #[(.int p0), (.int p1)] maxLocals)) t := by
        intro t k
        refine go111 _ ?_
        refine XS.iloadN X0.here hx rfl (hb hby at_14) rfl ?_
        show Steps p.tables e below (s₁.setTop (mkF m 15 #[.val (.int p0), .val (.int p1), .val (.int (1 : Int32)), .val (.int (v0_2 p1)), .unset, .unset, .unset] [(.int (1 : Int32))])) t
        exact k
      by_cases hs113 : (v0_2 p1) = (0 : Int32)
      · have go114 : ∀ t, Steps p.tables e below (s₁.setTop (mkF m 15 #[.val (.int p0), .val (.int p1), .val (.int (1 : Int32)), .val (.int (0 : Int32)), .unset, .unset, .unset] [(.int (1 : Int32))])) t → Steps p.tables e below (s₁.setTop (entryFrame m #[(.int p0), (.int p1)] maxLocals)) t := by
          have q := go112
          rw [hs113] at q
          exact q
        obtain ⟨_, _, ⟨T115, L115, k115, n115⟩, -, X115, ⟨Lc115, hQ115, l115, y115, z115⟩, st115⟩ := Jvm.LawKit.callS X0 hx (y := (⟨"com/example/hauora_id/hauoraid/model/ConfidenceLevelAtLeastPinLaw", "pick", "(I)Lcom/example/hauora_id/hauoraid/model/ConfidenceLevel;"⟩ : MethodName)) hown (mvT hZ (hw _ (List.mem_of_getElem? (i := 1) rfl))) (mvT hZ (hw _ (List.mem_of_getElem? (i := 2) rfl))) (mvT hZ (hw _ (List.mem_of_getElem? (i := 3) rfl))) (mvT hZ (hw _ (List.mem_of_getElem? (i := 4) rfl))) (by decide) (backOf (W := 0) (rm1 l Z aZ hw [] (1 : Int32) s_L1 s_L2 s_L2N s_L3 s_L3N h0 n0 Z0 S_L1 S_L2 S_L2N S_L3 S_L3N) hZ (hw _ (List.mem_of_getElem? (i := 4) rfl)) (hw _ (List.mem_of_getElem? (i := 3) rfl)) (by decide) (by decide)) (g := (mkF m 15 #[.val (.int p0), .val (.int p1), .val (.int (1 : Int32)), .val (.int (0 : Int32)), .unset, .unset, .unset] [(.int (1 : Int32))])) rfl (by rw [hml]; rfl) (argsL := [(.int (1 : Int32))]) (rest := []) (lenOf pd_99 rfl) rfl (by show 2 * 0 + _ ≤ _; exact Nat.le_of_eq rfl) (hb hby at_15) (fun _ _ => ⟨rfl, e0, (by decide : 0 + 0 ≤ _), (by decide : 0 + 0 ≤ _)⟩)
        dsimp only [Pt.U, Pt.locs, Pt.cells, Pt.slots] at X115 l115 y115 z115 st115 hQ115
        subst l115 y115 z115
        obtain ⟨rfl, N115q, e115⟩ := hQ115
        have N115 := Fr.app N0 N115q
        have go116 : ∀ t, Steps p.tables e below (T115.setTop (mkF m 18 #[.val (.int p0), .val (.int p1), .val (.int (1 : Int32)), .val (.int (0 : Int32)), .unset, .unset, .unset] [(.ref s_L2)])) t → Steps p.tables e below (s₁.setTop (entryFrame m #[(.int p0), (.int p1)] maxLocals)) t := fun t k => go114 _ (st115 _ k)
        have go117 : ∀ t, Steps p.tables e below (T115.setTop (mkF m 21 #[.val (.int p0), .val (.int p1), .val (.int (1 : Int32)), .val (.int (0 : Int32)), .val (.ref s_L2), .unset, .unset] [(.int (0 : Int32))])) t → Steps p.tables e below (s₁.setTop (entryFrame m #[(.int p0), (.int p1)] maxLocals)) t := by
          intro t k
          refine go116 _ ?_
          refine XS.astore X115.here hx rfl (hb hby at_18) rfl rfl (l' := #[.val (.int p0), .val (.int p1), .val (.int (1 : Int32)), .val (.int (0 : Int32)), .val (.ref s_L2), .unset, .unset]) rfl ?_
          show Steps p.tables e below (T115.setTop (mkF m 20 #[.val (.int p0), .val (.int p1), .val (.int (1 : Int32)), .val (.int (0 : Int32)), .val (.ref s_L2), .unset, .unset] [])) t
          refine XS.iloadN X115.here hx rfl (hb hby at_20) rfl ?_
          show Steps p.tables e below (T115.setTop (mkF m 21 #[.val (.int p0), .val (.int p1), .val (.int (1 : Int32)), .val (.int (0 : Int32)), .val (.ref s_L2), .unset, .unset] [(.int (0 : Int32))])) t
          exact k
        obtain ⟨_, _, ⟨T118, L118, k118, n118⟩, -, X118, ⟨Lc118, hQ118, l118, y118, z118⟩, st118⟩ := Jvm.LawKit.callS X115 hx (y := (⟨"com/example/hauora_id/hauoraid/model/ConfidenceLevelAtLeastPinLaw", "pick", "(I)Lcom/example/hauora_id/hauoraid/model/ConfidenceLevel;"⟩ : MethodName)) hown (mvT hZ (hw _ (List.mem_of_getElem? (i := 1) rfl))) (mvT hZ (hw _ (List.mem_of_getElem? (i := 2) rfl))) (mvT hZ (hw _ (List.mem_of_getElem? (i := 3) rfl))) (mvT hZ (hw _ (List.mem_of_getElem? (i := 4) rfl))) (by decide) (backOf (W := 0) (rm1 l Z aZ hw [] (0 : Int32) s_L1 s_L2 s_L2N s_L3 s_L3N h0 n0 Z0 S_L1 S_L2 S_L2N S_L3 S_L3N) hZ (hw _ (List.mem_of_getElem? (i := 4) rfl)) (hw _ (List.mem_of_getElem? (i := 3) rfl)) (by decide) (by decide)) (g := (mkF m 21 #[.val (.int p0), .val (.int p1), .val (.int (1 : Int32)), .val (.int (0 : Int32)), .val (.ref s_L2), .unset, .unset] [(.int (0 : Int32))])) rfl (by rw [hml]; rfl) (argsL := [(.int (0 : Int32))]) (rest := []) (lenOf pd_99 rfl) rfl (by show 2 * 0 + _ ≤ _; exact Nat.le_of_eq rfl) (hb hby at_21) (fun _ _ => ⟨rfl, e115, (by decide : 0 + 0 ≤ _), (by decide : 0 + 0 ≤ _)⟩)
        dsimp only [Pt.U, Pt.locs, Pt.cells, Pt.slots] at X118 l118 y118 z118 st118 hQ118
        subst l118 y118 z118
        obtain ⟨rfl, N118q, e118⟩ := hQ118
        have N118 := Fr.app N115 N118q
        have go119 : ∀ t, Steps p.tables e below (T118.setTop (mkF m 24 #[.val (.int p0), .val (.int p1), .val (.int (1 : Int32)), .val (.int (0 : Int32)), .val (.ref s_L2), .unset, .unset] [(.ref s_L1)])) t → Steps p.tables e below (s₁.setTop (entryFrame m #[(.int p0), (.int p1)] maxLocals)) t := fun t k => go117 _ (st118 _ k)
        have go120 : ∀ t, Steps p.tables e below (T118.setTop (mkF m 27 #[.val (.int p0), .val (.int p1), .val (.int (1 : Int32)), .val (.int (0 : Int32)), .val (.ref s_L2), .val (.ref s_L1), .unset] [(.int (1 : Int32))])) t → Steps p.tables e below (s₁.setTop (entryFrame m #[(.int p0), (.int p1)] maxLocals)) t := by
          intro t k
          refine go119 _ ?_
          refine XS.astore X118.here hx rfl (hb hby at_24) rfl rfl (l' := #[.val (.int p0), .val (.int p1), .val (.int (1 : Int32)), .val (.int (0 : Int32)), .val (.ref s_L2), .val (.ref s_L1), .unset]) rfl ?_
          show Steps p.tables e below (T118.setTop (mkF m 26 #[.val (.int p0), .val (.int p1), .val (.int (1 : Int32)), .val (.int (0 : Int32)), .val (.ref s_L2), .val (.ref s_L1), .unset] [])) t
          refine XS.iloadN X118.here hx rfl (hb hby at_26) rfl ?_
          show Steps p.tables e below (T118.setTop (mkF m 27 #[.val (.int p0), .val (.int p1), .val (.int (1 : Int32)), .val (.int (0 : Int32)), .val (.ref s_L2), .val (.ref s_L1), .unset] [(.int (1 : Int32))])) t
          exact k
        obtain ⟨_, _, ⟨T121, L121, k121, n121⟩, -, X121, ⟨Lc121, hQ121, l121, y121, z121⟩, st121⟩ := Jvm.LawKit.callS X118 hx (y := (⟨"com/example/hauora_id/hauoraid/model/ConfidenceLevelAtLeastPinLaw", "digit", "(I)I"⟩ : MethodName)) hown (mvT hZ (hw _ (List.mem_of_getElem? (i := 10) rfl))) (mvT hZ (hw _ (List.mem_of_getElem? (i := 11) rfl))) (mvT hZ (hw _ (List.mem_of_getElem? (i := 3) rfl))) (mvT hZ (hw _ (List.mem_of_getElem? (i := 12) rfl))) (by decide) (backOf (W := 0) (rm2 l Z aZ hw [] (1 : Int32) h0 n0 Z0 ) hZ (hw _ (List.mem_of_getElem? (i := 12) rfl)) (hw _ (List.mem_of_getElem? (i := 3) rfl)) (by decide) (by decide)) (g := (mkF m 27 #[.val (.int p0), .val (.int p1), .val (.int (1 : Int32)), .val (.int (0 : Int32)), .val (.ref s_L2), .val (.ref s_L1), .unset] [(.int (1 : Int32))])) rfl (by rw [hml]; rfl) (argsL := [(.int (1 : Int32))]) (rest := []) (lenOf pd_100 rfl) rfl (by show 2 * 0 + _ ≤ _; exact Nat.le_of_eq rfl) (hb hby at_27) (fun _ _ => ⟨rfl, e118, (by decide : 0 + 0 ≤ _), (by decide : 0 + 0 ≤ _)⟩)
        dsimp only [Pt.U, Pt.locs, Pt.cells, Pt.slots] at X121 l121 y121 z121 st121 hQ121
        subst l121 y121 z121
        obtain ⟨rfl, N121q, e121⟩ := hQ121
        have N121 := Fr.app N118 N121q
        have go122 : ∀ t, Steps p.tables e below (T121.setTop (mkF m 30 #[.val (.int p0), .val (.int p1), .val (.int (1 : Int32)), .val (.int (0 : Int32)), .val (.ref s_L2), .val (.ref s_L1), .unset] [(.int (2 : Int32))])) t → Steps p.tables e below (s₁.setTop (entryFrame m #[(.int p0), (.int p1)] maxLocals)) t := fun t k => go120 _ (st121 _ k)
        have go123 : ∀ t, Steps p.tables e below (T121.setTop (mkF m 31 #[.val (.int p0), .val (.int p1), .val (.int (1 : Int32)), .val (.int (0 : Int32)), .val (.ref s_L2), .val (.ref s_L1), .unset] [(.int (0 : Int32)), (.int (2 : Int32))])) t → Steps p.tables e below (s₁.setTop (entryFrame m #[(.int p0), (.int p1)] maxLocals)) t := by
          intro t k
          refine go122 _ ?_
          refine XS.iloadN X121.here hx rfl (hb hby at_30) rfl ?_
          show Steps p.tables e below (T121.setTop (mkF m 31 #[.val (.int p0), .val (.int p1), .val (.int (1 : Int32)), .val (.int (0 : Int32)), .val (.ref s_L2), .val (.ref s_L1), .unset] [(.int (0 : Int32)), (.int (2 : Int32))])) t
          exact k
        obtain ⟨_, _, ⟨T124, L124, k124, n124⟩, -, X124, ⟨Lc124, hQ124, l124, y124, z124⟩, st124⟩ := Jvm.LawKit.callS X121 hx (y := (⟨"com/example/hauora_id/hauoraid/model/ConfidenceLevelAtLeastPinLaw", "digit", "(I)I"⟩ : MethodName)) hown (mvT hZ (hw _ (List.mem_of_getElem? (i := 10) rfl))) (mvT hZ (hw _ (List.mem_of_getElem? (i := 11) rfl))) (mvT hZ (hw _ (List.mem_of_getElem? (i := 3) rfl))) (mvT hZ (hw _ (List.mem_of_getElem? (i := 12) rfl))) (by decide) (backOf (W := 1) (rm2 l Z aZ hw [] (0 : Int32) h0 n0 Z0 ) hZ (hw _ (List.mem_of_getElem? (i := 12) rfl)) (hw _ (List.mem_of_getElem? (i := 3) rfl)) (by decide) (by decide)) (g := (mkF m 31 #[.val (.int p0), .val (.int p1), .val (.int (1 : Int32)), .val (.int (0 : Int32)), .val (.ref s_L2), .val (.ref s_L1), .unset] [(.int (0 : Int32)), (.int (2 : Int32))])) rfl (by rw [hml]; rfl) (argsL := [(.int (0 : Int32))]) (rest := [(.int (2 : Int32))]) (lenOf pd_100 rfl) rfl (by show 2 * 0 + _ ≤ _; exact Nat.le_of_eq rfl) (hb hby at_31) (fun _ _ => ⟨rfl, e121, (by decide : 0 + 0 ≤ _), (by decide : 0 + 0 ≤ _)⟩)
        dsimp only [Pt.U, Pt.locs, Pt.cells, Pt.slots] at X124 l124 y124 z124 st124 hQ124
        subst l124 y124 z124
        obtain ⟨rfl, N124q, e124⟩ := hQ124
        have N124 := Fr.app N121 N124q
        have go125 : ∀ t, Steps p.tables e below (T124.setTop (mkF m 34 #[.val (.int p0), .val (.int p1), .val (.int (1 : Int32)), .val (.int (0 : Int32)), .val (.ref s_L2), .val (.ref s_L1), .unset] [(.int (1 : Int32)), (.int (2 : Int32))])) t → Steps p.tables e below (s₁.setTop (entryFrame m #[(.int p0), (.int p1)] maxLocals)) t := fun t k => go123 _ (st124 _ k)
        have go126 : ∀ t, Steps p.tables e below (T124.setTop (mkF m 48 #[.val (.int p0), .val (.int p1), .val (.int (1 : Int32)), .val (.int (0 : Int32)), .val (.ref s_L2), .val (.ref s_L1), .val (.int (1 : Int32))] [(.ref s_L1), (.ref s_L2)])) t → Steps p.tables e below (s₁.setTop (entryFrame m #[(.int p0), (.int p1)] maxLocals)) t := by
          intro t k
          refine go125 _ ?_
          refine XS.icmpNo X124.here hx rfl (hb hby at_34) rfl (XT.ii_lt_f (by decide : ¬ ((2 : Int32) < (1 : Int32)))) ?_
          show Steps p.tables e below (T124.setTop (mkF m 37 #[.val (.int p0), .val (.int p1), .val (.int (1 : Int32)), .val (.int (0 : Int32)), .val (.ref s_L2), .val (.ref s_L1), .unset] [])) t
          refine XS.iconst X124.here hx rfl (hb hby at_37) ?_
          show Steps p.tables e below (T124.setTop (mkF m 38 #[.val (.int p0), .val (.int p1), .val (.int (1 : Int32)), .val (.int (0 : Int32)), .val (.ref s_L2), .val (.ref s_L1), .unset] [(.int (1 : Int32))])) t
          refine XS.goto X124.here hx rfl (pc0 := 38) (pc' := 42) rfl (hb hby at_38) (by decide) (by decide) ?_
          show Steps p.tables e below (T124.setTop (mkF m 42 #[.val (.int p0), .val (.int p1), .val (.int (1 : Int32)), .val (.int (0 : Int32)), .val (.ref s_L2), .val (.ref s_L1), .unset] [(.int (1 : Int32))])) t
          refine XS.istore X124.here hx rfl (hb hby at_42) rfl (l' := #[.val (.int p0), .val (.int p1), .val (.int (1 : Int32)), .val (.int (0 : Int32)), .val (.ref s_L2), .val (.ref s_L1), .val (.int (1 : Int32))]) rfl ?_
          show Steps p.tables e below (T124.setTop (mkF m 44 #[.val (.int p0), .val (.int p1), .val (.int (1 : Int32)), .val (.int (0 : Int32)), .val (.ref s_L2), .val (.ref s_L1), .val (.int (1 : Int32))] [])) t
          refine XS.aload X124.here hx rfl (hb hby at_44) rfl rfl ?_
          show Steps p.tables e below (T124.setTop (mkF m 46 #[.val (.int p0), .val (.int p1), .val (.int (1 : Int32)), .val (.int (0 : Int32)), .val (.ref s_L2), .val (.ref s_L1), .val (.int (1 : Int32))] [(.ref s_L2)])) t
          refine XS.aload X124.here hx rfl (hb hby at_46) rfl rfl ?_
          show Steps p.tables e below (T124.setTop (mkF m 48 #[.val (.int p0), .val (.int p1), .val (.int (1 : Int32)), .val (.int (0 : Int32)), .val (.ref s_L2), .val (.ref s_L1), .val (.int (1 : Int32))] [(.ref s_L1), (.ref s_L2)])) t
          exact k
        obtain ⟨cq127, kq127, q127a, q127b, q127c⟩ := isOf hZ e124 E_L2
        obtain ⟨_, _, ⟨T127, L127, k127, n127⟩, -, X127, ⟨Lc127, hQ127, l127, y127, z127⟩, st127⟩ := X124.virtualBack hx (y := (⟨"com/example/hauora_id/hauoraid/model/ConfidenceLevel", "atLeast", "(Lcom/example/hauora_id/hauoraid/model/ConfidenceLevel;)Z"⟩ : MethodName)) (z := (⟨"com/example/hauora_id/hauoraid/model/ConfidenceLevel", "atLeast", "(Lcom/example/hauora_id/hauoraid/model/ConfidenceLevel;)Z"⟩ : MethodName)) hown (mvT hZ (hw _ (List.mem_of_getElem? (i := 13) rfl))) (mvT hZ (hw _ (List.mem_of_getElem? (i := 14) rfl))) (notFace_of_selects (args := #[]) (mvT hZ (hw _ (List.mem_of_getElem? (i := 16) rfl)))) (mvT hZ (hw _ (List.mem_of_getElem? (i := 16) rfl))) (mvT hZ (hw _ (List.mem_of_getElem? (i := 15) rfl))) (by decide) (backOf (W := 0) (rm3 l Z aZ hw [] s_L2 s_L1 s_COMPACT_STRINGS s_SIOOBE_FORMATTER s_L2_value s_L2_value_value k_s_L2_value_value (1 : Int32) [(.int (50 : Int32))] (50 : Int32) s_L1_value s_L1_value_value k_s_L1_value_value (1 : Int32) [(.int (49 : Int32))] (49 : Int32) h0 n0 Z0 S_COMPACT_STRINGS S_SIOOBE_FORMATTER rS_SIOOBE_FORMATTER hcs F_L2_value E_L2_value F_L2_value_coder F_L2_value_value V_L2_value_value (by decide) rfl F_L1_value E_L1_value F_L1_value_coder F_L1_value_value V_L1_value_value (by decide) rfl) hZ (hw _ (List.mem_of_getElem? (i := 17) rfl)) (hw _ (List.mem_of_getElem? (i := 6) rfl)) (by decide) (by decide)) q127a q127c (g := (mkF m 48 #[.val (.int p0), .val (.int p1), .val (.int (1 : Int32)), .val (.int (0 : Int32)), .val (.ref s_L2), .val (.ref s_L1), .val (.int (1 : Int32))] [(.ref s_L1), (.ref s_L2)])) rfl (by rw [hml]; rfl) (Steps.refl _) (argsL := [(.ref s_L1)]) (rest := []) (lenOf pd_101 rfl) rfl (by show 2 * 0 + _ ≤ _; exact Nat.le_of_eq rfl) (hb hby at_48) (fun _ _ => ⟨rfl, e124, (by decide : 0 + 0 ≤ _), (by decide : 0 + 0 ≤ _)⟩)
        dsimp only [Pt.U, Pt.locs, Pt.cells, Pt.slots] at X127 l127 y127 z127 st127 hQ127
        subst l127 y127 z127
        obtain ⟨rfl, N127q, e127⟩ := hQ127
        have N127 := Fr.app N124 N127q
        have go128 : ∀ t, Steps p.tables e below (T127.setTop (mkF m 51 #[.val (.int p0), .val (.int p1), .val (.int (1 : Int32)), .val (.int (0 : Int32)), .val (.ref s_L2), .val (.ref s_L1), .val (.int (1 : Int32))] [(.int (f3 (50 : Int32) (49 : Int32)))])) t → Steps p.tables e below (s₁.setTop (entryFrame m #[(.int p0), (.int p1)] maxLocals)) t := fun t k => go126 _ (st127.trans k)
        have go130 : ∀ t, Steps p.tables e below (T127.setTop (mkF m 61 #[.val (.int p0), .val (.int p1), .val (.int (1 : Int32)), .val (.int (0 : Int32)), .val (.ref s_L2), .val (.ref s_L1), .val (.int (1 : Int32))] [(.int b0_131)])) t → Steps p.tables e below (s₁.setTop (entryFrame m #[(.int p0), (.int p1)] maxLocals)) t := by
          intro t k
          refine go128 _ ?_
          refine XS.iload X127.here hx rfl (hb hby at_51) rfl ?_
          show Steps p.tables e below (T127.setTop (mkF m 53 #[.val (.int p0), .val (.int p1), .val (.int (1 : Int32)), .val (.int (0 : Int32)), .val (.ref s_L2), .val (.ref s_L1), .val (.int (1 : Int32))] [(.int (1 : Int32)), (.int (f3 (50 : Int32) (49 : Int32)))])) t
          by_cases hc129 : (f3 (50 : Int32) (49 : Int32)) = (1 : Int32)
          · refine XS.icmpNo X127.here hx rfl (hb hby at_53) rfl (XT.ii_ne_f hc129) ?_
            show Steps p.tables e below (T127.setTop (mkF m 56 #[.val (.int p0), .val (.int p1), .val (.int (1 : Int32)), .val (.int (0 : Int32)), .val (.ref s_L2), .val (.ref s_L1), .val (.int (1 : Int32))] [])) t
            refine XS.iconst X127.here hx rfl (hb hby at_56) ?_
            show Steps p.tables e below (T127.setTop (mkF m 57 #[.val (.int p0), .val (.int p1), .val (.int (1 : Int32)), .val (.int (0 : Int32)), .val (.ref s_L2), .val (.ref s_L1), .val (.int (1 : Int32))] [(.int (1 : Int32))])) t
            refine XS.goto X127.here hx rfl (pc0 := 57) (pc' := 61) rfl (hb hby at_57) (by decide) (by decide) ?_
            show Steps p.tables e below (T127.setTop (mkF m 61 #[.val (.int p0), .val (.int p1), .val (.int (1 : Int32)), .val (.int (0 : Int32)), .val (.ref s_L2), .val (.ref s_L1), .val (.int (1 : Int32))] [(.int (1 : Int32))])) t
            have hq132 : b0_131 = (1 : Int32) := by rw [b0_131, if_pos hc129]
            rw [hq132] at k
            exact k
          · refine XS.icmpYes X127.here hx rfl (pc0 := 53) (pc' := 60) rfl (hb hby at_53) rfl (XT.ii_ne_t hc129) (by decide) (by decide) ?_
            show Steps p.tables e below (T127.setTop (mkF m 60 #[.val (.int p0), .val (.int p1), .val (.int (1 : Int32)), .val (.int (0 : Int32)), .val (.ref s_L2), .val (.ref s_L1), .val (.int (1 : Int32))] [])) t
            refine XS.iconst X127.here hx rfl (hb hby at_60) ?_
            show Steps p.tables e below (T127.setTop (mkF m 61 #[.val (.int p0), .val (.int p1), .val (.int (1 : Int32)), .val (.int (0 : Int32)), .val (.ref s_L2), .val (.ref s_L1), .val (.int (1 : Int32))] [(.int (0 : Int32))])) t
            have hq133 : b0_131 = (0 : Int32) := by rw [b0_131, if_neg hc129]
            rw [hq133] at k
            exact k
        obtain ⟨fs, hr, hrun, hended, hW, hsame⟩ := X127.leave (v := some (.int b0_131)) (fun h => by rw [Bd.returns] at h; cases h)
        refine ⟨_, _, go130 _ (Jvm.RoadKit.retOut X127 hx Bd.returns (own_nz (by unfold b0_131; (repeat' split) <;> first | exact Or.inl rfl | exact Or.inr rfl)) (Or.inl ⟨rfl, Or.inr (Or.inl rfl), _, rfl⟩) (hb hby at_61) hr), hrun, hended, _, _, rfl, ?_, ⟨_, rfl⟩, hW, hsame.mono (by decide) (by decide)⟩
        show Q0 _ _ p0 p1 s_L1 s_L3 s_L1_value s_L1_value_value s_L3_value s_L3_value_value s_L3N s_L2 s_L3N_value s_L3N_value_value s_L2_value s_L2_value_value s_L2N s_L2N_value s_L2N_value_value k_s_L1_value_value k_s_L3_value_value k_s_L3N_value_value k_s_L2_value_value k_s_L2N_value_value s_COMPACT_STRINGS s_SIOOBE_FORMATTER h0 _ (T127.setFrames fs).heap _
        have hE : (T127.setFrames fs).heap = h0 := e127
        rw [hE]
        exact ⟨congrArg (fun z => some (Value.int z)) ((by rw [f0, if_neg hs4, if_pos hs110, if_pos hs113] : b0_131 = (f0 p0 p1)).trans (f0_one p0 p1)), N127⟩
      · by_cases hs134 : (v0_2 p1) = (1 : Int32)
        · have go135 : ∀ t, Steps p.tables e below (s₁.setTop (mkF m 15 #[.val (.int p0), .val (.int p1), .val (.int (1 : Int32)), .val (.int (1 : Int32)), .unset, .unset, .unset] [(.int (1 : Int32))])) t → Steps p.tables e below (s₁.setTop (entryFrame m #[(.int p0), (.int p1)] maxLocals)) t := by
            have q := go112
            rw [hs134] at q
            exact q
          obtain ⟨_, _, ⟨T136, L136, k136, n136⟩, -, X136, ⟨Lc136, hQ136, l136, y136, z136⟩, st136⟩ := Jvm.LawKit.callS X0 hx (y := (⟨"com/example/hauora_id/hauoraid/model/ConfidenceLevelAtLeastPinLaw", "pick", "(I)Lcom/example/hauora_id/hauoraid/model/ConfidenceLevel;"⟩ : MethodName)) hown (mvT hZ (hw _ (List.mem_of_getElem? (i := 1) rfl))) (mvT hZ (hw _ (List.mem_of_getElem? (i := 2) rfl))) (mvT hZ (hw _ (List.mem_of_getElem? (i := 3) rfl))) (mvT hZ (hw _ (List.mem_of_getElem? (i := 4) rfl))) (by decide) (backOf (W := 0) (rm1 l Z aZ hw [] (1 : Int32) s_L1 s_L2 s_L2N s_L3 s_L3N h0 n0 Z0 S_L1 S_L2 S_L2N S_L3 S_L3N) hZ (hw _ (List.mem_of_getElem? (i := 4) rfl)) (hw _ (List.mem_of_getElem? (i := 3) rfl)) (by decide) (by decide)) (g := (mkF m 15 #[.val (.int p0), .val (.int p1), .val (.int (1 : Int32)), .val (.int (1 : Int32)), .unset, .unset, .unset] [(.int (1 : Int32))])) rfl (by rw [hml]; rfl) (argsL := [(.int (1 : Int32))]) (rest := []) (lenOf pd_99 rfl) rfl (by show 2 * 0 + _ ≤ _; exact Nat.le_of_eq rfl) (hb hby at_15) (fun _ _ => ⟨rfl, e0, (by decide : 0 + 0 ≤ _), (by decide : 0 + 0 ≤ _)⟩)
          dsimp only [Pt.U, Pt.locs, Pt.cells, Pt.slots] at X136 l136 y136 z136 st136 hQ136
          subst l136 y136 z136
          obtain ⟨rfl, N136q, e136⟩ := hQ136
          have N136 := Fr.app N0 N136q
          have go137 : ∀ t, Steps p.tables e below (T136.setTop (mkF m 18 #[.val (.int p0), .val (.int p1), .val (.int (1 : Int32)), .val (.int (1 : Int32)), .unset, .unset, .unset] [(.ref s_L2)])) t → Steps p.tables e below (s₁.setTop (entryFrame m #[(.int p0), (.int p1)] maxLocals)) t := fun t k => go135 _ (st136 _ k)
          have go138 : ∀ t, Steps p.tables e below (T136.setTop (mkF m 21 #[.val (.int p0), .val (.int p1), .val (.int (1 : Int32)), .val (.int (1 : Int32)), .val (.ref s_L2), .unset, .unset] [(.int (1 : Int32))])) t → Steps p.tables e below (s₁.setTop (entryFrame m #[(.int p0), (.int p1)] maxLocals)) t := by
            intro t k
            refine go137 _ ?_
            refine XS.astore X136.here hx rfl (hb hby at_18) rfl rfl (l' := #[.val (.int p0), .val (.int p1), .val (.int (1 : Int32)), .val (.int (1 : Int32)), .val (.ref s_L2), .unset, .unset]) rfl ?_
            show Steps p.tables e below (T136.setTop (mkF m 20 #[.val (.int p0), .val (.int p1), .val (.int (1 : Int32)), .val (.int (1 : Int32)), .val (.ref s_L2), .unset, .unset] [])) t
            refine XS.iloadN X136.here hx rfl (hb hby at_20) rfl ?_
            show Steps p.tables e below (T136.setTop (mkF m 21 #[.val (.int p0), .val (.int p1), .val (.int (1 : Int32)), .val (.int (1 : Int32)), .val (.ref s_L2), .unset, .unset] [(.int (1 : Int32))])) t
            exact k
          obtain ⟨_, _, ⟨T139, L139, k139, n139⟩, -, X139, ⟨Lc139, hQ139, l139, y139, z139⟩, st139⟩ := Jvm.LawKit.callS X136 hx (y := (⟨"com/example/hauora_id/hauoraid/model/ConfidenceLevelAtLeastPinLaw", "pick", "(I)Lcom/example/hauora_id/hauoraid/model/ConfidenceLevel;"⟩ : MethodName)) hown (mvT hZ (hw _ (List.mem_of_getElem? (i := 1) rfl))) (mvT hZ (hw _ (List.mem_of_getElem? (i := 2) rfl))) (mvT hZ (hw _ (List.mem_of_getElem? (i := 3) rfl))) (mvT hZ (hw _ (List.mem_of_getElem? (i := 4) rfl))) (by decide) (backOf (W := 0) (rm1 l Z aZ hw [] (1 : Int32) s_L1 s_L2 s_L2N s_L3 s_L3N h0 n0 Z0 S_L1 S_L2 S_L2N S_L3 S_L3N) hZ (hw _ (List.mem_of_getElem? (i := 4) rfl)) (hw _ (List.mem_of_getElem? (i := 3) rfl)) (by decide) (by decide)) (g := (mkF m 21 #[.val (.int p0), .val (.int p1), .val (.int (1 : Int32)), .val (.int (1 : Int32)), .val (.ref s_L2), .unset, .unset] [(.int (1 : Int32))])) rfl (by rw [hml]; rfl) (argsL := [(.int (1 : Int32))]) (rest := []) (lenOf pd_99 rfl) rfl (by show 2 * 0 + _ ≤ _; exact Nat.le_of_eq rfl) (hb hby at_21) (fun _ _ => ⟨rfl, e136, (by decide : 0 + 0 ≤ _), (by decide : 0 + 0 ≤ _)⟩)
          dsimp only [Pt.U, Pt.locs, Pt.cells, Pt.slots] at X139 l139 y139 z139 st139 hQ139
          subst l139 y139 z139
          obtain ⟨rfl, N139q, e139⟩ := hQ139
          have N139 := Fr.app N136 N139q
          have go140 : ∀ t, Steps p.tables e below (T139.setTop (mkF m 24 #[.val (.int p0), .val (.int p1), .val (.int (1 : Int32)), .val (.int (1 : Int32)), .val (.ref s_L2), .unset, .unset] [(.ref s_L2)])) t → Steps p.tables e below (s₁.setTop (entryFrame m #[(.int p0), (.int p1)] maxLocals)) t := fun t k => go138 _ (st139 _ k)
          have go141 : ∀ t, Steps p.tables e below (T139.setTop (mkF m 27 #[.val (.int p0), .val (.int p1), .val (.int (1 : Int32)), .val (.int (1 : Int32)), .val (.ref s_L2), .val (.ref s_L2), .unset] [(.int (1 : Int32))])) t → Steps p.tables e below (s₁.setTop (entryFrame m #[(.int p0), (.int p1)] maxLocals)) t := by
            intro t k
            refine go140 _ ?_
            refine XS.astore X139.here hx rfl (hb hby at_24) rfl rfl (l' := #[.val (.int p0), .val (.int p1), .val (.int (1 : Int32)), .val (.int (1 : Int32)), .val (.ref s_L2), .val (.ref s_L2), .unset]) rfl ?_
            show Steps p.tables e below (T139.setTop (mkF m 26 #[.val (.int p0), .val (.int p1), .val (.int (1 : Int32)), .val (.int (1 : Int32)), .val (.ref s_L2), .val (.ref s_L2), .unset] [])) t
            refine XS.iloadN X139.here hx rfl (hb hby at_26) rfl ?_
            show Steps p.tables e below (T139.setTop (mkF m 27 #[.val (.int p0), .val (.int p1), .val (.int (1 : Int32)), .val (.int (1 : Int32)), .val (.ref s_L2), .val (.ref s_L2), .unset] [(.int (1 : Int32))])) t
            exact k
          obtain ⟨_, _, ⟨T142, L142, k142, n142⟩, -, X142, ⟨Lc142, hQ142, l142, y142, z142⟩, st142⟩ := Jvm.LawKit.callS X139 hx (y := (⟨"com/example/hauora_id/hauoraid/model/ConfidenceLevelAtLeastPinLaw", "digit", "(I)I"⟩ : MethodName)) hown (mvT hZ (hw _ (List.mem_of_getElem? (i := 10) rfl))) (mvT hZ (hw _ (List.mem_of_getElem? (i := 11) rfl))) (mvT hZ (hw _ (List.mem_of_getElem? (i := 3) rfl))) (mvT hZ (hw _ (List.mem_of_getElem? (i := 12) rfl))) (by decide) (backOf (W := 0) (rm2 l Z aZ hw [] (1 : Int32) h0 n0 Z0 ) hZ (hw _ (List.mem_of_getElem? (i := 12) rfl)) (hw _ (List.mem_of_getElem? (i := 3) rfl)) (by decide) (by decide)) (g := (mkF m 27 #[.val (.int p0), .val (.int p1), .val (.int (1 : Int32)), .val (.int (1 : Int32)), .val (.ref s_L2), .val (.ref s_L2), .unset] [(.int (1 : Int32))])) rfl (by rw [hml]; rfl) (argsL := [(.int (1 : Int32))]) (rest := []) (lenOf pd_100 rfl) rfl (by show 2 * 0 + _ ≤ _; exact Nat.le_of_eq rfl) (hb hby at_27) (fun _ _ => ⟨rfl, e139, (by decide : 0 + 0 ≤ _), (by decide : 0 + 0 ≤ _)⟩)
          dsimp only [Pt.U, Pt.locs, Pt.cells, Pt.slots] at X142 l142 y142 z142 st142 hQ142
          subst l142 y142 z142
          obtain ⟨rfl, N142q, e142⟩ := hQ142
          have N142 := Fr.app N139 N142q
          have go143 : ∀ t, Steps p.tables e below (T142.setTop (mkF m 30 #[.val (.int p0), .val (.int p1), .val (.int (1 : Int32)), .val (.int (1 : Int32)), .val (.ref s_L2), .val (.ref s_L2), .unset] [(.int (2 : Int32))])) t → Steps p.tables e below (s₁.setTop (entryFrame m #[(.int p0), (.int p1)] maxLocals)) t := fun t k => go141 _ (st142 _ k)
          have go144 : ∀ t, Steps p.tables e below (T142.setTop (mkF m 31 #[.val (.int p0), .val (.int p1), .val (.int (1 : Int32)), .val (.int (1 : Int32)), .val (.ref s_L2), .val (.ref s_L2), .unset] [(.int (1 : Int32)), (.int (2 : Int32))])) t → Steps p.tables e below (s₁.setTop (entryFrame m #[(.int p0), (.int p1)] maxLocals)) t := by
            intro t k
            refine go143 _ ?_
            refine XS.iloadN X142.here hx rfl (hb hby at_30) rfl ?_
            show Steps p.tables e below (T142.setTop (mkF m 31 #[.val (.int p0), .val (.int p1), .val (.int (1 : Int32)), .val (.int (1 : Int32)), .val (.ref s_L2), .val (.ref s_L2), .unset] [(.int (1 : Int32)), (.int (2 : Int32))])) t
            exact k
          obtain ⟨_, _, ⟨T145, L145, k145, n145⟩, -, X145, ⟨Lc145, hQ145, l145, y145, z145⟩, st145⟩ := Jvm.LawKit.callS X142 hx (y := (⟨"com/example/hauora_id/hauoraid/model/ConfidenceLevelAtLeastPinLaw", "digit", "(I)I"⟩ : MethodName)) hown (mvT hZ (hw _ (List.mem_of_getElem? (i := 10) rfl))) (mvT hZ (hw _ (List.mem_of_getElem? (i := 11) rfl))) (mvT hZ (hw _ (List.mem_of_getElem? (i := 3) rfl))) (mvT hZ (hw _ (List.mem_of_getElem? (i := 12) rfl))) (by decide) (backOf (W := 1) (rm2 l Z aZ hw [] (1 : Int32) h0 n0 Z0 ) hZ (hw _ (List.mem_of_getElem? (i := 12) rfl)) (hw _ (List.mem_of_getElem? (i := 3) rfl)) (by decide) (by decide)) (g := (mkF m 31 #[.val (.int p0), .val (.int p1), .val (.int (1 : Int32)), .val (.int (1 : Int32)), .val (.ref s_L2), .val (.ref s_L2), .unset] [(.int (1 : Int32)), (.int (2 : Int32))])) rfl (by rw [hml]; rfl) (argsL := [(.int (1 : Int32))]) (rest := [(.int (2 : Int32))]) (lenOf pd_100 rfl) rfl (by show 2 * 0 + _ ≤ _; exact Nat.le_of_eq rfl) (hb hby at_31) (fun _ _ => ⟨rfl, e142, (by decide : 0 + 0 ≤ _), (by decide : 0 + 0 ≤ _)⟩)
          dsimp only [Pt.U, Pt.locs, Pt.cells, Pt.slots] at X145 l145 y145 z145 st145 hQ145
          subst l145 y145 z145
          obtain ⟨rfl, N145q, e145⟩ := hQ145
          have N145 := Fr.app N142 N145q
          have go146 : ∀ t, Steps p.tables e below (T145.setTop (mkF m 34 #[.val (.int p0), .val (.int p1), .val (.int (1 : Int32)), .val (.int (1 : Int32)), .val (.ref s_L2), .val (.ref s_L2), .unset] [(.int (2 : Int32)), (.int (2 : Int32))])) t → Steps p.tables e below (s₁.setTop (entryFrame m #[(.int p0), (.int p1)] maxLocals)) t := fun t k => go144 _ (st145 _ k)
          have go147 : ∀ t, Steps p.tables e below (T145.setTop (mkF m 48 #[.val (.int p0), .val (.int p1), .val (.int (1 : Int32)), .val (.int (1 : Int32)), .val (.ref s_L2), .val (.ref s_L2), .val (.int (1 : Int32))] [(.ref s_L2), (.ref s_L2)])) t → Steps p.tables e below (s₁.setTop (entryFrame m #[(.int p0), (.int p1)] maxLocals)) t := by
            intro t k
            refine go146 _ ?_
            refine XS.icmpNo X145.here hx rfl (hb hby at_34) rfl (XT.ii_lt_f (by decide : ¬ ((2 : Int32) < (2 : Int32)))) ?_
            show Steps p.tables e below (T145.setTop (mkF m 37 #[.val (.int p0), .val (.int p1), .val (.int (1 : Int32)), .val (.int (1 : Int32)), .val (.ref s_L2), .val (.ref s_L2), .unset] [])) t
            refine XS.iconst X145.here hx rfl (hb hby at_37) ?_
            show Steps p.tables e below (T145.setTop (mkF m 38 #[.val (.int p0), .val (.int p1), .val (.int (1 : Int32)), .val (.int (1 : Int32)), .val (.ref s_L2), .val (.ref s_L2), .unset] [(.int (1 : Int32))])) t
            refine XS.goto X145.here hx rfl (pc0 := 38) (pc' := 42) rfl (hb hby at_38) (by decide) (by decide) ?_
            show Steps p.tables e below (T145.setTop (mkF m 42 #[.val (.int p0), .val (.int p1), .val (.int (1 : Int32)), .val (.int (1 : Int32)), .val (.ref s_L2), .val (.ref s_L2), .unset] [(.int (1 : Int32))])) t
            refine XS.istore X145.here hx rfl (hb hby at_42) rfl (l' := #[.val (.int p0), .val (.int p1), .val (.int (1 : Int32)), .val (.int (1 : Int32)), .val (.ref s_L2), .val (.ref s_L2), .val (.int (1 : Int32))]) rfl ?_
            show Steps p.tables e below (T145.setTop (mkF m 44 #[.val (.int p0), .val (.int p1), .val (.int (1 : Int32)), .val (.int (1 : Int32)), .val (.ref s_L2), .val (.ref s_L2), .val (.int (1 : Int32))] [])) t
            refine XS.aload X145.here hx rfl (hb hby at_44) rfl rfl ?_
            show Steps p.tables e below (T145.setTop (mkF m 46 #[.val (.int p0), .val (.int p1), .val (.int (1 : Int32)), .val (.int (1 : Int32)), .val (.ref s_L2), .val (.ref s_L2), .val (.int (1 : Int32))] [(.ref s_L2)])) t
            refine XS.aload X145.here hx rfl (hb hby at_46) rfl rfl ?_
            show Steps p.tables e below (T145.setTop (mkF m 48 #[.val (.int p0), .val (.int p1), .val (.int (1 : Int32)), .val (.int (1 : Int32)), .val (.ref s_L2), .val (.ref s_L2), .val (.int (1 : Int32))] [(.ref s_L2), (.ref s_L2)])) t
            exact k
          obtain ⟨cq148, kq148, q148a, q148b, q148c⟩ := isOf hZ e145 E_L2
          obtain ⟨_, _, ⟨T148, L148, k148, n148⟩, -, X148, ⟨Lc148, hQ148, l148, y148, z148⟩, st148⟩ := X145.virtualBack hx (y := (⟨"com/example/hauora_id/hauoraid/model/ConfidenceLevel", "atLeast", "(Lcom/example/hauora_id/hauoraid/model/ConfidenceLevel;)Z"⟩ : MethodName)) (z := (⟨"com/example/hauora_id/hauoraid/model/ConfidenceLevel", "atLeast", "(Lcom/example/hauora_id/hauoraid/model/ConfidenceLevel;)Z"⟩ : MethodName)) hown (mvT hZ (hw _ (List.mem_of_getElem? (i := 13) rfl))) (mvT hZ (hw _ (List.mem_of_getElem? (i := 14) rfl))) (notFace_of_selects (args := #[]) (mvT hZ (hw _ (List.mem_of_getElem? (i := 16) rfl)))) (mvT hZ (hw _ (List.mem_of_getElem? (i := 16) rfl))) (mvT hZ (hw _ (List.mem_of_getElem? (i := 15) rfl))) (by decide) (backOf (W := 0) (rm3 l Z aZ hw [] s_L2 s_L2 s_COMPACT_STRINGS s_SIOOBE_FORMATTER s_L2_value s_L2_value_value k_s_L2_value_value (1 : Int32) [(.int (50 : Int32))] (50 : Int32) s_L2_value s_L2_value_value k_s_L2_value_value (1 : Int32) [(.int (50 : Int32))] (50 : Int32) h0 n0 Z0 S_COMPACT_STRINGS S_SIOOBE_FORMATTER rS_SIOOBE_FORMATTER hcs F_L2_value E_L2_value F_L2_value_coder F_L2_value_value V_L2_value_value (by decide) rfl F_L2_value E_L2_value F_L2_value_coder F_L2_value_value V_L2_value_value (by decide) rfl) hZ (hw _ (List.mem_of_getElem? (i := 17) rfl)) (hw _ (List.mem_of_getElem? (i := 6) rfl)) (by decide) (by decide)) q148a q148c (g := (mkF m 48 #[.val (.int p0), .val (.int p1), .val (.int (1 : Int32)), .val (.int (1 : Int32)), .val (.ref s_L2), .val (.ref s_L2), .val (.int (1 : Int32))] [(.ref s_L2), (.ref s_L2)])) rfl (by rw [hml]; rfl) (Steps.refl _) (argsL := [(.ref s_L2)]) (rest := []) (lenOf pd_101 rfl) rfl (by show 2 * 0 + _ ≤ _; exact Nat.le_of_eq rfl) (hb hby at_48) (fun _ _ => ⟨rfl, e145, (by decide : 0 + 0 ≤ _), (by decide : 0 + 0 ≤ _)⟩)
          dsimp only [Pt.U, Pt.locs, Pt.cells, Pt.slots] at X148 l148 y148 z148 st148 hQ148
          subst l148 y148 z148
          obtain ⟨rfl, N148q, e148⟩ := hQ148
          have N148 := Fr.app N145 N148q
          have go149 : ∀ t, Steps p.tables e below (T148.setTop (mkF m 51 #[.val (.int p0), .val (.int p1), .val (.int (1 : Int32)), .val (.int (1 : Int32)), .val (.ref s_L2), .val (.ref s_L2), .val (.int (1 : Int32))] [(.int (f3 (50 : Int32) (50 : Int32)))])) t → Steps p.tables e below (s₁.setTop (entryFrame m #[(.int p0), (.int p1)] maxLocals)) t := fun t k => go147 _ (st148.trans k)
          have go151 : ∀ t, Steps p.tables e below (T148.setTop (mkF m 61 #[.val (.int p0), .val (.int p1), .val (.int (1 : Int32)), .val (.int (1 : Int32)), .val (.ref s_L2), .val (.ref s_L2), .val (.int (1 : Int32))] [(.int b0_152)])) t → Steps p.tables e below (s₁.setTop (entryFrame m #[(.int p0), (.int p1)] maxLocals)) t := by
            intro t k
            refine go149 _ ?_
            refine XS.iload X148.here hx rfl (hb hby at_51) rfl ?_
            show Steps p.tables e below (T148.setTop (mkF m 53 #[.val (.int p0), .val (.int p1), .val (.int (1 : Int32)), .val (.int (1 : Int32)), .val (.ref s_L2), .val (.ref s_L2), .val (.int (1 : Int32))] [(.int (1 : Int32)), (.int (f3 (50 : Int32) (50 : Int32)))])) t
            by_cases hc150 : (f3 (50 : Int32) (50 : Int32)) = (1 : Int32)
            · refine XS.icmpNo X148.here hx rfl (hb hby at_53) rfl (XT.ii_ne_f hc150) ?_
              show Steps p.tables e below (T148.setTop (mkF m 56 #[.val (.int p0), .val (.int p1), .val (.int (1 : Int32)), .val (.int (1 : Int32)), .val (.ref s_L2), .val (.ref s_L2), .val (.int (1 : Int32))] [])) t
              refine XS.iconst X148.here hx rfl (hb hby at_56) ?_
              show Steps p.tables e below (T148.setTop (mkF m 57 #[.val (.int p0), .val (.int p1), .val (.int (1 : Int32)), .val (.int (1 : Int32)), .val (.ref s_L2), .val (.ref s_L2), .val (.int (1 : Int32))] [(.int (1 : Int32))])) t
              refine XS.goto X148.here hx rfl (pc0 := 57) (pc' := 61) rfl (hb hby at_57) (by decide) (by decide) ?_
              show Steps p.tables e below (T148.setTop (mkF m 61 #[.val (.int p0), .val (.int p1), .val (.int (1 : Int32)), .val (.int (1 : Int32)), .val (.ref s_L2), .val (.ref s_L2), .val (.int (1 : Int32))] [(.int (1 : Int32))])) t
              have hq153 : b0_152 = (1 : Int32) := by rw [b0_152, if_pos hc150]
              rw [hq153] at k
              exact k
            · refine XS.icmpYes X148.here hx rfl (pc0 := 53) (pc' := 60) rfl (hb hby at_53) rfl (XT.ii_ne_t hc150) (by decide) (by decide) ?_
              show Steps p.tables e below (T148.setTop (mkF m 60 #[.val (.int p0), .val (.int p1), .val (.int (1 : Int32)), .val (.int (1 : Int32)), .val (.ref s_L2), .val (.ref s_L2), .val (.int (1 : Int32))] [])) t
              refine XS.iconst X148.here hx rfl (hb hby at_60) ?_
              show Steps p.tables e below (T148.setTop (mkF m 61 #[.val (.int p0), .val (.int p1), .val (.int (1 : Int32)), .val (.int (1 : Int32)), .val (.ref s_L2), .val (.ref s_L2), .val (.int (1 : Int32))] [(.int (0 : Int32))])) t
              have hq154 : b0_152 = (0 : Int32) := by rw [b0_152, if_neg hc150]
              rw [hq154] at k
              exact k
          obtain ⟨fs, hr, hrun, hended, hW, hsame⟩ := X148.leave (v := some (.int b0_152)) (fun h => by rw [Bd.returns] at h; cases h)
          refine ⟨_, _, go151 _ (Jvm.RoadKit.retOut X148 hx Bd.returns (own_nz (by unfold b0_152; (repeat' split) <;> first | exact Or.inl rfl | exact Or.inr rfl)) (Or.inl ⟨rfl, Or.inr (Or.inl rfl), _, rfl⟩) (hb hby at_61) hr), hrun, hended, _, _, rfl, ?_, ⟨_, rfl⟩, hW, hsame.mono (by decide) (by decide)⟩
          show Q0 _ _ p0 p1 s_L1 s_L3 s_L1_value s_L1_value_value s_L3_value s_L3_value_value s_L3N s_L2 s_L3N_value s_L3N_value_value s_L2_value s_L2_value_value s_L2N s_L2N_value s_L2N_value_value k_s_L1_value_value k_s_L3_value_value k_s_L3N_value_value k_s_L2_value_value k_s_L2N_value_value s_COMPACT_STRINGS s_SIOOBE_FORMATTER h0 _ (T148.setFrames fs).heap _
          have hE : (T148.setFrames fs).heap = h0 := e148
          rw [hE]
          exact ⟨congrArg (fun z => some (Value.int z)) ((by rw [f0, if_neg hs4, if_pos hs110, if_neg hs113, if_pos hs134] : b0_152 = (f0 p0 p1)).trans (f0_one p0 p1)), N148⟩
        · by_cases hs155 : (v0_2 p1) = (2 : Int32)
          · have go156 : ∀ t, Steps p.tables e below (s₁.setTop (mkF m 15 #[.val (.int p0), .val (.int p1), .val (.int (1 : Int32)), .val (.int (2 : Int32)), .unset, .unset, .unset] [(.int (1 : Int32))])) t → Steps p.tables e below (s₁.setTop (entryFrame m #[(.int p0), (.int p1)] maxLocals)) t := by
              have q := go112
              rw [hs155] at q
              exact q
            obtain ⟨_, _, ⟨T157, L157, k157, n157⟩, -, X157, ⟨Lc157, hQ157, l157, y157, z157⟩, st157⟩ := Jvm.LawKit.callS X0 hx (y := (⟨"com/example/hauora_id/hauoraid/model/ConfidenceLevelAtLeastPinLaw", "pick", "(I)Lcom/example/hauora_id/hauoraid/model/ConfidenceLevel;"⟩ : MethodName)) hown (mvT hZ (hw _ (List.mem_of_getElem? (i := 1) rfl))) (mvT hZ (hw _ (List.mem_of_getElem? (i := 2) rfl))) (mvT hZ (hw _ (List.mem_of_getElem? (i := 3) rfl))) (mvT hZ (hw _ (List.mem_of_getElem? (i := 4) rfl))) (by decide) (backOf (W := 0) (rm1 l Z aZ hw [] (1 : Int32) s_L1 s_L2 s_L2N s_L3 s_L3N h0 n0 Z0 S_L1 S_L2 S_L2N S_L3 S_L3N) hZ (hw _ (List.mem_of_getElem? (i := 4) rfl)) (hw _ (List.mem_of_getElem? (i := 3) rfl)) (by decide) (by decide)) (g := (mkF m 15 #[.val (.int p0), .val (.int p1), .val (.int (1 : Int32)), .val (.int (2 : Int32)), .unset, .unset, .unset] [(.int (1 : Int32))])) rfl (by rw [hml]; rfl) (argsL := [(.int (1 : Int32))]) (rest := []) (lenOf pd_99 rfl) rfl (by show 2 * 0 + _ ≤ _; exact Nat.le_of_eq rfl) (hb hby at_15) (fun _ _ => ⟨rfl, e0, (by decide : 0 + 0 ≤ _), (by decide : 0 + 0 ≤ _)⟩)
            dsimp only [Pt.U, Pt.locs, Pt.cells, Pt.slots] at X157 l157 y157 z157 st157 hQ157
            subst l157 y157 z157
            obtain ⟨rfl, N157q, e157⟩ := hQ157
            have N157 := Fr.app N0 N157q
            have go158 : ∀ t, Steps p.tables e below (T157.setTop (mkF m 18 #[.val (.int p0), .val (.int p1), .val (.int (1 : Int32)), .val (.int (2 : Int32)), .unset, .unset, .unset] [(.ref s_L2)])) t → Steps p.tables e below (s₁.setTop (entryFrame m #[(.int p0), (.int p1)] maxLocals)) t := fun t k => go156 _ (st157 _ k)
            have go159 : ∀ t, Steps p.tables e below (T157.setTop (mkF m 21 #[.val (.int p0), .val (.int p1), .val (.int (1 : Int32)), .val (.int (2 : Int32)), .val (.ref s_L2), .unset, .unset] [(.int (2 : Int32))])) t → Steps p.tables e below (s₁.setTop (entryFrame m #[(.int p0), (.int p1)] maxLocals)) t := by
              intro t k
              refine go158 _ ?_
              refine XS.astore X157.here hx rfl (hb hby at_18) rfl rfl (l' := #[.val (.int p0), .val (.int p1), .val (.int (1 : Int32)), .val (.int (2 : Int32)), .val (.ref s_L2), .unset, .unset]) rfl ?_
              show Steps p.tables e below (T157.setTop (mkF m 20 #[.val (.int p0), .val (.int p1), .val (.int (1 : Int32)), .val (.int (2 : Int32)), .val (.ref s_L2), .unset, .unset] [])) t
              refine XS.iloadN X157.here hx rfl (hb hby at_20) rfl ?_
              show Steps p.tables e below (T157.setTop (mkF m 21 #[.val (.int p0), .val (.int p1), .val (.int (1 : Int32)), .val (.int (2 : Int32)), .val (.ref s_L2), .unset, .unset] [(.int (2 : Int32))])) t
              exact k
            obtain ⟨_, _, ⟨T160, L160, k160, n160⟩, -, X160, ⟨Lc160, hQ160, l160, y160, z160⟩, st160⟩ := Jvm.LawKit.callS X157 hx (y := (⟨"com/example/hauora_id/hauoraid/model/ConfidenceLevelAtLeastPinLaw", "pick", "(I)Lcom/example/hauora_id/hauoraid/model/ConfidenceLevel;"⟩ : MethodName)) hown (mvT hZ (hw _ (List.mem_of_getElem? (i := 1) rfl))) (mvT hZ (hw _ (List.mem_of_getElem? (i := 2) rfl))) (mvT hZ (hw _ (List.mem_of_getElem? (i := 3) rfl))) (mvT hZ (hw _ (List.mem_of_getElem? (i := 4) rfl))) (by decide) (backOf (W := 0) (rm1 l Z aZ hw [] (2 : Int32) s_L1 s_L2 s_L2N s_L3 s_L3N h0 n0 Z0 S_L1 S_L2 S_L2N S_L3 S_L3N) hZ (hw _ (List.mem_of_getElem? (i := 4) rfl)) (hw _ (List.mem_of_getElem? (i := 3) rfl)) (by decide) (by decide)) (g := (mkF m 21 #[.val (.int p0), .val (.int p1), .val (.int (1 : Int32)), .val (.int (2 : Int32)), .val (.ref s_L2), .unset, .unset] [(.int (2 : Int32))])) rfl (by rw [hml]; rfl) (argsL := [(.int (2 : Int32))]) (rest := []) (lenOf pd_99 rfl) rfl (by show 2 * 0 + _ ≤ _; exact Nat.le_of_eq rfl) (hb hby at_21) (fun _ _ => ⟨rfl, e157, (by decide : 0 + 0 ≤ _), (by decide : 0 + 0 ≤ _)⟩)
            dsimp only [Pt.U, Pt.locs, Pt.cells, Pt.slots] at X160 l160 y160 z160 st160 hQ160
            subst l160 y160 z160
            obtain ⟨rfl, N160q, e160⟩ := hQ160
            have N160 := Fr.app N157 N160q
            have go161 : ∀ t, Steps p.tables e below (T160.setTop (mkF m 24 #[.val (.int p0), .val (.int p1), .val (.int (1 : Int32)), .val (.int (2 : Int32)), .val (.ref s_L2), .unset, .unset] [(.ref s_L2N)])) t → Steps p.tables e below (s₁.setTop (entryFrame m #[(.int p0), (.int p1)] maxLocals)) t := fun t k => go159 _ (st160 _ k)
            have go162 : ∀ t, Steps p.tables e below (T160.setTop (mkF m 27 #[.val (.int p0), .val (.int p1), .val (.int (1 : Int32)), .val (.int (2 : Int32)), .val (.ref s_L2), .val (.ref s_L2N), .unset] [(.int (1 : Int32))])) t → Steps p.tables e below (s₁.setTop (entryFrame m #[(.int p0), (.int p1)] maxLocals)) t := by
              intro t k
              refine go161 _ ?_
              refine XS.astore X160.here hx rfl (hb hby at_24) rfl rfl (l' := #[.val (.int p0), .val (.int p1), .val (.int (1 : Int32)), .val (.int (2 : Int32)), .val (.ref s_L2), .val (.ref s_L2N), .unset]) rfl ?_
              show Steps p.tables e below (T160.setTop (mkF m 26 #[.val (.int p0), .val (.int p1), .val (.int (1 : Int32)), .val (.int (2 : Int32)), .val (.ref s_L2), .val (.ref s_L2N), .unset] [])) t
              refine XS.iloadN X160.here hx rfl (hb hby at_26) rfl ?_
              show Steps p.tables e below (T160.setTop (mkF m 27 #[.val (.int p0), .val (.int p1), .val (.int (1 : Int32)), .val (.int (2 : Int32)), .val (.ref s_L2), .val (.ref s_L2N), .unset] [(.int (1 : Int32))])) t
              exact k
            obtain ⟨_, _, ⟨T163, L163, k163, n163⟩, -, X163, ⟨Lc163, hQ163, l163, y163, z163⟩, st163⟩ := Jvm.LawKit.callS X160 hx (y := (⟨"com/example/hauora_id/hauoraid/model/ConfidenceLevelAtLeastPinLaw", "digit", "(I)I"⟩ : MethodName)) hown (mvT hZ (hw _ (List.mem_of_getElem? (i := 10) rfl))) (mvT hZ (hw _ (List.mem_of_getElem? (i := 11) rfl))) (mvT hZ (hw _ (List.mem_of_getElem? (i := 3) rfl))) (mvT hZ (hw _ (List.mem_of_getElem? (i := 12) rfl))) (by decide) (backOf (W := 0) (rm2 l Z aZ hw [] (1 : Int32) h0 n0 Z0 ) hZ (hw _ (List.mem_of_getElem? (i := 12) rfl)) (hw _ (List.mem_of_getElem? (i := 3) rfl)) (by decide) (by decide)) (g := (mkF m 27 #[.val (.int p0), .val (.int p1), .val (.int (1 : Int32)), .val (.int (2 : Int32)), .val (.ref s_L2), .val (.ref s_L2N), .unset] [(.int (1 : Int32))])) rfl (by rw [hml]; rfl) (argsL := [(.int (1 : Int32))]) (rest := []) (lenOf pd_100 rfl) rfl (by show 2 * 0 + _ ≤ _; exact Nat.le_of_eq rfl) (hb hby at_27) (fun _ _ => ⟨rfl, e160, (by decide : 0 + 0 ≤ _), (by decide : 0 + 0 ≤ _)⟩)
            dsimp only [Pt.U, Pt.locs, Pt.cells, Pt.slots] at X163 l163 y163 z163 st163 hQ163
            subst l163 y163 z163
            obtain ⟨rfl, N163q, e163⟩ := hQ163
            have N163 := Fr.app N160 N163q
            have go164 : ∀ t, Steps p.tables e below (T163.setTop (mkF m 30 #[.val (.int p0), .val (.int p1), .val (.int (1 : Int32)), .val (.int (2 : Int32)), .val (.ref s_L2), .val (.ref s_L2N), .unset] [(.int (2 : Int32))])) t → Steps p.tables e below (s₁.setTop (entryFrame m #[(.int p0), (.int p1)] maxLocals)) t := fun t k => go162 _ (st163 _ k)
            have go165 : ∀ t, Steps p.tables e below (T163.setTop (mkF m 31 #[.val (.int p0), .val (.int p1), .val (.int (1 : Int32)), .val (.int (2 : Int32)), .val (.ref s_L2), .val (.ref s_L2N), .unset] [(.int (2 : Int32)), (.int (2 : Int32))])) t → Steps p.tables e below (s₁.setTop (entryFrame m #[(.int p0), (.int p1)] maxLocals)) t := by
              intro t k
              refine go164 _ ?_
              refine XS.iloadN X163.here hx rfl (hb hby at_30) rfl ?_
              show Steps p.tables e below (T163.setTop (mkF m 31 #[.val (.int p0), .val (.int p1), .val (.int (1 : Int32)), .val (.int (2 : Int32)), .val (.ref s_L2), .val (.ref s_L2N), .unset] [(.int (2 : Int32)), (.int (2 : Int32))])) t
              exact k
            obtain ⟨_, _, ⟨T166, L166, k166, n166⟩, -, X166, ⟨Lc166, hQ166, l166, y166, z166⟩, st166⟩ := Jvm.LawKit.callS X163 hx (y := (⟨"com/example/hauora_id/hauoraid/model/ConfidenceLevelAtLeastPinLaw", "digit", "(I)I"⟩ : MethodName)) hown (mvT hZ (hw _ (List.mem_of_getElem? (i := 10) rfl))) (mvT hZ (hw _ (List.mem_of_getElem? (i := 11) rfl))) (mvT hZ (hw _ (List.mem_of_getElem? (i := 3) rfl))) (mvT hZ (hw _ (List.mem_of_getElem? (i := 12) rfl))) (by decide) (backOf (W := 1) (rm2 l Z aZ hw [] (2 : Int32) h0 n0 Z0 ) hZ (hw _ (List.mem_of_getElem? (i := 12) rfl)) (hw _ (List.mem_of_getElem? (i := 3) rfl)) (by decide) (by decide)) (g := (mkF m 31 #[.val (.int p0), .val (.int p1), .val (.int (1 : Int32)), .val (.int (2 : Int32)), .val (.ref s_L2), .val (.ref s_L2N), .unset] [(.int (2 : Int32)), (.int (2 : Int32))])) rfl (by rw [hml]; rfl) (argsL := [(.int (2 : Int32))]) (rest := [(.int (2 : Int32))]) (lenOf pd_100 rfl) rfl (by show 2 * 0 + _ ≤ _; exact Nat.le_of_eq rfl) (hb hby at_31) (fun _ _ => ⟨rfl, e163, (by decide : 0 + 0 ≤ _), (by decide : 0 + 0 ≤ _)⟩)
            dsimp only [Pt.U, Pt.locs, Pt.cells, Pt.slots] at X166 l166 y166 z166 st166 hQ166
            subst l166 y166 z166
            obtain ⟨rfl, N166q, e166⟩ := hQ166
            have N166 := Fr.app N163 N166q
            have go167 : ∀ t, Steps p.tables e below (T166.setTop (mkF m 34 #[.val (.int p0), .val (.int p1), .val (.int (1 : Int32)), .val (.int (2 : Int32)), .val (.ref s_L2), .val (.ref s_L2N), .unset] [(.int (2 : Int32)), (.int (2 : Int32))])) t → Steps p.tables e below (s₁.setTop (entryFrame m #[(.int p0), (.int p1)] maxLocals)) t := fun t k => go165 _ (st166 _ k)
            have go168 : ∀ t, Steps p.tables e below (T166.setTop (mkF m 48 #[.val (.int p0), .val (.int p1), .val (.int (1 : Int32)), .val (.int (2 : Int32)), .val (.ref s_L2), .val (.ref s_L2N), .val (.int (1 : Int32))] [(.ref s_L2N), (.ref s_L2)])) t → Steps p.tables e below (s₁.setTop (entryFrame m #[(.int p0), (.int p1)] maxLocals)) t := by
              intro t k
              refine go167 _ ?_
              refine XS.icmpNo X166.here hx rfl (hb hby at_34) rfl (XT.ii_lt_f (by decide : ¬ ((2 : Int32) < (2 : Int32)))) ?_
              show Steps p.tables e below (T166.setTop (mkF m 37 #[.val (.int p0), .val (.int p1), .val (.int (1 : Int32)), .val (.int (2 : Int32)), .val (.ref s_L2), .val (.ref s_L2N), .unset] [])) t
              refine XS.iconst X166.here hx rfl (hb hby at_37) ?_
              show Steps p.tables e below (T166.setTop (mkF m 38 #[.val (.int p0), .val (.int p1), .val (.int (1 : Int32)), .val (.int (2 : Int32)), .val (.ref s_L2), .val (.ref s_L2N), .unset] [(.int (1 : Int32))])) t
              refine XS.goto X166.here hx rfl (pc0 := 38) (pc' := 42) rfl (hb hby at_38) (by decide) (by decide) ?_
              show Steps p.tables e below (T166.setTop (mkF m 42 #[.val (.int p0), .val (.int p1), .val (.int (1 : Int32)), .val (.int (2 : Int32)), .val (.ref s_L2), .val (.ref s_L2N), .unset] [(.int (1 : Int32))])) t
              refine XS.istore X166.here hx rfl (hb hby at_42) rfl (l' := #[.val (.int p0), .val (.int p1), .val (.int (1 : Int32)), .val (.int (2 : Int32)), .val (.ref s_L2), .val (.ref s_L2N), .val (.int (1 : Int32))]) rfl ?_
              show Steps p.tables e below (T166.setTop (mkF m 44 #[.val (.int p0), .val (.int p1), .val (.int (1 : Int32)), .val (.int (2 : Int32)), .val (.ref s_L2), .val (.ref s_L2N), .val (.int (1 : Int32))] [])) t
              refine XS.aload X166.here hx rfl (hb hby at_44) rfl rfl ?_
              show Steps p.tables e below (T166.setTop (mkF m 46 #[.val (.int p0), .val (.int p1), .val (.int (1 : Int32)), .val (.int (2 : Int32)), .val (.ref s_L2), .val (.ref s_L2N), .val (.int (1 : Int32))] [(.ref s_L2)])) t
              refine XS.aload X166.here hx rfl (hb hby at_46) rfl rfl ?_
              show Steps p.tables e below (T166.setTop (mkF m 48 #[.val (.int p0), .val (.int p1), .val (.int (1 : Int32)), .val (.int (2 : Int32)), .val (.ref s_L2), .val (.ref s_L2N), .val (.int (1 : Int32))] [(.ref s_L2N), (.ref s_L2)])) t
              exact k
            obtain ⟨cq169, kq169, q169a, q169b, q169c⟩ := isOf hZ e166 E_L2
            obtain ⟨_, _, ⟨T169, L169, k169, n169⟩, -, X169, ⟨Lc169, hQ169, l169, y169, z169⟩, st169⟩ := X166.virtualBack hx (y := (⟨"com/example/hauora_id/hauoraid/model/ConfidenceLevel", "atLeast", "(Lcom/example/hauora_id/hauoraid/model/ConfidenceLevel;)Z"⟩ : MethodName)) (z := (⟨"com/example/hauora_id/hauoraid/model/ConfidenceLevel", "atLeast", "(Lcom/example/hauora_id/hauoraid/model/ConfidenceLevel;)Z"⟩ : MethodName)) hown (mvT hZ (hw _ (List.mem_of_getElem? (i := 13) rfl))) (mvT hZ (hw _ (List.mem_of_getElem? (i := 14) rfl))) (notFace_of_selects (args := #[]) (mvT hZ (hw _ (List.mem_of_getElem? (i := 16) rfl)))) (mvT hZ (hw _ (List.mem_of_getElem? (i := 16) rfl))) (mvT hZ (hw _ (List.mem_of_getElem? (i := 15) rfl))) (by decide) (backOf (W := 0) (rm3 l Z aZ hw [] s_L2 s_L2N s_COMPACT_STRINGS s_SIOOBE_FORMATTER s_L2_value s_L2_value_value k_s_L2_value_value (1 : Int32) [(.int (50 : Int32))] (50 : Int32) s_L2N_value s_L2N_value_value k_s_L2N_value_value (2 : Int32) [(.int (50 : Int32)), (.int (78 : Int32))] (50 : Int32) h0 n0 Z0 S_COMPACT_STRINGS S_SIOOBE_FORMATTER rS_SIOOBE_FORMATTER hcs F_L2_value E_L2_value F_L2_value_coder F_L2_value_value V_L2_value_value (by decide) rfl F_L2N_value E_L2N_value F_L2N_value_coder F_L2N_value_value V_L2N_value_value (by decide) rfl) hZ (hw _ (List.mem_of_getElem? (i := 17) rfl)) (hw _ (List.mem_of_getElem? (i := 6) rfl)) (by decide) (by decide)) q169a q169c (g := (mkF m 48 #[.val (.int p0), .val (.int p1), .val (.int (1 : Int32)), .val (.int (2 : Int32)), .val (.ref s_L2), .val (.ref s_L2N), .val (.int (1 : Int32))] [(.ref s_L2N), (.ref s_L2)])) rfl (by rw [hml]; rfl) (Steps.refl _) (argsL := [(.ref s_L2N)]) (rest := []) (lenOf pd_101 rfl) rfl (by show 2 * 0 + _ ≤ _; exact Nat.le_of_eq rfl) (hb hby at_48) (fun _ _ => ⟨rfl, e166, (by decide : 0 + 0 ≤ _), (by decide : 0 + 0 ≤ _)⟩)
            dsimp only [Pt.U, Pt.locs, Pt.cells, Pt.slots] at X169 l169 y169 z169 st169 hQ169
            subst l169 y169 z169
            obtain ⟨rfl, N169q, e169⟩ := hQ169
            have N169 := Fr.app N166 N169q
            have go170 : ∀ t, Steps p.tables e below (T169.setTop (mkF m 51 #[.val (.int p0), .val (.int p1), .val (.int (1 : Int32)), .val (.int (2 : Int32)), .val (.ref s_L2), .val (.ref s_L2N), .val (.int (1 : Int32))] [(.int (f3 (50 : Int32) (50 : Int32)))])) t → Steps p.tables e below (s₁.setTop (entryFrame m #[(.int p0), (.int p1)] maxLocals)) t := fun t k => go168 _ (st169.trans k)
            have go172 : ∀ t, Steps p.tables e below (T169.setTop (mkF m 61 #[.val (.int p0), .val (.int p1), .val (.int (1 : Int32)), .val (.int (2 : Int32)), .val (.ref s_L2), .val (.ref s_L2N), .val (.int (1 : Int32))] [(.int b0_152)])) t → Steps p.tables e below (s₁.setTop (entryFrame m #[(.int p0), (.int p1)] maxLocals)) t := by
              intro t k
              refine go170 _ ?_
              refine XS.iload X169.here hx rfl (hb hby at_51) rfl ?_
              show Steps p.tables e below (T169.setTop (mkF m 53 #[.val (.int p0), .val (.int p1), .val (.int (1 : Int32)), .val (.int (2 : Int32)), .val (.ref s_L2), .val (.ref s_L2N), .val (.int (1 : Int32))] [(.int (1 : Int32)), (.int (f3 (50 : Int32) (50 : Int32)))])) t
              by_cases hc171 : (f3 (50 : Int32) (50 : Int32)) = (1 : Int32)
              · refine XS.icmpNo X169.here hx rfl (hb hby at_53) rfl (XT.ii_ne_f hc171) ?_
                show Steps p.tables e below (T169.setTop (mkF m 56 #[.val (.int p0), .val (.int p1), .val (.int (1 : Int32)), .val (.int (2 : Int32)), .val (.ref s_L2), .val (.ref s_L2N), .val (.int (1 : Int32))] [])) t
                refine XS.iconst X169.here hx rfl (hb hby at_56) ?_
                show Steps p.tables e below (T169.setTop (mkF m 57 #[.val (.int p0), .val (.int p1), .val (.int (1 : Int32)), .val (.int (2 : Int32)), .val (.ref s_L2), .val (.ref s_L2N), .val (.int (1 : Int32))] [(.int (1 : Int32))])) t
                refine XS.goto X169.here hx rfl (pc0 := 57) (pc' := 61) rfl (hb hby at_57) (by decide) (by decide) ?_
                show Steps p.tables e below (T169.setTop (mkF m 61 #[.val (.int p0), .val (.int p1), .val (.int (1 : Int32)), .val (.int (2 : Int32)), .val (.ref s_L2), .val (.ref s_L2N), .val (.int (1 : Int32))] [(.int (1 : Int32))])) t
                have hq173 : b0_152 = (1 : Int32) := by rw [b0_152, if_pos hc171]
                rw [hq173] at k
                exact k
              · refine XS.icmpYes X169.here hx rfl (pc0 := 53) (pc' := 60) rfl (hb hby at_53) rfl (XT.ii_ne_t hc171) (by decide) (by decide) ?_
                show Steps p.tables e below (T169.setTop (mkF m 60 #[.val (.int p0), .val (.int p1), .val (.int (1 : Int32)), .val (.int (2 : Int32)), .val (.ref s_L2), .val (.ref s_L2N), .val (.int (1 : Int32))] [])) t
                refine XS.iconst X169.here hx rfl (hb hby at_60) ?_
                show Steps p.tables e below (T169.setTop (mkF m 61 #[.val (.int p0), .val (.int p1), .val (.int (1 : Int32)), .val (.int (2 : Int32)), .val (.ref s_L2), .val (.ref s_L2N), .val (.int (1 : Int32))] [(.int (0 : Int32))])) t
                have hq174 : b0_152 = (0 : Int32) := by rw [b0_152, if_neg hc171]
                rw [hq174] at k
                exact k
            obtain ⟨fs, hr, hrun, hended, hW, hsame⟩ := X169.leave (v := some (.int b0_152)) (fun h => by rw [Bd.returns] at h; cases h)
            refine ⟨_, _, go172 _ (Jvm.RoadKit.retOut X169 hx Bd.returns (own_nz (by unfold b0_152; (repeat' split) <;> first | exact Or.inl rfl | exact Or.inr rfl)) (Or.inl ⟨rfl, Or.inr (Or.inl rfl), _, rfl⟩) (hb hby at_61) hr), hrun, hended, _, _, rfl, ?_, ⟨_, rfl⟩, hW, hsame.mono (by decide) (by decide)⟩
            show Q0 _ _ p0 p1 s_L1 s_L3 s_L1_value s_L1_value_value s_L3_value s_L3_value_value s_L3N s_L2 s_L3N_value s_L3N_value_value s_L2_value s_L2_value_value s_L2N s_L2N_value s_L2N_value_value k_s_L1_value_value k_s_L3_value_value k_s_L3N_value_value k_s_L2_value_value k_s_L2N_value_value s_COMPACT_STRINGS s_SIOOBE_FORMATTER h0 _ (T169.setFrames fs).heap _
            have hE : (T169.setFrames fs).heap = h0 := e169
            rw [hE]
            exact ⟨congrArg (fun z => some (Value.int z)) ((by rw [f0, if_neg hs4, if_pos hs110, if_neg hs113, if_neg hs134, if_pos hs155] : b0_152 = (f0 p0 p1)).trans (f0_one p0 p1)), N169⟩
          · by_cases hs175 : (v0_2 p1) = (3 : Int32)
            · have go176 : ∀ t, Steps p.tables e below (s₁.setTop (mkF m 15 #[.val (.int p0), .val (.int p1), .val (.int (1 : Int32)), .val (.int (3 : Int32)), .unset, .unset, .unset] [(.int (1 : Int32))])) t → Steps p.tables e below (s₁.setTop (entryFrame m #[(.int p0), (.int p1)] maxLocals)) t := by
                have q := go112
                rw [hs175] at q
                exact q
              obtain ⟨_, _, ⟨T177, L177, k177, n177⟩, -, X177, ⟨Lc177, hQ177, l177, y177, z177⟩, st177⟩ := Jvm.LawKit.callS X0 hx (y := (⟨"com/example/hauora_id/hauoraid/model/ConfidenceLevelAtLeastPinLaw", "pick", "(I)Lcom/example/hauora_id/hauoraid/model/ConfidenceLevel;"⟩ : MethodName)) hown (mvT hZ (hw _ (List.mem_of_getElem? (i := 1) rfl))) (mvT hZ (hw _ (List.mem_of_getElem? (i := 2) rfl))) (mvT hZ (hw _ (List.mem_of_getElem? (i := 3) rfl))) (mvT hZ (hw _ (List.mem_of_getElem? (i := 4) rfl))) (by decide) (backOf (W := 0) (rm1 l Z aZ hw [] (1 : Int32) s_L1 s_L2 s_L2N s_L3 s_L3N h0 n0 Z0 S_L1 S_L2 S_L2N S_L3 S_L3N) hZ (hw _ (List.mem_of_getElem? (i := 4) rfl)) (hw _ (List.mem_of_getElem? (i := 3) rfl)) (by decide) (by decide)) (g := (mkF m 15 #[.val (.int p0), .val (.int p1), .val (.int (1 : Int32)), .val (.int (3 : Int32)), .unset, .unset, .unset] [(.int (1 : Int32))])) rfl (by rw [hml]; rfl) (argsL := [(.int (1 : Int32))]) (rest := []) (lenOf pd_99 rfl) rfl (by show 2 * 0 + _ ≤ _; exact Nat.le_of_eq rfl) (hb hby at_15) (fun _ _ => ⟨rfl, e0, (by decide : 0 + 0 ≤ _), (by decide : 0 + 0 ≤ _)⟩)
              dsimp only [Pt.U, Pt.locs, Pt.cells, Pt.slots] at X177 l177 y177 z177 st177 hQ177
              subst l177 y177 z177
              obtain ⟨rfl, N177q, e177⟩ := hQ177
              have N177 := Fr.app N0 N177q
              have go178 : ∀ t, Steps p.tables e below (T177.setTop (mkF m 18 #[.val (.int p0), .val (.int p1), .val (.int (1 : Int32)), .val (.int (3 : Int32)), .unset, .unset, .unset] [(.ref s_L2)])) t → Steps p.tables e below (s₁.setTop (entryFrame m #[(.int p0), (.int p1)] maxLocals)) t := fun t k => go176 _ (st177 _ k)
              have go179 : ∀ t, Steps p.tables e below (T177.setTop (mkF m 21 #[.val (.int p0), .val (.int p1), .val (.int (1 : Int32)), .val (.int (3 : Int32)), .val (.ref s_L2), .unset, .unset] [(.int (3 : Int32))])) t → Steps p.tables e below (s₁.setTop (entryFrame m #[(.int p0), (.int p1)] maxLocals)) t := by
                intro t k
                refine go178 _ ?_
                refine XS.astore X177.here hx rfl (hb hby at_18) rfl rfl (l' := #[.val (.int p0), .val (.int p1), .val (.int (1 : Int32)), .val (.int (3 : Int32)), .val (.ref s_L2), .unset, .unset]) rfl ?_
                show Steps p.tables e below (T177.setTop (mkF m 20 #[.val (.int p0), .val (.int p1), .val (.int (1 : Int32)), .val (.int (3 : Int32)), .val (.ref s_L2), .unset, .unset] [])) t
                refine XS.iloadN X177.here hx rfl (hb hby at_20) rfl ?_
                show Steps p.tables e below (T177.setTop (mkF m 21 #[.val (.int p0), .val (.int p1), .val (.int (1 : Int32)), .val (.int (3 : Int32)), .val (.ref s_L2), .unset, .unset] [(.int (3 : Int32))])) t
                exact k
              obtain ⟨_, _, ⟨T180, L180, k180, n180⟩, -, X180, ⟨Lc180, hQ180, l180, y180, z180⟩, st180⟩ := Jvm.LawKit.callS X177 hx (y := (⟨"com/example/hauora_id/hauoraid/model/ConfidenceLevelAtLeastPinLaw", "pick", "(I)Lcom/example/hauora_id/hauoraid/model/ConfidenceLevel;"⟩ : MethodName)) hown (mvT hZ (hw _ (List.mem_of_getElem? (i := 1) rfl))) (mvT hZ (hw _ (List.mem_of_getElem? (i := 2) rfl))) (mvT hZ (hw _ (List.mem_of_getElem? (i := 3) rfl))) (mvT hZ (hw _ (List.mem_of_getElem? (i := 4) rfl))) (by decide) (backOf (W := 0) (rm1 l Z aZ hw [] (3 : Int32) s_L1 s_L2 s_L2N s_L3 s_L3N h0 n0 Z0 S_L1 S_L2 S_L2N S_L3 S_L3N) hZ (hw _ (List.mem_of_getElem? (i := 4) rfl)) (hw _ (List.mem_of_getElem? (i := 3) rfl)) (by decide) (by decide)) (g := (mkF m 21 #[.val (.int p0), .val (.int p1), .val (.int (1 : Int32)), .val (.int (3 : Int32)), .val (.ref s_L2), .unset, .unset] [(.int (3 : Int32))])) rfl (by rw [hml]; rfl) (argsL := [(.int (3 : Int32))]) (rest := []) (lenOf pd_99 rfl) rfl (by show 2 * 0 + _ ≤ _; exact Nat.le_of_eq rfl) (hb hby at_21) (fun _ _ => ⟨rfl, e177, (by decide : 0 + 0 ≤ _), (by decide : 0 + 0 ≤ _)⟩)
              dsimp only [Pt.U, Pt.locs, Pt.cells, Pt.slots] at X180 l180 y180 z180 st180 hQ180
              subst l180 y180 z180
              obtain ⟨rfl, N180q, e180⟩ := hQ180
              have N180 := Fr.app N177 N180q
              have go181 : ∀ t, Steps p.tables e below (T180.setTop (mkF m 24 #[.val (.int p0), .val (.int p1), .val (.int (1 : Int32)), .val (.int (3 : Int32)), .val (.ref s_L2), .unset, .unset] [(.ref s_L3)])) t → Steps p.tables e below (s₁.setTop (entryFrame m #[(.int p0), (.int p1)] maxLocals)) t := fun t k => go179 _ (st180 _ k)
              have go182 : ∀ t, Steps p.tables e below (T180.setTop (mkF m 27 #[.val (.int p0), .val (.int p1), .val (.int (1 : Int32)), .val (.int (3 : Int32)), .val (.ref s_L2), .val (.ref s_L3), .unset] [(.int (1 : Int32))])) t → Steps p.tables e below (s₁.setTop (entryFrame m #[(.int p0), (.int p1)] maxLocals)) t := by
                intro t k
                refine go181 _ ?_
                refine XS.astore X180.here hx rfl (hb hby at_24) rfl rfl (l' := #[.val (.int p0), .val (.int p1), .val (.int (1 : Int32)), .val (.int (3 : Int32)), .val (.ref s_L2), .val (.ref s_L3), .unset]) rfl ?_
                show Steps p.tables e below (T180.setTop (mkF m 26 #[.val (.int p0), .val (.int p1), .val (.int (1 : Int32)), .val (.int (3 : Int32)), .val (.ref s_L2), .val (.ref s_L3), .unset] [])) t
                refine XS.iloadN X180.here hx rfl (hb hby at_26) rfl ?_
                show Steps p.tables e below (T180.setTop (mkF m 27 #[.val (.int p0), .val (.int p1), .val (.int (1 : Int32)), .val (.int (3 : Int32)), .val (.ref s_L2), .val (.ref s_L3), .unset] [(.int (1 : Int32))])) t
                exact k
              obtain ⟨_, _, ⟨T183, L183, k183, n183⟩, -, X183, ⟨Lc183, hQ183, l183, y183, z183⟩, st183⟩ := Jvm.LawKit.callS X180 hx (y := (⟨"com/example/hauora_id/hauoraid/model/ConfidenceLevelAtLeastPinLaw", "digit", "(I)I"⟩ : MethodName)) hown (mvT hZ (hw _ (List.mem_of_getElem? (i := 10) rfl))) (mvT hZ (hw _ (List.mem_of_getElem? (i := 11) rfl))) (mvT hZ (hw _ (List.mem_of_getElem? (i := 3) rfl))) (mvT hZ (hw _ (List.mem_of_getElem? (i := 12) rfl))) (by decide) (backOf (W := 0) (rm2 l Z aZ hw [] (1 : Int32) h0 n0 Z0 ) hZ (hw _ (List.mem_of_getElem? (i := 12) rfl)) (hw _ (List.mem_of_getElem? (i := 3) rfl)) (by decide) (by decide)) (g := (mkF m 27 #[.val (.int p0), .val (.int p1), .val (.int (1 : Int32)), .val (.int (3 : Int32)), .val (.ref s_L2), .val (.ref s_L3), .unset] [(.int (1 : Int32))])) rfl (by rw [hml]; rfl) (argsL := [(.int (1 : Int32))]) (rest := []) (lenOf pd_100 rfl) rfl (by show 2 * 0 + _ ≤ _; exact Nat.le_of_eq rfl) (hb hby at_27) (fun _ _ => ⟨rfl, e180, (by decide : 0 + 0 ≤ _), (by decide : 0 + 0 ≤ _)⟩)
              dsimp only [Pt.U, Pt.locs, Pt.cells, Pt.slots] at X183 l183 y183 z183 st183 hQ183
              subst l183 y183 z183
              obtain ⟨rfl, N183q, e183⟩ := hQ183
              have N183 := Fr.app N180 N183q
              have go184 : ∀ t, Steps p.tables e below (T183.setTop (mkF m 30 #[.val (.int p0), .val (.int p1), .val (.int (1 : Int32)), .val (.int (3 : Int32)), .val (.ref s_L2), .val (.ref s_L3), .unset] [(.int (2 : Int32))])) t → Steps p.tables e below (s₁.setTop (entryFrame m #[(.int p0), (.int p1)] maxLocals)) t := fun t k => go182 _ (st183 _ k)
              have go185 : ∀ t, Steps p.tables e below (T183.setTop (mkF m 31 #[.val (.int p0), .val (.int p1), .val (.int (1 : Int32)), .val (.int (3 : Int32)), .val (.ref s_L2), .val (.ref s_L3), .unset] [(.int (3 : Int32)), (.int (2 : Int32))])) t → Steps p.tables e below (s₁.setTop (entryFrame m #[(.int p0), (.int p1)] maxLocals)) t := by
                intro t k
                refine go184 _ ?_
                refine XS.iloadN X183.here hx rfl (hb hby at_30) rfl ?_
                show Steps p.tables e below (T183.setTop (mkF m 31 #[.val (.int p0), .val (.int p1), .val (.int (1 : Int32)), .val (.int (3 : Int32)), .val (.ref s_L2), .val (.ref s_L3), .unset] [(.int (3 : Int32)), (.int (2 : Int32))])) t
                exact k
              obtain ⟨_, _, ⟨T186, L186, k186, n186⟩, -, X186, ⟨Lc186, hQ186, l186, y186, z186⟩, st186⟩ := Jvm.LawKit.callS X183 hx (y := (⟨"com/example/hauora_id/hauoraid/model/ConfidenceLevelAtLeastPinLaw", "digit", "(I)I"⟩ : MethodName)) hown (mvT hZ (hw _ (List.mem_of_getElem? (i := 10) rfl))) (mvT hZ (hw _ (List.mem_of_getElem? (i := 11) rfl))) (mvT hZ (hw _ (List.mem_of_getElem? (i := 3) rfl))) (mvT hZ (hw _ (List.mem_of_getElem? (i := 12) rfl))) (by decide) (backOf (W := 1) (rm2 l Z aZ hw [] (3 : Int32) h0 n0 Z0 ) hZ (hw _ (List.mem_of_getElem? (i := 12) rfl)) (hw _ (List.mem_of_getElem? (i := 3) rfl)) (by decide) (by decide)) (g := (mkF m 31 #[.val (.int p0), .val (.int p1), .val (.int (1 : Int32)), .val (.int (3 : Int32)), .val (.ref s_L2), .val (.ref s_L3), .unset] [(.int (3 : Int32)), (.int (2 : Int32))])) rfl (by rw [hml]; rfl) (argsL := [(.int (3 : Int32))]) (rest := [(.int (2 : Int32))]) (lenOf pd_100 rfl) rfl (by show 2 * 0 + _ ≤ _; exact Nat.le_of_eq rfl) (hb hby at_31) (fun _ _ => ⟨rfl, e183, (by decide : 0 + 0 ≤ _), (by decide : 0 + 0 ≤ _)⟩)
              dsimp only [Pt.U, Pt.locs, Pt.cells, Pt.slots] at X186 l186 y186 z186 st186 hQ186
              subst l186 y186 z186
              obtain ⟨rfl, N186q, e186⟩ := hQ186
              have N186 := Fr.app N183 N186q
              have go187 : ∀ t, Steps p.tables e below (T186.setTop (mkF m 34 #[.val (.int p0), .val (.int p1), .val (.int (1 : Int32)), .val (.int (3 : Int32)), .val (.ref s_L2), .val (.ref s_L3), .unset] [(.int (3 : Int32)), (.int (2 : Int32))])) t → Steps p.tables e below (s₁.setTop (entryFrame m #[(.int p0), (.int p1)] maxLocals)) t := fun t k => go185 _ (st186 _ k)
              have go188 : ∀ t, Steps p.tables e below (T186.setTop (mkF m 48 #[.val (.int p0), .val (.int p1), .val (.int (1 : Int32)), .val (.int (3 : Int32)), .val (.ref s_L2), .val (.ref s_L3), .val (.int (0 : Int32))] [(.ref s_L3), (.ref s_L2)])) t → Steps p.tables e below (s₁.setTop (entryFrame m #[(.int p0), (.int p1)] maxLocals)) t := by
                intro t k
                refine go187 _ ?_
                refine XS.icmpYes X186.here hx rfl (pc0 := 34) (pc' := 41) rfl (hb hby at_34) rfl (XT.ii_lt_t (by decide : ((2 : Int32) < (3 : Int32)))) (by decide) (by decide) ?_
                show Steps p.tables e below (T186.setTop (mkF m 41 #[.val (.int p0), .val (.int p1), .val (.int (1 : Int32)), .val (.int (3 : Int32)), .val (.ref s_L2), .val (.ref s_L3), .unset] [])) t
                refine XS.iconst X186.here hx rfl (hb hby at_41) ?_
                show Steps p.tables e below (T186.setTop (mkF m 42 #[.val (.int p0), .val (.int p1), .val (.int (1 : Int32)), .val (.int (3 : Int32)), .val (.ref s_L2), .val (.ref s_L3), .unset] [(.int (0 : Int32))])) t
                refine XS.istore X186.here hx rfl (hb hby at_42) rfl (l' := #[.val (.int p0), .val (.int p1), .val (.int (1 : Int32)), .val (.int (3 : Int32)), .val (.ref s_L2), .val (.ref s_L3), .val (.int (0 : Int32))]) rfl ?_
                show Steps p.tables e below (T186.setTop (mkF m 44 #[.val (.int p0), .val (.int p1), .val (.int (1 : Int32)), .val (.int (3 : Int32)), .val (.ref s_L2), .val (.ref s_L3), .val (.int (0 : Int32))] [])) t
                refine XS.aload X186.here hx rfl (hb hby at_44) rfl rfl ?_
                show Steps p.tables e below (T186.setTop (mkF m 46 #[.val (.int p0), .val (.int p1), .val (.int (1 : Int32)), .val (.int (3 : Int32)), .val (.ref s_L2), .val (.ref s_L3), .val (.int (0 : Int32))] [(.ref s_L2)])) t
                refine XS.aload X186.here hx rfl (hb hby at_46) rfl rfl ?_
                show Steps p.tables e below (T186.setTop (mkF m 48 #[.val (.int p0), .val (.int p1), .val (.int (1 : Int32)), .val (.int (3 : Int32)), .val (.ref s_L2), .val (.ref s_L3), .val (.int (0 : Int32))] [(.ref s_L3), (.ref s_L2)])) t
                exact k
              obtain ⟨cq189, kq189, q189a, q189b, q189c⟩ := isOf hZ e186 E_L2
              obtain ⟨_, _, ⟨T189, L189, k189, n189⟩, -, X189, ⟨Lc189, hQ189, l189, y189, z189⟩, st189⟩ := X186.virtualBack hx (y := (⟨"com/example/hauora_id/hauoraid/model/ConfidenceLevel", "atLeast", "(Lcom/example/hauora_id/hauoraid/model/ConfidenceLevel;)Z"⟩ : MethodName)) (z := (⟨"com/example/hauora_id/hauoraid/model/ConfidenceLevel", "atLeast", "(Lcom/example/hauora_id/hauoraid/model/ConfidenceLevel;)Z"⟩ : MethodName)) hown (mvT hZ (hw _ (List.mem_of_getElem? (i := 13) rfl))) (mvT hZ (hw _ (List.mem_of_getElem? (i := 14) rfl))) (notFace_of_selects (args := #[]) (mvT hZ (hw _ (List.mem_of_getElem? (i := 16) rfl)))) (mvT hZ (hw _ (List.mem_of_getElem? (i := 16) rfl))) (mvT hZ (hw _ (List.mem_of_getElem? (i := 15) rfl))) (by decide) (backOf (W := 0) (rm3 l Z aZ hw [] s_L2 s_L3 s_COMPACT_STRINGS s_SIOOBE_FORMATTER s_L2_value s_L2_value_value k_s_L2_value_value (1 : Int32) [(.int (50 : Int32))] (50 : Int32) s_L3_value s_L3_value_value k_s_L3_value_value (1 : Int32) [(.int (51 : Int32))] (51 : Int32) h0 n0 Z0 S_COMPACT_STRINGS S_SIOOBE_FORMATTER rS_SIOOBE_FORMATTER hcs F_L2_value E_L2_value F_L2_value_coder F_L2_value_value V_L2_value_value (by decide) rfl F_L3_value E_L3_value F_L3_value_coder F_L3_value_value V_L3_value_value (by decide) rfl) hZ (hw _ (List.mem_of_getElem? (i := 17) rfl)) (hw _ (List.mem_of_getElem? (i := 6) rfl)) (by decide) (by decide)) q189a q189c (g := (mkF m 48 #[.val (.int p0), .val (.int p1), .val (.int (1 : Int32)), .val (.int (3 : Int32)), .val (.ref s_L2), .val (.ref s_L3), .val (.int (0 : Int32))] [(.ref s_L3), (.ref s_L2)])) rfl (by rw [hml]; rfl) (Steps.refl _) (argsL := [(.ref s_L3)]) (rest := []) (lenOf pd_101 rfl) rfl (by show 2 * 0 + _ ≤ _; exact Nat.le_of_eq rfl) (hb hby at_48) (fun _ _ => ⟨rfl, e186, (by decide : 0 + 0 ≤ _), (by decide : 0 + 0 ≤ _)⟩)
              dsimp only [Pt.U, Pt.locs, Pt.cells, Pt.slots] at X189 l189 y189 z189 st189 hQ189
              subst l189 y189 z189
              obtain ⟨rfl, N189q, e189⟩ := hQ189
              have N189 := Fr.app N186 N189q
              have go190 : ∀ t, Steps p.tables e below (T189.setTop (mkF m 51 #[.val (.int p0), .val (.int p1), .val (.int (1 : Int32)), .val (.int (3 : Int32)), .val (.ref s_L2), .val (.ref s_L3), .val (.int (0 : Int32))] [(.int (f3 (50 : Int32) (51 : Int32)))])) t → Steps p.tables e below (s₁.setTop (entryFrame m #[(.int p0), (.int p1)] maxLocals)) t := fun t k => go188 _ (st189.trans k)
              have go192 : ∀ t, Steps p.tables e below (T189.setTop (mkF m 61 #[.val (.int p0), .val (.int p1), .val (.int (1 : Int32)), .val (.int (3 : Int32)), .val (.ref s_L2), .val (.ref s_L3), .val (.int (0 : Int32))] [(.int b0_193)])) t → Steps p.tables e below (s₁.setTop (entryFrame m #[(.int p0), (.int p1)] maxLocals)) t := by
                intro t k
                refine go190 _ ?_
                refine XS.iload X189.here hx rfl (hb hby at_51) rfl ?_
                show Steps p.tables e below (T189.setTop (mkF m 53 #[.val (.int p0), .val (.int p1), .val (.int (1 : Int32)), .val (.int (3 : Int32)), .val (.ref s_L2), .val (.ref s_L3), .val (.int (0 : Int32))] [(.int (0 : Int32)), (.int (f3 (50 : Int32) (51 : Int32)))])) t
                by_cases hc191 : (f3 (50 : Int32) (51 : Int32)) = (0 : Int32)
                · refine XS.icmpNo X189.here hx rfl (hb hby at_53) rfl (XT.ii_ne_f hc191) ?_
                  show Steps p.tables e below (T189.setTop (mkF m 56 #[.val (.int p0), .val (.int p1), .val (.int (1 : Int32)), .val (.int (3 : Int32)), .val (.ref s_L2), .val (.ref s_L3), .val (.int (0 : Int32))] [])) t
                  refine XS.iconst X189.here hx rfl (hb hby at_56) ?_
                  show Steps p.tables e below (T189.setTop (mkF m 57 #[.val (.int p0), .val (.int p1), .val (.int (1 : Int32)), .val (.int (3 : Int32)), .val (.ref s_L2), .val (.ref s_L3), .val (.int (0 : Int32))] [(.int (1 : Int32))])) t
                  refine XS.goto X189.here hx rfl (pc0 := 57) (pc' := 61) rfl (hb hby at_57) (by decide) (by decide) ?_
                  show Steps p.tables e below (T189.setTop (mkF m 61 #[.val (.int p0), .val (.int p1), .val (.int (1 : Int32)), .val (.int (3 : Int32)), .val (.ref s_L2), .val (.ref s_L3), .val (.int (0 : Int32))] [(.int (1 : Int32))])) t
                  have hq194 : b0_193 = (1 : Int32) := by rw [b0_193, if_pos hc191]
                  rw [hq194] at k
                  exact k
                · refine XS.icmpYes X189.here hx rfl (pc0 := 53) (pc' := 60) rfl (hb hby at_53) rfl (XT.ii_ne_t hc191) (by decide) (by decide) ?_
                  show Steps p.tables e below (T189.setTop (mkF m 60 #[.val (.int p0), .val (.int p1), .val (.int (1 : Int32)), .val (.int (3 : Int32)), .val (.ref s_L2), .val (.ref s_L3), .val (.int (0 : Int32))] [])) t
                  refine XS.iconst X189.here hx rfl (hb hby at_60) ?_
                  show Steps p.tables e below (T189.setTop (mkF m 61 #[.val (.int p0), .val (.int p1), .val (.int (1 : Int32)), .val (.int (3 : Int32)), .val (.ref s_L2), .val (.ref s_L3), .val (.int (0 : Int32))] [(.int (0 : Int32))])) t
                  have hq195 : b0_193 = (0 : Int32) := by rw [b0_193, if_neg hc191]
                  rw [hq195] at k
                  exact k
              obtain ⟨fs, hr, hrun, hended, hW, hsame⟩ := X189.leave (v := some (.int b0_193)) (fun h => by rw [Bd.returns] at h; cases h)
              refine ⟨_, _, go192 _ (Jvm.RoadKit.retOut X189 hx Bd.returns (own_nz (by unfold b0_193; (repeat' split) <;> first | exact Or.inl rfl | exact Or.inr rfl)) (Or.inl ⟨rfl, Or.inr (Or.inl rfl), _, rfl⟩) (hb hby at_61) hr), hrun, hended, _, _, rfl, ?_, ⟨_, rfl⟩, hW, hsame.mono (by decide) (by decide)⟩
              show Q0 _ _ p0 p1 s_L1 s_L3 s_L1_value s_L1_value_value s_L3_value s_L3_value_value s_L3N s_L2 s_L3N_value s_L3N_value_value s_L2_value s_L2_value_value s_L2N s_L2N_value s_L2N_value_value k_s_L1_value_value k_s_L3_value_value k_s_L3N_value_value k_s_L2_value_value k_s_L2N_value_value s_COMPACT_STRINGS s_SIOOBE_FORMATTER h0 _ (T189.setFrames fs).heap _
              have hE : (T189.setFrames fs).heap = h0 := e189
              rw [hE]
              exact ⟨congrArg (fun z => some (Value.int z)) ((by rw [f0, if_neg hs4, if_pos hs110, if_neg hs113, if_neg hs134, if_neg hs155, if_pos hs175] : b0_193 = (f0 p0 p1)).trans (f0_one p0 p1)), N189⟩
            · by_cases hs196 : (v0_2 p1) = (4 : Int32)
              · have go197 : ∀ t, Steps p.tables e below (s₁.setTop (mkF m 15 #[.val (.int p0), .val (.int p1), .val (.int (1 : Int32)), .val (.int (4 : Int32)), .unset, .unset, .unset] [(.int (1 : Int32))])) t → Steps p.tables e below (s₁.setTop (entryFrame m #[(.int p0), (.int p1)] maxLocals)) t := by
                  have q := go112
                  rw [hs196] at q
                  exact q
                obtain ⟨_, _, ⟨T198, L198, k198, n198⟩, -, X198, ⟨Lc198, hQ198, l198, y198, z198⟩, st198⟩ := Jvm.LawKit.callS X0 hx (y := (⟨"com/example/hauora_id/hauoraid/model/ConfidenceLevelAtLeastPinLaw", "pick", "(I)Lcom/example/hauora_id/hauoraid/model/ConfidenceLevel;"⟩ : MethodName)) hown (mvT hZ (hw _ (List.mem_of_getElem? (i := 1) rfl))) (mvT hZ (hw _ (List.mem_of_getElem? (i := 2) rfl))) (mvT hZ (hw _ (List.mem_of_getElem? (i := 3) rfl))) (mvT hZ (hw _ (List.mem_of_getElem? (i := 4) rfl))) (by decide) (backOf (W := 0) (rm1 l Z aZ hw [] (1 : Int32) s_L1 s_L2 s_L2N s_L3 s_L3N h0 n0 Z0 S_L1 S_L2 S_L2N S_L3 S_L3N) hZ (hw _ (List.mem_of_getElem? (i := 4) rfl)) (hw _ (List.mem_of_getElem? (i := 3) rfl)) (by decide) (by decide)) (g := (mkF m 15 #[.val (.int p0), .val (.int p1), .val (.int (1 : Int32)), .val (.int (4 : Int32)), .unset, .unset, .unset] [(.int (1 : Int32))])) rfl (by rw [hml]; rfl) (argsL := [(.int (1 : Int32))]) (rest := []) (lenOf pd_99 rfl) rfl (by show 2 * 0 + _ ≤ _; exact Nat.le_of_eq rfl) (hb hby at_15) (fun _ _ => ⟨rfl, e0, (by decide : 0 + 0 ≤ _), (by decide : 0 + 0 ≤ _)⟩)
                dsimp only [Pt.U, Pt.locs, Pt.cells, Pt.slots] at X198 l198 y198 z198 st198 hQ198
                subst l198 y198 z198
                obtain ⟨rfl, N198q, e198⟩ := hQ198
                have N198 := Fr.app N0 N198q
                have go199 : ∀ t, Steps p.tables e below (T198.setTop (mkF m 18 #[.val (.int p0), .val (.int p1), .val (.int (1 : Int32)), .val (.int (4 : Int32)), .unset, .unset, .unset] [(.ref s_L2)])) t → Steps p.tables e below (s₁.setTop (entryFrame m #[(.int p0), (.int p1)] maxLocals)) t := fun t k => go197 _ (st198 _ k)
                have go200 : ∀ t, Steps p.tables e below (T198.setTop (mkF m 21 #[.val (.int p0), .val (.int p1), .val (.int (1 : Int32)), .val (.int (4 : Int32)), .val (.ref s_L2), .unset, .unset] [(.int (4 : Int32))])) t → Steps p.tables e below (s₁.setTop (entryFrame m #[(.int p0), (.int p1)] maxLocals)) t := by
                  intro t k
                  refine go199 _ ?_
                  refine XS.astore X198.here hx rfl (hb hby at_18) rfl rfl (l' := #[.val (.int p0), .val (.int p1), .val (.int (1 : Int32)), .val (.int (4 : Int32)), .val (.ref s_L2), .unset, .unset]) rfl ?_
                  show Steps p.tables e below (T198.setTop (mkF m 20 #[.val (.int p0), .val (.int p1), .val (.int (1 : Int32)), .val (.int (4 : Int32)), .val (.ref s_L2), .unset, .unset] [])) t
                  refine XS.iloadN X198.here hx rfl (hb hby at_20) rfl ?_
                  show Steps p.tables e below (T198.setTop (mkF m 21 #[.val (.int p0), .val (.int p1), .val (.int (1 : Int32)), .val (.int (4 : Int32)), .val (.ref s_L2), .unset, .unset] [(.int (4 : Int32))])) t
                  exact k
                obtain ⟨_, _, ⟨T201, L201, k201, n201⟩, -, X201, ⟨Lc201, hQ201, l201, y201, z201⟩, st201⟩ := Jvm.LawKit.callS X198 hx (y := (⟨"com/example/hauora_id/hauoraid/model/ConfidenceLevelAtLeastPinLaw", "pick", "(I)Lcom/example/hauora_id/hauoraid/model/ConfidenceLevel;"⟩ : MethodName)) hown (mvT hZ (hw _ (List.mem_of_getElem? (i := 1) rfl))) (mvT hZ (hw _ (List.mem_of_getElem? (i := 2) rfl))) (mvT hZ (hw _ (List.mem_of_getElem? (i := 3) rfl))) (mvT hZ (hw _ (List.mem_of_getElem? (i := 4) rfl))) (by decide) (backOf (W := 0) (rm1 l Z aZ hw [] (4 : Int32) s_L1 s_L2 s_L2N s_L3 s_L3N h0 n0 Z0 S_L1 S_L2 S_L2N S_L3 S_L3N) hZ (hw _ (List.mem_of_getElem? (i := 4) rfl)) (hw _ (List.mem_of_getElem? (i := 3) rfl)) (by decide) (by decide)) (g := (mkF m 21 #[.val (.int p0), .val (.int p1), .val (.int (1 : Int32)), .val (.int (4 : Int32)), .val (.ref s_L2), .unset, .unset] [(.int (4 : Int32))])) rfl (by rw [hml]; rfl) (argsL := [(.int (4 : Int32))]) (rest := []) (lenOf pd_99 rfl) rfl (by show 2 * 0 + _ ≤ _; exact Nat.le_of_eq rfl) (hb hby at_21) (fun _ _ => ⟨rfl, e198, (by decide : 0 + 0 ≤ _), (by decide : 0 + 0 ≤ _)⟩)
                dsimp only [Pt.U, Pt.locs, Pt.cells, Pt.slots] at X201 l201 y201 z201 st201 hQ201
                subst l201 y201 z201
                obtain ⟨rfl, N201q, e201⟩ := hQ201
                have N201 := Fr.app N198 N201q
                have go202 : ∀ t, Steps p.tables e below (T201.setTop (mkF m 24 #[.val (.int p0), .val (.int p1), .val (.int (1 : Int32)), .val (.int (4 : Int32)), .val (.ref s_L2), .unset, .unset] [(.ref s_L3N)])) t → Steps p.tables e below (s₁.setTop (entryFrame m #[(.int p0), (.int p1)] maxLocals)) t := fun t k => go200 _ (st201 _ k)
                have go203 : ∀ t, Steps p.tables e below (T201.setTop (mkF m 27 #[.val (.int p0), .val (.int p1), .val (.int (1 : Int32)), .val (.int (4 : Int32)), .val (.ref s_L2), .val (.ref s_L3N), .unset] [(.int (1 : Int32))])) t → Steps p.tables e below (s₁.setTop (entryFrame m #[(.int p0), (.int p1)] maxLocals)) t := by
                  intro t k
                  refine go202 _ ?_
                  refine XS.astore X201.here hx rfl (hb hby at_24) rfl rfl (l' := #[.val (.int p0), .val (.int p1), .val (.int (1 : Int32)), .val (.int (4 : Int32)), .val (.ref s_L2), .val (.ref s_L3N), .unset]) rfl ?_
                  show Steps p.tables e below (T201.setTop (mkF m 26 #[.val (.int p0), .val (.int p1), .val (.int (1 : Int32)), .val (.int (4 : Int32)), .val (.ref s_L2), .val (.ref s_L3N), .unset] [])) t
                  refine XS.iloadN X201.here hx rfl (hb hby at_26) rfl ?_
                  show Steps p.tables e below (T201.setTop (mkF m 27 #[.val (.int p0), .val (.int p1), .val (.int (1 : Int32)), .val (.int (4 : Int32)), .val (.ref s_L2), .val (.ref s_L3N), .unset] [(.int (1 : Int32))])) t
                  exact k
                obtain ⟨_, _, ⟨T204, L204, k204, n204⟩, -, X204, ⟨Lc204, hQ204, l204, y204, z204⟩, st204⟩ := Jvm.LawKit.callS X201 hx (y := (⟨"com/example/hauora_id/hauoraid/model/ConfidenceLevelAtLeastPinLaw", "digit", "(I)I"⟩ : MethodName)) hown (mvT hZ (hw _ (List.mem_of_getElem? (i := 10) rfl))) (mvT hZ (hw _ (List.mem_of_getElem? (i := 11) rfl))) (mvT hZ (hw _ (List.mem_of_getElem? (i := 3) rfl))) (mvT hZ (hw _ (List.mem_of_getElem? (i := 12) rfl))) (by decide) (backOf (W := 0) (rm2 l Z aZ hw [] (1 : Int32) h0 n0 Z0 ) hZ (hw _ (List.mem_of_getElem? (i := 12) rfl)) (hw _ (List.mem_of_getElem? (i := 3) rfl)) (by decide) (by decide)) (g := (mkF m 27 #[.val (.int p0), .val (.int p1), .val (.int (1 : Int32)), .val (.int (4 : Int32)), .val (.ref s_L2), .val (.ref s_L3N), .unset] [(.int (1 : Int32))])) rfl (by rw [hml]; rfl) (argsL := [(.int (1 : Int32))]) (rest := []) (lenOf pd_100 rfl) rfl (by show 2 * 0 + _ ≤ _; exact Nat.le_of_eq rfl) (hb hby at_27) (fun _ _ => ⟨rfl, e201, (by decide : 0 + 0 ≤ _), (by decide : 0 + 0 ≤ _)⟩)
                dsimp only [Pt.U, Pt.locs, Pt.cells, Pt.slots] at X204 l204 y204 z204 st204 hQ204
                subst l204 y204 z204
                obtain ⟨rfl, N204q, e204⟩ := hQ204
                have N204 := Fr.app N201 N204q
                have go205 : ∀ t, Steps p.tables e below (T204.setTop (mkF m 30 #[.val (.int p0), .val (.int p1), .val (.int (1 : Int32)), .val (.int (4 : Int32)), .val (.ref s_L2), .val (.ref s_L3N), .unset] [(.int (2 : Int32))])) t → Steps p.tables e below (s₁.setTop (entryFrame m #[(.int p0), (.int p1)] maxLocals)) t := fun t k => go203 _ (st204 _ k)
                have go206 : ∀ t, Steps p.tables e below (T204.setTop (mkF m 31 #[.val (.int p0), .val (.int p1), .val (.int (1 : Int32)), .val (.int (4 : Int32)), .val (.ref s_L2), .val (.ref s_L3N), .unset] [(.int (4 : Int32)), (.int (2 : Int32))])) t → Steps p.tables e below (s₁.setTop (entryFrame m #[(.int p0), (.int p1)] maxLocals)) t := by
                  intro t k
                  refine go205 _ ?_
                  refine XS.iloadN X204.here hx rfl (hb hby at_30) rfl ?_
                  show Steps p.tables e below (T204.setTop (mkF m 31 #[.val (.int p0), .val (.int p1), .val (.int (1 : Int32)), .val (.int (4 : Int32)), .val (.ref s_L2), .val (.ref s_L3N), .unset] [(.int (4 : Int32)), (.int (2 : Int32))])) t
                  exact k
                obtain ⟨_, _, ⟨T207, L207, k207, n207⟩, -, X207, ⟨Lc207, hQ207, l207, y207, z207⟩, st207⟩ := Jvm.LawKit.callS X204 hx (y := (⟨"com/example/hauora_id/hauoraid/model/ConfidenceLevelAtLeastPinLaw", "digit", "(I)I"⟩ : MethodName)) hown (mvT hZ (hw _ (List.mem_of_getElem? (i := 10) rfl))) (mvT hZ (hw _ (List.mem_of_getElem? (i := 11) rfl))) (mvT hZ (hw _ (List.mem_of_getElem? (i := 3) rfl))) (mvT hZ (hw _ (List.mem_of_getElem? (i := 12) rfl))) (by decide) (backOf (W := 1) (rm2 l Z aZ hw [] (4 : Int32) h0 n0 Z0 ) hZ (hw _ (List.mem_of_getElem? (i := 12) rfl)) (hw _ (List.mem_of_getElem? (i := 3) rfl)) (by decide) (by decide)) (g := (mkF m 31 #[.val (.int p0), .val (.int p1), .val (.int (1 : Int32)), .val (.int (4 : Int32)), .val (.ref s_L2), .val (.ref s_L3N), .unset] [(.int (4 : Int32)), (.int (2 : Int32))])) rfl (by rw [hml]; rfl) (argsL := [(.int (4 : Int32))]) (rest := [(.int (2 : Int32))]) (lenOf pd_100 rfl) rfl (by show 2 * 0 + _ ≤ _; exact Nat.le_of_eq rfl) (hb hby at_31) (fun _ _ => ⟨rfl, e204, (by decide : 0 + 0 ≤ _), (by decide : 0 + 0 ≤ _)⟩)
                dsimp only [Pt.U, Pt.locs, Pt.cells, Pt.slots] at X207 l207 y207 z207 st207 hQ207
                subst l207 y207 z207
                obtain ⟨rfl, N207q, e207⟩ := hQ207
                have N207 := Fr.app N204 N207q
                have go208 : ∀ t, Steps p.tables e below (T207.setTop (mkF m 34 #[.val (.int p0), .val (.int p1), .val (.int (1 : Int32)), .val (.int (4 : Int32)), .val (.ref s_L2), .val (.ref s_L3N), .unset] [(.int (3 : Int32)), (.int (2 : Int32))])) t → Steps p.tables e below (s₁.setTop (entryFrame m #[(.int p0), (.int p1)] maxLocals)) t := fun t k => go206 _ (st207 _ k)
                have go209 : ∀ t, Steps p.tables e below (T207.setTop (mkF m 48 #[.val (.int p0), .val (.int p1), .val (.int (1 : Int32)), .val (.int (4 : Int32)), .val (.ref s_L2), .val (.ref s_L3N), .val (.int (0 : Int32))] [(.ref s_L3N), (.ref s_L2)])) t → Steps p.tables e below (s₁.setTop (entryFrame m #[(.int p0), (.int p1)] maxLocals)) t := by
                  intro t k
                  refine go208 _ ?_
                  refine XS.icmpYes X207.here hx rfl (pc0 := 34) (pc' := 41) rfl (hb hby at_34) rfl (XT.ii_lt_t (by decide : ((2 : Int32) < (3 : Int32)))) (by decide) (by decide) ?_
                  show Steps p.tables e below (T207.setTop (mkF m 41 #[.val (.int p0), .val (.int p1), .val (.int (1 : Int32)), .val (.int (4 : Int32)), .val (.ref s_L2), .val (.ref s_L3N), .unset] [])) t
                  refine XS.iconst X207.here hx rfl (hb hby at_41) ?_
                  show Steps p.tables e below (T207.setTop (mkF m 42 #[.val (.int p0), .val (.int p1), .val (.int (1 : Int32)), .val (.int (4 : Int32)), .val (.ref s_L2), .val (.ref s_L3N), .unset] [(.int (0 : Int32))])) t
                  refine XS.istore X207.here hx rfl (hb hby at_42) rfl (l' := #[.val (.int p0), .val (.int p1), .val (.int (1 : Int32)), .val (.int (4 : Int32)), .val (.ref s_L2), .val (.ref s_L3N), .val (.int (0 : Int32))]) rfl ?_
                  show Steps p.tables e below (T207.setTop (mkF m 44 #[.val (.int p0), .val (.int p1), .val (.int (1 : Int32)), .val (.int (4 : Int32)), .val (.ref s_L2), .val (.ref s_L3N), .val (.int (0 : Int32))] [])) t
                  refine XS.aload X207.here hx rfl (hb hby at_44) rfl rfl ?_
                  show Steps p.tables e below (T207.setTop (mkF m 46 #[.val (.int p0), .val (.int p1), .val (.int (1 : Int32)), .val (.int (4 : Int32)), .val (.ref s_L2), .val (.ref s_L3N), .val (.int (0 : Int32))] [(.ref s_L2)])) t
                  refine XS.aload X207.here hx rfl (hb hby at_46) rfl rfl ?_
                  show Steps p.tables e below (T207.setTop (mkF m 48 #[.val (.int p0), .val (.int p1), .val (.int (1 : Int32)), .val (.int (4 : Int32)), .val (.ref s_L2), .val (.ref s_L3N), .val (.int (0 : Int32))] [(.ref s_L3N), (.ref s_L2)])) t
                  exact k
                obtain ⟨cq210, kq210, q210a, q210b, q210c⟩ := isOf hZ e207 E_L2
                obtain ⟨_, _, ⟨T210, L210, k210, n210⟩, -, X210, ⟨Lc210, hQ210, l210, y210, z210⟩, st210⟩ := X207.virtualBack hx (y := (⟨"com/example/hauora_id/hauoraid/model/ConfidenceLevel", "atLeast", "(Lcom/example/hauora_id/hauoraid/model/ConfidenceLevel;)Z"⟩ : MethodName)) (z := (⟨"com/example/hauora_id/hauoraid/model/ConfidenceLevel", "atLeast", "(Lcom/example/hauora_id/hauoraid/model/ConfidenceLevel;)Z"⟩ : MethodName)) hown (mvT hZ (hw _ (List.mem_of_getElem? (i := 13) rfl))) (mvT hZ (hw _ (List.mem_of_getElem? (i := 14) rfl))) (notFace_of_selects (args := #[]) (mvT hZ (hw _ (List.mem_of_getElem? (i := 16) rfl)))) (mvT hZ (hw _ (List.mem_of_getElem? (i := 16) rfl))) (mvT hZ (hw _ (List.mem_of_getElem? (i := 15) rfl))) (by decide) (backOf (W := 0) (rm3 l Z aZ hw [] s_L2 s_L3N s_COMPACT_STRINGS s_SIOOBE_FORMATTER s_L2_value s_L2_value_value k_s_L2_value_value (1 : Int32) [(.int (50 : Int32))] (50 : Int32) s_L3N_value s_L3N_value_value k_s_L3N_value_value (2 : Int32) [(.int (51 : Int32)), (.int (78 : Int32))] (51 : Int32) h0 n0 Z0 S_COMPACT_STRINGS S_SIOOBE_FORMATTER rS_SIOOBE_FORMATTER hcs F_L2_value E_L2_value F_L2_value_coder F_L2_value_value V_L2_value_value (by decide) rfl F_L3N_value E_L3N_value F_L3N_value_coder F_L3N_value_value V_L3N_value_value (by decide) rfl) hZ (hw _ (List.mem_of_getElem? (i := 17) rfl)) (hw _ (List.mem_of_getElem? (i := 6) rfl)) (by decide) (by decide)) q210a q210c (g := (mkF m 48 #[.val (.int p0), .val (.int p1), .val (.int (1 : Int32)), .val (.int (4 : Int32)), .val (.ref s_L2), .val (.ref s_L3N), .val (.int (0 : Int32))] [(.ref s_L3N), (.ref s_L2)])) rfl (by rw [hml]; rfl) (Steps.refl _) (argsL := [(.ref s_L3N)]) (rest := []) (lenOf pd_101 rfl) rfl (by show 2 * 0 + _ ≤ _; exact Nat.le_of_eq rfl) (hb hby at_48) (fun _ _ => ⟨rfl, e207, (by decide : 0 + 0 ≤ _), (by decide : 0 + 0 ≤ _)⟩)
                dsimp only [Pt.U, Pt.locs, Pt.cells, Pt.slots] at X210 l210 y210 z210 st210 hQ210
                subst l210 y210 z210
                obtain ⟨rfl, N210q, e210⟩ := hQ210
                have N210 := Fr.app N207 N210q
                have go211 : ∀ t, Steps p.tables e below (T210.setTop (mkF m 51 #[.val (.int p0), .val (.int p1), .val (.int (1 : Int32)), .val (.int (4 : Int32)), .val (.ref s_L2), .val (.ref s_L3N), .val (.int (0 : Int32))] [(.int (f3 (50 : Int32) (51 : Int32)))])) t → Steps p.tables e below (s₁.setTop (entryFrame m #[(.int p0), (.int p1)] maxLocals)) t := fun t k => go209 _ (st210.trans k)
                have go213 : ∀ t, Steps p.tables e below (T210.setTop (mkF m 61 #[.val (.int p0), .val (.int p1), .val (.int (1 : Int32)), .val (.int (4 : Int32)), .val (.ref s_L2), .val (.ref s_L3N), .val (.int (0 : Int32))] [(.int b0_193)])) t → Steps p.tables e below (s₁.setTop (entryFrame m #[(.int p0), (.int p1)] maxLocals)) t := by
                  intro t k
                  refine go211 _ ?_
                  refine XS.iload X210.here hx rfl (hb hby at_51) rfl ?_
                  show Steps p.tables e below (T210.setTop (mkF m 53 #[.val (.int p0), .val (.int p1), .val (.int (1 : Int32)), .val (.int (4 : Int32)), .val (.ref s_L2), .val (.ref s_L3N), .val (.int (0 : Int32))] [(.int (0 : Int32)), (.int (f3 (50 : Int32) (51 : Int32)))])) t
                  by_cases hc212 : (f3 (50 : Int32) (51 : Int32)) = (0 : Int32)
                  · refine XS.icmpNo X210.here hx rfl (hb hby at_53) rfl (XT.ii_ne_f hc212) ?_
                    show Steps p.tables e below (T210.setTop (mkF m 56 #[.val (.int p0), .val (.int p1), .val (.int (1 : Int32)), .val (.int (4 : Int32)), .val (.ref s_L2), .val (.ref s_L3N), .val (.int (0 : Int32))] [])) t
                    refine XS.iconst X210.here hx rfl (hb hby at_56) ?_
                    show Steps p.tables e below (T210.setTop (mkF m 57 #[.val (.int p0), .val (.int p1), .val (.int (1 : Int32)), .val (.int (4 : Int32)), .val (.ref s_L2), .val (.ref s_L3N), .val (.int (0 : Int32))] [(.int (1 : Int32))])) t
                    refine XS.goto X210.here hx rfl (pc0 := 57) (pc' := 61) rfl (hb hby at_57) (by decide) (by decide) ?_
                    show Steps p.tables e below (T210.setTop (mkF m 61 #[.val (.int p0), .val (.int p1), .val (.int (1 : Int32)), .val (.int (4 : Int32)), .val (.ref s_L2), .val (.ref s_L3N), .val (.int (0 : Int32))] [(.int (1 : Int32))])) t
                    have hq214 : b0_193 = (1 : Int32) := by rw [b0_193, if_pos hc212]
                    rw [hq214] at k
                    exact k
                  · refine XS.icmpYes X210.here hx rfl (pc0 := 53) (pc' := 60) rfl (hb hby at_53) rfl (XT.ii_ne_t hc212) (by decide) (by decide) ?_
                    show Steps p.tables e below (T210.setTop (mkF m 60 #[.val (.int p0), .val (.int p1), .val (.int (1 : Int32)), .val (.int (4 : Int32)), .val (.ref s_L2), .val (.ref s_L3N), .val (.int (0 : Int32))] [])) t
                    refine XS.iconst X210.here hx rfl (hb hby at_60) ?_
                    show Steps p.tables e below (T210.setTop (mkF m 61 #[.val (.int p0), .val (.int p1), .val (.int (1 : Int32)), .val (.int (4 : Int32)), .val (.ref s_L2), .val (.ref s_L3N), .val (.int (0 : Int32))] [(.int (0 : Int32))])) t
                    have hq215 : b0_193 = (0 : Int32) := by rw [b0_193, if_neg hc212]
                    rw [hq215] at k
                    exact k
                obtain ⟨fs, hr, hrun, hended, hW, hsame⟩ := X210.leave (v := some (.int b0_193)) (fun h => by rw [Bd.returns] at h; cases h)
                refine ⟨_, _, go213 _ (Jvm.RoadKit.retOut X210 hx Bd.returns (own_nz (by unfold b0_193; (repeat' split) <;> first | exact Or.inl rfl | exact Or.inr rfl)) (Or.inl ⟨rfl, Or.inr (Or.inl rfl), _, rfl⟩) (hb hby at_61) hr), hrun, hended, _, _, rfl, ?_, ⟨_, rfl⟩, hW, hsame.mono (by decide) (by decide)⟩
                show Q0 _ _ p0 p1 s_L1 s_L3 s_L1_value s_L1_value_value s_L3_value s_L3_value_value s_L3N s_L2 s_L3N_value s_L3N_value_value s_L2_value s_L2_value_value s_L2N s_L2N_value s_L2N_value_value k_s_L1_value_value k_s_L3_value_value k_s_L3N_value_value k_s_L2_value_value k_s_L2N_value_value s_COMPACT_STRINGS s_SIOOBE_FORMATTER h0 _ (T210.setFrames fs).heap _
                have hE : (T210.setFrames fs).heap = h0 := e210
                rw [hE]
                exact ⟨congrArg (fun z => some (Value.int z)) ((by rw [f0, if_neg hs4, if_pos hs110, if_neg hs113, if_neg hs134, if_neg hs155, if_neg hs175, if_pos hs196] : b0_193 = (f0 p0 p1)).trans (f0_one p0 p1)), N210⟩
              · exact (own_dead5 p1 hs113 hs134 hs155 hs175 hs196).elim
    · by_cases hs216 : (v0_1 p0) = (2 : Int32)
      · have go217 : ∀ t, Steps p.tables e below (s₁.setTop (mkF m 14 #[.val (.int p0), .val (.int p1), .val (.int (2 : Int32)), .val (.int (v0_2 p1)), .unset, .unset, .unset] [])) t → Steps p.tables e below (s₁.setTop (entryFrame m #[(.int p0), (.int p1)] maxLocals)) t := by
          have q := go3
          rw [hs216] at q
          exact q
        have go218 : ∀ t, Steps p.tables e below (s₁.setTop (mkF m 15 #[.val (.int p0), .val (.int p1), .val (.int (2 : Int32)), .val (.int (v0_2 p1)), .unset, .unset, .unset] [(.int (2 : Int32))])) t → Steps p.tables e below (s₁.setTop (entryFrame m #[(.int p0), (.int p1)] maxLocals)) t := by
          intro t k
          refine go217 _ ?_
          refine XS.iloadN X0.here hx rfl (hb hby at_14) rfl ?_
          show Steps p.tables e below (s₁.setTop (mkF m 15 #[.val (.int p0), .val (.int p1), .val (.int (2 : Int32)), .val (.int (v0_2 p1)), .unset, .unset, .unset] [(.int (2 : Int32))])) t
          exact k
        by_cases hs219 : (v0_2 p1) = (0 : Int32)
        · have go220 : ∀ t, Steps p.tables e below (s₁.setTop (mkF m 15 #[.val (.int p0), .val (.int p1), .val (.int (2 : Int32)), .val (.int (0 : Int32)), .unset, .unset, .unset] [(.int (2 : Int32))])) t → Steps p.tables e below (s₁.setTop (entryFrame m #[(.int p0), (.int p1)] maxLocals)) t := by
            have q := go218
            rw [hs219] at q
            exact q
          obtain ⟨_, _, ⟨T221, L221, k221, n221⟩, -, X221, ⟨Lc221, hQ221, l221, y221, z221⟩, st221⟩ := Jvm.LawKit.callS X0 hx (y := (⟨"com/example/hauora_id/hauoraid/model/ConfidenceLevelAtLeastPinLaw", "pick", "(I)Lcom/example/hauora_id/hauoraid/model/ConfidenceLevel;"⟩ : MethodName)) hown (mvT hZ (hw _ (List.mem_of_getElem? (i := 1) rfl))) (mvT hZ (hw _ (List.mem_of_getElem? (i := 2) rfl))) (mvT hZ (hw _ (List.mem_of_getElem? (i := 3) rfl))) (mvT hZ (hw _ (List.mem_of_getElem? (i := 4) rfl))) (by decide) (backOf (W := 0) (rm1 l Z aZ hw [] (2 : Int32) s_L1 s_L2 s_L2N s_L3 s_L3N h0 n0 Z0 S_L1 S_L2 S_L2N S_L3 S_L3N) hZ (hw _ (List.mem_of_getElem? (i := 4) rfl)) (hw _ (List.mem_of_getElem? (i := 3) rfl)) (by decide) (by decide)) (g := (mkF m 15 #[.val (.int p0), .val (.int p1), .val (.int (2 : Int32)), .val (.int (0 : Int32)), .unset, .unset, .unset] [(.int (2 : Int32))])) rfl (by rw [hml]; rfl) (argsL := [(.int (2 : Int32))]) (rest := []) (lenOf pd_99 rfl) rfl (by show 2 * 0 + _ ≤ _; exact Nat.le_of_eq rfl) (hb hby at_15) (fun _ _ => ⟨rfl, e0, (by decide : 0 + 0 ≤ _), (by decide : 0 + 0 ≤ _)⟩)
          dsimp only [Pt.U, Pt.locs, Pt.cells, Pt.slots] at X221 l221 y221 z221 st221 hQ221
          subst l221 y221 z221
          obtain ⟨rfl, N221q, e221⟩ := hQ221
          have N221 := Fr.app N0 N221q
          have go222 : ∀ t, Steps p.tables e below (T221.setTop (mkF m 18 #[.val (.int p0), .val (.int p1), .val (.int (2 : Int32)), .val (.int (0 : Int32)), .unset, .unset, .unset] [(.ref s_L2N)])) t → Steps p.tables e below (s₁.setTop (entryFrame m #[(.int p0), (.int p1)] maxLocals)) t := fun t k => go220 _ (st221 _ k)
          have go223 : ∀ t, Steps p.tables e below (T221.setTop (mkF m 21 #[.val (.int p0), .val (.int p1), .val (.int (2 : Int32)), .val (.int (0 : Int32)), .val (.ref s_L2N), .unset, .unset] [(.int (0 : Int32))])) t → Steps p.tables e below (s₁.setTop (entryFrame m #[(.int p0), (.int p1)] maxLocals)) t := by
            intro t k
            refine go222 _ ?_
            refine XS.astore X221.here hx rfl (hb hby at_18) rfl rfl (l' := #[.val (.int p0), .val (.int p1), .val (.int (2 : Int32)), .val (.int (0 : Int32)), .val (.ref s_L2N), .unset, .unset]) rfl ?_
            show Steps p.tables e below (T221.setTop (mkF m 20 #[.val (.int p0), .val (.int p1), .val (.int (2 : Int32)), .val (.int (0 : Int32)), .val (.ref s_L2N), .unset, .unset] [])) t
            refine XS.iloadN X221.here hx rfl (hb hby at_20) rfl ?_
            show Steps p.tables e below (T221.setTop (mkF m 21 #[.val (.int p0), .val (.int p1), .val (.int (2 : Int32)), .val (.int (0 : Int32)), .val (.ref s_L2N), .unset, .unset] [(.int (0 : Int32))])) t
            exact k
          obtain ⟨_, _, ⟨T224, L224, k224, n224⟩, -, X224, ⟨Lc224, hQ224, l224, y224, z224⟩, st224⟩ := Jvm.LawKit.callS X221 hx (y := (⟨"com/example/hauora_id/hauoraid/model/ConfidenceLevelAtLeastPinLaw", "pick", "(I)Lcom/example/hauora_id/hauoraid/model/ConfidenceLevel;"⟩ : MethodName)) hown (mvT hZ (hw _ (List.mem_of_getElem? (i := 1) rfl))) (mvT hZ (hw _ (List.mem_of_getElem? (i := 2) rfl))) (mvT hZ (hw _ (List.mem_of_getElem? (i := 3) rfl))) (mvT hZ (hw _ (List.mem_of_getElem? (i := 4) rfl))) (by decide) (backOf (W := 0) (rm1 l Z aZ hw [] (0 : Int32) s_L1 s_L2 s_L2N s_L3 s_L3N h0 n0 Z0 S_L1 S_L2 S_L2N S_L3 S_L3N) hZ (hw _ (List.mem_of_getElem? (i := 4) rfl)) (hw _ (List.mem_of_getElem? (i := 3) rfl)) (by decide) (by decide)) (g := (mkF m 21 #[.val (.int p0), .val (.int p1), .val (.int (2 : Int32)), .val (.int (0 : Int32)), .val (.ref s_L2N), .unset, .unset] [(.int (0 : Int32))])) rfl (by rw [hml]; rfl) (argsL := [(.int (0 : Int32))]) (rest := []) (lenOf pd_99 rfl) rfl (by show 2 * 0 + _ ≤ _; exact Nat.le_of_eq rfl) (hb hby at_21) (fun _ _ => ⟨rfl, e221, (by decide : 0 + 0 ≤ _), (by decide : 0 + 0 ≤ _)⟩)
          dsimp only [Pt.U, Pt.locs, Pt.cells, Pt.slots] at X224 l224 y224 z224 st224 hQ224
          subst l224 y224 z224
          obtain ⟨rfl, N224q, e224⟩ := hQ224
          have N224 := Fr.app N221 N224q
          have go225 : ∀ t, Steps p.tables e below (T224.setTop (mkF m 24 #[.val (.int p0), .val (.int p1), .val (.int (2 : Int32)), .val (.int (0 : Int32)), .val (.ref s_L2N), .unset, .unset] [(.ref s_L1)])) t → Steps p.tables e below (s₁.setTop (entryFrame m #[(.int p0), (.int p1)] maxLocals)) t := fun t k => go223 _ (st224 _ k)
          have go226 : ∀ t, Steps p.tables e below (T224.setTop (mkF m 27 #[.val (.int p0), .val (.int p1), .val (.int (2 : Int32)), .val (.int (0 : Int32)), .val (.ref s_L2N), .val (.ref s_L1), .unset] [(.int (2 : Int32))])) t → Steps p.tables e below (s₁.setTop (entryFrame m #[(.int p0), (.int p1)] maxLocals)) t := by
            intro t k
            refine go225 _ ?_
            refine XS.astore X224.here hx rfl (hb hby at_24) rfl rfl (l' := #[.val (.int p0), .val (.int p1), .val (.int (2 : Int32)), .val (.int (0 : Int32)), .val (.ref s_L2N), .val (.ref s_L1), .unset]) rfl ?_
            show Steps p.tables e below (T224.setTop (mkF m 26 #[.val (.int p0), .val (.int p1), .val (.int (2 : Int32)), .val (.int (0 : Int32)), .val (.ref s_L2N), .val (.ref s_L1), .unset] [])) t
            refine XS.iloadN X224.here hx rfl (hb hby at_26) rfl ?_
            show Steps p.tables e below (T224.setTop (mkF m 27 #[.val (.int p0), .val (.int p1), .val (.int (2 : Int32)), .val (.int (0 : Int32)), .val (.ref s_L2N), .val (.ref s_L1), .unset] [(.int (2 : Int32))])) t
            exact k
          obtain ⟨_, _, ⟨T227, L227, k227, n227⟩, -, X227, ⟨Lc227, hQ227, l227, y227, z227⟩, st227⟩ := Jvm.LawKit.callS X224 hx (y := (⟨"com/example/hauora_id/hauoraid/model/ConfidenceLevelAtLeastPinLaw", "digit", "(I)I"⟩ : MethodName)) hown (mvT hZ (hw _ (List.mem_of_getElem? (i := 10) rfl))) (mvT hZ (hw _ (List.mem_of_getElem? (i := 11) rfl))) (mvT hZ (hw _ (List.mem_of_getElem? (i := 3) rfl))) (mvT hZ (hw _ (List.mem_of_getElem? (i := 12) rfl))) (by decide) (backOf (W := 0) (rm2 l Z aZ hw [] (2 : Int32) h0 n0 Z0 ) hZ (hw _ (List.mem_of_getElem? (i := 12) rfl)) (hw _ (List.mem_of_getElem? (i := 3) rfl)) (by decide) (by decide)) (g := (mkF m 27 #[.val (.int p0), .val (.int p1), .val (.int (2 : Int32)), .val (.int (0 : Int32)), .val (.ref s_L2N), .val (.ref s_L1), .unset] [(.int (2 : Int32))])) rfl (by rw [hml]; rfl) (argsL := [(.int (2 : Int32))]) (rest := []) (lenOf pd_100 rfl) rfl (by show 2 * 0 + _ ≤ _; exact Nat.le_of_eq rfl) (hb hby at_27) (fun _ _ => ⟨rfl, e224, (by decide : 0 + 0 ≤ _), (by decide : 0 + 0 ≤ _)⟩)
          dsimp only [Pt.U, Pt.locs, Pt.cells, Pt.slots] at X227 l227 y227 z227 st227 hQ227
          subst l227 y227 z227
          obtain ⟨rfl, N227q, e227⟩ := hQ227
          have N227 := Fr.app N224 N227q
          have go228 : ∀ t, Steps p.tables e below (T227.setTop (mkF m 30 #[.val (.int p0), .val (.int p1), .val (.int (2 : Int32)), .val (.int (0 : Int32)), .val (.ref s_L2N), .val (.ref s_L1), .unset] [(.int (2 : Int32))])) t → Steps p.tables e below (s₁.setTop (entryFrame m #[(.int p0), (.int p1)] maxLocals)) t := fun t k => go226 _ (st227 _ k)
          have go229 : ∀ t, Steps p.tables e below (T227.setTop (mkF m 31 #[.val (.int p0), .val (.int p1), .val (.int (2 : Int32)), .val (.int (0 : Int32)), .val (.ref s_L2N), .val (.ref s_L1), .unset] [(.int (0 : Int32)), (.int (2 : Int32))])) t → Steps p.tables e below (s₁.setTop (entryFrame m #[(.int p0), (.int p1)] maxLocals)) t := by
            intro t k
            refine go228 _ ?_
            refine XS.iloadN X227.here hx rfl (hb hby at_30) rfl ?_
            show Steps p.tables e below (T227.setTop (mkF m 31 #[.val (.int p0), .val (.int p1), .val (.int (2 : Int32)), .val (.int (0 : Int32)), .val (.ref s_L2N), .val (.ref s_L1), .unset] [(.int (0 : Int32)), (.int (2 : Int32))])) t
            exact k
          obtain ⟨_, _, ⟨T230, L230, k230, n230⟩, -, X230, ⟨Lc230, hQ230, l230, y230, z230⟩, st230⟩ := Jvm.LawKit.callS X227 hx (y := (⟨"com/example/hauora_id/hauoraid/model/ConfidenceLevelAtLeastPinLaw", "digit", "(I)I"⟩ : MethodName)) hown (mvT hZ (hw _ (List.mem_of_getElem? (i := 10) rfl))) (mvT hZ (hw _ (List.mem_of_getElem? (i := 11) rfl))) (mvT hZ (hw _ (List.mem_of_getElem? (i := 3) rfl))) (mvT hZ (hw _ (List.mem_of_getElem? (i := 12) rfl))) (by decide) (backOf (W := 1) (rm2 l Z aZ hw [] (0 : Int32) h0 n0 Z0 ) hZ (hw _ (List.mem_of_getElem? (i := 12) rfl)) (hw _ (List.mem_of_getElem? (i := 3) rfl)) (by decide) (by decide)) (g := (mkF m 31 #[.val (.int p0), .val (.int p1), .val (.int (2 : Int32)), .val (.int (0 : Int32)), .val (.ref s_L2N), .val (.ref s_L1), .unset] [(.int (0 : Int32)), (.int (2 : Int32))])) rfl (by rw [hml]; rfl) (argsL := [(.int (0 : Int32))]) (rest := [(.int (2 : Int32))]) (lenOf pd_100 rfl) rfl (by show 2 * 0 + _ ≤ _; exact Nat.le_of_eq rfl) (hb hby at_31) (fun _ _ => ⟨rfl, e227, (by decide : 0 + 0 ≤ _), (by decide : 0 + 0 ≤ _)⟩)
          dsimp only [Pt.U, Pt.locs, Pt.cells, Pt.slots] at X230 l230 y230 z230 st230 hQ230
          subst l230 y230 z230
          obtain ⟨rfl, N230q, e230⟩ := hQ230
          have N230 := Fr.app N227 N230q
          have go231 : ∀ t, Steps p.tables e below (T230.setTop (mkF m 34 #[.val (.int p0), .val (.int p1), .val (.int (2 : Int32)), .val (.int (0 : Int32)), .val (.ref s_L2N), .val (.ref s_L1), .unset] [(.int (1 : Int32)), (.int (2 : Int32))])) t → Steps p.tables e below (s₁.setTop (entryFrame m #[(.int p0), (.int p1)] maxLocals)) t := fun t k => go229 _ (st230 _ k)
          have go232 : ∀ t, Steps p.tables e below (T230.setTop (mkF m 48 #[.val (.int p0), .val (.int p1), .val (.int (2 : Int32)), .val (.int (0 : Int32)), .val (.ref s_L2N), .val (.ref s_L1), .val (.int (1 : Int32))] [(.ref s_L1), (.ref s_L2N)])) t → Steps p.tables e below (s₁.setTop (entryFrame m #[(.int p0), (.int p1)] maxLocals)) t := by
            intro t k
            refine go231 _ ?_
            refine XS.icmpNo X230.here hx rfl (hb hby at_34) rfl (XT.ii_lt_f (by decide : ¬ ((2 : Int32) < (1 : Int32)))) ?_
            show Steps p.tables e below (T230.setTop (mkF m 37 #[.val (.int p0), .val (.int p1), .val (.int (2 : Int32)), .val (.int (0 : Int32)), .val (.ref s_L2N), .val (.ref s_L1), .unset] [])) t
            refine XS.iconst X230.here hx rfl (hb hby at_37) ?_
            show Steps p.tables e below (T230.setTop (mkF m 38 #[.val (.int p0), .val (.int p1), .val (.int (2 : Int32)), .val (.int (0 : Int32)), .val (.ref s_L2N), .val (.ref s_L1), .unset] [(.int (1 : Int32))])) t
            refine XS.goto X230.here hx rfl (pc0 := 38) (pc' := 42) rfl (hb hby at_38) (by decide) (by decide) ?_
            show Steps p.tables e below (T230.setTop (mkF m 42 #[.val (.int p0), .val (.int p1), .val (.int (2 : Int32)), .val (.int (0 : Int32)), .val (.ref s_L2N), .val (.ref s_L1), .unset] [(.int (1 : Int32))])) t
            refine XS.istore X230.here hx rfl (hb hby at_42) rfl (l' := #[.val (.int p0), .val (.int p1), .val (.int (2 : Int32)), .val (.int (0 : Int32)), .val (.ref s_L2N), .val (.ref s_L1), .val (.int (1 : Int32))]) rfl ?_
            show Steps p.tables e below (T230.setTop (mkF m 44 #[.val (.int p0), .val (.int p1), .val (.int (2 : Int32)), .val (.int (0 : Int32)), .val (.ref s_L2N), .val (.ref s_L1), .val (.int (1 : Int32))] [])) t
            refine XS.aload X230.here hx rfl (hb hby at_44) rfl rfl ?_
            show Steps p.tables e below (T230.setTop (mkF m 46 #[.val (.int p0), .val (.int p1), .val (.int (2 : Int32)), .val (.int (0 : Int32)), .val (.ref s_L2N), .val (.ref s_L1), .val (.int (1 : Int32))] [(.ref s_L2N)])) t
            refine XS.aload X230.here hx rfl (hb hby at_46) rfl rfl ?_
            show Steps p.tables e below (T230.setTop (mkF m 48 #[.val (.int p0), .val (.int p1), .val (.int (2 : Int32)), .val (.int (0 : Int32)), .val (.ref s_L2N), .val (.ref s_L1), .val (.int (1 : Int32))] [(.ref s_L1), (.ref s_L2N)])) t
            exact k
          obtain ⟨cq233, kq233, q233a, q233b, q233c⟩ := isOf hZ e230 E_L2N
          obtain ⟨_, _, ⟨T233, L233, k233, n233⟩, -, X233, ⟨Lc233, hQ233, l233, y233, z233⟩, st233⟩ := X230.virtualBack hx (y := (⟨"com/example/hauora_id/hauoraid/model/ConfidenceLevel", "atLeast", "(Lcom/example/hauora_id/hauoraid/model/ConfidenceLevel;)Z"⟩ : MethodName)) (z := (⟨"com/example/hauora_id/hauoraid/model/ConfidenceLevel", "atLeast", "(Lcom/example/hauora_id/hauoraid/model/ConfidenceLevel;)Z"⟩ : MethodName)) hown (mvT hZ (hw _ (List.mem_of_getElem? (i := 13) rfl))) (mvT hZ (hw _ (List.mem_of_getElem? (i := 14) rfl))) (notFace_of_selects (args := #[]) (mvT hZ (hw _ (List.mem_of_getElem? (i := 16) rfl)))) (mvT hZ (hw _ (List.mem_of_getElem? (i := 16) rfl))) (mvT hZ (hw _ (List.mem_of_getElem? (i := 15) rfl))) (by decide) (backOf (W := 0) (rm3 l Z aZ hw [] s_L2N s_L1 s_COMPACT_STRINGS s_SIOOBE_FORMATTER s_L2N_value s_L2N_value_value k_s_L2N_value_value (2 : Int32) [(.int (50 : Int32)), (.int (78 : Int32))] (50 : Int32) s_L1_value s_L1_value_value k_s_L1_value_value (1 : Int32) [(.int (49 : Int32))] (49 : Int32) h0 n0 Z0 S_COMPACT_STRINGS S_SIOOBE_FORMATTER rS_SIOOBE_FORMATTER hcs F_L2N_value E_L2N_value F_L2N_value_coder F_L2N_value_value V_L2N_value_value (by decide) rfl F_L1_value E_L1_value F_L1_value_coder F_L1_value_value V_L1_value_value (by decide) rfl) hZ (hw _ (List.mem_of_getElem? (i := 17) rfl)) (hw _ (List.mem_of_getElem? (i := 6) rfl)) (by decide) (by decide)) q233a q233c (g := (mkF m 48 #[.val (.int p0), .val (.int p1), .val (.int (2 : Int32)), .val (.int (0 : Int32)), .val (.ref s_L2N), .val (.ref s_L1), .val (.int (1 : Int32))] [(.ref s_L1), (.ref s_L2N)])) rfl (by rw [hml]; rfl) (Steps.refl _) (argsL := [(.ref s_L1)]) (rest := []) (lenOf pd_101 rfl) rfl (by show 2 * 0 + _ ≤ _; exact Nat.le_of_eq rfl) (hb hby at_48) (fun _ _ => ⟨rfl, e230, (by decide : 0 + 0 ≤ _), (by decide : 0 + 0 ≤ _)⟩)
          dsimp only [Pt.U, Pt.locs, Pt.cells, Pt.slots] at X233 l233 y233 z233 st233 hQ233
          subst l233 y233 z233
          obtain ⟨rfl, N233q, e233⟩ := hQ233
          have N233 := Fr.app N230 N233q
          have go234 : ∀ t, Steps p.tables e below (T233.setTop (mkF m 51 #[.val (.int p0), .val (.int p1), .val (.int (2 : Int32)), .val (.int (0 : Int32)), .val (.ref s_L2N), .val (.ref s_L1), .val (.int (1 : Int32))] [(.int (f3 (50 : Int32) (49 : Int32)))])) t → Steps p.tables e below (s₁.setTop (entryFrame m #[(.int p0), (.int p1)] maxLocals)) t := fun t k => go232 _ (st233.trans k)
          have go236 : ∀ t, Steps p.tables e below (T233.setTop (mkF m 61 #[.val (.int p0), .val (.int p1), .val (.int (2 : Int32)), .val (.int (0 : Int32)), .val (.ref s_L2N), .val (.ref s_L1), .val (.int (1 : Int32))] [(.int b0_131)])) t → Steps p.tables e below (s₁.setTop (entryFrame m #[(.int p0), (.int p1)] maxLocals)) t := by
            intro t k
            refine go234 _ ?_
            refine XS.iload X233.here hx rfl (hb hby at_51) rfl ?_
            show Steps p.tables e below (T233.setTop (mkF m 53 #[.val (.int p0), .val (.int p1), .val (.int (2 : Int32)), .val (.int (0 : Int32)), .val (.ref s_L2N), .val (.ref s_L1), .val (.int (1 : Int32))] [(.int (1 : Int32)), (.int (f3 (50 : Int32) (49 : Int32)))])) t
            by_cases hc235 : (f3 (50 : Int32) (49 : Int32)) = (1 : Int32)
            · refine XS.icmpNo X233.here hx rfl (hb hby at_53) rfl (XT.ii_ne_f hc235) ?_
              show Steps p.tables e below (T233.setTop (mkF m 56 #[.val (.int p0), .val (.int p1), .val (.int (2 : Int32)), .val (.int (0 : Int32)), .val (.ref s_L2N), .val (.ref s_L1), .val (.int (1 : Int32))] [])) t
              refine XS.iconst X233.here hx rfl (hb hby at_56) ?_
              show Steps p.tables e below (T233.setTop (mkF m 57 #[.val (.int p0), .val (.int p1), .val (.int (2 : Int32)), .val (.int (0 : Int32)), .val (.ref s_L2N), .val (.ref s_L1), .val (.int (1 : Int32))] [(.int (1 : Int32))])) t
              refine XS.goto X233.here hx rfl (pc0 := 57) (pc' := 61) rfl (hb hby at_57) (by decide) (by decide) ?_
              show Steps p.tables e below (T233.setTop (mkF m 61 #[.val (.int p0), .val (.int p1), .val (.int (2 : Int32)), .val (.int (0 : Int32)), .val (.ref s_L2N), .val (.ref s_L1), .val (.int (1 : Int32))] [(.int (1 : Int32))])) t
              have hq237 : b0_131 = (1 : Int32) := by rw [b0_131, if_pos hc235]
              rw [hq237] at k
              exact k
            · refine XS.icmpYes X233.here hx rfl (pc0 := 53) (pc' := 60) rfl (hb hby at_53) rfl (XT.ii_ne_t hc235) (by decide) (by decide) ?_
              show Steps p.tables e below (T233.setTop (mkF m 60 #[.val (.int p0), .val (.int p1), .val (.int (2 : Int32)), .val (.int (0 : Int32)), .val (.ref s_L2N), .val (.ref s_L1), .val (.int (1 : Int32))] [])) t
              refine XS.iconst X233.here hx rfl (hb hby at_60) ?_
              show Steps p.tables e below (T233.setTop (mkF m 61 #[.val (.int p0), .val (.int p1), .val (.int (2 : Int32)), .val (.int (0 : Int32)), .val (.ref s_L2N), .val (.ref s_L1), .val (.int (1 : Int32))] [(.int (0 : Int32))])) t
              have hq238 : b0_131 = (0 : Int32) := by rw [b0_131, if_neg hc235]
              rw [hq238] at k
              exact k
          obtain ⟨fs, hr, hrun, hended, hW, hsame⟩ := X233.leave (v := some (.int b0_131)) (fun h => by rw [Bd.returns] at h; cases h)
          refine ⟨_, _, go236 _ (Jvm.RoadKit.retOut X233 hx Bd.returns (own_nz (by unfold b0_131; (repeat' split) <;> first | exact Or.inl rfl | exact Or.inr rfl)) (Or.inl ⟨rfl, Or.inr (Or.inl rfl), _, rfl⟩) (hb hby at_61) hr), hrun, hended, _, _, rfl, ?_, ⟨_, rfl⟩, hW, hsame.mono (by decide) (by decide)⟩
          show Q0 _ _ p0 p1 s_L1 s_L3 s_L1_value s_L1_value_value s_L3_value s_L3_value_value s_L3N s_L2 s_L3N_value s_L3N_value_value s_L2_value s_L2_value_value s_L2N s_L2N_value s_L2N_value_value k_s_L1_value_value k_s_L3_value_value k_s_L3N_value_value k_s_L2_value_value k_s_L2N_value_value s_COMPACT_STRINGS s_SIOOBE_FORMATTER h0 _ (T233.setFrames fs).heap _
          have hE : (T233.setFrames fs).heap = h0 := e233
          rw [hE]
          exact ⟨congrArg (fun z => some (Value.int z)) ((by rw [f0, if_neg hs4, if_neg hs110, if_pos hs216, if_pos hs219] : b0_131 = (f0 p0 p1)).trans (f0_one p0 p1)), N233⟩
        · by_cases hs239 : (v0_2 p1) = (1 : Int32)
          · have go240 : ∀ t, Steps p.tables e below (s₁.setTop (mkF m 15 #[.val (.int p0), .val (.int p1), .val (.int (2 : Int32)), .val (.int (1 : Int32)), .unset, .unset, .unset] [(.int (2 : Int32))])) t → Steps p.tables e below (s₁.setTop (entryFrame m #[(.int p0), (.int p1)] maxLocals)) t := by
              have q := go218
              rw [hs239] at q
              exact q
            obtain ⟨_, _, ⟨T241, L241, k241, n241⟩, -, X241, ⟨Lc241, hQ241, l241, y241, z241⟩, st241⟩ := Jvm.LawKit.callS X0 hx (y := (⟨"com/example/hauora_id/hauoraid/model/ConfidenceLevelAtLeastPinLaw", "pick", "(I)Lcom/example/hauora_id/hauoraid/model/ConfidenceLevel;"⟩ : MethodName)) hown (mvT hZ (hw _ (List.mem_of_getElem? (i := 1) rfl))) (mvT hZ (hw _ (List.mem_of_getElem? (i := 2) rfl))) (mvT hZ (hw _ (List.mem_of_getElem? (i := 3) rfl))) (mvT hZ (hw _ (List.mem_of_getElem? (i := 4) rfl))) (by decide) (backOf (W := 0) (rm1 l Z aZ hw [] (2 : Int32) s_L1 s_L2 s_L2N s_L3 s_L3N h0 n0 Z0 S_L1 S_L2 S_L2N S_L3 S_L3N) hZ (hw _ (List.mem_of_getElem? (i := 4) rfl)) (hw _ (List.mem_of_getElem? (i := 3) rfl)) (by decide) (by decide)) (g := (mkF m 15 #[.val (.int p0), .val (.int p1), .val (.int (2 : Int32)), .val (.int (1 : Int32)), .unset, .unset, .unset] [(.int (2 : Int32))])) rfl (by rw [hml]; rfl) (argsL := [(.int (2 : Int32))]) (rest := []) (lenOf pd_99 rfl) rfl (by show 2 * 0 + _ ≤ _; exact Nat.le_of_eq rfl) (hb hby at_15) (fun _ _ => ⟨rfl, e0, (by decide : 0 + 0 ≤ _), (by decide : 0 + 0 ≤ _)⟩)
            dsimp only [Pt.U, Pt.locs, Pt.cells, Pt.slots] at X241 l241 y241 z241 st241 hQ241
            subst l241 y241 z241
            obtain ⟨rfl, N241q, e241⟩ := hQ241
            have N241 := Fr.app N0 N241q
            have go242 : ∀ t, Steps p.tables e below (T241.setTop (mkF m 18 #[.val (.int p0), .val (.int p1), .val (.int (2 : Int32)), .val (.int (1 : Int32)), .unset, .unset, .unset] [(.ref s_L2N)])) t → Steps p.tables e below (s₁.setTop (entryFrame m #[(.int p0), (.int p1)] maxLocals)) t := fun t k => go240 _ (st241 _ k)
            have go243 : ∀ t, Steps p.tables e below (T241.setTop (mkF m 21 #[.val (.int p0), .val (.int p1), .val (.int (2 : Int32)), .val (.int (1 : Int32)), .val (.ref s_L2N), .unset, .unset] [(.int (1 : Int32))])) t → Steps p.tables e below (s₁.setTop (entryFrame m #[(.int p0), (.int p1)] maxLocals)) t := by
              intro t k
              refine go242 _ ?_
              refine XS.astore X241.here hx rfl (hb hby at_18) rfl rfl (l' := #[.val (.int p0), .val (.int p1), .val (.int (2 : Int32)), .val (.int (1 : Int32)), .val (.ref s_L2N), .unset, .unset]) rfl ?_
              show Steps p.tables e below (T241.setTop (mkF m 20 #[.val (.int p0), .val (.int p1), .val (.int (2 : Int32)), .val (.int (1 : Int32)), .val (.ref s_L2N), .unset, .unset] [])) t
              refine XS.iloadN X241.here hx rfl (hb hby at_20) rfl ?_
              show Steps p.tables e below (T241.setTop (mkF m 21 #[.val (.int p0), .val (.int p1), .val (.int (2 : Int32)), .val (.int (1 : Int32)), .val (.ref s_L2N), .unset, .unset] [(.int (1 : Int32))])) t
              exact k
            obtain ⟨_, _, ⟨T244, L244, k244, n244⟩, -, X244, ⟨Lc244, hQ244, l244, y244, z244⟩, st244⟩ := Jvm.LawKit.callS X241 hx (y := (⟨"com/example/hauora_id/hauoraid/model/ConfidenceLevelAtLeastPinLaw", "pick", "(I)Lcom/example/hauora_id/hauoraid/model/ConfidenceLevel;"⟩ : MethodName)) hown (mvT hZ (hw _ (List.mem_of_getElem? (i := 1) rfl))) (mvT hZ (hw _ (List.mem_of_getElem? (i := 2) rfl))) (mvT hZ (hw _ (List.mem_of_getElem? (i := 3) rfl))) (mvT hZ (hw _ (List.mem_of_getElem? (i := 4) rfl))) (by decide) (backOf (W := 0) (rm1 l Z aZ hw [] (1 : Int32) s_L1 s_L2 s_L2N s_L3 s_L3N h0 n0 Z0 S_L1 S_L2 S_L2N S_L3 S_L3N) hZ (hw _ (List.mem_of_getElem? (i := 4) rfl)) (hw _ (List.mem_of_getElem? (i := 3) rfl)) (by decide) (by decide)) (g := (mkF m 21 #[.val (.int p0), .val (.int p1), .val (.int (2 : Int32)), .val (.int (1 : Int32)), .val (.ref s_L2N), .unset, .unset] [(.int (1 : Int32))])) rfl (by rw [hml]; rfl) (argsL := [(.int (1 : Int32))]) (rest := []) (lenOf pd_99 rfl) rfl (by show 2 * 0 + _ ≤ _; exact Nat.le_of_eq rfl) (hb hby at_21) (fun _ _ => ⟨rfl, e241, (by decide : 0 + 0 ≤ _), (by decide : 0 + 0 ≤ _)⟩)
            dsimp only [Pt.U, Pt.locs, Pt.cells, Pt.slots] at X244 l244 y244 z244 st244 hQ244
            subst l244 y244 z244
            obtain ⟨rfl, N244q, e244⟩ := hQ244
            have N244 := Fr.app N241 N244q
            have go245 : ∀ t, Steps p.tables e below (T244.setTop (mkF m 24 #[.val (.int p0), .val (.int p1), .val (.int (2 : Int32)), .val (.int (1 : Int32)), .val (.ref s_L2N), .unset, .unset] [(.ref s_L2)])) t → Steps p.tables e below (s₁.setTop (entryFrame m #[(.int p0), (.int p1)] maxLocals)) t := fun t k => go243 _ (st244 _ k)
            have go246 : ∀ t, Steps p.tables e below (T244.setTop (mkF m 27 #[.val (.int p0), .val (.int p1), .val (.int (2 : Int32)), .val (.int (1 : Int32)), .val (.ref s_L2N), .val (.ref s_L2), .unset] [(.int (2 : Int32))])) t → Steps p.tables e below (s₁.setTop (entryFrame m #[(.int p0), (.int p1)] maxLocals)) t := by
              intro t k
              refine go245 _ ?_
              refine XS.astore X244.here hx rfl (hb hby at_24) rfl rfl (l' := #[.val (.int p0), .val (.int p1), .val (.int (2 : Int32)), .val (.int (1 : Int32)), .val (.ref s_L2N), .val (.ref s_L2), .unset]) rfl ?_
              show Steps p.tables e below (T244.setTop (mkF m 26 #[.val (.int p0), .val (.int p1), .val (.int (2 : Int32)), .val (.int (1 : Int32)), .val (.ref s_L2N), .val (.ref s_L2), .unset] [])) t
              refine XS.iloadN X244.here hx rfl (hb hby at_26) rfl ?_
              show Steps p.tables e below (T244.setTop (mkF m 27 #[.val (.int p0), .val (.int p1), .val (.int (2 : Int32)), .val (.int (1 : Int32)), .val (.ref s_L2N), .val (.ref s_L2), .unset] [(.int (2 : Int32))])) t
              exact k
            obtain ⟨_, _, ⟨T247, L247, k247, n247⟩, -, X247, ⟨Lc247, hQ247, l247, y247, z247⟩, st247⟩ := Jvm.LawKit.callS X244 hx (y := (⟨"com/example/hauora_id/hauoraid/model/ConfidenceLevelAtLeastPinLaw", "digit", "(I)I"⟩ : MethodName)) hown (mvT hZ (hw _ (List.mem_of_getElem? (i := 10) rfl))) (mvT hZ (hw _ (List.mem_of_getElem? (i := 11) rfl))) (mvT hZ (hw _ (List.mem_of_getElem? (i := 3) rfl))) (mvT hZ (hw _ (List.mem_of_getElem? (i := 12) rfl))) (by decide) (backOf (W := 0) (rm2 l Z aZ hw [] (2 : Int32) h0 n0 Z0 ) hZ (hw _ (List.mem_of_getElem? (i := 12) rfl)) (hw _ (List.mem_of_getElem? (i := 3) rfl)) (by decide) (by decide)) (g := (mkF m 27 #[.val (.int p0), .val (.int p1), .val (.int (2 : Int32)), .val (.int (1 : Int32)), .val (.ref s_L2N), .val (.ref s_L2), .unset] [(.int (2 : Int32))])) rfl (by rw [hml]; rfl) (argsL := [(.int (2 : Int32))]) (rest := []) (lenOf pd_100 rfl) rfl (by show 2 * 0 + _ ≤ _; exact Nat.le_of_eq rfl) (hb hby at_27) (fun _ _ => ⟨rfl, e244, (by decide : 0 + 0 ≤ _), (by decide : 0 + 0 ≤ _)⟩)
            dsimp only [Pt.U, Pt.locs, Pt.cells, Pt.slots] at X247 l247 y247 z247 st247 hQ247
            subst l247 y247 z247
            obtain ⟨rfl, N247q, e247⟩ := hQ247
            have N247 := Fr.app N244 N247q
            have go248 : ∀ t, Steps p.tables e below (T247.setTop (mkF m 30 #[.val (.int p0), .val (.int p1), .val (.int (2 : Int32)), .val (.int (1 : Int32)), .val (.ref s_L2N), .val (.ref s_L2), .unset] [(.int (2 : Int32))])) t → Steps p.tables e below (s₁.setTop (entryFrame m #[(.int p0), (.int p1)] maxLocals)) t := fun t k => go246 _ (st247 _ k)
            have go249 : ∀ t, Steps p.tables e below (T247.setTop (mkF m 31 #[.val (.int p0), .val (.int p1), .val (.int (2 : Int32)), .val (.int (1 : Int32)), .val (.ref s_L2N), .val (.ref s_L2), .unset] [(.int (1 : Int32)), (.int (2 : Int32))])) t → Steps p.tables e below (s₁.setTop (entryFrame m #[(.int p0), (.int p1)] maxLocals)) t := by
              intro t k
              refine go248 _ ?_
              refine XS.iloadN X247.here hx rfl (hb hby at_30) rfl ?_
              show Steps p.tables e below (T247.setTop (mkF m 31 #[.val (.int p0), .val (.int p1), .val (.int (2 : Int32)), .val (.int (1 : Int32)), .val (.ref s_L2N), .val (.ref s_L2), .unset] [(.int (1 : Int32)), (.int (2 : Int32))])) t
              exact k
            obtain ⟨_, _, ⟨T250, L250, k250, n250⟩, -, X250, ⟨Lc250, hQ250, l250, y250, z250⟩, st250⟩ := Jvm.LawKit.callS X247 hx (y := (⟨"com/example/hauora_id/hauoraid/model/ConfidenceLevelAtLeastPinLaw", "digit", "(I)I"⟩ : MethodName)) hown (mvT hZ (hw _ (List.mem_of_getElem? (i := 10) rfl))) (mvT hZ (hw _ (List.mem_of_getElem? (i := 11) rfl))) (mvT hZ (hw _ (List.mem_of_getElem? (i := 3) rfl))) (mvT hZ (hw _ (List.mem_of_getElem? (i := 12) rfl))) (by decide) (backOf (W := 1) (rm2 l Z aZ hw [] (1 : Int32) h0 n0 Z0 ) hZ (hw _ (List.mem_of_getElem? (i := 12) rfl)) (hw _ (List.mem_of_getElem? (i := 3) rfl)) (by decide) (by decide)) (g := (mkF m 31 #[.val (.int p0), .val (.int p1), .val (.int (2 : Int32)), .val (.int (1 : Int32)), .val (.ref s_L2N), .val (.ref s_L2), .unset] [(.int (1 : Int32)), (.int (2 : Int32))])) rfl (by rw [hml]; rfl) (argsL := [(.int (1 : Int32))]) (rest := [(.int (2 : Int32))]) (lenOf pd_100 rfl) rfl (by show 2 * 0 + _ ≤ _; exact Nat.le_of_eq rfl) (hb hby at_31) (fun _ _ => ⟨rfl, e247, (by decide : 0 + 0 ≤ _), (by decide : 0 + 0 ≤ _)⟩)
            dsimp only [Pt.U, Pt.locs, Pt.cells, Pt.slots] at X250 l250 y250 z250 st250 hQ250
            subst l250 y250 z250
            obtain ⟨rfl, N250q, e250⟩ := hQ250
            have N250 := Fr.app N247 N250q
            have go251 : ∀ t, Steps p.tables e below (T250.setTop (mkF m 34 #[.val (.int p0), .val (.int p1), .val (.int (2 : Int32)), .val (.int (1 : Int32)), .val (.ref s_L2N), .val (.ref s_L2), .unset] [(.int (2 : Int32)), (.int (2 : Int32))])) t → Steps p.tables e below (s₁.setTop (entryFrame m #[(.int p0), (.int p1)] maxLocals)) t := fun t k => go249 _ (st250 _ k)
            have go252 : ∀ t, Steps p.tables e below (T250.setTop (mkF m 48 #[.val (.int p0), .val (.int p1), .val (.int (2 : Int32)), .val (.int (1 : Int32)), .val (.ref s_L2N), .val (.ref s_L2), .val (.int (1 : Int32))] [(.ref s_L2), (.ref s_L2N)])) t → Steps p.tables e below (s₁.setTop (entryFrame m #[(.int p0), (.int p1)] maxLocals)) t := by
              intro t k
              refine go251 _ ?_
              refine XS.icmpNo X250.here hx rfl (hb hby at_34) rfl (XT.ii_lt_f (by decide : ¬ ((2 : Int32) < (2 : Int32)))) ?_
              show Steps p.tables e below (T250.setTop (mkF m 37 #[.val (.int p0), .val (.int p1), .val (.int (2 : Int32)), .val (.int (1 : Int32)), .val (.ref s_L2N), .val (.ref s_L2), .unset] [])) t
              refine XS.iconst X250.here hx rfl (hb hby at_37) ?_
              show Steps p.tables e below (T250.setTop (mkF m 38 #[.val (.int p0), .val (.int p1), .val (.int (2 : Int32)), .val (.int (1 : Int32)), .val (.ref s_L2N), .val (.ref s_L2), .unset] [(.int (1 : Int32))])) t
              refine XS.goto X250.here hx rfl (pc0 := 38) (pc' := 42) rfl (hb hby at_38) (by decide) (by decide) ?_
              show Steps p.tables e below (T250.setTop (mkF m 42 #[.val (.int p0), .val (.int p1), .val (.int (2 : Int32)), .val (.int (1 : Int32)), .val (.ref s_L2N), .val (.ref s_L2), .unset] [(.int (1 : Int32))])) t
              refine XS.istore X250.here hx rfl (hb hby at_42) rfl (l' := #[.val (.int p0), .val (.int p1), .val (.int (2 : Int32)), .val (.int (1 : Int32)), .val (.ref s_L2N), .val (.ref s_L2), .val (.int (1 : Int32))]) rfl ?_
              show Steps p.tables e below (T250.setTop (mkF m 44 #[.val (.int p0), .val (.int p1), .val (.int (2 : Int32)), .val (.int (1 : Int32)), .val (.ref s_L2N), .val (.ref s_L2), .val (.int (1 : Int32))] [])) t
              refine XS.aload X250.here hx rfl (hb hby at_44) rfl rfl ?_
              show Steps p.tables e below (T250.setTop (mkF m 46 #[.val (.int p0), .val (.int p1), .val (.int (2 : Int32)), .val (.int (1 : Int32)), .val (.ref s_L2N), .val (.ref s_L2), .val (.int (1 : Int32))] [(.ref s_L2N)])) t
              refine XS.aload X250.here hx rfl (hb hby at_46) rfl rfl ?_
              show Steps p.tables e below (T250.setTop (mkF m 48 #[.val (.int p0), .val (.int p1), .val (.int (2 : Int32)), .val (.int (1 : Int32)), .val (.ref s_L2N), .val (.ref s_L2), .val (.int (1 : Int32))] [(.ref s_L2), (.ref s_L2N)])) t
              exact k
            obtain ⟨cq253, kq253, q253a, q253b, q253c⟩ := isOf hZ e250 E_L2N
            obtain ⟨_, _, ⟨T253, L253, k253, n253⟩, -, X253, ⟨Lc253, hQ253, l253, y253, z253⟩, st253⟩ := X250.virtualBack hx (y := (⟨"com/example/hauora_id/hauoraid/model/ConfidenceLevel", "atLeast", "(Lcom/example/hauora_id/hauoraid/model/ConfidenceLevel;)Z"⟩ : MethodName)) (z := (⟨"com/example/hauora_id/hauoraid/model/ConfidenceLevel", "atLeast", "(Lcom/example/hauora_id/hauoraid/model/ConfidenceLevel;)Z"⟩ : MethodName)) hown (mvT hZ (hw _ (List.mem_of_getElem? (i := 13) rfl))) (mvT hZ (hw _ (List.mem_of_getElem? (i := 14) rfl))) (notFace_of_selects (args := #[]) (mvT hZ (hw _ (List.mem_of_getElem? (i := 16) rfl)))) (mvT hZ (hw _ (List.mem_of_getElem? (i := 16) rfl))) (mvT hZ (hw _ (List.mem_of_getElem? (i := 15) rfl))) (by decide) (backOf (W := 0) (rm3 l Z aZ hw [] s_L2N s_L2 s_COMPACT_STRINGS s_SIOOBE_FORMATTER s_L2N_value s_L2N_value_value k_s_L2N_value_value (2 : Int32) [(.int (50 : Int32)), (.int (78 : Int32))] (50 : Int32) s_L2_value s_L2_value_value k_s_L2_value_value (1 : Int32) [(.int (50 : Int32))] (50 : Int32) h0 n0 Z0 S_COMPACT_STRINGS S_SIOOBE_FORMATTER rS_SIOOBE_FORMATTER hcs F_L2N_value E_L2N_value F_L2N_value_coder F_L2N_value_value V_L2N_value_value (by decide) rfl F_L2_value E_L2_value F_L2_value_coder F_L2_value_value V_L2_value_value (by decide) rfl) hZ (hw _ (List.mem_of_getElem? (i := 17) rfl)) (hw _ (List.mem_of_getElem? (i := 6) rfl)) (by decide) (by decide)) q253a q253c (g := (mkF m 48 #[.val (.int p0), .val (.int p1), .val (.int (2 : Int32)), .val (.int (1 : Int32)), .val (.ref s_L2N), .val (.ref s_L2), .val (.int (1 : Int32))] [(.ref s_L2), (.ref s_L2N)])) rfl (by rw [hml]; rfl) (Steps.refl _) (argsL := [(.ref s_L2)]) (rest := []) (lenOf pd_101 rfl) rfl (by show 2 * 0 + _ ≤ _; exact Nat.le_of_eq rfl) (hb hby at_48) (fun _ _ => ⟨rfl, e250, (by decide : 0 + 0 ≤ _), (by decide : 0 + 0 ≤ _)⟩)
            dsimp only [Pt.U, Pt.locs, Pt.cells, Pt.slots] at X253 l253 y253 z253 st253 hQ253
            subst l253 y253 z253
            obtain ⟨rfl, N253q, e253⟩ := hQ253
            have N253 := Fr.app N250 N253q
            have go254 : ∀ t, Steps p.tables e below (T253.setTop (mkF m 51 #[.val (.int p0), .val (.int p1), .val (.int (2 : Int32)), .val (.int (1 : Int32)), .val (.ref s_L2N), .val (.ref s_L2), .val (.int (1 : Int32))] [(.int (f3 (50 : Int32) (50 : Int32)))])) t → Steps p.tables e below (s₁.setTop (entryFrame m #[(.int p0), (.int p1)] maxLocals)) t := fun t k => go252 _ (st253.trans k)
            have go256 : ∀ t, Steps p.tables e below (T253.setTop (mkF m 61 #[.val (.int p0), .val (.int p1), .val (.int (2 : Int32)), .val (.int (1 : Int32)), .val (.ref s_L2N), .val (.ref s_L2), .val (.int (1 : Int32))] [(.int b0_152)])) t → Steps p.tables e below (s₁.setTop (entryFrame m #[(.int p0), (.int p1)] maxLocals)) t := by
              intro t k
              refine go254 _ ?_
              refine XS.iload X253.here hx rfl (hb hby at_51) rfl ?_
              show Steps p.tables e below (T253.setTop (mkF m 53 #[.val (.int p0), .val (.int p1), .val (.int (2 : Int32)), .val (.int (1 : Int32)), .val (.ref s_L2N), .val (.ref s_L2), .val (.int (1 : Int32))] [(.int (1 : Int32)), (.int (f3 (50 : Int32) (50 : Int32)))])) t
              by_cases hc255 : (f3 (50 : Int32) (50 : Int32)) = (1 : Int32)
              · refine XS.icmpNo X253.here hx rfl (hb hby at_53) rfl (XT.ii_ne_f hc255) ?_
                show Steps p.tables e below (T253.setTop (mkF m 56 #[.val (.int p0), .val (.int p1), .val (.int (2 : Int32)), .val (.int (1 : Int32)), .val (.ref s_L2N), .val (.ref s_L2), .val (.int (1 : Int32))] [])) t
                refine XS.iconst X253.here hx rfl (hb hby at_56) ?_
                show Steps p.tables e below (T253.setTop (mkF m 57 #[.val (.int p0), .val (.int p1), .val (.int (2 : Int32)), .val (.int (1 : Int32)), .val (.ref s_L2N), .val (.ref s_L2), .val (.int (1 : Int32))] [(.int (1 : Int32))])) t
                refine XS.goto X253.here hx rfl (pc0 := 57) (pc' := 61) rfl (hb hby at_57) (by decide) (by decide) ?_
                show Steps p.tables e below (T253.setTop (mkF m 61 #[.val (.int p0), .val (.int p1), .val (.int (2 : Int32)), .val (.int (1 : Int32)), .val (.ref s_L2N), .val (.ref s_L2), .val (.int (1 : Int32))] [(.int (1 : Int32))])) t
                have hq257 : b0_152 = (1 : Int32) := by rw [b0_152, if_pos hc255]
                rw [hq257] at k
                exact k
              · refine XS.icmpYes X253.here hx rfl (pc0 := 53) (pc' := 60) rfl (hb hby at_53) rfl (XT.ii_ne_t hc255) (by decide) (by decide) ?_
                show Steps p.tables e below (T253.setTop (mkF m 60 #[.val (.int p0), .val (.int p1), .val (.int (2 : Int32)), .val (.int (1 : Int32)), .val (.ref s_L2N), .val (.ref s_L2), .val (.int (1 : Int32))] [])) t
                refine XS.iconst X253.here hx rfl (hb hby at_60) ?_
                show Steps p.tables e below (T253.setTop (mkF m 61 #[.val (.int p0), .val (.int p1), .val (.int (2 : Int32)), .val (.int (1 : Int32)), .val (.ref s_L2N), .val (.ref s_L2), .val (.int (1 : Int32))] [(.int (0 : Int32))])) t
                have hq258 : b0_152 = (0 : Int32) := by rw [b0_152, if_neg hc255]
                rw [hq258] at k
                exact k
            obtain ⟨fs, hr, hrun, hended, hW, hsame⟩ := X253.leave (v := some (.int b0_152)) (fun h => by rw [Bd.returns] at h; cases h)
            refine ⟨_, _, go256 _ (Jvm.RoadKit.retOut X253 hx Bd.returns (own_nz (by unfold b0_152; (repeat' split) <;> first | exact Or.inl rfl | exact Or.inr rfl)) (Or.inl ⟨rfl, Or.inr (Or.inl rfl), _, rfl⟩) (hb hby at_61) hr), hrun, hended, _, _, rfl, ?_, ⟨_, rfl⟩, hW, hsame.mono (by decide) (by decide)⟩
            show Q0 _ _ p0 p1 s_L1 s_L3 s_L1_value s_L1_value_value s_L3_value s_L3_value_value s_L3N s_L2 s_L3N_value s_L3N_value_value s_L2_value s_L2_value_value s_L2N s_L2N_value s_L2N_value_value k_s_L1_value_value k_s_L3_value_value k_s_L3N_value_value k_s_L2_value_value k_s_L2N_value_value s_COMPACT_STRINGS s_SIOOBE_FORMATTER h0 _ (T253.setFrames fs).heap _
            have hE : (T253.setFrames fs).heap = h0 := e253
            rw [hE]
            exact ⟨congrArg (fun z => some (Value.int z)) ((by rw [f0, if_neg hs4, if_neg hs110, if_pos hs216, if_neg hs219, if_pos hs239] : b0_152 = (f0 p0 p1)).trans (f0_one p0 p1)), N253⟩
          · by_cases hs259 : (v0_2 p1) = (2 : Int32)
            · have go260 : ∀ t, Steps p.tables e below (s₁.setTop (mkF m 15 #[.val (.int p0), .val (.int p1), .val (.int (2 : Int32)), .val (.int (2 : Int32)), .unset, .unset, .unset] [(.int (2 : Int32))])) t → Steps p.tables e below (s₁.setTop (entryFrame m #[(.int p0), (.int p1)] maxLocals)) t := by
                have q := go218
                rw [hs259] at q
                exact q
              obtain ⟨_, _, ⟨T261, L261, k261, n261⟩, -, X261, ⟨Lc261, hQ261, l261, y261, z261⟩, st261⟩ := Jvm.LawKit.callS X0 hx (y := (⟨"com/example/hauora_id/hauoraid/model/ConfidenceLevelAtLeastPinLaw", "pick", "(I)Lcom/example/hauora_id/hauoraid/model/ConfidenceLevel;"⟩ : MethodName)) hown (mvT hZ (hw _ (List.mem_of_getElem? (i := 1) rfl))) (mvT hZ (hw _ (List.mem_of_getElem? (i := 2) rfl))) (mvT hZ (hw _ (List.mem_of_getElem? (i := 3) rfl))) (mvT hZ (hw _ (List.mem_of_getElem? (i := 4) rfl))) (by decide) (backOf (W := 0) (rm1 l Z aZ hw [] (2 : Int32) s_L1 s_L2 s_L2N s_L3 s_L3N h0 n0 Z0 S_L1 S_L2 S_L2N S_L3 S_L3N) hZ (hw _ (List.mem_of_getElem? (i := 4) rfl)) (hw _ (List.mem_of_getElem? (i := 3) rfl)) (by decide) (by decide)) (g := (mkF m 15 #[.val (.int p0), .val (.int p1), .val (.int (2 : Int32)), .val (.int (2 : Int32)), .unset, .unset, .unset] [(.int (2 : Int32))])) rfl (by rw [hml]; rfl) (argsL := [(.int (2 : Int32))]) (rest := []) (lenOf pd_99 rfl) rfl (by show 2 * 0 + _ ≤ _; exact Nat.le_of_eq rfl) (hb hby at_15) (fun _ _ => ⟨rfl, e0, (by decide : 0 + 0 ≤ _), (by decide : 0 + 0 ≤ _)⟩)
              dsimp only [Pt.U, Pt.locs, Pt.cells, Pt.slots] at X261 l261 y261 z261 st261 hQ261
              subst l261 y261 z261
              obtain ⟨rfl, N261q, e261⟩ := hQ261
              have N261 := Fr.app N0 N261q
              have go262 : ∀ t, Steps p.tables e below (T261.setTop (mkF m 18 #[.val (.int p0), .val (.int p1), .val (.int (2 : Int32)), .val (.int (2 : Int32)), .unset, .unset, .unset] [(.ref s_L2N)])) t → Steps p.tables e below (s₁.setTop (entryFrame m #[(.int p0), (.int p1)] maxLocals)) t := fun t k => go260 _ (st261 _ k)
              have go263 : ∀ t, Steps p.tables e below (T261.setTop (mkF m 21 #[.val (.int p0), .val (.int p1), .val (.int (2 : Int32)), .val (.int (2 : Int32)), .val (.ref s_L2N), .unset, .unset] [(.int (2 : Int32))])) t → Steps p.tables e below (s₁.setTop (entryFrame m #[(.int p0), (.int p1)] maxLocals)) t := by
                intro t k
                refine go262 _ ?_
                refine XS.astore X261.here hx rfl (hb hby at_18) rfl rfl (l' := #[.val (.int p0), .val (.int p1), .val (.int (2 : Int32)), .val (.int (2 : Int32)), .val (.ref s_L2N), .unset, .unset]) rfl ?_
                show Steps p.tables e below (T261.setTop (mkF m 20 #[.val (.int p0), .val (.int p1), .val (.int (2 : Int32)), .val (.int (2 : Int32)), .val (.ref s_L2N), .unset, .unset] [])) t
                refine XS.iloadN X261.here hx rfl (hb hby at_20) rfl ?_
                show Steps p.tables e below (T261.setTop (mkF m 21 #[.val (.int p0), .val (.int p1), .val (.int (2 : Int32)), .val (.int (2 : Int32)), .val (.ref s_L2N), .unset, .unset] [(.int (2 : Int32))])) t
                exact k
              obtain ⟨_, _, ⟨T264, L264, k264, n264⟩, -, X264, ⟨Lc264, hQ264, l264, y264, z264⟩, st264⟩ := Jvm.LawKit.callS X261 hx (y := (⟨"com/example/hauora_id/hauoraid/model/ConfidenceLevelAtLeastPinLaw", "pick", "(I)Lcom/example/hauora_id/hauoraid/model/ConfidenceLevel;"⟩ : MethodName)) hown (mvT hZ (hw _ (List.mem_of_getElem? (i := 1) rfl))) (mvT hZ (hw _ (List.mem_of_getElem? (i := 2) rfl))) (mvT hZ (hw _ (List.mem_of_getElem? (i := 3) rfl))) (mvT hZ (hw _ (List.mem_of_getElem? (i := 4) rfl))) (by decide) (backOf (W := 0) (rm1 l Z aZ hw [] (2 : Int32) s_L1 s_L2 s_L2N s_L3 s_L3N h0 n0 Z0 S_L1 S_L2 S_L2N S_L3 S_L3N) hZ (hw _ (List.mem_of_getElem? (i := 4) rfl)) (hw _ (List.mem_of_getElem? (i := 3) rfl)) (by decide) (by decide)) (g := (mkF m 21 #[.val (.int p0), .val (.int p1), .val (.int (2 : Int32)), .val (.int (2 : Int32)), .val (.ref s_L2N), .unset, .unset] [(.int (2 : Int32))])) rfl (by rw [hml]; rfl) (argsL := [(.int (2 : Int32))]) (rest := []) (lenOf pd_99 rfl) rfl (by show 2 * 0 + _ ≤ _; exact Nat.le_of_eq rfl) (hb hby at_21) (fun _ _ => ⟨rfl, e261, (by decide : 0 + 0 ≤ _), (by decide : 0 + 0 ≤ _)⟩)
              dsimp only [Pt.U, Pt.locs, Pt.cells, Pt.slots] at X264 l264 y264 z264 st264 hQ264
              subst l264 y264 z264
              obtain ⟨rfl, N264q, e264⟩ := hQ264
              have N264 := Fr.app N261 N264q
              have go265 : ∀ t, Steps p.tables e below (T264.setTop (mkF m 24 #[.val (.int p0), .val (.int p1), .val (.int (2 : Int32)), .val (.int (2 : Int32)), .val (.ref s_L2N), .unset, .unset] [(.ref s_L2N)])) t → Steps p.tables e below (s₁.setTop (entryFrame m #[(.int p0), (.int p1)] maxLocals)) t := fun t k => go263 _ (st264 _ k)
              have go266 : ∀ t, Steps p.tables e below (T264.setTop (mkF m 27 #[.val (.int p0), .val (.int p1), .val (.int (2 : Int32)), .val (.int (2 : Int32)), .val (.ref s_L2N), .val (.ref s_L2N), .unset] [(.int (2 : Int32))])) t → Steps p.tables e below (s₁.setTop (entryFrame m #[(.int p0), (.int p1)] maxLocals)) t := by
                intro t k
                refine go265 _ ?_
                refine XS.astore X264.here hx rfl (hb hby at_24) rfl rfl (l' := #[.val (.int p0), .val (.int p1), .val (.int (2 : Int32)), .val (.int (2 : Int32)), .val (.ref s_L2N), .val (.ref s_L2N), .unset]) rfl ?_
                show Steps p.tables e below (T264.setTop (mkF m 26 #[.val (.int p0), .val (.int p1), .val (.int (2 : Int32)), .val (.int (2 : Int32)), .val (.ref s_L2N), .val (.ref s_L2N), .unset] [])) t
                refine XS.iloadN X264.here hx rfl (hb hby at_26) rfl ?_
                show Steps p.tables e below (T264.setTop (mkF m 27 #[.val (.int p0), .val (.int p1), .val (.int (2 : Int32)), .val (.int (2 : Int32)), .val (.ref s_L2N), .val (.ref s_L2N), .unset] [(.int (2 : Int32))])) t
                exact k
              obtain ⟨_, _, ⟨T267, L267, k267, n267⟩, -, X267, ⟨Lc267, hQ267, l267, y267, z267⟩, st267⟩ := Jvm.LawKit.callS X264 hx (y := (⟨"com/example/hauora_id/hauoraid/model/ConfidenceLevelAtLeastPinLaw", "digit", "(I)I"⟩ : MethodName)) hown (mvT hZ (hw _ (List.mem_of_getElem? (i := 10) rfl))) (mvT hZ (hw _ (List.mem_of_getElem? (i := 11) rfl))) (mvT hZ (hw _ (List.mem_of_getElem? (i := 3) rfl))) (mvT hZ (hw _ (List.mem_of_getElem? (i := 12) rfl))) (by decide) (backOf (W := 0) (rm2 l Z aZ hw [] (2 : Int32) h0 n0 Z0 ) hZ (hw _ (List.mem_of_getElem? (i := 12) rfl)) (hw _ (List.mem_of_getElem? (i := 3) rfl)) (by decide) (by decide)) (g := (mkF m 27 #[.val (.int p0), .val (.int p1), .val (.int (2 : Int32)), .val (.int (2 : Int32)), .val (.ref s_L2N), .val (.ref s_L2N), .unset] [(.int (2 : Int32))])) rfl (by rw [hml]; rfl) (argsL := [(.int (2 : Int32))]) (rest := []) (lenOf pd_100 rfl) rfl (by show 2 * 0 + _ ≤ _; exact Nat.le_of_eq rfl) (hb hby at_27) (fun _ _ => ⟨rfl, e264, (by decide : 0 + 0 ≤ _), (by decide : 0 + 0 ≤ _)⟩)
              dsimp only [Pt.U, Pt.locs, Pt.cells, Pt.slots] at X267 l267 y267 z267 st267 hQ267
              subst l267 y267 z267
              obtain ⟨rfl, N267q, e267⟩ := hQ267
              have N267 := Fr.app N264 N267q
              have go268 : ∀ t, Steps p.tables e below (T267.setTop (mkF m 30 #[.val (.int p0), .val (.int p1), .val (.int (2 : Int32)), .val (.int (2 : Int32)), .val (.ref s_L2N), .val (.ref s_L2N), .unset] [(.int (2 : Int32))])) t → Steps p.tables e below (s₁.setTop (entryFrame m #[(.int p0), (.int p1)] maxLocals)) t := fun t k => go266 _ (st267 _ k)
              have go269 : ∀ t, Steps p.tables e below (T267.setTop (mkF m 31 #[.val (.int p0), .val (.int p1), .val (.int (2 : Int32)), .val (.int (2 : Int32)), .val (.ref s_L2N), .val (.ref s_L2N), .unset] [(.int (2 : Int32)), (.int (2 : Int32))])) t → Steps p.tables e below (s₁.setTop (entryFrame m #[(.int p0), (.int p1)] maxLocals)) t := by
                intro t k
                refine go268 _ ?_
                refine XS.iloadN X267.here hx rfl (hb hby at_30) rfl ?_
                show Steps p.tables e below (T267.setTop (mkF m 31 #[.val (.int p0), .val (.int p1), .val (.int (2 : Int32)), .val (.int (2 : Int32)), .val (.ref s_L2N), .val (.ref s_L2N), .unset] [(.int (2 : Int32)), (.int (2 : Int32))])) t
                exact k
              obtain ⟨_, _, ⟨T270, L270, k270, n270⟩, -, X270, ⟨Lc270, hQ270, l270, y270, z270⟩, st270⟩ := Jvm.LawKit.callS X267 hx (y := (⟨"com/example/hauora_id/hauoraid/model/ConfidenceLevelAtLeastPinLaw", "digit", "(I)I"⟩ : MethodName)) hown (mvT hZ (hw _ (List.mem_of_getElem? (i := 10) rfl))) (mvT hZ (hw _ (List.mem_of_getElem? (i := 11) rfl))) (mvT hZ (hw _ (List.mem_of_getElem? (i := 3) rfl))) (mvT hZ (hw _ (List.mem_of_getElem? (i := 12) rfl))) (by decide) (backOf (W := 1) (rm2 l Z aZ hw [] (2 : Int32) h0 n0 Z0 ) hZ (hw _ (List.mem_of_getElem? (i := 12) rfl)) (hw _ (List.mem_of_getElem? (i := 3) rfl)) (by decide) (by decide)) (g := (mkF m 31 #[.val (.int p0), .val (.int p1), .val (.int (2 : Int32)), .val (.int (2 : Int32)), .val (.ref s_L2N), .val (.ref s_L2N), .unset] [(.int (2 : Int32)), (.int (2 : Int32))])) rfl (by rw [hml]; rfl) (argsL := [(.int (2 : Int32))]) (rest := [(.int (2 : Int32))]) (lenOf pd_100 rfl) rfl (by show 2 * 0 + _ ≤ _; exact Nat.le_of_eq rfl) (hb hby at_31) (fun _ _ => ⟨rfl, e267, (by decide : 0 + 0 ≤ _), (by decide : 0 + 0 ≤ _)⟩)
              dsimp only [Pt.U, Pt.locs, Pt.cells, Pt.slots] at X270 l270 y270 z270 st270 hQ270
              subst l270 y270 z270
              obtain ⟨rfl, N270q, e270⟩ := hQ270
              have N270 := Fr.app N267 N270q
              have go271 : ∀ t, Steps p.tables e below (T270.setTop (mkF m 34 #[.val (.int p0), .val (.int p1), .val (.int (2 : Int32)), .val (.int (2 : Int32)), .val (.ref s_L2N), .val (.ref s_L2N), .unset] [(.int (2 : Int32)), (.int (2 : Int32))])) t → Steps p.tables e below (s₁.setTop (entryFrame m #[(.int p0), (.int p1)] maxLocals)) t := fun t k => go269 _ (st270 _ k)
              have go272 : ∀ t, Steps p.tables e below (T270.setTop (mkF m 48 #[.val (.int p0), .val (.int p1), .val (.int (2 : Int32)), .val (.int (2 : Int32)), .val (.ref s_L2N), .val (.ref s_L2N), .val (.int (1 : Int32))] [(.ref s_L2N), (.ref s_L2N)])) t → Steps p.tables e below (s₁.setTop (entryFrame m #[(.int p0), (.int p1)] maxLocals)) t := by
                intro t k
                refine go271 _ ?_
                refine XS.icmpNo X270.here hx rfl (hb hby at_34) rfl (XT.ii_lt_f (by decide : ¬ ((2 : Int32) < (2 : Int32)))) ?_
                show Steps p.tables e below (T270.setTop (mkF m 37 #[.val (.int p0), .val (.int p1), .val (.int (2 : Int32)), .val (.int (2 : Int32)), .val (.ref s_L2N), .val (.ref s_L2N), .unset] [])) t
                refine XS.iconst X270.here hx rfl (hb hby at_37) ?_
                show Steps p.tables e below (T270.setTop (mkF m 38 #[.val (.int p0), .val (.int p1), .val (.int (2 : Int32)), .val (.int (2 : Int32)), .val (.ref s_L2N), .val (.ref s_L2N), .unset] [(.int (1 : Int32))])) t
                refine XS.goto X270.here hx rfl (pc0 := 38) (pc' := 42) rfl (hb hby at_38) (by decide) (by decide) ?_
                show Steps p.tables e below (T270.setTop (mkF m 42 #[.val (.int p0), .val (.int p1), .val (.int (2 : Int32)), .val (.int (2 : Int32)), .val (.ref s_L2N), .val (.ref s_L2N), .unset] [(.int (1 : Int32))])) t
                refine XS.istore X270.here hx rfl (hb hby at_42) rfl (l' := #[.val (.int p0), .val (.int p1), .val (.int (2 : Int32)), .val (.int (2 : Int32)), .val (.ref s_L2N), .val (.ref s_L2N), .val (.int (1 : Int32))]) rfl ?_
                show Steps p.tables e below (T270.setTop (mkF m 44 #[.val (.int p0), .val (.int p1), .val (.int (2 : Int32)), .val (.int (2 : Int32)), .val (.ref s_L2N), .val (.ref s_L2N), .val (.int (1 : Int32))] [])) t
                refine XS.aload X270.here hx rfl (hb hby at_44) rfl rfl ?_
                show Steps p.tables e below (T270.setTop (mkF m 46 #[.val (.int p0), .val (.int p1), .val (.int (2 : Int32)), .val (.int (2 : Int32)), .val (.ref s_L2N), .val (.ref s_L2N), .val (.int (1 : Int32))] [(.ref s_L2N)])) t
                refine XS.aload X270.here hx rfl (hb hby at_46) rfl rfl ?_
                show Steps p.tables e below (T270.setTop (mkF m 48 #[.val (.int p0), .val (.int p1), .val (.int (2 : Int32)), .val (.int (2 : Int32)), .val (.ref s_L2N), .val (.ref s_L2N), .val (.int (1 : Int32))] [(.ref s_L2N), (.ref s_L2N)])) t
                exact k
              obtain ⟨cq273, kq273, q273a, q273b, q273c⟩ := isOf hZ e270 E_L2N
              obtain ⟨_, _, ⟨T273, L273, k273, n273⟩, -, X273, ⟨Lc273, hQ273, l273, y273, z273⟩, st273⟩ := X270.virtualBack hx (y := (⟨"com/example/hauora_id/hauoraid/model/ConfidenceLevel", "atLeast", "(Lcom/example/hauora_id/hauoraid/model/ConfidenceLevel;)Z"⟩ : MethodName)) (z := (⟨"com/example/hauora_id/hauoraid/model/ConfidenceLevel", "atLeast", "(Lcom/example/hauora_id/hauoraid/model/ConfidenceLevel;)Z"⟩ : MethodName)) hown (mvT hZ (hw _ (List.mem_of_getElem? (i := 13) rfl))) (mvT hZ (hw _ (List.mem_of_getElem? (i := 14) rfl))) (notFace_of_selects (args := #[]) (mvT hZ (hw _ (List.mem_of_getElem? (i := 16) rfl)))) (mvT hZ (hw _ (List.mem_of_getElem? (i := 16) rfl))) (mvT hZ (hw _ (List.mem_of_getElem? (i := 15) rfl))) (by decide) (backOf (W := 0) (rm3 l Z aZ hw [] s_L2N s_L2N s_COMPACT_STRINGS s_SIOOBE_FORMATTER s_L2N_value s_L2N_value_value k_s_L2N_value_value (2 : Int32) [(.int (50 : Int32)), (.int (78 : Int32))] (50 : Int32) s_L2N_value s_L2N_value_value k_s_L2N_value_value (2 : Int32) [(.int (50 : Int32)), (.int (78 : Int32))] (50 : Int32) h0 n0 Z0 S_COMPACT_STRINGS S_SIOOBE_FORMATTER rS_SIOOBE_FORMATTER hcs F_L2N_value E_L2N_value F_L2N_value_coder F_L2N_value_value V_L2N_value_value (by decide) rfl F_L2N_value E_L2N_value F_L2N_value_coder F_L2N_value_value V_L2N_value_value (by decide) rfl) hZ (hw _ (List.mem_of_getElem? (i := 17) rfl)) (hw _ (List.mem_of_getElem? (i := 6) rfl)) (by decide) (by decide)) q273a q273c (g := (mkF m 48 #[.val (.int p0), .val (.int p1), .val (.int (2 : Int32)), .val (.int (2 : Int32)), .val (.ref s_L2N), .val (.ref s_L2N), .val (.int (1 : Int32))] [(.ref s_L2N), (.ref s_L2N)])) rfl (by rw [hml]; rfl) (Steps.refl _) (argsL := [(.ref s_L2N)]) (rest := []) (lenOf pd_101 rfl) rfl (by show 2 * 0 + _ ≤ _; exact Nat.le_of_eq rfl) (hb hby at_48) (fun _ _ => ⟨rfl, e270, (by decide : 0 + 0 ≤ _), (by decide : 0 + 0 ≤ _)⟩)
              dsimp only [Pt.U, Pt.locs, Pt.cells, Pt.slots] at X273 l273 y273 z273 st273 hQ273
              subst l273 y273 z273
              obtain ⟨rfl, N273q, e273⟩ := hQ273
              have N273 := Fr.app N270 N273q
              have go274 : ∀ t, Steps p.tables e below (T273.setTop (mkF m 51 #[.val (.int p0), .val (.int p1), .val (.int (2 : Int32)), .val (.int (2 : Int32)), .val (.ref s_L2N), .val (.ref s_L2N), .val (.int (1 : Int32))] [(.int (f3 (50 : Int32) (50 : Int32)))])) t → Steps p.tables e below (s₁.setTop (entryFrame m #[(.int p0), (.int p1)] maxLocals)) t := fun t k => go272 _ (st273.trans k)
              have go276 : ∀ t, Steps p.tables e below (T273.setTop (mkF m 61 #[.val (.int p0), .val (.int p1), .val (.int (2 : Int32)), .val (.int (2 : Int32)), .val (.ref s_L2N), .val (.ref s_L2N), .val (.int (1 : Int32))] [(.int b0_152)])) t → Steps p.tables e below (s₁.setTop (entryFrame m #[(.int p0), (.int p1)] maxLocals)) t := by
                intro t k
                refine go274 _ ?_
                refine XS.iload X273.here hx rfl (hb hby at_51) rfl ?_
                show Steps p.tables e below (T273.setTop (mkF m 53 #[.val (.int p0), .val (.int p1), .val (.int (2 : Int32)), .val (.int (2 : Int32)), .val (.ref s_L2N), .val (.ref s_L2N), .val (.int (1 : Int32))] [(.int (1 : Int32)), (.int (f3 (50 : Int32) (50 : Int32)))])) t
                by_cases hc275 : (f3 (50 : Int32) (50 : Int32)) = (1 : Int32)
                · refine XS.icmpNo X273.here hx rfl (hb hby at_53) rfl (XT.ii_ne_f hc275) ?_
                  show Steps p.tables e below (T273.setTop (mkF m 56 #[.val (.int p0), .val (.int p1), .val (.int (2 : Int32)), .val (.int (2 : Int32)), .val (.ref s_L2N), .val (.ref s_L2N), .val (.int (1 : Int32))] [])) t
                  refine XS.iconst X273.here hx rfl (hb hby at_56) ?_
                  show Steps p.tables e below (T273.setTop (mkF m 57 #[.val (.int p0), .val (.int p1), .val (.int (2 : Int32)), .val (.int (2 : Int32)), .val (.ref s_L2N), .val (.ref s_L2N), .val (.int (1 : Int32))] [(.int (1 : Int32))])) t
                  refine XS.goto X273.here hx rfl (pc0 := 57) (pc' := 61) rfl (hb hby at_57) (by decide) (by decide) ?_
                  show Steps p.tables e below (T273.setTop (mkF m 61 #[.val (.int p0), .val (.int p1), .val (.int (2 : Int32)), .val (.int (2 : Int32)), .val (.ref s_L2N), .val (.ref s_L2N), .val (.int (1 : Int32))] [(.int (1 : Int32))])) t
                  have hq277 : b0_152 = (1 : Int32) := by rw [b0_152, if_pos hc275]
                  rw [hq277] at k
                  exact k
                · refine XS.icmpYes X273.here hx rfl (pc0 := 53) (pc' := 60) rfl (hb hby at_53) rfl (XT.ii_ne_t hc275) (by decide) (by decide) ?_
                  show Steps p.tables e below (T273.setTop (mkF m 60 #[.val (.int p0), .val (.int p1), .val (.int (2 : Int32)), .val (.int (2 : Int32)), .val (.ref s_L2N), .val (.ref s_L2N), .val (.int (1 : Int32))] [])) t
                  refine XS.iconst X273.here hx rfl (hb hby at_60) ?_
                  show Steps p.tables e below (T273.setTop (mkF m 61 #[.val (.int p0), .val (.int p1), .val (.int (2 : Int32)), .val (.int (2 : Int32)), .val (.ref s_L2N), .val (.ref s_L2N), .val (.int (1 : Int32))] [(.int (0 : Int32))])) t
                  have hq278 : b0_152 = (0 : Int32) := by rw [b0_152, if_neg hc275]
                  rw [hq278] at k
                  exact k
              obtain ⟨fs, hr, hrun, hended, hW, hsame⟩ := X273.leave (v := some (.int b0_152)) (fun h => by rw [Bd.returns] at h; cases h)
              refine ⟨_, _, go276 _ (Jvm.RoadKit.retOut X273 hx Bd.returns (own_nz (by unfold b0_152; (repeat' split) <;> first | exact Or.inl rfl | exact Or.inr rfl)) (Or.inl ⟨rfl, Or.inr (Or.inl rfl), _, rfl⟩) (hb hby at_61) hr), hrun, hended, _, _, rfl, ?_, ⟨_, rfl⟩, hW, hsame.mono (by decide) (by decide)⟩
              show Q0 _ _ p0 p1 s_L1 s_L3 s_L1_value s_L1_value_value s_L3_value s_L3_value_value s_L3N s_L2 s_L3N_value s_L3N_value_value s_L2_value s_L2_value_value s_L2N s_L2N_value s_L2N_value_value k_s_L1_value_value k_s_L3_value_value k_s_L3N_value_value k_s_L2_value_value k_s_L2N_value_value s_COMPACT_STRINGS s_SIOOBE_FORMATTER h0 _ (T273.setFrames fs).heap _
              have hE : (T273.setFrames fs).heap = h0 := e273
              rw [hE]
              exact ⟨congrArg (fun z => some (Value.int z)) ((by rw [f0, if_neg hs4, if_neg hs110, if_pos hs216, if_neg hs219, if_neg hs239, if_pos hs259] : b0_152 = (f0 p0 p1)).trans (f0_one p0 p1)), N273⟩
            · by_cases hs279 : (v0_2 p1) = (3 : Int32)
              · have go280 : ∀ t, Steps p.tables e below (s₁.setTop (mkF m 15 #[.val (.int p0), .val (.int p1), .val (.int (2 : Int32)), .val (.int (3 : Int32)), .unset, .unset, .unset] [(.int (2 : Int32))])) t → Steps p.tables e below (s₁.setTop (entryFrame m #[(.int p0), (.int p1)] maxLocals)) t := by
                  have q := go218
                  rw [hs279] at q
                  exact q
                obtain ⟨_, _, ⟨T281, L281, k281, n281⟩, -, X281, ⟨Lc281, hQ281, l281, y281, z281⟩, st281⟩ := Jvm.LawKit.callS X0 hx (y := (⟨"com/example/hauora_id/hauoraid/model/ConfidenceLevelAtLeastPinLaw", "pick", "(I)Lcom/example/hauora_id/hauoraid/model/ConfidenceLevel;"⟩ : MethodName)) hown (mvT hZ (hw _ (List.mem_of_getElem? (i := 1) rfl))) (mvT hZ (hw _ (List.mem_of_getElem? (i := 2) rfl))) (mvT hZ (hw _ (List.mem_of_getElem? (i := 3) rfl))) (mvT hZ (hw _ (List.mem_of_getElem? (i := 4) rfl))) (by decide) (backOf (W := 0) (rm1 l Z aZ hw [] (2 : Int32) s_L1 s_L2 s_L2N s_L3 s_L3N h0 n0 Z0 S_L1 S_L2 S_L2N S_L3 S_L3N) hZ (hw _ (List.mem_of_getElem? (i := 4) rfl)) (hw _ (List.mem_of_getElem? (i := 3) rfl)) (by decide) (by decide)) (g := (mkF m 15 #[.val (.int p0), .val (.int p1), .val (.int (2 : Int32)), .val (.int (3 : Int32)), .unset, .unset, .unset] [(.int (2 : Int32))])) rfl (by rw [hml]; rfl) (argsL := [(.int (2 : Int32))]) (rest := []) (lenOf pd_99 rfl) rfl (by show 2 * 0 + _ ≤ _; exact Nat.le_of_eq rfl) (hb hby at_15) (fun _ _ => ⟨rfl, e0, (by decide : 0 + 0 ≤ _), (by decide : 0 + 0 ≤ _)⟩)
                dsimp only [Pt.U, Pt.locs, Pt.cells, Pt.slots] at X281 l281 y281 z281 st281 hQ281
                subst l281 y281 z281
                obtain ⟨rfl, N281q, e281⟩ := hQ281
                have N281 := Fr.app N0 N281q
                have go282 : ∀ t, Steps p.tables e below (T281.setTop (mkF m 18 #[.val (.int p0), .val (.int p1), .val (.int (2 : Int32)), .val (.int (3 : Int32)), .unset, .unset, .unset] [(.ref s_L2N)])) t → Steps p.tables e below (s₁.setTop (entryFrame m #[(.int p0), (.int p1)] maxLocals)) t := fun t k => go280 _ (st281 _ k)
                have go283 : ∀ t, Steps p.tables e below (T281.setTop (mkF m 21 #[.val (.int p0), .val (.int p1), .val (.int (2 : Int32)), .val (.int (3 : Int32)), .val (.ref s_L2N), .unset, .unset] [(.int (3 : Int32))])) t → Steps p.tables e below (s₁.setTop (entryFrame m #[(.int p0), (.int p1)] maxLocals)) t := by
                  intro t k
                  refine go282 _ ?_
                  refine XS.astore X281.here hx rfl (hb hby at_18) rfl rfl (l' := #[.val (.int p0), .val (.int p1), .val (.int (2 : Int32)), .val (.int (3 : Int32)), .val (.ref s_L2N), .unset, .unset]) rfl ?_
                  show Steps p.tables e below (T281.setTop (mkF m 20 #[.val (.int p0), .val (.int p1), .val (.int (2 : Int32)), .val (.int (3 : Int32)), .val (.ref s_L2N), .unset, .unset] [])) t
                  refine XS.iloadN X281.here hx rfl (hb hby at_20) rfl ?_
                  show Steps p.tables e below (T281.setTop (mkF m 21 #[.val (.int p0), .val (.int p1), .val (.int (2 : Int32)), .val (.int (3 : Int32)), .val (.ref s_L2N), .unset, .unset] [(.int (3 : Int32))])) t
                  exact k
                obtain ⟨_, _, ⟨T284, L284, k284, n284⟩, -, X284, ⟨Lc284, hQ284, l284, y284, z284⟩, st284⟩ := Jvm.LawKit.callS X281 hx (y := (⟨"com/example/hauora_id/hauoraid/model/ConfidenceLevelAtLeastPinLaw", "pick", "(I)Lcom/example/hauora_id/hauoraid/model/ConfidenceLevel;"⟩ : MethodName)) hown (mvT hZ (hw _ (List.mem_of_getElem? (i := 1) rfl))) (mvT hZ (hw _ (List.mem_of_getElem? (i := 2) rfl))) (mvT hZ (hw _ (List.mem_of_getElem? (i := 3) rfl))) (mvT hZ (hw _ (List.mem_of_getElem? (i := 4) rfl))) (by decide) (backOf (W := 0) (rm1 l Z aZ hw [] (3 : Int32) s_L1 s_L2 s_L2N s_L3 s_L3N h0 n0 Z0 S_L1 S_L2 S_L2N S_L3 S_L3N) hZ (hw _ (List.mem_of_getElem? (i := 4) rfl)) (hw _ (List.mem_of_getElem? (i := 3) rfl)) (by decide) (by decide)) (g := (mkF m 21 #[.val (.int p0), .val (.int p1), .val (.int (2 : Int32)), .val (.int (3 : Int32)), .val (.ref s_L2N), .unset, .unset] [(.int (3 : Int32))])) rfl (by rw [hml]; rfl) (argsL := [(.int (3 : Int32))]) (rest := []) (lenOf pd_99 rfl) rfl (by show 2 * 0 + _ ≤ _; exact Nat.le_of_eq rfl) (hb hby at_21) (fun _ _ => ⟨rfl, e281, (by decide : 0 + 0 ≤ _), (by decide : 0 + 0 ≤ _)⟩)
                dsimp only [Pt.U, Pt.locs, Pt.cells, Pt.slots] at X284 l284 y284 z284 st284 hQ284
                subst l284 y284 z284
                obtain ⟨rfl, N284q, e284⟩ := hQ284
                have N284 := Fr.app N281 N284q
                have go285 : ∀ t, Steps p.tables e below (T284.setTop (mkF m 24 #[.val (.int p0), .val (.int p1), .val (.int (2 : Int32)), .val (.int (3 : Int32)), .val (.ref s_L2N), .unset, .unset] [(.ref s_L3)])) t → Steps p.tables e below (s₁.setTop (entryFrame m #[(.int p0), (.int p1)] maxLocals)) t := fun t k => go283 _ (st284 _ k)
                have go286 : ∀ t, Steps p.tables e below (T284.setTop (mkF m 27 #[.val (.int p0), .val (.int p1), .val (.int (2 : Int32)), .val (.int (3 : Int32)), .val (.ref s_L2N), .val (.ref s_L3), .unset] [(.int (2 : Int32))])) t → Steps p.tables e below (s₁.setTop (entryFrame m #[(.int p0), (.int p1)] maxLocals)) t := by
                  intro t k
                  refine go285 _ ?_
                  refine XS.astore X284.here hx rfl (hb hby at_24) rfl rfl (l' := #[.val (.int p0), .val (.int p1), .val (.int (2 : Int32)), .val (.int (3 : Int32)), .val (.ref s_L2N), .val (.ref s_L3), .unset]) rfl ?_
                  show Steps p.tables e below (T284.setTop (mkF m 26 #[.val (.int p0), .val (.int p1), .val (.int (2 : Int32)), .val (.int (3 : Int32)), .val (.ref s_L2N), .val (.ref s_L3), .unset] [])) t
                  refine XS.iloadN X284.here hx rfl (hb hby at_26) rfl ?_
                  show Steps p.tables e below (T284.setTop (mkF m 27 #[.val (.int p0), .val (.int p1), .val (.int (2 : Int32)), .val (.int (3 : Int32)), .val (.ref s_L2N), .val (.ref s_L3), .unset] [(.int (2 : Int32))])) t
                  exact k
                obtain ⟨_, _, ⟨T287, L287, k287, n287⟩, -, X287, ⟨Lc287, hQ287, l287, y287, z287⟩, st287⟩ := Jvm.LawKit.callS X284 hx (y := (⟨"com/example/hauora_id/hauoraid/model/ConfidenceLevelAtLeastPinLaw", "digit", "(I)I"⟩ : MethodName)) hown (mvT hZ (hw _ (List.mem_of_getElem? (i := 10) rfl))) (mvT hZ (hw _ (List.mem_of_getElem? (i := 11) rfl))) (mvT hZ (hw _ (List.mem_of_getElem? (i := 3) rfl))) (mvT hZ (hw _ (List.mem_of_getElem? (i := 12) rfl))) (by decide) (backOf (W := 0) (rm2 l Z aZ hw [] (2 : Int32) h0 n0 Z0 ) hZ (hw _ (List.mem_of_getElem? (i := 12) rfl)) (hw _ (List.mem_of_getElem? (i := 3) rfl)) (by decide) (by decide)) (g := (mkF m 27 #[.val (.int p0), .val (.int p1), .val (.int (2 : Int32)), .val (.int (3 : Int32)), .val (.ref s_L2N), .val (.ref s_L3), .unset] [(.int (2 : Int32))])) rfl (by rw [hml]; rfl) (argsL := [(.int (2 : Int32))]) (rest := []) (lenOf pd_100 rfl) rfl (by show 2 * 0 + _ ≤ _; exact Nat.le_of_eq rfl) (hb hby at_27) (fun _ _ => ⟨rfl, e284, (by decide : 0 + 0 ≤ _), (by decide : 0 + 0 ≤ _)⟩)
                dsimp only [Pt.U, Pt.locs, Pt.cells, Pt.slots] at X287 l287 y287 z287 st287 hQ287
                subst l287 y287 z287
                obtain ⟨rfl, N287q, e287⟩ := hQ287
                have N287 := Fr.app N284 N287q
                have go288 : ∀ t, Steps p.tables e below (T287.setTop (mkF m 30 #[.val (.int p0), .val (.int p1), .val (.int (2 : Int32)), .val (.int (3 : Int32)), .val (.ref s_L2N), .val (.ref s_L3), .unset] [(.int (2 : Int32))])) t → Steps p.tables e below (s₁.setTop (entryFrame m #[(.int p0), (.int p1)] maxLocals)) t := fun t k => go286 _ (st287 _ k)
                have go289 : ∀ t, Steps p.tables e below (T287.setTop (mkF m 31 #[.val (.int p0), .val (.int p1), .val (.int (2 : Int32)), .val (.int (3 : Int32)), .val (.ref s_L2N), .val (.ref s_L3), .unset] [(.int (3 : Int32)), (.int (2 : Int32))])) t → Steps p.tables e below (s₁.setTop (entryFrame m #[(.int p0), (.int p1)] maxLocals)) t := by
                  intro t k
                  refine go288 _ ?_
                  refine XS.iloadN X287.here hx rfl (hb hby at_30) rfl ?_
                  show Steps p.tables e below (T287.setTop (mkF m 31 #[.val (.int p0), .val (.int p1), .val (.int (2 : Int32)), .val (.int (3 : Int32)), .val (.ref s_L2N), .val (.ref s_L3), .unset] [(.int (3 : Int32)), (.int (2 : Int32))])) t
                  exact k
                obtain ⟨_, _, ⟨T290, L290, k290, n290⟩, -, X290, ⟨Lc290, hQ290, l290, y290, z290⟩, st290⟩ := Jvm.LawKit.callS X287 hx (y := (⟨"com/example/hauora_id/hauoraid/model/ConfidenceLevelAtLeastPinLaw", "digit", "(I)I"⟩ : MethodName)) hown (mvT hZ (hw _ (List.mem_of_getElem? (i := 10) rfl))) (mvT hZ (hw _ (List.mem_of_getElem? (i := 11) rfl))) (mvT hZ (hw _ (List.mem_of_getElem? (i := 3) rfl))) (mvT hZ (hw _ (List.mem_of_getElem? (i := 12) rfl))) (by decide) (backOf (W := 1) (rm2 l Z aZ hw [] (3 : Int32) h0 n0 Z0 ) hZ (hw _ (List.mem_of_getElem? (i := 12) rfl)) (hw _ (List.mem_of_getElem? (i := 3) rfl)) (by decide) (by decide)) (g := (mkF m 31 #[.val (.int p0), .val (.int p1), .val (.int (2 : Int32)), .val (.int (3 : Int32)), .val (.ref s_L2N), .val (.ref s_L3), .unset] [(.int (3 : Int32)), (.int (2 : Int32))])) rfl (by rw [hml]; rfl) (argsL := [(.int (3 : Int32))]) (rest := [(.int (2 : Int32))]) (lenOf pd_100 rfl) rfl (by show 2 * 0 + _ ≤ _; exact Nat.le_of_eq rfl) (hb hby at_31) (fun _ _ => ⟨rfl, e287, (by decide : 0 + 0 ≤ _), (by decide : 0 + 0 ≤ _)⟩)
                dsimp only [Pt.U, Pt.locs, Pt.cells, Pt.slots] at X290 l290 y290 z290 st290 hQ290
                subst l290 y290 z290
                obtain ⟨rfl, N290q, e290⟩ := hQ290
                have N290 := Fr.app N287 N290q
                have go291 : ∀ t, Steps p.tables e below (T290.setTop (mkF m 34 #[.val (.int p0), .val (.int p1), .val (.int (2 : Int32)), .val (.int (3 : Int32)), .val (.ref s_L2N), .val (.ref s_L3), .unset] [(.int (3 : Int32)), (.int (2 : Int32))])) t → Steps p.tables e below (s₁.setTop (entryFrame m #[(.int p0), (.int p1)] maxLocals)) t := fun t k => go289 _ (st290 _ k)
                have go292 : ∀ t, Steps p.tables e below (T290.setTop (mkF m 48 #[.val (.int p0), .val (.int p1), .val (.int (2 : Int32)), .val (.int (3 : Int32)), .val (.ref s_L2N), .val (.ref s_L3), .val (.int (0 : Int32))] [(.ref s_L3), (.ref s_L2N)])) t → Steps p.tables e below (s₁.setTop (entryFrame m #[(.int p0), (.int p1)] maxLocals)) t := by
                  intro t k
                  refine go291 _ ?_
                  refine XS.icmpYes X290.here hx rfl (pc0 := 34) (pc' := 41) rfl (hb hby at_34) rfl (XT.ii_lt_t (by decide : ((2 : Int32) < (3 : Int32)))) (by decide) (by decide) ?_
                  show Steps p.tables e below (T290.setTop (mkF m 41 #[.val (.int p0), .val (.int p1), .val (.int (2 : Int32)), .val (.int (3 : Int32)), .val (.ref s_L2N), .val (.ref s_L3), .unset] [])) t
                  refine XS.iconst X290.here hx rfl (hb hby at_41) ?_
                  show Steps p.tables e below (T290.setTop (mkF m 42 #[.val (.int p0), .val (.int p1), .val (.int (2 : Int32)), .val (.int (3 : Int32)), .val (.ref s_L2N), .val (.ref s_L3), .unset] [(.int (0 : Int32))])) t
                  refine XS.istore X290.here hx rfl (hb hby at_42) rfl (l' := #[.val (.int p0), .val (.int p1), .val (.int (2 : Int32)), .val (.int (3 : Int32)), .val (.ref s_L2N), .val (.ref s_L3), .val (.int (0 : Int32))]) rfl ?_
                  show Steps p.tables e below (T290.setTop (mkF m 44 #[.val (.int p0), .val (.int p1), .val (.int (2 : Int32)), .val (.int (3 : Int32)), .val (.ref s_L2N), .val (.ref s_L3), .val (.int (0 : Int32))] [])) t
                  refine XS.aload X290.here hx rfl (hb hby at_44) rfl rfl ?_
                  show Steps p.tables e below (T290.setTop (mkF m 46 #[.val (.int p0), .val (.int p1), .val (.int (2 : Int32)), .val (.int (3 : Int32)), .val (.ref s_L2N), .val (.ref s_L3), .val (.int (0 : Int32))] [(.ref s_L2N)])) t
                  refine XS.aload X290.here hx rfl (hb hby at_46) rfl rfl ?_
                  show Steps p.tables e below (T290.setTop (mkF m 48 #[.val (.int p0), .val (.int p1), .val (.int (2 : Int32)), .val (.int (3 : Int32)), .val (.ref s_L2N), .val (.ref s_L3), .val (.int (0 : Int32))] [(.ref s_L3), (.ref s_L2N)])) t
                  exact k
                obtain ⟨cq293, kq293, q293a, q293b, q293c⟩ := isOf hZ e290 E_L2N
                obtain ⟨_, _, ⟨T293, L293, k293, n293⟩, -, X293, ⟨Lc293, hQ293, l293, y293, z293⟩, st293⟩ := X290.virtualBack hx (y := (⟨"com/example/hauora_id/hauoraid/model/ConfidenceLevel", "atLeast", "(Lcom/example/hauora_id/hauoraid/model/ConfidenceLevel;)Z"⟩ : MethodName)) (z := (⟨"com/example/hauora_id/hauoraid/model/ConfidenceLevel", "atLeast", "(Lcom/example/hauora_id/hauoraid/model/ConfidenceLevel;)Z"⟩ : MethodName)) hown (mvT hZ (hw _ (List.mem_of_getElem? (i := 13) rfl))) (mvT hZ (hw _ (List.mem_of_getElem? (i := 14) rfl))) (notFace_of_selects (args := #[]) (mvT hZ (hw _ (List.mem_of_getElem? (i := 16) rfl)))) (mvT hZ (hw _ (List.mem_of_getElem? (i := 16) rfl))) (mvT hZ (hw _ (List.mem_of_getElem? (i := 15) rfl))) (by decide) (backOf (W := 0) (rm3 l Z aZ hw [] s_L2N s_L3 s_COMPACT_STRINGS s_SIOOBE_FORMATTER s_L2N_value s_L2N_value_value k_s_L2N_value_value (2 : Int32) [(.int (50 : Int32)), (.int (78 : Int32))] (50 : Int32) s_L3_value s_L3_value_value k_s_L3_value_value (1 : Int32) [(.int (51 : Int32))] (51 : Int32) h0 n0 Z0 S_COMPACT_STRINGS S_SIOOBE_FORMATTER rS_SIOOBE_FORMATTER hcs F_L2N_value E_L2N_value F_L2N_value_coder F_L2N_value_value V_L2N_value_value (by decide) rfl F_L3_value E_L3_value F_L3_value_coder F_L3_value_value V_L3_value_value (by decide) rfl) hZ (hw _ (List.mem_of_getElem? (i := 17) rfl)) (hw _ (List.mem_of_getElem? (i := 6) rfl)) (by decide) (by decide)) q293a q293c (g := (mkF m 48 #[.val (.int p0), .val (.int p1), .val (.int (2 : Int32)), .val (.int (3 : Int32)), .val (.ref s_L2N), .val (.ref s_L3), .val (.int (0 : Int32))] [(.ref s_L3), (.ref s_L2N)])) rfl (by rw [hml]; rfl) (Steps.refl _) (argsL := [(.ref s_L3)]) (rest := []) (lenOf pd_101 rfl) rfl (by show 2 * 0 + _ ≤ _; exact Nat.le_of_eq rfl) (hb hby at_48) (fun _ _ => ⟨rfl, e290, (by decide : 0 + 0 ≤ _), (by decide : 0 + 0 ≤ _)⟩)
                dsimp only [Pt.U, Pt.locs, Pt.cells, Pt.slots] at X293 l293 y293 z293 st293 hQ293
                subst l293 y293 z293
                obtain ⟨rfl, N293q, e293⟩ := hQ293
                have N293 := Fr.app N290 N293q
                have go294 : ∀ t, Steps p.tables e below (T293.setTop (mkF m 51 #[.val (.int p0), .val (.int p1), .val (.int (2 : Int32)), .val (.int (3 : Int32)), .val (.ref s_L2N), .val (.ref s_L3), .val (.int (0 : Int32))] [(.int (f3 (50 : Int32) (51 : Int32)))])) t → Steps p.tables e below (s₁.setTop (entryFrame m #[(.int p0), (.int p1)] maxLocals)) t := fun t k => go292 _ (st293.trans k)
                have go296 : ∀ t, Steps p.tables e below (T293.setTop (mkF m 61 #[.val (.int p0), .val (.int p1), .val (.int (2 : Int32)), .val (.int (3 : Int32)), .val (.ref s_L2N), .val (.ref s_L3), .val (.int (0 : Int32))] [(.int b0_193)])) t → Steps p.tables e below (s₁.setTop (entryFrame m #[(.int p0), (.int p1)] maxLocals)) t := by
                  intro t k
                  refine go294 _ ?_
                  refine XS.iload X293.here hx rfl (hb hby at_51) rfl ?_
                  show Steps p.tables e below (T293.setTop (mkF m 53 #[.val (.int p0), .val (.int p1), .val (.int (2 : Int32)), .val (.int (3 : Int32)), .val (.ref s_L2N), .val (.ref s_L3), .val (.int (0 : Int32))] [(.int (0 : Int32)), (.int (f3 (50 : Int32) (51 : Int32)))])) t
                  by_cases hc295 : (f3 (50 : Int32) (51 : Int32)) = (0 : Int32)
                  · refine XS.icmpNo X293.here hx rfl (hb hby at_53) rfl (XT.ii_ne_f hc295) ?_
                    show Steps p.tables e below (T293.setTop (mkF m 56 #[.val (.int p0), .val (.int p1), .val (.int (2 : Int32)), .val (.int (3 : Int32)), .val (.ref s_L2N), .val (.ref s_L3), .val (.int (0 : Int32))] [])) t
                    refine XS.iconst X293.here hx rfl (hb hby at_56) ?_
                    show Steps p.tables e below (T293.setTop (mkF m 57 #[.val (.int p0), .val (.int p1), .val (.int (2 : Int32)), .val (.int (3 : Int32)), .val (.ref s_L2N), .val (.ref s_L3), .val (.int (0 : Int32))] [(.int (1 : Int32))])) t
                    refine XS.goto X293.here hx rfl (pc0 := 57) (pc' := 61) rfl (hb hby at_57) (by decide) (by decide) ?_
                    show Steps p.tables e below (T293.setTop (mkF m 61 #[.val (.int p0), .val (.int p1), .val (.int (2 : Int32)), .val (.int (3 : Int32)), .val (.ref s_L2N), .val (.ref s_L3), .val (.int (0 : Int32))] [(.int (1 : Int32))])) t
                    have hq297 : b0_193 = (1 : Int32) := by rw [b0_193, if_pos hc295]
                    rw [hq297] at k
                    exact k
                  · refine XS.icmpYes X293.here hx rfl (pc0 := 53) (pc' := 60) rfl (hb hby at_53) rfl (XT.ii_ne_t hc295) (by decide) (by decide) ?_
                    show Steps p.tables e below (T293.setTop (mkF m 60 #[.val (.int p0), .val (.int p1), .val (.int (2 : Int32)), .val (.int (3 : Int32)), .val (.ref s_L2N), .val (.ref s_L3), .val (.int (0 : Int32))] [])) t
                    refine XS.iconst X293.here hx rfl (hb hby at_60) ?_
                    show Steps p.tables e below (T293.setTop (mkF m 61 #[.val (.int p0), .val (.int p1), .val (.int (2 : Int32)), .val (.int (3 : Int32)), .val (.ref s_L2N), .val (.ref s_L3), .val (.int (0 : Int32))] [(.int (0 : Int32))])) t
                    have hq298 : b0_193 = (0 : Int32) := by rw [b0_193, if_neg hc295]
                    rw [hq298] at k
                    exact k
                obtain ⟨fs, hr, hrun, hended, hW, hsame⟩ := X293.leave (v := some (.int b0_193)) (fun h => by rw [Bd.returns] at h; cases h)
                refine ⟨_, _, go296 _ (Jvm.RoadKit.retOut X293 hx Bd.returns (own_nz (by unfold b0_193; (repeat' split) <;> first | exact Or.inl rfl | exact Or.inr rfl)) (Or.inl ⟨rfl, Or.inr (Or.inl rfl), _, rfl⟩) (hb hby at_61) hr), hrun, hended, _, _, rfl, ?_, ⟨_, rfl⟩, hW, hsame.mono (by decide) (by decide)⟩
                show Q0 _ _ p0 p1 s_L1 s_L3 s_L1_value s_L1_value_value s_L3_value s_L3_value_value s_L3N s_L2 s_L3N_value s_L3N_value_value s_L2_value s_L2_value_value s_L2N s_L2N_value s_L2N_value_value k_s_L1_value_value k_s_L3_value_value k_s_L3N_value_value k_s_L2_value_value k_s_L2N_value_value s_COMPACT_STRINGS s_SIOOBE_FORMATTER h0 _ (T293.setFrames fs).heap _
                have hE : (T293.setFrames fs).heap = h0 := e293
                rw [hE]
                exact ⟨congrArg (fun z => some (Value.int z)) ((by rw [f0, if_neg hs4, if_neg hs110, if_pos hs216, if_neg hs219, if_neg hs239, if_neg hs259, if_pos hs279] : b0_193 = (f0 p0 p1)).trans (f0_one p0 p1)), N293⟩
              · by_cases hs299 : (v0_2 p1) = (4 : Int32)
                · have go300 : ∀ t, Steps p.tables e below (s₁.setTop (mkF m 15 #[.val (.int p0), .val (.int p1), .val (.int (2 : Int32)), .val (.int (4 : Int32)), .unset, .unset, .unset] [(.int (2 : Int32))])) t → Steps p.tables e below (s₁.setTop (entryFrame m #[(.int p0), (.int p1)] maxLocals)) t := by
                    have q := go218
                    rw [hs299] at q
                    exact q
                  obtain ⟨_, _, ⟨T301, L301, k301, n301⟩, -, X301, ⟨Lc301, hQ301, l301, y301, z301⟩, st301⟩ := Jvm.LawKit.callS X0 hx (y := (⟨"com/example/hauora_id/hauoraid/model/ConfidenceLevelAtLeastPinLaw", "pick", "(I)Lcom/example/hauora_id/hauoraid/model/ConfidenceLevel;"⟩ : MethodName)) hown (mvT hZ (hw _ (List.mem_of_getElem? (i := 1) rfl))) (mvT hZ (hw _ (List.mem_of_getElem? (i := 2) rfl))) (mvT hZ (hw _ (List.mem_of_getElem? (i := 3) rfl))) (mvT hZ (hw _ (List.mem_of_getElem? (i := 4) rfl))) (by decide) (backOf (W := 0) (rm1 l Z aZ hw [] (2 : Int32) s_L1 s_L2 s_L2N s_L3 s_L3N h0 n0 Z0 S_L1 S_L2 S_L2N S_L3 S_L3N) hZ (hw _ (List.mem_of_getElem? (i := 4) rfl)) (hw _ (List.mem_of_getElem? (i := 3) rfl)) (by decide) (by decide)) (g := (mkF m 15 #[.val (.int p0), .val (.int p1), .val (.int (2 : Int32)), .val (.int (4 : Int32)), .unset, .unset, .unset] [(.int (2 : Int32))])) rfl (by rw [hml]; rfl) (argsL := [(.int (2 : Int32))]) (rest := []) (lenOf pd_99 rfl) rfl (by show 2 * 0 + _ ≤ _; exact Nat.le_of_eq rfl) (hb hby at_15) (fun _ _ => ⟨rfl, e0, (by decide : 0 + 0 ≤ _), (by decide : 0 + 0 ≤ _)⟩)
                  dsimp only [Pt.U, Pt.locs, Pt.cells, Pt.slots] at X301 l301 y301 z301 st301 hQ301
                  subst l301 y301 z301
                  obtain ⟨rfl, N301q, e301⟩ := hQ301
                  have N301 := Fr.app N0 N301q
                  have go302 : ∀ t, Steps p.tables e below (T301.setTop (mkF m 18 #[.val (.int p0), .val (.int p1), .val (.int (2 : Int32)), .val (.int (4 : Int32)), .unset, .unset, .unset] [(.ref s_L2N)])) t → Steps p.tables e below (s₁.setTop (entryFrame m #[(.int p0), (.int p1)] maxLocals)) t := fun t k => go300 _ (st301 _ k)
                  have go303 : ∀ t, Steps p.tables e below (T301.setTop (mkF m 21 #[.val (.int p0), .val (.int p1), .val (.int (2 : Int32)), .val (.int (4 : Int32)), .val (.ref s_L2N), .unset, .unset] [(.int (4 : Int32))])) t → Steps p.tables e below (s₁.setTop (entryFrame m #[(.int p0), (.int p1)] maxLocals)) t := by
                    intro t k
                    refine go302 _ ?_
                    refine XS.astore X301.here hx rfl (hb hby at_18) rfl rfl (l' := #[.val (.int p0), .val (.int p1), .val (.int (2 : Int32)), .val (.int (4 : Int32)), .val (.ref s_L2N), .unset, .unset]) rfl ?_
                    show Steps p.tables e below (T301.setTop (mkF m 20 #[.val (.int p0), .val (.int p1), .val (.int (2 : Int32)), .val (.int (4 : Int32)), .val (.ref s_L2N), .unset, .unset] [])) t
                    refine XS.iloadN X301.here hx rfl (hb hby at_20) rfl ?_
                    show Steps p.tables e below (T301.setTop (mkF m 21 #[.val (.int p0), .val (.int p1), .val (.int (2 : Int32)), .val (.int (4 : Int32)), .val (.ref s_L2N), .unset, .unset] [(.int (4 : Int32))])) t
                    exact k
                  obtain ⟨_, _, ⟨T304, L304, k304, n304⟩, -, X304, ⟨Lc304, hQ304, l304, y304, z304⟩, st304⟩ := Jvm.LawKit.callS X301 hx (y := (⟨"com/example/hauora_id/hauoraid/model/ConfidenceLevelAtLeastPinLaw", "pick", "(I)Lcom/example/hauora_id/hauoraid/model/ConfidenceLevel;"⟩ : MethodName)) hown (mvT hZ (hw _ (List.mem_of_getElem? (i := 1) rfl))) (mvT hZ (hw _ (List.mem_of_getElem? (i := 2) rfl))) (mvT hZ (hw _ (List.mem_of_getElem? (i := 3) rfl))) (mvT hZ (hw _ (List.mem_of_getElem? (i := 4) rfl))) (by decide) (backOf (W := 0) (rm1 l Z aZ hw [] (4 : Int32) s_L1 s_L2 s_L2N s_L3 s_L3N h0 n0 Z0 S_L1 S_L2 S_L2N S_L3 S_L3N) hZ (hw _ (List.mem_of_getElem? (i := 4) rfl)) (hw _ (List.mem_of_getElem? (i := 3) rfl)) (by decide) (by decide)) (g := (mkF m 21 #[.val (.int p0), .val (.int p1), .val (.int (2 : Int32)), .val (.int (4 : Int32)), .val (.ref s_L2N), .unset, .unset] [(.int (4 : Int32))])) rfl (by rw [hml]; rfl) (argsL := [(.int (4 : Int32))]) (rest := []) (lenOf pd_99 rfl) rfl (by show 2 * 0 + _ ≤ _; exact Nat.le_of_eq rfl) (hb hby at_21) (fun _ _ => ⟨rfl, e301, (by decide : 0 + 0 ≤ _), (by decide : 0 + 0 ≤ _)⟩)
                  dsimp only [Pt.U, Pt.locs, Pt.cells, Pt.slots] at X304 l304 y304 z304 st304 hQ304
                  subst l304 y304 z304
                  obtain ⟨rfl, N304q, e304⟩ := hQ304
                  have N304 := Fr.app N301 N304q
                  have go305 : ∀ t, Steps p.tables e below (T304.setTop (mkF m 24 #[.val (.int p0), .val (.int p1), .val (.int (2 : Int32)), .val (.int (4 : Int32)), .val (.ref s_L2N), .unset, .unset] [(.ref s_L3N)])) t → Steps p.tables e below (s₁.setTop (entryFrame m #[(.int p0), (.int p1)] maxLocals)) t := fun t k => go303 _ (st304 _ k)
                  have go306 : ∀ t, Steps p.tables e below (T304.setTop (mkF m 27 #[.val (.int p0), .val (.int p1), .val (.int (2 : Int32)), .val (.int (4 : Int32)), .val (.ref s_L2N), .val (.ref s_L3N), .unset] [(.int (2 : Int32))])) t → Steps p.tables e below (s₁.setTop (entryFrame m #[(.int p0), (.int p1)] maxLocals)) t := by
                    intro t k
                    refine go305 _ ?_
                    refine XS.astore X304.here hx rfl (hb hby at_24) rfl rfl (l' := #[.val (.int p0), .val (.int p1), .val (.int (2 : Int32)), .val (.int (4 : Int32)), .val (.ref s_L2N), .val (.ref s_L3N), .unset]) rfl ?_
                    show Steps p.tables e below (T304.setTop (mkF m 26 #[.val (.int p0), .val (.int p1), .val (.int (2 : Int32)), .val (.int (4 : Int32)), .val (.ref s_L2N), .val (.ref s_L3N), .unset] [])) t
                    refine XS.iloadN X304.here hx rfl (hb hby at_26) rfl ?_
                    show Steps p.tables e below (T304.setTop (mkF m 27 #[.val (.int p0), .val (.int p1), .val (.int (2 : Int32)), .val (.int (4 : Int32)), .val (.ref s_L2N), .val (.ref s_L3N), .unset] [(.int (2 : Int32))])) t
                    exact k
                  obtain ⟨_, _, ⟨T307, L307, k307, n307⟩, -, X307, ⟨Lc307, hQ307, l307, y307, z307⟩, st307⟩ := Jvm.LawKit.callS X304 hx (y := (⟨"com/example/hauora_id/hauoraid/model/ConfidenceLevelAtLeastPinLaw", "digit", "(I)I"⟩ : MethodName)) hown (mvT hZ (hw _ (List.mem_of_getElem? (i := 10) rfl))) (mvT hZ (hw _ (List.mem_of_getElem? (i := 11) rfl))) (mvT hZ (hw _ (List.mem_of_getElem? (i := 3) rfl))) (mvT hZ (hw _ (List.mem_of_getElem? (i := 12) rfl))) (by decide) (backOf (W := 0) (rm2 l Z aZ hw [] (2 : Int32) h0 n0 Z0 ) hZ (hw _ (List.mem_of_getElem? (i := 12) rfl)) (hw _ (List.mem_of_getElem? (i := 3) rfl)) (by decide) (by decide)) (g := (mkF m 27 #[.val (.int p0), .val (.int p1), .val (.int (2 : Int32)), .val (.int (4 : Int32)), .val (.ref s_L2N), .val (.ref s_L3N), .unset] [(.int (2 : Int32))])) rfl (by rw [hml]; rfl) (argsL := [(.int (2 : Int32))]) (rest := []) (lenOf pd_100 rfl) rfl (by show 2 * 0 + _ ≤ _; exact Nat.le_of_eq rfl) (hb hby at_27) (fun _ _ => ⟨rfl, e304, (by decide : 0 + 0 ≤ _), (by decide : 0 + 0 ≤ _)⟩)
                  dsimp only [Pt.U, Pt.locs, Pt.cells, Pt.slots] at X307 l307 y307 z307 st307 hQ307
                  subst l307 y307 z307
                  obtain ⟨rfl, N307q, e307⟩ := hQ307
                  have N307 := Fr.app N304 N307q
                  have go308 : ∀ t, Steps p.tables e below (T307.setTop (mkF m 30 #[.val (.int p0), .val (.int p1), .val (.int (2 : Int32)), .val (.int (4 : Int32)), .val (.ref s_L2N), .val (.ref s_L3N), .unset] [(.int (2 : Int32))])) t → Steps p.tables e below (s₁.setTop (entryFrame m #[(.int p0), (.int p1)] maxLocals)) t := fun t k => go306 _ (st307 _ k)
                  have go309 : ∀ t, Steps p.tables e below (T307.setTop (mkF m 31 #[.val (.int p0), .val (.int p1), .val (.int (2 : Int32)), .val (.int (4 : Int32)), .val (.ref s_L2N), .val (.ref s_L3N), .unset] [(.int (4 : Int32)), (.int (2 : Int32))])) t → Steps p.tables e below (s₁.setTop (entryFrame m #[(.int p0), (.int p1)] maxLocals)) t := by
                    intro t k
                    refine go308 _ ?_
                    refine XS.iloadN X307.here hx rfl (hb hby at_30) rfl ?_
                    show Steps p.tables e below (T307.setTop (mkF m 31 #[.val (.int p0), .val (.int p1), .val (.int (2 : Int32)), .val (.int (4 : Int32)), .val (.ref s_L2N), .val (.ref s_L3N), .unset] [(.int (4 : Int32)), (.int (2 : Int32))])) t
                    exact k
                  obtain ⟨_, _, ⟨T310, L310, k310, n310⟩, -, X310, ⟨Lc310, hQ310, l310, y310, z310⟩, st310⟩ := Jvm.LawKit.callS X307 hx (y := (⟨"com/example/hauora_id/hauoraid/model/ConfidenceLevelAtLeastPinLaw", "digit", "(I)I"⟩ : MethodName)) hown (mvT hZ (hw _ (List.mem_of_getElem? (i := 10) rfl))) (mvT hZ (hw _ (List.mem_of_getElem? (i := 11) rfl))) (mvT hZ (hw _ (List.mem_of_getElem? (i := 3) rfl))) (mvT hZ (hw _ (List.mem_of_getElem? (i := 12) rfl))) (by decide) (backOf (W := 1) (rm2 l Z aZ hw [] (4 : Int32) h0 n0 Z0 ) hZ (hw _ (List.mem_of_getElem? (i := 12) rfl)) (hw _ (List.mem_of_getElem? (i := 3) rfl)) (by decide) (by decide)) (g := (mkF m 31 #[.val (.int p0), .val (.int p1), .val (.int (2 : Int32)), .val (.int (4 : Int32)), .val (.ref s_L2N), .val (.ref s_L3N), .unset] [(.int (4 : Int32)), (.int (2 : Int32))])) rfl (by rw [hml]; rfl) (argsL := [(.int (4 : Int32))]) (rest := [(.int (2 : Int32))]) (lenOf pd_100 rfl) rfl (by show 2 * 0 + _ ≤ _; exact Nat.le_of_eq rfl) (hb hby at_31) (fun _ _ => ⟨rfl, e307, (by decide : 0 + 0 ≤ _), (by decide : 0 + 0 ≤ _)⟩)
                  dsimp only [Pt.U, Pt.locs, Pt.cells, Pt.slots] at X310 l310 y310 z310 st310 hQ310
                  subst l310 y310 z310
                  obtain ⟨rfl, N310q, e310⟩ := hQ310
                  have N310 := Fr.app N307 N310q
                  have go311 : ∀ t, Steps p.tables e below (T310.setTop (mkF m 34 #[.val (.int p0), .val (.int p1), .val (.int (2 : Int32)), .val (.int (4 : Int32)), .val (.ref s_L2N), .val (.ref s_L3N), .unset] [(.int (3 : Int32)), (.int (2 : Int32))])) t → Steps p.tables e below (s₁.setTop (entryFrame m #[(.int p0), (.int p1)] maxLocals)) t := fun t k => go309 _ (st310 _ k)
                  have go312 : ∀ t, Steps p.tables e below (T310.setTop (mkF m 48 #[.val (.int p0), .val (.int p1), .val (.int (2 : Int32)), .val (.int (4 : Int32)), .val (.ref s_L2N), .val (.ref s_L3N), .val (.int (0 : Int32))] [(.ref s_L3N), (.ref s_L2N)])) t → Steps p.tables e below (s₁.setTop (entryFrame m #[(.int p0), (.int p1)] maxLocals)) t := by
                    intro t k
                    refine go311 _ ?_
                    refine XS.icmpYes X310.here hx rfl (pc0 := 34) (pc' := 41) rfl (hb hby at_34) rfl (XT.ii_lt_t (by decide : ((2 : Int32) < (3 : Int32)))) (by decide) (by decide) ?_
                    show Steps p.tables e below (T310.setTop (mkF m 41 #[.val (.int p0), .val (.int p1), .val (.int (2 : Int32)), .val (.int (4 : Int32)), .val (.ref s_L2N), .val (.ref s_L3N), .unset] [])) t
                    refine XS.iconst X310.here hx rfl (hb hby at_41) ?_
                    show Steps p.tables e below (T310.setTop (mkF m 42 #[.val (.int p0), .val (.int p1), .val (.int (2 : Int32)), .val (.int (4 : Int32)), .val (.ref s_L2N), .val (.ref s_L3N), .unset] [(.int (0 : Int32))])) t
                    refine XS.istore X310.here hx rfl (hb hby at_42) rfl (l' := #[.val (.int p0), .val (.int p1), .val (.int (2 : Int32)), .val (.int (4 : Int32)), .val (.ref s_L2N), .val (.ref s_L3N), .val (.int (0 : Int32))]) rfl ?_
                    show Steps p.tables e below (T310.setTop (mkF m 44 #[.val (.int p0), .val (.int p1), .val (.int (2 : Int32)), .val (.int (4 : Int32)), .val (.ref s_L2N), .val (.ref s_L3N), .val (.int (0 : Int32))] [])) t
                    refine XS.aload X310.here hx rfl (hb hby at_44) rfl rfl ?_
                    show Steps p.tables e below (T310.setTop (mkF m 46 #[.val (.int p0), .val (.int p1), .val (.int (2 : Int32)), .val (.int (4 : Int32)), .val (.ref s_L2N), .val (.ref s_L3N), .val (.int (0 : Int32))] [(.ref s_L2N)])) t
                    refine XS.aload X310.here hx rfl (hb hby at_46) rfl rfl ?_
                    show Steps p.tables e below (T310.setTop (mkF m 48 #[.val (.int p0), .val (.int p1), .val (.int (2 : Int32)), .val (.int (4 : Int32)), .val (.ref s_L2N), .val (.ref s_L3N), .val (.int (0 : Int32))] [(.ref s_L3N), (.ref s_L2N)])) t
                    exact k
                  obtain ⟨cq313, kq313, q313a, q313b, q313c⟩ := isOf hZ e310 E_L2N
                  obtain ⟨_, _, ⟨T313, L313, k313, n313⟩, -, X313, ⟨Lc313, hQ313, l313, y313, z313⟩, st313⟩ := X310.virtualBack hx (y := (⟨"com/example/hauora_id/hauoraid/model/ConfidenceLevel", "atLeast", "(Lcom/example/hauora_id/hauoraid/model/ConfidenceLevel;)Z"⟩ : MethodName)) (z := (⟨"com/example/hauora_id/hauoraid/model/ConfidenceLevel", "atLeast", "(Lcom/example/hauora_id/hauoraid/model/ConfidenceLevel;)Z"⟩ : MethodName)) hown (mvT hZ (hw _ (List.mem_of_getElem? (i := 13) rfl))) (mvT hZ (hw _ (List.mem_of_getElem? (i := 14) rfl))) (notFace_of_selects (args := #[]) (mvT hZ (hw _ (List.mem_of_getElem? (i := 16) rfl)))) (mvT hZ (hw _ (List.mem_of_getElem? (i := 16) rfl))) (mvT hZ (hw _ (List.mem_of_getElem? (i := 15) rfl))) (by decide) (backOf (W := 0) (rm3 l Z aZ hw [] s_L2N s_L3N s_COMPACT_STRINGS s_SIOOBE_FORMATTER s_L2N_value s_L2N_value_value k_s_L2N_value_value (2 : Int32) [(.int (50 : Int32)), (.int (78 : Int32))] (50 : Int32) s_L3N_value s_L3N_value_value k_s_L3N_value_value (2 : Int32) [(.int (51 : Int32)), (.int (78 : Int32))] (51 : Int32) h0 n0 Z0 S_COMPACT_STRINGS S_SIOOBE_FORMATTER rS_SIOOBE_FORMATTER hcs F_L2N_value E_L2N_value F_L2N_value_coder F_L2N_value_value V_L2N_value_value (by decide) rfl F_L3N_value E_L3N_value F_L3N_value_coder F_L3N_value_value V_L3N_value_value (by decide) rfl) hZ (hw _ (List.mem_of_getElem? (i := 17) rfl)) (hw _ (List.mem_of_getElem? (i := 6) rfl)) (by decide) (by decide)) q313a q313c (g := (mkF m 48 #[.val (.int p0), .val (.int p1), .val (.int (2 : Int32)), .val (.int (4 : Int32)), .val (.ref s_L2N), .val (.ref s_L3N), .val (.int (0 : Int32))] [(.ref s_L3N), (.ref s_L2N)])) rfl (by rw [hml]; rfl) (Steps.refl _) (argsL := [(.ref s_L3N)]) (rest := []) (lenOf pd_101 rfl) rfl (by show 2 * 0 + _ ≤ _; exact Nat.le_of_eq rfl) (hb hby at_48) (fun _ _ => ⟨rfl, e310, (by decide : 0 + 0 ≤ _), (by decide : 0 + 0 ≤ _)⟩)
                  dsimp only [Pt.U, Pt.locs, Pt.cells, Pt.slots] at X313 l313 y313 z313 st313 hQ313
                  subst l313 y313 z313
                  obtain ⟨rfl, N313q, e313⟩ := hQ313
                  have N313 := Fr.app N310 N313q
                  have go314 : ∀ t, Steps p.tables e below (T313.setTop (mkF m 51 #[.val (.int p0), .val (.int p1), .val (.int (2 : Int32)), .val (.int (4 : Int32)), .val (.ref s_L2N), .val (.ref s_L3N), .val (.int (0 : Int32))] [(.int (f3 (50 : Int32) (51 : Int32)))])) t → Steps p.tables e below (s₁.setTop (entryFrame m #[(.int p0), (.int p1)] maxLocals)) t := fun t k => go312 _ (st313.trans k)
                  have go316 : ∀ t, Steps p.tables e below (T313.setTop (mkF m 61 #[.val (.int p0), .val (.int p1), .val (.int (2 : Int32)), .val (.int (4 : Int32)), .val (.ref s_L2N), .val (.ref s_L3N), .val (.int (0 : Int32))] [(.int b0_193)])) t → Steps p.tables e below (s₁.setTop (entryFrame m #[(.int p0), (.int p1)] maxLocals)) t := by
                    intro t k
                    refine go314 _ ?_
                    refine XS.iload X313.here hx rfl (hb hby at_51) rfl ?_
                    show Steps p.tables e below (T313.setTop (mkF m 53 #[.val (.int p0), .val (.int p1), .val (.int (2 : Int32)), .val (.int (4 : Int32)), .val (.ref s_L2N), .val (.ref s_L3N), .val (.int (0 : Int32))] [(.int (0 : Int32)), (.int (f3 (50 : Int32) (51 : Int32)))])) t
                    by_cases hc315 : (f3 (50 : Int32) (51 : Int32)) = (0 : Int32)
                    · refine XS.icmpNo X313.here hx rfl (hb hby at_53) rfl (XT.ii_ne_f hc315) ?_
                      show Steps p.tables e below (T313.setTop (mkF m 56 #[.val (.int p0), .val (.int p1), .val (.int (2 : Int32)), .val (.int (4 : Int32)), .val (.ref s_L2N), .val (.ref s_L3N), .val (.int (0 : Int32))] [])) t
                      refine XS.iconst X313.here hx rfl (hb hby at_56) ?_
                      show Steps p.tables e below (T313.setTop (mkF m 57 #[.val (.int p0), .val (.int p1), .val (.int (2 : Int32)), .val (.int (4 : Int32)), .val (.ref s_L2N), .val (.ref s_L3N), .val (.int (0 : Int32))] [(.int (1 : Int32))])) t
                      refine XS.goto X313.here hx rfl (pc0 := 57) (pc' := 61) rfl (hb hby at_57) (by decide) (by decide) ?_
                      show Steps p.tables e below (T313.setTop (mkF m 61 #[.val (.int p0), .val (.int p1), .val (.int (2 : Int32)), .val (.int (4 : Int32)), .val (.ref s_L2N), .val (.ref s_L3N), .val (.int (0 : Int32))] [(.int (1 : Int32))])) t
                      have hq317 : b0_193 = (1 : Int32) := by rw [b0_193, if_pos hc315]
                      rw [hq317] at k
                      exact k
                    · refine XS.icmpYes X313.here hx rfl (pc0 := 53) (pc' := 60) rfl (hb hby at_53) rfl (XT.ii_ne_t hc315) (by decide) (by decide) ?_
                      show Steps p.tables e below (T313.setTop (mkF m 60 #[.val (.int p0), .val (.int p1), .val (.int (2 : Int32)), .val (.int (4 : Int32)), .val (.ref s_L2N), .val (.ref s_L3N), .val (.int (0 : Int32))] [])) t
                      refine XS.iconst X313.here hx rfl (hb hby at_60) ?_
                      show Steps p.tables e below (T313.setTop (mkF m 61 #[.val (.int p0), .val (.int p1), .val (.int (2 : Int32)), .val (.int (4 : Int32)), .val (.ref s_L2N), .val (.ref s_L3N), .val (.int (0 : Int32))] [(.int (0 : Int32))])) t
                      have hq318 : b0_193 = (0 : Int32) := by rw [b0_193, if_neg hc315]
                      rw [hq318] at k
                      exact k
                  obtain ⟨fs, hr, hrun, hended, hW, hsame⟩ := X313.leave (v := some (.int b0_193)) (fun h => by rw [Bd.returns] at h; cases h)
                  refine ⟨_, _, go316 _ (Jvm.RoadKit.retOut X313 hx Bd.returns (own_nz (by unfold b0_193; (repeat' split) <;> first | exact Or.inl rfl | exact Or.inr rfl)) (Or.inl ⟨rfl, Or.inr (Or.inl rfl), _, rfl⟩) (hb hby at_61) hr), hrun, hended, _, _, rfl, ?_, ⟨_, rfl⟩, hW, hsame.mono (by decide) (by decide)⟩
                  show Q0 _ _ p0 p1 s_L1 s_L3 s_L1_value s_L1_value_value s_L3_value s_L3_value_value s_L3N s_L2 s_L3N_value s_L3N_value_value s_L2_value s_L2_value_value s_L2N s_L2N_value s_L2N_value_value k_s_L1_value_value k_s_L3_value_value k_s_L3N_value_value k_s_L2_value_value k_s_L2N_value_value s_COMPACT_STRINGS s_SIOOBE_FORMATTER h0 _ (T313.setFrames fs).heap _
                  have hE : (T313.setFrames fs).heap = h0 := e313
                  rw [hE]
                  exact ⟨congrArg (fun z => some (Value.int z)) ((by rw [f0, if_neg hs4, if_neg hs110, if_pos hs216, if_neg hs219, if_neg hs239, if_neg hs259, if_neg hs279, if_pos hs299] : b0_193 = (f0 p0 p1)).trans (f0_one p0 p1)), N313⟩
                · exact (own_dead5 p1 hs219 hs239 hs259 hs279 hs299).elim
      · by_cases hs319 : (v0_1 p0) = (3 : Int32)
        · have go320 : ∀ t, Steps p.tables e below (s₁.setTop (mkF m 14 #[.val (.int p0), .val (.int p1), .val (.int (3 : Int32)), .val (.int (v0_2 p1)), .unset, .unset, .unset] [])) t → Steps p.tables e below (s₁.setTop (entryFrame m #[(.int p0), (.int p1)] maxLocals)) t := by
            have q := go3
            rw [hs319] at q
            exact q
          have go321 : ∀ t, Steps p.tables e below (s₁.setTop (mkF m 15 #[.val (.int p0), .val (.int p1), .val (.int (3 : Int32)), .val (.int (v0_2 p1)), .unset, .unset, .unset] [(.int (3 : Int32))])) t → Steps p.tables e below (s₁.setTop (entryFrame m #[(.int p0), (.int p1)] maxLocals)) t := by
            intro t k
            refine go320 _ ?_
            refine XS.iloadN X0.here hx rfl (hb hby at_14) rfl ?_
            show Steps p.tables e below (s₁.setTop (mkF m 15 #[.val (.int p0), .val (.int p1), .val (.int (3 : Int32)), .val (.int (v0_2 p1)), .unset, .unset, .unset] [(.int (3 : Int32))])) t
            exact k
          by_cases hs322 : (v0_2 p1) = (0 : Int32)
          · have go323 : ∀ t, Steps p.tables e below (s₁.setTop (mkF m 15 #[.val (.int p0), .val (.int p1), .val (.int (3 : Int32)), .val (.int (0 : Int32)), .unset, .unset, .unset] [(.int (3 : Int32))])) t → Steps p.tables e below (s₁.setTop (entryFrame m #[(.int p0), (.int p1)] maxLocals)) t := by
              have q := go321
              rw [hs322] at q
              exact q
            obtain ⟨_, _, ⟨T324, L324, k324, n324⟩, -, X324, ⟨Lc324, hQ324, l324, y324, z324⟩, st324⟩ := Jvm.LawKit.callS X0 hx (y := (⟨"com/example/hauora_id/hauoraid/model/ConfidenceLevelAtLeastPinLaw", "pick", "(I)Lcom/example/hauora_id/hauoraid/model/ConfidenceLevel;"⟩ : MethodName)) hown (mvT hZ (hw _ (List.mem_of_getElem? (i := 1) rfl))) (mvT hZ (hw _ (List.mem_of_getElem? (i := 2) rfl))) (mvT hZ (hw _ (List.mem_of_getElem? (i := 3) rfl))) (mvT hZ (hw _ (List.mem_of_getElem? (i := 4) rfl))) (by decide) (backOf (W := 0) (rm1 l Z aZ hw [] (3 : Int32) s_L1 s_L2 s_L2N s_L3 s_L3N h0 n0 Z0 S_L1 S_L2 S_L2N S_L3 S_L3N) hZ (hw _ (List.mem_of_getElem? (i := 4) rfl)) (hw _ (List.mem_of_getElem? (i := 3) rfl)) (by decide) (by decide)) (g := (mkF m 15 #[.val (.int p0), .val (.int p1), .val (.int (3 : Int32)), .val (.int (0 : Int32)), .unset, .unset, .unset] [(.int (3 : Int32))])) rfl (by rw [hml]; rfl) (argsL := [(.int (3 : Int32))]) (rest := []) (lenOf pd_99 rfl) rfl (by show 2 * 0 + _ ≤ _; exact Nat.le_of_eq rfl) (hb hby at_15) (fun _ _ => ⟨rfl, e0, (by decide : 0 + 0 ≤ _), (by decide : 0 + 0 ≤ _)⟩)
            dsimp only [Pt.U, Pt.locs, Pt.cells, Pt.slots] at X324 l324 y324 z324 st324 hQ324
            subst l324 y324 z324
            obtain ⟨rfl, N324q, e324⟩ := hQ324
            have N324 := Fr.app N0 N324q
            have go325 : ∀ t, Steps p.tables e below (T324.setTop (mkF m 18 #[.val (.int p0), .val (.int p1), .val (.int (3 : Int32)), .val (.int (0 : Int32)), .unset, .unset, .unset] [(.ref s_L3)])) t → Steps p.tables e below (s₁.setTop (entryFrame m #[(.int p0), (.int p1)] maxLocals)) t := fun t k => go323 _ (st324 _ k)
            have go326 : ∀ t, Steps p.tables e below (T324.setTop (mkF m 21 #[.val (.int p0), .val (.int p1), .val (.int (3 : Int32)), .val (.int (0 : Int32)), .val (.ref s_L3), .unset, .unset] [(.int (0 : Int32))])) t → Steps p.tables e below (s₁.setTop (entryFrame m #[(.int p0), (.int p1)] maxLocals)) t := by
              intro t k
              refine go325 _ ?_
              refine XS.astore X324.here hx rfl (hb hby at_18) rfl rfl (l' := #[.val (.int p0), .val (.int p1), .val (.int (3 : Int32)), .val (.int (0 : Int32)), .val (.ref s_L3), .unset, .unset]) rfl ?_
              show Steps p.tables e below (T324.setTop (mkF m 20 #[.val (.int p0), .val (.int p1), .val (.int (3 : Int32)), .val (.int (0 : Int32)), .val (.ref s_L3), .unset, .unset] [])) t
              refine XS.iloadN X324.here hx rfl (hb hby at_20) rfl ?_
              show Steps p.tables e below (T324.setTop (mkF m 21 #[.val (.int p0), .val (.int p1), .val (.int (3 : Int32)), .val (.int (0 : Int32)), .val (.ref s_L3), .unset, .unset] [(.int (0 : Int32))])) t
              exact k
            obtain ⟨_, _, ⟨T327, L327, k327, n327⟩, -, X327, ⟨Lc327, hQ327, l327, y327, z327⟩, st327⟩ := Jvm.LawKit.callS X324 hx (y := (⟨"com/example/hauora_id/hauoraid/model/ConfidenceLevelAtLeastPinLaw", "pick", "(I)Lcom/example/hauora_id/hauoraid/model/ConfidenceLevel;"⟩ : MethodName)) hown (mvT hZ (hw _ (List.mem_of_getElem? (i := 1) rfl))) (mvT hZ (hw _ (List.mem_of_getElem? (i := 2) rfl))) (mvT hZ (hw _ (List.mem_of_getElem? (i := 3) rfl))) (mvT hZ (hw _ (List.mem_of_getElem? (i := 4) rfl))) (by decide) (backOf (W := 0) (rm1 l Z aZ hw [] (0 : Int32) s_L1 s_L2 s_L2N s_L3 s_L3N h0 n0 Z0 S_L1 S_L2 S_L2N S_L3 S_L3N) hZ (hw _ (List.mem_of_getElem? (i := 4) rfl)) (hw _ (List.mem_of_getElem? (i := 3) rfl)) (by decide) (by decide)) (g := (mkF m 21 #[.val (.int p0), .val (.int p1), .val (.int (3 : Int32)), .val (.int (0 : Int32)), .val (.ref s_L3), .unset, .unset] [(.int (0 : Int32))])) rfl (by rw [hml]; rfl) (argsL := [(.int (0 : Int32))]) (rest := []) (lenOf pd_99 rfl) rfl (by show 2 * 0 + _ ≤ _; exact Nat.le_of_eq rfl) (hb hby at_21) (fun _ _ => ⟨rfl, e324, (by decide : 0 + 0 ≤ _), (by decide : 0 + 0 ≤ _)⟩)
            dsimp only [Pt.U, Pt.locs, Pt.cells, Pt.slots] at X327 l327 y327 z327 st327 hQ327
            subst l327 y327 z327
            obtain ⟨rfl, N327q, e327⟩ := hQ327
            have N327 := Fr.app N324 N327q
            have go328 : ∀ t, Steps p.tables e below (T327.setTop (mkF m 24 #[.val (.int p0), .val (.int p1), .val (.int (3 : Int32)), .val (.int (0 : Int32)), .val (.ref s_L3), .unset, .unset] [(.ref s_L1)])) t → Steps p.tables e below (s₁.setTop (entryFrame m #[(.int p0), (.int p1)] maxLocals)) t := fun t k => go326 _ (st327 _ k)
            have go329 : ∀ t, Steps p.tables e below (T327.setTop (mkF m 27 #[.val (.int p0), .val (.int p1), .val (.int (3 : Int32)), .val (.int (0 : Int32)), .val (.ref s_L3), .val (.ref s_L1), .unset] [(.int (3 : Int32))])) t → Steps p.tables e below (s₁.setTop (entryFrame m #[(.int p0), (.int p1)] maxLocals)) t := by
              intro t k
              refine go328 _ ?_
              refine XS.astore X327.here hx rfl (hb hby at_24) rfl rfl (l' := #[.val (.int p0), .val (.int p1), .val (.int (3 : Int32)), .val (.int (0 : Int32)), .val (.ref s_L3), .val (.ref s_L1), .unset]) rfl ?_
              show Steps p.tables e below (T327.setTop (mkF m 26 #[.val (.int p0), .val (.int p1), .val (.int (3 : Int32)), .val (.int (0 : Int32)), .val (.ref s_L3), .val (.ref s_L1), .unset] [])) t
              refine XS.iloadN X327.here hx rfl (hb hby at_26) rfl ?_
              show Steps p.tables e below (T327.setTop (mkF m 27 #[.val (.int p0), .val (.int p1), .val (.int (3 : Int32)), .val (.int (0 : Int32)), .val (.ref s_L3), .val (.ref s_L1), .unset] [(.int (3 : Int32))])) t
              exact k
            obtain ⟨_, _, ⟨T330, L330, k330, n330⟩, -, X330, ⟨Lc330, hQ330, l330, y330, z330⟩, st330⟩ := Jvm.LawKit.callS X327 hx (y := (⟨"com/example/hauora_id/hauoraid/model/ConfidenceLevelAtLeastPinLaw", "digit", "(I)I"⟩ : MethodName)) hown (mvT hZ (hw _ (List.mem_of_getElem? (i := 10) rfl))) (mvT hZ (hw _ (List.mem_of_getElem? (i := 11) rfl))) (mvT hZ (hw _ (List.mem_of_getElem? (i := 3) rfl))) (mvT hZ (hw _ (List.mem_of_getElem? (i := 12) rfl))) (by decide) (backOf (W := 0) (rm2 l Z aZ hw [] (3 : Int32) h0 n0 Z0 ) hZ (hw _ (List.mem_of_getElem? (i := 12) rfl)) (hw _ (List.mem_of_getElem? (i := 3) rfl)) (by decide) (by decide)) (g := (mkF m 27 #[.val (.int p0), .val (.int p1), .val (.int (3 : Int32)), .val (.int (0 : Int32)), .val (.ref s_L3), .val (.ref s_L1), .unset] [(.int (3 : Int32))])) rfl (by rw [hml]; rfl) (argsL := [(.int (3 : Int32))]) (rest := []) (lenOf pd_100 rfl) rfl (by show 2 * 0 + _ ≤ _; exact Nat.le_of_eq rfl) (hb hby at_27) (fun _ _ => ⟨rfl, e327, (by decide : 0 + 0 ≤ _), (by decide : 0 + 0 ≤ _)⟩)
            dsimp only [Pt.U, Pt.locs, Pt.cells, Pt.slots] at X330 l330 y330 z330 st330 hQ330
            subst l330 y330 z330
            obtain ⟨rfl, N330q, e330⟩ := hQ330
            have N330 := Fr.app N327 N330q
            have go331 : ∀ t, Steps p.tables e below (T330.setTop (mkF m 30 #[.val (.int p0), .val (.int p1), .val (.int (3 : Int32)), .val (.int (0 : Int32)), .val (.ref s_L3), .val (.ref s_L1), .unset] [(.int (3 : Int32))])) t → Steps p.tables e below (s₁.setTop (entryFrame m #[(.int p0), (.int p1)] maxLocals)) t := fun t k => go329 _ (st330 _ k)
            have go332 : ∀ t, Steps p.tables e below (T330.setTop (mkF m 31 #[.val (.int p0), .val (.int p1), .val (.int (3 : Int32)), .val (.int (0 : Int32)), .val (.ref s_L3), .val (.ref s_L1), .unset] [(.int (0 : Int32)), (.int (3 : Int32))])) t → Steps p.tables e below (s₁.setTop (entryFrame m #[(.int p0), (.int p1)] maxLocals)) t := by
              intro t k
              refine go331 _ ?_
              refine XS.iloadN X330.here hx rfl (hb hby at_30) rfl ?_
              show Steps p.tables e below (T330.setTop (mkF m 31 #[.val (.int p0), .val (.int p1), .val (.int (3 : Int32)), .val (.int (0 : Int32)), .val (.ref s_L3), .val (.ref s_L1), .unset] [(.int (0 : Int32)), (.int (3 : Int32))])) t
              exact k
            obtain ⟨_, _, ⟨T333, L333, k333, n333⟩, -, X333, ⟨Lc333, hQ333, l333, y333, z333⟩, st333⟩ := Jvm.LawKit.callS X330 hx (y := (⟨"com/example/hauora_id/hauoraid/model/ConfidenceLevelAtLeastPinLaw", "digit", "(I)I"⟩ : MethodName)) hown (mvT hZ (hw _ (List.mem_of_getElem? (i := 10) rfl))) (mvT hZ (hw _ (List.mem_of_getElem? (i := 11) rfl))) (mvT hZ (hw _ (List.mem_of_getElem? (i := 3) rfl))) (mvT hZ (hw _ (List.mem_of_getElem? (i := 12) rfl))) (by decide) (backOf (W := 1) (rm2 l Z aZ hw [] (0 : Int32) h0 n0 Z0 ) hZ (hw _ (List.mem_of_getElem? (i := 12) rfl)) (hw _ (List.mem_of_getElem? (i := 3) rfl)) (by decide) (by decide)) (g := (mkF m 31 #[.val (.int p0), .val (.int p1), .val (.int (3 : Int32)), .val (.int (0 : Int32)), .val (.ref s_L3), .val (.ref s_L1), .unset] [(.int (0 : Int32)), (.int (3 : Int32))])) rfl (by rw [hml]; rfl) (argsL := [(.int (0 : Int32))]) (rest := [(.int (3 : Int32))]) (lenOf pd_100 rfl) rfl (by show 2 * 0 + _ ≤ _; exact Nat.le_of_eq rfl) (hb hby at_31) (fun _ _ => ⟨rfl, e330, (by decide : 0 + 0 ≤ _), (by decide : 0 + 0 ≤ _)⟩)
            dsimp only [Pt.U, Pt.locs, Pt.cells, Pt.slots] at X333 l333 y333 z333 st333 hQ333
            subst l333 y333 z333
            obtain ⟨rfl, N333q, e333⟩ := hQ333
            have N333 := Fr.app N330 N333q
            have go334 : ∀ t, Steps p.tables e below (T333.setTop (mkF m 34 #[.val (.int p0), .val (.int p1), .val (.int (3 : Int32)), .val (.int (0 : Int32)), .val (.ref s_L3), .val (.ref s_L1), .unset] [(.int (1 : Int32)), (.int (3 : Int32))])) t → Steps p.tables e below (s₁.setTop (entryFrame m #[(.int p0), (.int p1)] maxLocals)) t := fun t k => go332 _ (st333 _ k)
            have go335 : ∀ t, Steps p.tables e below (T333.setTop (mkF m 48 #[.val (.int p0), .val (.int p1), .val (.int (3 : Int32)), .val (.int (0 : Int32)), .val (.ref s_L3), .val (.ref s_L1), .val (.int (1 : Int32))] [(.ref s_L1), (.ref s_L3)])) t → Steps p.tables e below (s₁.setTop (entryFrame m #[(.int p0), (.int p1)] maxLocals)) t := by
              intro t k
              refine go334 _ ?_
              refine XS.icmpNo X333.here hx rfl (hb hby at_34) rfl (XT.ii_lt_f (by decide : ¬ ((3 : Int32) < (1 : Int32)))) ?_
              show Steps p.tables e below (T333.setTop (mkF m 37 #[.val (.int p0), .val (.int p1), .val (.int (3 : Int32)), .val (.int (0 : Int32)), .val (.ref s_L3), .val (.ref s_L1), .unset] [])) t
              refine XS.iconst X333.here hx rfl (hb hby at_37) ?_
              show Steps p.tables e below (T333.setTop (mkF m 38 #[.val (.int p0), .val (.int p1), .val (.int (3 : Int32)), .val (.int (0 : Int32)), .val (.ref s_L3), .val (.ref s_L1), .unset] [(.int (1 : Int32))])) t
              refine XS.goto X333.here hx rfl (pc0 := 38) (pc' := 42) rfl (hb hby at_38) (by decide) (by decide) ?_
              show Steps p.tables e below (T333.setTop (mkF m 42 #[.val (.int p0), .val (.int p1), .val (.int (3 : Int32)), .val (.int (0 : Int32)), .val (.ref s_L3), .val (.ref s_L1), .unset] [(.int (1 : Int32))])) t
              refine XS.istore X333.here hx rfl (hb hby at_42) rfl (l' := #[.val (.int p0), .val (.int p1), .val (.int (3 : Int32)), .val (.int (0 : Int32)), .val (.ref s_L3), .val (.ref s_L1), .val (.int (1 : Int32))]) rfl ?_
              show Steps p.tables e below (T333.setTop (mkF m 44 #[.val (.int p0), .val (.int p1), .val (.int (3 : Int32)), .val (.int (0 : Int32)), .val (.ref s_L3), .val (.ref s_L1), .val (.int (1 : Int32))] [])) t
              refine XS.aload X333.here hx rfl (hb hby at_44) rfl rfl ?_
              show Steps p.tables e below (T333.setTop (mkF m 46 #[.val (.int p0), .val (.int p1), .val (.int (3 : Int32)), .val (.int (0 : Int32)), .val (.ref s_L3), .val (.ref s_L1), .val (.int (1 : Int32))] [(.ref s_L3)])) t
              refine XS.aload X333.here hx rfl (hb hby at_46) rfl rfl ?_
              show Steps p.tables e below (T333.setTop (mkF m 48 #[.val (.int p0), .val (.int p1), .val (.int (3 : Int32)), .val (.int (0 : Int32)), .val (.ref s_L3), .val (.ref s_L1), .val (.int (1 : Int32))] [(.ref s_L1), (.ref s_L3)])) t
              exact k
            obtain ⟨cq336, kq336, q336a, q336b, q336c⟩ := isOf hZ e333 E_L3
            obtain ⟨_, _, ⟨T336, L336, k336, n336⟩, -, X336, ⟨Lc336, hQ336, l336, y336, z336⟩, st336⟩ := X333.virtualBack hx (y := (⟨"com/example/hauora_id/hauoraid/model/ConfidenceLevel", "atLeast", "(Lcom/example/hauora_id/hauoraid/model/ConfidenceLevel;)Z"⟩ : MethodName)) (z := (⟨"com/example/hauora_id/hauoraid/model/ConfidenceLevel", "atLeast", "(Lcom/example/hauora_id/hauoraid/model/ConfidenceLevel;)Z"⟩ : MethodName)) hown (mvT hZ (hw _ (List.mem_of_getElem? (i := 13) rfl))) (mvT hZ (hw _ (List.mem_of_getElem? (i := 14) rfl))) (notFace_of_selects (args := #[]) (mvT hZ (hw _ (List.mem_of_getElem? (i := 16) rfl)))) (mvT hZ (hw _ (List.mem_of_getElem? (i := 16) rfl))) (mvT hZ (hw _ (List.mem_of_getElem? (i := 15) rfl))) (by decide) (backOf (W := 0) (rm3 l Z aZ hw [] s_L3 s_L1 s_COMPACT_STRINGS s_SIOOBE_FORMATTER s_L3_value s_L3_value_value k_s_L3_value_value (1 : Int32) [(.int (51 : Int32))] (51 : Int32) s_L1_value s_L1_value_value k_s_L1_value_value (1 : Int32) [(.int (49 : Int32))] (49 : Int32) h0 n0 Z0 S_COMPACT_STRINGS S_SIOOBE_FORMATTER rS_SIOOBE_FORMATTER hcs F_L3_value E_L3_value F_L3_value_coder F_L3_value_value V_L3_value_value (by decide) rfl F_L1_value E_L1_value F_L1_value_coder F_L1_value_value V_L1_value_value (by decide) rfl) hZ (hw _ (List.mem_of_getElem? (i := 17) rfl)) (hw _ (List.mem_of_getElem? (i := 6) rfl)) (by decide) (by decide)) q336a q336c (g := (mkF m 48 #[.val (.int p0), .val (.int p1), .val (.int (3 : Int32)), .val (.int (0 : Int32)), .val (.ref s_L3), .val (.ref s_L1), .val (.int (1 : Int32))] [(.ref s_L1), (.ref s_L3)])) rfl (by rw [hml]; rfl) (Steps.refl _) (argsL := [(.ref s_L1)]) (rest := []) (lenOf pd_101 rfl) rfl (by show 2 * 0 + _ ≤ _; exact Nat.le_of_eq rfl) (hb hby at_48) (fun _ _ => ⟨rfl, e333, (by decide : 0 + 0 ≤ _), (by decide : 0 + 0 ≤ _)⟩)
            dsimp only [Pt.U, Pt.locs, Pt.cells, Pt.slots] at X336 l336 y336 z336 st336 hQ336
            subst l336 y336 z336
            obtain ⟨rfl, N336q, e336⟩ := hQ336
            have N336 := Fr.app N333 N336q
            have go337 : ∀ t, Steps p.tables e below (T336.setTop (mkF m 51 #[.val (.int p0), .val (.int p1), .val (.int (3 : Int32)), .val (.int (0 : Int32)), .val (.ref s_L3), .val (.ref s_L1), .val (.int (1 : Int32))] [(.int (f3 (51 : Int32) (49 : Int32)))])) t → Steps p.tables e below (s₁.setTop (entryFrame m #[(.int p0), (.int p1)] maxLocals)) t := fun t k => go335 _ (st336.trans k)
            have go339 : ∀ t, Steps p.tables e below (T336.setTop (mkF m 61 #[.val (.int p0), .val (.int p1), .val (.int (3 : Int32)), .val (.int (0 : Int32)), .val (.ref s_L3), .val (.ref s_L1), .val (.int (1 : Int32))] [(.int b0_340)])) t → Steps p.tables e below (s₁.setTop (entryFrame m #[(.int p0), (.int p1)] maxLocals)) t := by
              intro t k
              refine go337 _ ?_
              refine XS.iload X336.here hx rfl (hb hby at_51) rfl ?_
              show Steps p.tables e below (T336.setTop (mkF m 53 #[.val (.int p0), .val (.int p1), .val (.int (3 : Int32)), .val (.int (0 : Int32)), .val (.ref s_L3), .val (.ref s_L1), .val (.int (1 : Int32))] [(.int (1 : Int32)), (.int (f3 (51 : Int32) (49 : Int32)))])) t
              by_cases hc338 : (f3 (51 : Int32) (49 : Int32)) = (1 : Int32)
              · refine XS.icmpNo X336.here hx rfl (hb hby at_53) rfl (XT.ii_ne_f hc338) ?_
                show Steps p.tables e below (T336.setTop (mkF m 56 #[.val (.int p0), .val (.int p1), .val (.int (3 : Int32)), .val (.int (0 : Int32)), .val (.ref s_L3), .val (.ref s_L1), .val (.int (1 : Int32))] [])) t
                refine XS.iconst X336.here hx rfl (hb hby at_56) ?_
                show Steps p.tables e below (T336.setTop (mkF m 57 #[.val (.int p0), .val (.int p1), .val (.int (3 : Int32)), .val (.int (0 : Int32)), .val (.ref s_L3), .val (.ref s_L1), .val (.int (1 : Int32))] [(.int (1 : Int32))])) t
                refine XS.goto X336.here hx rfl (pc0 := 57) (pc' := 61) rfl (hb hby at_57) (by decide) (by decide) ?_
                show Steps p.tables e below (T336.setTop (mkF m 61 #[.val (.int p0), .val (.int p1), .val (.int (3 : Int32)), .val (.int (0 : Int32)), .val (.ref s_L3), .val (.ref s_L1), .val (.int (1 : Int32))] [(.int (1 : Int32))])) t
                have hq341 : b0_340 = (1 : Int32) := by rw [b0_340, if_pos hc338]
                rw [hq341] at k
                exact k
              · refine XS.icmpYes X336.here hx rfl (pc0 := 53) (pc' := 60) rfl (hb hby at_53) rfl (XT.ii_ne_t hc338) (by decide) (by decide) ?_
                show Steps p.tables e below (T336.setTop (mkF m 60 #[.val (.int p0), .val (.int p1), .val (.int (3 : Int32)), .val (.int (0 : Int32)), .val (.ref s_L3), .val (.ref s_L1), .val (.int (1 : Int32))] [])) t
                refine XS.iconst X336.here hx rfl (hb hby at_60) ?_
                show Steps p.tables e below (T336.setTop (mkF m 61 #[.val (.int p0), .val (.int p1), .val (.int (3 : Int32)), .val (.int (0 : Int32)), .val (.ref s_L3), .val (.ref s_L1), .val (.int (1 : Int32))] [(.int (0 : Int32))])) t
                have hq342 : b0_340 = (0 : Int32) := by rw [b0_340, if_neg hc338]
                rw [hq342] at k
                exact k
            obtain ⟨fs, hr, hrun, hended, hW, hsame⟩ := X336.leave (v := some (.int b0_340)) (fun h => by rw [Bd.returns] at h; cases h)
            refine ⟨_, _, go339 _ (Jvm.RoadKit.retOut X336 hx Bd.returns (own_nz (by unfold b0_340; (repeat' split) <;> first | exact Or.inl rfl | exact Or.inr rfl)) (Or.inl ⟨rfl, Or.inr (Or.inl rfl), _, rfl⟩) (hb hby at_61) hr), hrun, hended, _, _, rfl, ?_, ⟨_, rfl⟩, hW, hsame.mono (by decide) (by decide)⟩
            show Q0 _ _ p0 p1 s_L1 s_L3 s_L1_value s_L1_value_value s_L3_value s_L3_value_value s_L3N s_L2 s_L3N_value s_L3N_value_value s_L2_value s_L2_value_value s_L2N s_L2N_value s_L2N_value_value k_s_L1_value_value k_s_L3_value_value k_s_L3N_value_value k_s_L2_value_value k_s_L2N_value_value s_COMPACT_STRINGS s_SIOOBE_FORMATTER h0 _ (T336.setFrames fs).heap _
            have hE : (T336.setFrames fs).heap = h0 := e336
            rw [hE]
            exact ⟨congrArg (fun z => some (Value.int z)) ((by rw [f0, if_neg hs4, if_neg hs110, if_neg hs216, if_pos hs319, if_pos hs322] : b0_340 = (f0 p0 p1)).trans (f0_one p0 p1)), N336⟩
          · by_cases hs343 : (v0_2 p1) = (1 : Int32)
            · have go344 : ∀ t, Steps p.tables e below (s₁.setTop (mkF m 15 #[.val (.int p0), .val (.int p1), .val (.int (3 : Int32)), .val (.int (1 : Int32)), .unset, .unset, .unset] [(.int (3 : Int32))])) t → Steps p.tables e below (s₁.setTop (entryFrame m #[(.int p0), (.int p1)] maxLocals)) t := by
                have q := go321
                rw [hs343] at q
                exact q
              obtain ⟨_, _, ⟨T345, L345, k345, n345⟩, -, X345, ⟨Lc345, hQ345, l345, y345, z345⟩, st345⟩ := Jvm.LawKit.callS X0 hx (y := (⟨"com/example/hauora_id/hauoraid/model/ConfidenceLevelAtLeastPinLaw", "pick", "(I)Lcom/example/hauora_id/hauoraid/model/ConfidenceLevel;"⟩ : MethodName)) hown (mvT hZ (hw _ (List.mem_of_getElem? (i := 1) rfl))) (mvT hZ (hw _ (List.mem_of_getElem? (i := 2) rfl))) (mvT hZ (hw _ (List.mem_of_getElem? (i := 3) rfl))) (mvT hZ (hw _ (List.mem_of_getElem? (i := 4) rfl))) (by decide) (backOf (W := 0) (rm1 l Z aZ hw [] (3 : Int32) s_L1 s_L2 s_L2N s_L3 s_L3N h0 n0 Z0 S_L1 S_L2 S_L2N S_L3 S_L3N) hZ (hw _ (List.mem_of_getElem? (i := 4) rfl)) (hw _ (List.mem_of_getElem? (i := 3) rfl)) (by decide) (by decide)) (g := (mkF m 15 #[.val (.int p0), .val (.int p1), .val (.int (3 : Int32)), .val (.int (1 : Int32)), .unset, .unset, .unset] [(.int (3 : Int32))])) rfl (by rw [hml]; rfl) (argsL := [(.int (3 : Int32))]) (rest := []) (lenOf pd_99 rfl) rfl (by show 2 * 0 + _ ≤ _; exact Nat.le_of_eq rfl) (hb hby at_15) (fun _ _ => ⟨rfl, e0, (by decide : 0 + 0 ≤ _), (by decide : 0 + 0 ≤ _)⟩)
              dsimp only [Pt.U, Pt.locs, Pt.cells, Pt.slots] at X345 l345 y345 z345 st345 hQ345
              subst l345 y345 z345
              obtain ⟨rfl, N345q, e345⟩ := hQ345
              have N345 := Fr.app N0 N345q
              have go346 : ∀ t, Steps p.tables e below (T345.setTop (mkF m 18 #[.val (.int p0), .val (.int p1), .val (.int (3 : Int32)), .val (.int (1 : Int32)), .unset, .unset, .unset] [(.ref s_L3)])) t → Steps p.tables e below (s₁.setTop (entryFrame m #[(.int p0), (.int p1)] maxLocals)) t := fun t k => go344 _ (st345 _ k)
              have go347 : ∀ t, Steps p.tables e below (T345.setTop (mkF m 21 #[.val (.int p0), .val (.int p1), .val (.int (3 : Int32)), .val (.int (1 : Int32)), .val (.ref s_L3), .unset, .unset] [(.int (1 : Int32))])) t → Steps p.tables e below (s₁.setTop (entryFrame m #[(.int p0), (.int p1)] maxLocals)) t := by
                intro t k
                refine go346 _ ?_
                refine XS.astore X345.here hx rfl (hb hby at_18) rfl rfl (l' := #[.val (.int p0), .val (.int p1), .val (.int (3 : Int32)), .val (.int (1 : Int32)), .val (.ref s_L3), .unset, .unset]) rfl ?_
                show Steps p.tables e below (T345.setTop (mkF m 20 #[.val (.int p0), .val (.int p1), .val (.int (3 : Int32)), .val (.int (1 : Int32)), .val (.ref s_L3), .unset, .unset] [])) t
                refine XS.iloadN X345.here hx rfl (hb hby at_20) rfl ?_
                show Steps p.tables e below (T345.setTop (mkF m 21 #[.val (.int p0), .val (.int p1), .val (.int (3 : Int32)), .val (.int (1 : Int32)), .val (.ref s_L3), .unset, .unset] [(.int (1 : Int32))])) t
                exact k
              obtain ⟨_, _, ⟨T348, L348, k348, n348⟩, -, X348, ⟨Lc348, hQ348, l348, y348, z348⟩, st348⟩ := Jvm.LawKit.callS X345 hx (y := (⟨"com/example/hauora_id/hauoraid/model/ConfidenceLevelAtLeastPinLaw", "pick", "(I)Lcom/example/hauora_id/hauoraid/model/ConfidenceLevel;"⟩ : MethodName)) hown (mvT hZ (hw _ (List.mem_of_getElem? (i := 1) rfl))) (mvT hZ (hw _ (List.mem_of_getElem? (i := 2) rfl))) (mvT hZ (hw _ (List.mem_of_getElem? (i := 3) rfl))) (mvT hZ (hw _ (List.mem_of_getElem? (i := 4) rfl))) (by decide) (backOf (W := 0) (rm1 l Z aZ hw [] (1 : Int32) s_L1 s_L2 s_L2N s_L3 s_L3N h0 n0 Z0 S_L1 S_L2 S_L2N S_L3 S_L3N) hZ (hw _ (List.mem_of_getElem? (i := 4) rfl)) (hw _ (List.mem_of_getElem? (i := 3) rfl)) (by decide) (by decide)) (g := (mkF m 21 #[.val (.int p0), .val (.int p1), .val (.int (3 : Int32)), .val (.int (1 : Int32)), .val (.ref s_L3), .unset, .unset] [(.int (1 : Int32))])) rfl (by rw [hml]; rfl) (argsL := [(.int (1 : Int32))]) (rest := []) (lenOf pd_99 rfl) rfl (by show 2 * 0 + _ ≤ _; exact Nat.le_of_eq rfl) (hb hby at_21) (fun _ _ => ⟨rfl, e345, (by decide : 0 + 0 ≤ _), (by decide : 0 + 0 ≤ _)⟩)
              dsimp only [Pt.U, Pt.locs, Pt.cells, Pt.slots] at X348 l348 y348 z348 st348 hQ348
              subst l348 y348 z348
              obtain ⟨rfl, N348q, e348⟩ := hQ348
              have N348 := Fr.app N345 N348q
              have go349 : ∀ t, Steps p.tables e below (T348.setTop (mkF m 24 #[.val (.int p0), .val (.int p1), .val (.int (3 : Int32)), .val (.int (1 : Int32)), .val (.ref s_L3), .unset, .unset] [(.ref s_L2)])) t → Steps p.tables e below (s₁.setTop (entryFrame m #[(.int p0), (.int p1)] maxLocals)) t := fun t k => go347 _ (st348 _ k)
              have go350 : ∀ t, Steps p.tables e below (T348.setTop (mkF m 27 #[.val (.int p0), .val (.int p1), .val (.int (3 : Int32)), .val (.int (1 : Int32)), .val (.ref s_L3), .val (.ref s_L2), .unset] [(.int (3 : Int32))])) t → Steps p.tables e below (s₁.setTop (entryFrame m #[(.int p0), (.int p1)] maxLocals)) t := by
                intro t k
                refine go349 _ ?_
                refine XS.astore X348.here hx rfl (hb hby at_24) rfl rfl (l' := #[.val (.int p0), .val (.int p1), .val (.int (3 : Int32)), .val (.int (1 : Int32)), .val (.ref s_L3), .val (.ref s_L2), .unset]) rfl ?_
                show Steps p.tables e below (T348.setTop (mkF m 26 #[.val (.int p0), .val (.int p1), .val (.int (3 : Int32)), .val (.int (1 : Int32)), .val (.ref s_L3), .val (.ref s_L2), .unset] [])) t
                refine XS.iloadN X348.here hx rfl (hb hby at_26) rfl ?_
                show Steps p.tables e below (T348.setTop (mkF m 27 #[.val (.int p0), .val (.int p1), .val (.int (3 : Int32)), .val (.int (1 : Int32)), .val (.ref s_L3), .val (.ref s_L2), .unset] [(.int (3 : Int32))])) t
                exact k
              obtain ⟨_, _, ⟨T351, L351, k351, n351⟩, -, X351, ⟨Lc351, hQ351, l351, y351, z351⟩, st351⟩ := Jvm.LawKit.callS X348 hx (y := (⟨"com/example/hauora_id/hauoraid/model/ConfidenceLevelAtLeastPinLaw", "digit", "(I)I"⟩ : MethodName)) hown (mvT hZ (hw _ (List.mem_of_getElem? (i := 10) rfl))) (mvT hZ (hw _ (List.mem_of_getElem? (i := 11) rfl))) (mvT hZ (hw _ (List.mem_of_getElem? (i := 3) rfl))) (mvT hZ (hw _ (List.mem_of_getElem? (i := 12) rfl))) (by decide) (backOf (W := 0) (rm2 l Z aZ hw [] (3 : Int32) h0 n0 Z0 ) hZ (hw _ (List.mem_of_getElem? (i := 12) rfl)) (hw _ (List.mem_of_getElem? (i := 3) rfl)) (by decide) (by decide)) (g := (mkF m 27 #[.val (.int p0), .val (.int p1), .val (.int (3 : Int32)), .val (.int (1 : Int32)), .val (.ref s_L3), .val (.ref s_L2), .unset] [(.int (3 : Int32))])) rfl (by rw [hml]; rfl) (argsL := [(.int (3 : Int32))]) (rest := []) (lenOf pd_100 rfl) rfl (by show 2 * 0 + _ ≤ _; exact Nat.le_of_eq rfl) (hb hby at_27) (fun _ _ => ⟨rfl, e348, (by decide : 0 + 0 ≤ _), (by decide : 0 + 0 ≤ _)⟩)
              dsimp only [Pt.U, Pt.locs, Pt.cells, Pt.slots] at X351 l351 y351 z351 st351 hQ351
              subst l351 y351 z351
              obtain ⟨rfl, N351q, e351⟩ := hQ351
              have N351 := Fr.app N348 N351q
              have go352 : ∀ t, Steps p.tables e below (T351.setTop (mkF m 30 #[.val (.int p0), .val (.int p1), .val (.int (3 : Int32)), .val (.int (1 : Int32)), .val (.ref s_L3), .val (.ref s_L2), .unset] [(.int (3 : Int32))])) t → Steps p.tables e below (s₁.setTop (entryFrame m #[(.int p0), (.int p1)] maxLocals)) t := fun t k => go350 _ (st351 _ k)
              have go353 : ∀ t, Steps p.tables e below (T351.setTop (mkF m 31 #[.val (.int p0), .val (.int p1), .val (.int (3 : Int32)), .val (.int (1 : Int32)), .val (.ref s_L3), .val (.ref s_L2), .unset] [(.int (1 : Int32)), (.int (3 : Int32))])) t → Steps p.tables e below (s₁.setTop (entryFrame m #[(.int p0), (.int p1)] maxLocals)) t := by
                intro t k
                refine go352 _ ?_
                refine XS.iloadN X351.here hx rfl (hb hby at_30) rfl ?_
                show Steps p.tables e below (T351.setTop (mkF m 31 #[.val (.int p0), .val (.int p1), .val (.int (3 : Int32)), .val (.int (1 : Int32)), .val (.ref s_L3), .val (.ref s_L2), .unset] [(.int (1 : Int32)), (.int (3 : Int32))])) t
                exact k
              obtain ⟨_, _, ⟨T354, L354, k354, n354⟩, -, X354, ⟨Lc354, hQ354, l354, y354, z354⟩, st354⟩ := Jvm.LawKit.callS X351 hx (y := (⟨"com/example/hauora_id/hauoraid/model/ConfidenceLevelAtLeastPinLaw", "digit", "(I)I"⟩ : MethodName)) hown (mvT hZ (hw _ (List.mem_of_getElem? (i := 10) rfl))) (mvT hZ (hw _ (List.mem_of_getElem? (i := 11) rfl))) (mvT hZ (hw _ (List.mem_of_getElem? (i := 3) rfl))) (mvT hZ (hw _ (List.mem_of_getElem? (i := 12) rfl))) (by decide) (backOf (W := 1) (rm2 l Z aZ hw [] (1 : Int32) h0 n0 Z0 ) hZ (hw _ (List.mem_of_getElem? (i := 12) rfl)) (hw _ (List.mem_of_getElem? (i := 3) rfl)) (by decide) (by decide)) (g := (mkF m 31 #[.val (.int p0), .val (.int p1), .val (.int (3 : Int32)), .val (.int (1 : Int32)), .val (.ref s_L3), .val (.ref s_L2), .unset] [(.int (1 : Int32)), (.int (3 : Int32))])) rfl (by rw [hml]; rfl) (argsL := [(.int (1 : Int32))]) (rest := [(.int (3 : Int32))]) (lenOf pd_100 rfl) rfl (by show 2 * 0 + _ ≤ _; exact Nat.le_of_eq rfl) (hb hby at_31) (fun _ _ => ⟨rfl, e351, (by decide : 0 + 0 ≤ _), (by decide : 0 + 0 ≤ _)⟩)
              dsimp only [Pt.U, Pt.locs, Pt.cells, Pt.slots] at X354 l354 y354 z354 st354 hQ354
              subst l354 y354 z354
              obtain ⟨rfl, N354q, e354⟩ := hQ354
              have N354 := Fr.app N351 N354q
              have go355 : ∀ t, Steps p.tables e below (T354.setTop (mkF m 34 #[.val (.int p0), .val (.int p1), .val (.int (3 : Int32)), .val (.int (1 : Int32)), .val (.ref s_L3), .val (.ref s_L2), .unset] [(.int (2 : Int32)), (.int (3 : Int32))])) t → Steps p.tables e below (s₁.setTop (entryFrame m #[(.int p0), (.int p1)] maxLocals)) t := fun t k => go353 _ (st354 _ k)
              have go356 : ∀ t, Steps p.tables e below (T354.setTop (mkF m 48 #[.val (.int p0), .val (.int p1), .val (.int (3 : Int32)), .val (.int (1 : Int32)), .val (.ref s_L3), .val (.ref s_L2), .val (.int (1 : Int32))] [(.ref s_L2), (.ref s_L3)])) t → Steps p.tables e below (s₁.setTop (entryFrame m #[(.int p0), (.int p1)] maxLocals)) t := by
                intro t k
                refine go355 _ ?_
                refine XS.icmpNo X354.here hx rfl (hb hby at_34) rfl (XT.ii_lt_f (by decide : ¬ ((3 : Int32) < (2 : Int32)))) ?_
                show Steps p.tables e below (T354.setTop (mkF m 37 #[.val (.int p0), .val (.int p1), .val (.int (3 : Int32)), .val (.int (1 : Int32)), .val (.ref s_L3), .val (.ref s_L2), .unset] [])) t
                refine XS.iconst X354.here hx rfl (hb hby at_37) ?_
                show Steps p.tables e below (T354.setTop (mkF m 38 #[.val (.int p0), .val (.int p1), .val (.int (3 : Int32)), .val (.int (1 : Int32)), .val (.ref s_L3), .val (.ref s_L2), .unset] [(.int (1 : Int32))])) t
                refine XS.goto X354.here hx rfl (pc0 := 38) (pc' := 42) rfl (hb hby at_38) (by decide) (by decide) ?_
                show Steps p.tables e below (T354.setTop (mkF m 42 #[.val (.int p0), .val (.int p1), .val (.int (3 : Int32)), .val (.int (1 : Int32)), .val (.ref s_L3), .val (.ref s_L2), .unset] [(.int (1 : Int32))])) t
                refine XS.istore X354.here hx rfl (hb hby at_42) rfl (l' := #[.val (.int p0), .val (.int p1), .val (.int (3 : Int32)), .val (.int (1 : Int32)), .val (.ref s_L3), .val (.ref s_L2), .val (.int (1 : Int32))]) rfl ?_
                show Steps p.tables e below (T354.setTop (mkF m 44 #[.val (.int p0), .val (.int p1), .val (.int (3 : Int32)), .val (.int (1 : Int32)), .val (.ref s_L3), .val (.ref s_L2), .val (.int (1 : Int32))] [])) t
                refine XS.aload X354.here hx rfl (hb hby at_44) rfl rfl ?_
                show Steps p.tables e below (T354.setTop (mkF m 46 #[.val (.int p0), .val (.int p1), .val (.int (3 : Int32)), .val (.int (1 : Int32)), .val (.ref s_L3), .val (.ref s_L2), .val (.int (1 : Int32))] [(.ref s_L3)])) t
                refine XS.aload X354.here hx rfl (hb hby at_46) rfl rfl ?_
                show Steps p.tables e below (T354.setTop (mkF m 48 #[.val (.int p0), .val (.int p1), .val (.int (3 : Int32)), .val (.int (1 : Int32)), .val (.ref s_L3), .val (.ref s_L2), .val (.int (1 : Int32))] [(.ref s_L2), (.ref s_L3)])) t
                exact k
              obtain ⟨cq357, kq357, q357a, q357b, q357c⟩ := isOf hZ e354 E_L3
              obtain ⟨_, _, ⟨T357, L357, k357, n357⟩, -, X357, ⟨Lc357, hQ357, l357, y357, z357⟩, st357⟩ := X354.virtualBack hx (y := (⟨"com/example/hauora_id/hauoraid/model/ConfidenceLevel", "atLeast", "(Lcom/example/hauora_id/hauoraid/model/ConfidenceLevel;)Z"⟩ : MethodName)) (z := (⟨"com/example/hauora_id/hauoraid/model/ConfidenceLevel", "atLeast", "(Lcom/example/hauora_id/hauoraid/model/ConfidenceLevel;)Z"⟩ : MethodName)) hown (mvT hZ (hw _ (List.mem_of_getElem? (i := 13) rfl))) (mvT hZ (hw _ (List.mem_of_getElem? (i := 14) rfl))) (notFace_of_selects (args := #[]) (mvT hZ (hw _ (List.mem_of_getElem? (i := 16) rfl)))) (mvT hZ (hw _ (List.mem_of_getElem? (i := 16) rfl))) (mvT hZ (hw _ (List.mem_of_getElem? (i := 15) rfl))) (by decide) (backOf (W := 0) (rm3 l Z aZ hw [] s_L3 s_L2 s_COMPACT_STRINGS s_SIOOBE_FORMATTER s_L3_value s_L3_value_value k_s_L3_value_value (1 : Int32) [(.int (51 : Int32))] (51 : Int32) s_L2_value s_L2_value_value k_s_L2_value_value (1 : Int32) [(.int (50 : Int32))] (50 : Int32) h0 n0 Z0 S_COMPACT_STRINGS S_SIOOBE_FORMATTER rS_SIOOBE_FORMATTER hcs F_L3_value E_L3_value F_L3_value_coder F_L3_value_value V_L3_value_value (by decide) rfl F_L2_value E_L2_value F_L2_value_coder F_L2_value_value V_L2_value_value (by decide) rfl) hZ (hw _ (List.mem_of_getElem? (i := 17) rfl)) (hw _ (List.mem_of_getElem? (i := 6) rfl)) (by decide) (by decide)) q357a q357c (g := (mkF m 48 #[.val (.int p0), .val (.int p1), .val (.int (3 : Int32)), .val (.int (1 : Int32)), .val (.ref s_L3), .val (.ref s_L2), .val (.int (1 : Int32))] [(.ref s_L2), (.ref s_L3)])) rfl (by rw [hml]; rfl) (Steps.refl _) (argsL := [(.ref s_L2)]) (rest := []) (lenOf pd_101 rfl) rfl (by show 2 * 0 + _ ≤ _; exact Nat.le_of_eq rfl) (hb hby at_48) (fun _ _ => ⟨rfl, e354, (by decide : 0 + 0 ≤ _), (by decide : 0 + 0 ≤ _)⟩)
              dsimp only [Pt.U, Pt.locs, Pt.cells, Pt.slots] at X357 l357 y357 z357 st357 hQ357
              subst l357 y357 z357
              obtain ⟨rfl, N357q, e357⟩ := hQ357
              have N357 := Fr.app N354 N357q
              have go358 : ∀ t, Steps p.tables e below (T357.setTop (mkF m 51 #[.val (.int p0), .val (.int p1), .val (.int (3 : Int32)), .val (.int (1 : Int32)), .val (.ref s_L3), .val (.ref s_L2), .val (.int (1 : Int32))] [(.int (f3 (51 : Int32) (50 : Int32)))])) t → Steps p.tables e below (s₁.setTop (entryFrame m #[(.int p0), (.int p1)] maxLocals)) t := fun t k => go356 _ (st357.trans k)
              have go360 : ∀ t, Steps p.tables e below (T357.setTop (mkF m 61 #[.val (.int p0), .val (.int p1), .val (.int (3 : Int32)), .val (.int (1 : Int32)), .val (.ref s_L3), .val (.ref s_L2), .val (.int (1 : Int32))] [(.int b0_361)])) t → Steps p.tables e below (s₁.setTop (entryFrame m #[(.int p0), (.int p1)] maxLocals)) t := by
                intro t k
                refine go358 _ ?_
                refine XS.iload X357.here hx rfl (hb hby at_51) rfl ?_
                show Steps p.tables e below (T357.setTop (mkF m 53 #[.val (.int p0), .val (.int p1), .val (.int (3 : Int32)), .val (.int (1 : Int32)), .val (.ref s_L3), .val (.ref s_L2), .val (.int (1 : Int32))] [(.int (1 : Int32)), (.int (f3 (51 : Int32) (50 : Int32)))])) t
                by_cases hc359 : (f3 (51 : Int32) (50 : Int32)) = (1 : Int32)
                · refine XS.icmpNo X357.here hx rfl (hb hby at_53) rfl (XT.ii_ne_f hc359) ?_
                  show Steps p.tables e below (T357.setTop (mkF m 56 #[.val (.int p0), .val (.int p1), .val (.int (3 : Int32)), .val (.int (1 : Int32)), .val (.ref s_L3), .val (.ref s_L2), .val (.int (1 : Int32))] [])) t
                  refine XS.iconst X357.here hx rfl (hb hby at_56) ?_
                  show Steps p.tables e below (T357.setTop (mkF m 57 #[.val (.int p0), .val (.int p1), .val (.int (3 : Int32)), .val (.int (1 : Int32)), .val (.ref s_L3), .val (.ref s_L2), .val (.int (1 : Int32))] [(.int (1 : Int32))])) t
                  refine XS.goto X357.here hx rfl (pc0 := 57) (pc' := 61) rfl (hb hby at_57) (by decide) (by decide) ?_
                  show Steps p.tables e below (T357.setTop (mkF m 61 #[.val (.int p0), .val (.int p1), .val (.int (3 : Int32)), .val (.int (1 : Int32)), .val (.ref s_L3), .val (.ref s_L2), .val (.int (1 : Int32))] [(.int (1 : Int32))])) t
                  have hq362 : b0_361 = (1 : Int32) := by rw [b0_361, if_pos hc359]
                  rw [hq362] at k
                  exact k
                · refine XS.icmpYes X357.here hx rfl (pc0 := 53) (pc' := 60) rfl (hb hby at_53) rfl (XT.ii_ne_t hc359) (by decide) (by decide) ?_
                  show Steps p.tables e below (T357.setTop (mkF m 60 #[.val (.int p0), .val (.int p1), .val (.int (3 : Int32)), .val (.int (1 : Int32)), .val (.ref s_L3), .val (.ref s_L2), .val (.int (1 : Int32))] [])) t
                  refine XS.iconst X357.here hx rfl (hb hby at_60) ?_
                  show Steps p.tables e below (T357.setTop (mkF m 61 #[.val (.int p0), .val (.int p1), .val (.int (3 : Int32)), .val (.int (1 : Int32)), .val (.ref s_L3), .val (.ref s_L2), .val (.int (1 : Int32))] [(.int (0 : Int32))])) t
                  have hq363 : b0_361 = (0 : Int32) := by rw [b0_361, if_neg hc359]
                  rw [hq363] at k
                  exact k
              obtain ⟨fs, hr, hrun, hended, hW, hsame⟩ := X357.leave (v := some (.int b0_361)) (fun h => by rw [Bd.returns] at h; cases h)
              refine ⟨_, _, go360 _ (Jvm.RoadKit.retOut X357 hx Bd.returns (own_nz (by unfold b0_361; (repeat' split) <;> first | exact Or.inl rfl | exact Or.inr rfl)) (Or.inl ⟨rfl, Or.inr (Or.inl rfl), _, rfl⟩) (hb hby at_61) hr), hrun, hended, _, _, rfl, ?_, ⟨_, rfl⟩, hW, hsame.mono (by decide) (by decide)⟩
              show Q0 _ _ p0 p1 s_L1 s_L3 s_L1_value s_L1_value_value s_L3_value s_L3_value_value s_L3N s_L2 s_L3N_value s_L3N_value_value s_L2_value s_L2_value_value s_L2N s_L2N_value s_L2N_value_value k_s_L1_value_value k_s_L3_value_value k_s_L3N_value_value k_s_L2_value_value k_s_L2N_value_value s_COMPACT_STRINGS s_SIOOBE_FORMATTER h0 _ (T357.setFrames fs).heap _
              have hE : (T357.setFrames fs).heap = h0 := e357
              rw [hE]
              exact ⟨congrArg (fun z => some (Value.int z)) ((by rw [f0, if_neg hs4, if_neg hs110, if_neg hs216, if_pos hs319, if_neg hs322, if_pos hs343] : b0_361 = (f0 p0 p1)).trans (f0_one p0 p1)), N357⟩
            · by_cases hs364 : (v0_2 p1) = (2 : Int32)
              · have go365 : ∀ t, Steps p.tables e below (s₁.setTop (mkF m 15 #[.val (.int p0), .val (.int p1), .val (.int (3 : Int32)), .val (.int (2 : Int32)), .unset, .unset, .unset] [(.int (3 : Int32))])) t → Steps p.tables e below (s₁.setTop (entryFrame m #[(.int p0), (.int p1)] maxLocals)) t := by
                  have q := go321
                  rw [hs364] at q
                  exact q
                obtain ⟨_, _, ⟨T366, L366, k366, n366⟩, -, X366, ⟨Lc366, hQ366, l366, y366, z366⟩, st366⟩ := Jvm.LawKit.callS X0 hx (y := (⟨"com/example/hauora_id/hauoraid/model/ConfidenceLevelAtLeastPinLaw", "pick", "(I)Lcom/example/hauora_id/hauoraid/model/ConfidenceLevel;"⟩ : MethodName)) hown (mvT hZ (hw _ (List.mem_of_getElem? (i := 1) rfl))) (mvT hZ (hw _ (List.mem_of_getElem? (i := 2) rfl))) (mvT hZ (hw _ (List.mem_of_getElem? (i := 3) rfl))) (mvT hZ (hw _ (List.mem_of_getElem? (i := 4) rfl))) (by decide) (backOf (W := 0) (rm1 l Z aZ hw [] (3 : Int32) s_L1 s_L2 s_L2N s_L3 s_L3N h0 n0 Z0 S_L1 S_L2 S_L2N S_L3 S_L3N) hZ (hw _ (List.mem_of_getElem? (i := 4) rfl)) (hw _ (List.mem_of_getElem? (i := 3) rfl)) (by decide) (by decide)) (g := (mkF m 15 #[.val (.int p0), .val (.int p1), .val (.int (3 : Int32)), .val (.int (2 : Int32)), .unset, .unset, .unset] [(.int (3 : Int32))])) rfl (by rw [hml]; rfl) (argsL := [(.int (3 : Int32))]) (rest := []) (lenOf pd_99 rfl) rfl (by show 2 * 0 + _ ≤ _; exact Nat.le_of_eq rfl) (hb hby at_15) (fun _ _ => ⟨rfl, e0, (by decide : 0 + 0 ≤ _), (by decide : 0 + 0 ≤ _)⟩)
                dsimp only [Pt.U, Pt.locs, Pt.cells, Pt.slots] at X366 l366 y366 z366 st366 hQ366
                subst l366 y366 z366
                obtain ⟨rfl, N366q, e366⟩ := hQ366
                have N366 := Fr.app N0 N366q
                have go367 : ∀ t, Steps p.tables e below (T366.setTop (mkF m 18 #[.val (.int p0), .val (.int p1), .val (.int (3 : Int32)), .val (.int (2 : Int32)), .unset, .unset, .unset] [(.ref s_L3)])) t → Steps p.tables e below (s₁.setTop (entryFrame m #[(.int p0), (.int p1)] maxLocals)) t := fun t k => go365 _ (st366 _ k)
                have go368 : ∀ t, Steps p.tables e below (T366.setTop (mkF m 21 #[.val (.int p0), .val (.int p1), .val (.int (3 : Int32)), .val (.int (2 : Int32)), .val (.ref s_L3), .unset, .unset] [(.int (2 : Int32))])) t → Steps p.tables e below (s₁.setTop (entryFrame m #[(.int p0), (.int p1)] maxLocals)) t := by
                  intro t k
                  refine go367 _ ?_
                  refine XS.astore X366.here hx rfl (hb hby at_18) rfl rfl (l' := #[.val (.int p0), .val (.int p1), .val (.int (3 : Int32)), .val (.int (2 : Int32)), .val (.ref s_L3), .unset, .unset]) rfl ?_
                  show Steps p.tables e below (T366.setTop (mkF m 20 #[.val (.int p0), .val (.int p1), .val (.int (3 : Int32)), .val (.int (2 : Int32)), .val (.ref s_L3), .unset, .unset] [])) t
                  refine XS.iloadN X366.here hx rfl (hb hby at_20) rfl ?_
                  show Steps p.tables e below (T366.setTop (mkF m 21 #[.val (.int p0), .val (.int p1), .val (.int (3 : Int32)), .val (.int (2 : Int32)), .val (.ref s_L3), .unset, .unset] [(.int (2 : Int32))])) t
                  exact k
                obtain ⟨_, _, ⟨T369, L369, k369, n369⟩, -, X369, ⟨Lc369, hQ369, l369, y369, z369⟩, st369⟩ := Jvm.LawKit.callS X366 hx (y := (⟨"com/example/hauora_id/hauoraid/model/ConfidenceLevelAtLeastPinLaw", "pick", "(I)Lcom/example/hauora_id/hauoraid/model/ConfidenceLevel;"⟩ : MethodName)) hown (mvT hZ (hw _ (List.mem_of_getElem? (i := 1) rfl))) (mvT hZ (hw _ (List.mem_of_getElem? (i := 2) rfl))) (mvT hZ (hw _ (List.mem_of_getElem? (i := 3) rfl))) (mvT hZ (hw _ (List.mem_of_getElem? (i := 4) rfl))) (by decide) (backOf (W := 0) (rm1 l Z aZ hw [] (2 : Int32) s_L1 s_L2 s_L2N s_L3 s_L3N h0 n0 Z0 S_L1 S_L2 S_L2N S_L3 S_L3N) hZ (hw _ (List.mem_of_getElem? (i := 4) rfl)) (hw _ (List.mem_of_getElem? (i := 3) rfl)) (by decide) (by decide)) (g := (mkF m 21 #[.val (.int p0), .val (.int p1), .val (.int (3 : Int32)), .val (.int (2 : Int32)), .val (.ref s_L3), .unset, .unset] [(.int (2 : Int32))])) rfl (by rw [hml]; rfl) (argsL := [(.int (2 : Int32))]) (rest := []) (lenOf pd_99 rfl) rfl (by show 2 * 0 + _ ≤ _; exact Nat.le_of_eq rfl) (hb hby at_21) (fun _ _ => ⟨rfl, e366, (by decide : 0 + 0 ≤ _), (by decide : 0 + 0 ≤ _)⟩)
                dsimp only [Pt.U, Pt.locs, Pt.cells, Pt.slots] at X369 l369 y369 z369 st369 hQ369
                subst l369 y369 z369
                obtain ⟨rfl, N369q, e369⟩ := hQ369
                have N369 := Fr.app N366 N369q
                have go370 : ∀ t, Steps p.tables e below (T369.setTop (mkF m 24 #[.val (.int p0), .val (.int p1), .val (.int (3 : Int32)), .val (.int (2 : Int32)), .val (.ref s_L3), .unset, .unset] [(.ref s_L2N)])) t → Steps p.tables e below (s₁.setTop (entryFrame m #[(.int p0), (.int p1)] maxLocals)) t := fun t k => go368 _ (st369 _ k)
                have go371 : ∀ t, Steps p.tables e below (T369.setTop (mkF m 27 #[.val (.int p0), .val (.int p1), .val (.int (3 : Int32)), .val (.int (2 : Int32)), .val (.ref s_L3), .val (.ref s_L2N), .unset] [(.int (3 : Int32))])) t → Steps p.tables e below (s₁.setTop (entryFrame m #[(.int p0), (.int p1)] maxLocals)) t := by
                  intro t k
                  refine go370 _ ?_
                  refine XS.astore X369.here hx rfl (hb hby at_24) rfl rfl (l' := #[.val (.int p0), .val (.int p1), .val (.int (3 : Int32)), .val (.int (2 : Int32)), .val (.ref s_L3), .val (.ref s_L2N), .unset]) rfl ?_
                  show Steps p.tables e below (T369.setTop (mkF m 26 #[.val (.int p0), .val (.int p1), .val (.int (3 : Int32)), .val (.int (2 : Int32)), .val (.ref s_L3), .val (.ref s_L2N), .unset] [])) t
                  refine XS.iloadN X369.here hx rfl (hb hby at_26) rfl ?_
                  show Steps p.tables e below (T369.setTop (mkF m 27 #[.val (.int p0), .val (.int p1), .val (.int (3 : Int32)), .val (.int (2 : Int32)), .val (.ref s_L3), .val (.ref s_L2N), .unset] [(.int (3 : Int32))])) t
                  exact k
                obtain ⟨_, _, ⟨T372, L372, k372, n372⟩, -, X372, ⟨Lc372, hQ372, l372, y372, z372⟩, st372⟩ := Jvm.LawKit.callS X369 hx (y := (⟨"com/example/hauora_id/hauoraid/model/ConfidenceLevelAtLeastPinLaw", "digit", "(I)I"⟩ : MethodName)) hown (mvT hZ (hw _ (List.mem_of_getElem? (i := 10) rfl))) (mvT hZ (hw _ (List.mem_of_getElem? (i := 11) rfl))) (mvT hZ (hw _ (List.mem_of_getElem? (i := 3) rfl))) (mvT hZ (hw _ (List.mem_of_getElem? (i := 12) rfl))) (by decide) (backOf (W := 0) (rm2 l Z aZ hw [] (3 : Int32) h0 n0 Z0 ) hZ (hw _ (List.mem_of_getElem? (i := 12) rfl)) (hw _ (List.mem_of_getElem? (i := 3) rfl)) (by decide) (by decide)) (g := (mkF m 27 #[.val (.int p0), .val (.int p1), .val (.int (3 : Int32)), .val (.int (2 : Int32)), .val (.ref s_L3), .val (.ref s_L2N), .unset] [(.int (3 : Int32))])) rfl (by rw [hml]; rfl) (argsL := [(.int (3 : Int32))]) (rest := []) (lenOf pd_100 rfl) rfl (by show 2 * 0 + _ ≤ _; exact Nat.le_of_eq rfl) (hb hby at_27) (fun _ _ => ⟨rfl, e369, (by decide : 0 + 0 ≤ _), (by decide : 0 + 0 ≤ _)⟩)
                dsimp only [Pt.U, Pt.locs, Pt.cells, Pt.slots] at X372 l372 y372 z372 st372 hQ372
                subst l372 y372 z372
                obtain ⟨rfl, N372q, e372⟩ := hQ372
                have N372 := Fr.app N369 N372q
                have go373 : ∀ t, Steps p.tables e below (T372.setTop (mkF m 30 #[.val (.int p0), .val (.int p1), .val (.int (3 : Int32)), .val (.int (2 : Int32)), .val (.ref s_L3), .val (.ref s_L2N), .unset] [(.int (3 : Int32))])) t → Steps p.tables e below (s₁.setTop (entryFrame m #[(.int p0), (.int p1)] maxLocals)) t := fun t k => go371 _ (st372 _ k)
                have go374 : ∀ t, Steps p.tables e below (T372.setTop (mkF m 31 #[.val (.int p0), .val (.int p1), .val (.int (3 : Int32)), .val (.int (2 : Int32)), .val (.ref s_L3), .val (.ref s_L2N), .unset] [(.int (2 : Int32)), (.int (3 : Int32))])) t → Steps p.tables e below (s₁.setTop (entryFrame m #[(.int p0), (.int p1)] maxLocals)) t := by
                  intro t k
                  refine go373 _ ?_
                  refine XS.iloadN X372.here hx rfl (hb hby at_30) rfl ?_
                  show Steps p.tables e below (T372.setTop (mkF m 31 #[.val (.int p0), .val (.int p1), .val (.int (3 : Int32)), .val (.int (2 : Int32)), .val (.ref s_L3), .val (.ref s_L2N), .unset] [(.int (2 : Int32)), (.int (3 : Int32))])) t
                  exact k
                obtain ⟨_, _, ⟨T375, L375, k375, n375⟩, -, X375, ⟨Lc375, hQ375, l375, y375, z375⟩, st375⟩ := Jvm.LawKit.callS X372 hx (y := (⟨"com/example/hauora_id/hauoraid/model/ConfidenceLevelAtLeastPinLaw", "digit", "(I)I"⟩ : MethodName)) hown (mvT hZ (hw _ (List.mem_of_getElem? (i := 10) rfl))) (mvT hZ (hw _ (List.mem_of_getElem? (i := 11) rfl))) (mvT hZ (hw _ (List.mem_of_getElem? (i := 3) rfl))) (mvT hZ (hw _ (List.mem_of_getElem? (i := 12) rfl))) (by decide) (backOf (W := 1) (rm2 l Z aZ hw [] (2 : Int32) h0 n0 Z0 ) hZ (hw _ (List.mem_of_getElem? (i := 12) rfl)) (hw _ (List.mem_of_getElem? (i := 3) rfl)) (by decide) (by decide)) (g := (mkF m 31 #[.val (.int p0), .val (.int p1), .val (.int (3 : Int32)), .val (.int (2 : Int32)), .val (.ref s_L3), .val (.ref s_L2N), .unset] [(.int (2 : Int32)), (.int (3 : Int32))])) rfl (by rw [hml]; rfl) (argsL := [(.int (2 : Int32))]) (rest := [(.int (3 : Int32))]) (lenOf pd_100 rfl) rfl (by show 2 * 0 + _ ≤ _; exact Nat.le_of_eq rfl) (hb hby at_31) (fun _ _ => ⟨rfl, e372, (by decide : 0 + 0 ≤ _), (by decide : 0 + 0 ≤ _)⟩)
                dsimp only [Pt.U, Pt.locs, Pt.cells, Pt.slots] at X375 l375 y375 z375 st375 hQ375
                subst l375 y375 z375
                obtain ⟨rfl, N375q, e375⟩ := hQ375
                have N375 := Fr.app N372 N375q
                have go376 : ∀ t, Steps p.tables e below (T375.setTop (mkF m 34 #[.val (.int p0), .val (.int p1), .val (.int (3 : Int32)), .val (.int (2 : Int32)), .val (.ref s_L3), .val (.ref s_L2N), .unset] [(.int (2 : Int32)), (.int (3 : Int32))])) t → Steps p.tables e below (s₁.setTop (entryFrame m #[(.int p0), (.int p1)] maxLocals)) t := fun t k => go374 _ (st375 _ k)
                have go377 : ∀ t, Steps p.tables e below (T375.setTop (mkF m 48 #[.val (.int p0), .val (.int p1), .val (.int (3 : Int32)), .val (.int (2 : Int32)), .val (.ref s_L3), .val (.ref s_L2N), .val (.int (1 : Int32))] [(.ref s_L2N), (.ref s_L3)])) t → Steps p.tables e below (s₁.setTop (entryFrame m #[(.int p0), (.int p1)] maxLocals)) t := by
                  intro t k
                  refine go376 _ ?_
                  refine XS.icmpNo X375.here hx rfl (hb hby at_34) rfl (XT.ii_lt_f (by decide : ¬ ((3 : Int32) < (2 : Int32)))) ?_
                  show Steps p.tables e below (T375.setTop (mkF m 37 #[.val (.int p0), .val (.int p1), .val (.int (3 : Int32)), .val (.int (2 : Int32)), .val (.ref s_L3), .val (.ref s_L2N), .unset] [])) t
                  refine XS.iconst X375.here hx rfl (hb hby at_37) ?_
                  show Steps p.tables e below (T375.setTop (mkF m 38 #[.val (.int p0), .val (.int p1), .val (.int (3 : Int32)), .val (.int (2 : Int32)), .val (.ref s_L3), .val (.ref s_L2N), .unset] [(.int (1 : Int32))])) t
                  refine XS.goto X375.here hx rfl (pc0 := 38) (pc' := 42) rfl (hb hby at_38) (by decide) (by decide) ?_
                  show Steps p.tables e below (T375.setTop (mkF m 42 #[.val (.int p0), .val (.int p1), .val (.int (3 : Int32)), .val (.int (2 : Int32)), .val (.ref s_L3), .val (.ref s_L2N), .unset] [(.int (1 : Int32))])) t
                  refine XS.istore X375.here hx rfl (hb hby at_42) rfl (l' := #[.val (.int p0), .val (.int p1), .val (.int (3 : Int32)), .val (.int (2 : Int32)), .val (.ref s_L3), .val (.ref s_L2N), .val (.int (1 : Int32))]) rfl ?_
                  show Steps p.tables e below (T375.setTop (mkF m 44 #[.val (.int p0), .val (.int p1), .val (.int (3 : Int32)), .val (.int (2 : Int32)), .val (.ref s_L3), .val (.ref s_L2N), .val (.int (1 : Int32))] [])) t
                  refine XS.aload X375.here hx rfl (hb hby at_44) rfl rfl ?_
                  show Steps p.tables e below (T375.setTop (mkF m 46 #[.val (.int p0), .val (.int p1), .val (.int (3 : Int32)), .val (.int (2 : Int32)), .val (.ref s_L3), .val (.ref s_L2N), .val (.int (1 : Int32))] [(.ref s_L3)])) t
                  refine XS.aload X375.here hx rfl (hb hby at_46) rfl rfl ?_
                  show Steps p.tables e below (T375.setTop (mkF m 48 #[.val (.int p0), .val (.int p1), .val (.int (3 : Int32)), .val (.int (2 : Int32)), .val (.ref s_L3), .val (.ref s_L2N), .val (.int (1 : Int32))] [(.ref s_L2N), (.ref s_L3)])) t
                  exact k
                obtain ⟨cq378, kq378, q378a, q378b, q378c⟩ := isOf hZ e375 E_L3
                obtain ⟨_, _, ⟨T378, L378, k378, n378⟩, -, X378, ⟨Lc378, hQ378, l378, y378, z378⟩, st378⟩ := X375.virtualBack hx (y := (⟨"com/example/hauora_id/hauoraid/model/ConfidenceLevel", "atLeast", "(Lcom/example/hauora_id/hauoraid/model/ConfidenceLevel;)Z"⟩ : MethodName)) (z := (⟨"com/example/hauora_id/hauoraid/model/ConfidenceLevel", "atLeast", "(Lcom/example/hauora_id/hauoraid/model/ConfidenceLevel;)Z"⟩ : MethodName)) hown (mvT hZ (hw _ (List.mem_of_getElem? (i := 13) rfl))) (mvT hZ (hw _ (List.mem_of_getElem? (i := 14) rfl))) (notFace_of_selects (args := #[]) (mvT hZ (hw _ (List.mem_of_getElem? (i := 16) rfl)))) (mvT hZ (hw _ (List.mem_of_getElem? (i := 16) rfl))) (mvT hZ (hw _ (List.mem_of_getElem? (i := 15) rfl))) (by decide) (backOf (W := 0) (rm3 l Z aZ hw [] s_L3 s_L2N s_COMPACT_STRINGS s_SIOOBE_FORMATTER s_L3_value s_L3_value_value k_s_L3_value_value (1 : Int32) [(.int (51 : Int32))] (51 : Int32) s_L2N_value s_L2N_value_value k_s_L2N_value_value (2 : Int32) [(.int (50 : Int32)), (.int (78 : Int32))] (50 : Int32) h0 n0 Z0 S_COMPACT_STRINGS S_SIOOBE_FORMATTER rS_SIOOBE_FORMATTER hcs F_L3_value E_L3_value F_L3_value_coder F_L3_value_value V_L3_value_value (by decide) rfl F_L2N_value E_L2N_value F_L2N_value_coder F_L2N_value_value V_L2N_value_value (by decide) rfl) hZ (hw _ (List.mem_of_getElem? (i := 17) rfl)) (hw _ (List.mem_of_getElem? (i := 6) rfl)) (by decide) (by decide)) q378a q378c (g := (mkF m 48 #[.val (.int p0), .val (.int p1), .val (.int (3 : Int32)), .val (.int (2 : Int32)), .val (.ref s_L3), .val (.ref s_L2N), .val (.int (1 : Int32))] [(.ref s_L2N), (.ref s_L3)])) rfl (by rw [hml]; rfl) (Steps.refl _) (argsL := [(.ref s_L2N)]) (rest := []) (lenOf pd_101 rfl) rfl (by show 2 * 0 + _ ≤ _; exact Nat.le_of_eq rfl) (hb hby at_48) (fun _ _ => ⟨rfl, e375, (by decide : 0 + 0 ≤ _), (by decide : 0 + 0 ≤ _)⟩)
                dsimp only [Pt.U, Pt.locs, Pt.cells, Pt.slots] at X378 l378 y378 z378 st378 hQ378
                subst l378 y378 z378
                obtain ⟨rfl, N378q, e378⟩ := hQ378
                have N378 := Fr.app N375 N378q
                have go379 : ∀ t, Steps p.tables e below (T378.setTop (mkF m 51 #[.val (.int p0), .val (.int p1), .val (.int (3 : Int32)), .val (.int (2 : Int32)), .val (.ref s_L3), .val (.ref s_L2N), .val (.int (1 : Int32))] [(.int (f3 (51 : Int32) (50 : Int32)))])) t → Steps p.tables e below (s₁.setTop (entryFrame m #[(.int p0), (.int p1)] maxLocals)) t := fun t k => go377 _ (st378.trans k)
                have go381 : ∀ t, Steps p.tables e below (T378.setTop (mkF m 61 #[.val (.int p0), .val (.int p1), .val (.int (3 : Int32)), .val (.int (2 : Int32)), .val (.ref s_L3), .val (.ref s_L2N), .val (.int (1 : Int32))] [(.int b0_361)])) t → Steps p.tables e below (s₁.setTop (entryFrame m #[(.int p0), (.int p1)] maxLocals)) t := by
                  intro t k
                  refine go379 _ ?_
                  refine XS.iload X378.here hx rfl (hb hby at_51) rfl ?_
                  show Steps p.tables e below (T378.setTop (mkF m 53 #[.val (.int p0), .val (.int p1), .val (.int (3 : Int32)), .val (.int (2 : Int32)), .val (.ref s_L3), .val (.ref s_L2N), .val (.int (1 : Int32))] [(.int (1 : Int32)), (.int (f3 (51 : Int32) (50 : Int32)))])) t
                  by_cases hc380 : (f3 (51 : Int32) (50 : Int32)) = (1 : Int32)
                  · refine XS.icmpNo X378.here hx rfl (hb hby at_53) rfl (XT.ii_ne_f hc380) ?_
                    show Steps p.tables e below (T378.setTop (mkF m 56 #[.val (.int p0), .val (.int p1), .val (.int (3 : Int32)), .val (.int (2 : Int32)), .val (.ref s_L3), .val (.ref s_L2N), .val (.int (1 : Int32))] [])) t
                    refine XS.iconst X378.here hx rfl (hb hby at_56) ?_
                    show Steps p.tables e below (T378.setTop (mkF m 57 #[.val (.int p0), .val (.int p1), .val (.int (3 : Int32)), .val (.int (2 : Int32)), .val (.ref s_L3), .val (.ref s_L2N), .val (.int (1 : Int32))] [(.int (1 : Int32))])) t
                    refine XS.goto X378.here hx rfl (pc0 := 57) (pc' := 61) rfl (hb hby at_57) (by decide) (by decide) ?_
                    show Steps p.tables e below (T378.setTop (mkF m 61 #[.val (.int p0), .val (.int p1), .val (.int (3 : Int32)), .val (.int (2 : Int32)), .val (.ref s_L3), .val (.ref s_L2N), .val (.int (1 : Int32))] [(.int (1 : Int32))])) t
                    have hq382 : b0_361 = (1 : Int32) := by rw [b0_361, if_pos hc380]
                    rw [hq382] at k
                    exact k
                  · refine XS.icmpYes X378.here hx rfl (pc0 := 53) (pc' := 60) rfl (hb hby at_53) rfl (XT.ii_ne_t hc380) (by decide) (by decide) ?_
                    show Steps p.tables e below (T378.setTop (mkF m 60 #[.val (.int p0), .val (.int p1), .val (.int (3 : Int32)), .val (.int (2 : Int32)), .val (.ref s_L3), .val (.ref s_L2N), .val (.int (1 : Int32))] [])) t
                    refine XS.iconst X378.here hx rfl (hb hby at_60) ?_
                    show Steps p.tables e below (T378.setTop (mkF m 61 #[.val (.int p0), .val (.int p1), .val (.int (3 : Int32)), .val (.int (2 : Int32)), .val (.ref s_L3), .val (.ref s_L2N), .val (.int (1 : Int32))] [(.int (0 : Int32))])) t
                    have hq383 : b0_361 = (0 : Int32) := by rw [b0_361, if_neg hc380]
                    rw [hq383] at k
                    exact k
                obtain ⟨fs, hr, hrun, hended, hW, hsame⟩ := X378.leave (v := some (.int b0_361)) (fun h => by rw [Bd.returns] at h; cases h)
                refine ⟨_, _, go381 _ (Jvm.RoadKit.retOut X378 hx Bd.returns (own_nz (by unfold b0_361; (repeat' split) <;> first | exact Or.inl rfl | exact Or.inr rfl)) (Or.inl ⟨rfl, Or.inr (Or.inl rfl), _, rfl⟩) (hb hby at_61) hr), hrun, hended, _, _, rfl, ?_, ⟨_, rfl⟩, hW, hsame.mono (by decide) (by decide)⟩
                show Q0 _ _ p0 p1 s_L1 s_L3 s_L1_value s_L1_value_value s_L3_value s_L3_value_value s_L3N s_L2 s_L3N_value s_L3N_value_value s_L2_value s_L2_value_value s_L2N s_L2N_value s_L2N_value_value k_s_L1_value_value k_s_L3_value_value k_s_L3N_value_value k_s_L2_value_value k_s_L2N_value_value s_COMPACT_STRINGS s_SIOOBE_FORMATTER h0 _ (T378.setFrames fs).heap _
                have hE : (T378.setFrames fs).heap = h0 := e378
                rw [hE]
                exact ⟨congrArg (fun z => some (Value.int z)) ((by rw [f0, if_neg hs4, if_neg hs110, if_neg hs216, if_pos hs319, if_neg hs322, if_neg hs343, if_pos hs364] : b0_361 = (f0 p0 p1)).trans (f0_one p0 p1)), N378⟩
              · by_cases hs384 : (v0_2 p1) = (3 : Int32)
                · have go385 : ∀ t, Steps p.tables e below (s₁.setTop (mkF m 15 #[.val (.int p0), .val (.int p1), .val (.int (3 : Int32)), .val (.int (3 : Int32)), .unset, .unset, .unset] [(.int (3 : Int32))])) t → Steps p.tables e below (s₁.setTop (entryFrame m #[(.int p0), (.int p1)] maxLocals)) t := by
                    have q := go321
                    rw [hs384] at q
                    exact q
                  obtain ⟨_, _, ⟨T386, L386, k386, n386⟩, -, X386, ⟨Lc386, hQ386, l386, y386, z386⟩, st386⟩ := Jvm.LawKit.callS X0 hx (y := (⟨"com/example/hauora_id/hauoraid/model/ConfidenceLevelAtLeastPinLaw", "pick", "(I)Lcom/example/hauora_id/hauoraid/model/ConfidenceLevel;"⟩ : MethodName)) hown (mvT hZ (hw _ (List.mem_of_getElem? (i := 1) rfl))) (mvT hZ (hw _ (List.mem_of_getElem? (i := 2) rfl))) (mvT hZ (hw _ (List.mem_of_getElem? (i := 3) rfl))) (mvT hZ (hw _ (List.mem_of_getElem? (i := 4) rfl))) (by decide) (backOf (W := 0) (rm1 l Z aZ hw [] (3 : Int32) s_L1 s_L2 s_L2N s_L3 s_L3N h0 n0 Z0 S_L1 S_L2 S_L2N S_L3 S_L3N) hZ (hw _ (List.mem_of_getElem? (i := 4) rfl)) (hw _ (List.mem_of_getElem? (i := 3) rfl)) (by decide) (by decide)) (g := (mkF m 15 #[.val (.int p0), .val (.int p1), .val (.int (3 : Int32)), .val (.int (3 : Int32)), .unset, .unset, .unset] [(.int (3 : Int32))])) rfl (by rw [hml]; rfl) (argsL := [(.int (3 : Int32))]) (rest := []) (lenOf pd_99 rfl) rfl (by show 2 * 0 + _ ≤ _; exact Nat.le_of_eq rfl) (hb hby at_15) (fun _ _ => ⟨rfl, e0, (by decide : 0 + 0 ≤ _), (by decide : 0 + 0 ≤ _)⟩)
                  dsimp only [Pt.U, Pt.locs, Pt.cells, Pt.slots] at X386 l386 y386 z386 st386 hQ386
                  subst l386 y386 z386
                  obtain ⟨rfl, N386q, e386⟩ := hQ386
                  have N386 := Fr.app N0 N386q
                  have go387 : ∀ t, Steps p.tables e below (T386.setTop (mkF m 18 #[.val (.int p0), .val (.int p1), .val (.int (3 : Int32)), .val (.int (3 : Int32)), .unset, .unset, .unset] [(.ref s_L3)])) t → Steps p.tables e below (s₁.setTop (entryFrame m #[(.int p0), (.int p1)] maxLocals)) t := fun t k => go385 _ (st386 _ k)
                  have go388 : ∀ t, Steps p.tables e below (T386.setTop (mkF m 21 #[.val (.int p0), .val (.int p1), .val (.int (3 : Int32)), .val (.int (3 : Int32)), .val (.ref s_L3), .unset, .unset] [(.int (3 : Int32))])) t → Steps p.tables e below (s₁.setTop (entryFrame m #[(.int p0), (.int p1)] maxLocals)) t := by
                    intro t k
                    refine go387 _ ?_
                    refine XS.astore X386.here hx rfl (hb hby at_18) rfl rfl (l' := #[.val (.int p0), .val (.int p1), .val (.int (3 : Int32)), .val (.int (3 : Int32)), .val (.ref s_L3), .unset, .unset]) rfl ?_
                    show Steps p.tables e below (T386.setTop (mkF m 20 #[.val (.int p0), .val (.int p1), .val (.int (3 : Int32)), .val (.int (3 : Int32)), .val (.ref s_L3), .unset, .unset] [])) t
                    refine XS.iloadN X386.here hx rfl (hb hby at_20) rfl ?_
                    show Steps p.tables e below (T386.setTop (mkF m 21 #[.val (.int p0), .val (.int p1), .val (.int (3 : Int32)), .val (.int (3 : Int32)), .val (.ref s_L3), .unset, .unset] [(.int (3 : Int32))])) t
                    exact k
                  obtain ⟨_, _, ⟨T389, L389, k389, n389⟩, -, X389, ⟨Lc389, hQ389, l389, y389, z389⟩, st389⟩ := Jvm.LawKit.callS X386 hx (y := (⟨"com/example/hauora_id/hauoraid/model/ConfidenceLevelAtLeastPinLaw", "pick", "(I)Lcom/example/hauora_id/hauoraid/model/ConfidenceLevel;"⟩ : MethodName)) hown (mvT hZ (hw _ (List.mem_of_getElem? (i := 1) rfl))) (mvT hZ (hw _ (List.mem_of_getElem? (i := 2) rfl))) (mvT hZ (hw _ (List.mem_of_getElem? (i := 3) rfl))) (mvT hZ (hw _ (List.mem_of_getElem? (i := 4) rfl))) (by decide) (backOf (W := 0) (rm1 l Z aZ hw [] (3 : Int32) s_L1 s_L2 s_L2N s_L3 s_L3N h0 n0 Z0 S_L1 S_L2 S_L2N S_L3 S_L3N) hZ (hw _ (List.mem_of_getElem? (i := 4) rfl)) (hw _ (List.mem_of_getElem? (i := 3) rfl)) (by decide) (by decide)) (g := (mkF m 21 #[.val (.int p0), .val (.int p1), .val (.int (3 : Int32)), .val (.int (3 : Int32)), .val (.ref s_L3), .unset, .unset] [(.int (3 : Int32))])) rfl (by rw [hml]; rfl) (argsL := [(.int (3 : Int32))]) (rest := []) (lenOf pd_99 rfl) rfl (by show 2 * 0 + _ ≤ _; exact Nat.le_of_eq rfl) (hb hby at_21) (fun _ _ => ⟨rfl, e386, (by decide : 0 + 0 ≤ _), (by decide : 0 + 0 ≤ _)⟩)
                  dsimp only [Pt.U, Pt.locs, Pt.cells, Pt.slots] at X389 l389 y389 z389 st389 hQ389
                  subst l389 y389 z389
                  obtain ⟨rfl, N389q, e389⟩ := hQ389
                  have N389 := Fr.app N386 N389q
                  have go390 : ∀ t, Steps p.tables e below (T389.setTop (mkF m 24 #[.val (.int p0), .val (.int p1), .val (.int (3 : Int32)), .val (.int (3 : Int32)), .val (.ref s_L3), .unset, .unset] [(.ref s_L3)])) t → Steps p.tables e below (s₁.setTop (entryFrame m #[(.int p0), (.int p1)] maxLocals)) t := fun t k => go388 _ (st389 _ k)
                  have go391 : ∀ t, Steps p.tables e below (T389.setTop (mkF m 27 #[.val (.int p0), .val (.int p1), .val (.int (3 : Int32)), .val (.int (3 : Int32)), .val (.ref s_L3), .val (.ref s_L3), .unset] [(.int (3 : Int32))])) t → Steps p.tables e below (s₁.setTop (entryFrame m #[(.int p0), (.int p1)] maxLocals)) t := by
                    intro t k
                    refine go390 _ ?_
                    refine XS.astore X389.here hx rfl (hb hby at_24) rfl rfl (l' := #[.val (.int p0), .val (.int p1), .val (.int (3 : Int32)), .val (.int (3 : Int32)), .val (.ref s_L3), .val (.ref s_L3), .unset]) rfl ?_
                    show Steps p.tables e below (T389.setTop (mkF m 26 #[.val (.int p0), .val (.int p1), .val (.int (3 : Int32)), .val (.int (3 : Int32)), .val (.ref s_L3), .val (.ref s_L3), .unset] [])) t
                    refine XS.iloadN X389.here hx rfl (hb hby at_26) rfl ?_
                    show Steps p.tables e below (T389.setTop (mkF m 27 #[.val (.int p0), .val (.int p1), .val (.int (3 : Int32)), .val (.int (3 : Int32)), .val (.ref s_L3), .val (.ref s_L3), .unset] [(.int (3 : Int32))])) t
                    exact k
                  obtain ⟨_, _, ⟨T392, L392, k392, n392⟩, -, X392, ⟨Lc392, hQ392, l392, y392, z392⟩, st392⟩ := Jvm.LawKit.callS X389 hx (y := (⟨"com/example/hauora_id/hauoraid/model/ConfidenceLevelAtLeastPinLaw", "digit", "(I)I"⟩ : MethodName)) hown (mvT hZ (hw _ (List.mem_of_getElem? (i := 10) rfl))) (mvT hZ (hw _ (List.mem_of_getElem? (i := 11) rfl))) (mvT hZ (hw _ (List.mem_of_getElem? (i := 3) rfl))) (mvT hZ (hw _ (List.mem_of_getElem? (i := 12) rfl))) (by decide) (backOf (W := 0) (rm2 l Z aZ hw [] (3 : Int32) h0 n0 Z0 ) hZ (hw _ (List.mem_of_getElem? (i := 12) rfl)) (hw _ (List.mem_of_getElem? (i := 3) rfl)) (by decide) (by decide)) (g := (mkF m 27 #[.val (.int p0), .val (.int p1), .val (.int (3 : Int32)), .val (.int (3 : Int32)), .val (.ref s_L3), .val (.ref s_L3), .unset] [(.int (3 : Int32))])) rfl (by rw [hml]; rfl) (argsL := [(.int (3 : Int32))]) (rest := []) (lenOf pd_100 rfl) rfl (by show 2 * 0 + _ ≤ _; exact Nat.le_of_eq rfl) (hb hby at_27) (fun _ _ => ⟨rfl, e389, (by decide : 0 + 0 ≤ _), (by decide : 0 + 0 ≤ _)⟩)
                  dsimp only [Pt.U, Pt.locs, Pt.cells, Pt.slots] at X392 l392 y392 z392 st392 hQ392
                  subst l392 y392 z392
                  obtain ⟨rfl, N392q, e392⟩ := hQ392
                  have N392 := Fr.app N389 N392q
                  have go393 : ∀ t, Steps p.tables e below (T392.setTop (mkF m 30 #[.val (.int p0), .val (.int p1), .val (.int (3 : Int32)), .val (.int (3 : Int32)), .val (.ref s_L3), .val (.ref s_L3), .unset] [(.int (3 : Int32))])) t → Steps p.tables e below (s₁.setTop (entryFrame m #[(.int p0), (.int p1)] maxLocals)) t := fun t k => go391 _ (st392 _ k)
                  have go394 : ∀ t, Steps p.tables e below (T392.setTop (mkF m 31 #[.val (.int p0), .val (.int p1), .val (.int (3 : Int32)), .val (.int (3 : Int32)), .val (.ref s_L3), .val (.ref s_L3), .unset] [(.int (3 : Int32)), (.int (3 : Int32))])) t → Steps p.tables e below (s₁.setTop (entryFrame m #[(.int p0), (.int p1)] maxLocals)) t := by
                    intro t k
                    refine go393 _ ?_
                    refine XS.iloadN X392.here hx rfl (hb hby at_30) rfl ?_
                    show Steps p.tables e below (T392.setTop (mkF m 31 #[.val (.int p0), .val (.int p1), .val (.int (3 : Int32)), .val (.int (3 : Int32)), .val (.ref s_L3), .val (.ref s_L3), .unset] [(.int (3 : Int32)), (.int (3 : Int32))])) t
                    exact k
                  obtain ⟨_, _, ⟨T395, L395, k395, n395⟩, -, X395, ⟨Lc395, hQ395, l395, y395, z395⟩, st395⟩ := Jvm.LawKit.callS X392 hx (y := (⟨"com/example/hauora_id/hauoraid/model/ConfidenceLevelAtLeastPinLaw", "digit", "(I)I"⟩ : MethodName)) hown (mvT hZ (hw _ (List.mem_of_getElem? (i := 10) rfl))) (mvT hZ (hw _ (List.mem_of_getElem? (i := 11) rfl))) (mvT hZ (hw _ (List.mem_of_getElem? (i := 3) rfl))) (mvT hZ (hw _ (List.mem_of_getElem? (i := 12) rfl))) (by decide) (backOf (W := 1) (rm2 l Z aZ hw [] (3 : Int32) h0 n0 Z0 ) hZ (hw _ (List.mem_of_getElem? (i := 12) rfl)) (hw _ (List.mem_of_getElem? (i := 3) rfl)) (by decide) (by decide)) (g := (mkF m 31 #[.val (.int p0), .val (.int p1), .val (.int (3 : Int32)), .val (.int (3 : Int32)), .val (.ref s_L3), .val (.ref s_L3), .unset] [(.int (3 : Int32)), (.int (3 : Int32))])) rfl (by rw [hml]; rfl) (argsL := [(.int (3 : Int32))]) (rest := [(.int (3 : Int32))]) (lenOf pd_100 rfl) rfl (by show 2 * 0 + _ ≤ _; exact Nat.le_of_eq rfl) (hb hby at_31) (fun _ _ => ⟨rfl, e392, (by decide : 0 + 0 ≤ _), (by decide : 0 + 0 ≤ _)⟩)
                  dsimp only [Pt.U, Pt.locs, Pt.cells, Pt.slots] at X395 l395 y395 z395 st395 hQ395
                  subst l395 y395 z395
                  obtain ⟨rfl, N395q, e395⟩ := hQ395
                  have N395 := Fr.app N392 N395q
                  have go396 : ∀ t, Steps p.tables e below (T395.setTop (mkF m 34 #[.val (.int p0), .val (.int p1), .val (.int (3 : Int32)), .val (.int (3 : Int32)), .val (.ref s_L3), .val (.ref s_L3), .unset] [(.int (3 : Int32)), (.int (3 : Int32))])) t → Steps p.tables e below (s₁.setTop (entryFrame m #[(.int p0), (.int p1)] maxLocals)) t := fun t k => go394 _ (st395 _ k)
                  have go397 : ∀ t, Steps p.tables e below (T395.setTop (mkF m 48 #[.val (.int p0), .val (.int p1), .val (.int (3 : Int32)), .val (.int (3 : Int32)), .val (.ref s_L3), .val (.ref s_L3), .val (.int (1 : Int32))] [(.ref s_L3), (.ref s_L3)])) t → Steps p.tables e below (s₁.setTop (entryFrame m #[(.int p0), (.int p1)] maxLocals)) t := by
                    intro t k
                    refine go396 _ ?_
                    refine XS.icmpNo X395.here hx rfl (hb hby at_34) rfl (XT.ii_lt_f (by decide : ¬ ((3 : Int32) < (3 : Int32)))) ?_
                    show Steps p.tables e below (T395.setTop (mkF m 37 #[.val (.int p0), .val (.int p1), .val (.int (3 : Int32)), .val (.int (3 : Int32)), .val (.ref s_L3), .val (.ref s_L3), .unset] [])) t
                    refine XS.iconst X395.here hx rfl (hb hby at_37) ?_
                    show Steps p.tables e below (T395.setTop (mkF m 38 #[.val (.int p0), .val (.int p1), .val (.int (3 : Int32)), .val (.int (3 : Int32)), .val (.ref s_L3), .val (.ref s_L3), .unset] [(.int (1 : Int32))])) t
                    refine XS.goto X395.here hx rfl (pc0 := 38) (pc' := 42) rfl (hb hby at_38) (by decide) (by decide) ?_
                    show Steps p.tables e below (T395.setTop (mkF m 42 #[.val (.int p0), .val (.int p1), .val (.int (3 : Int32)), .val (.int (3 : Int32)), .val (.ref s_L3), .val (.ref s_L3), .unset] [(.int (1 : Int32))])) t
                    refine XS.istore X395.here hx rfl (hb hby at_42) rfl (l' := #[.val (.int p0), .val (.int p1), .val (.int (3 : Int32)), .val (.int (3 : Int32)), .val (.ref s_L3), .val (.ref s_L3), .val (.int (1 : Int32))]) rfl ?_
                    show Steps p.tables e below (T395.setTop (mkF m 44 #[.val (.int p0), .val (.int p1), .val (.int (3 : Int32)), .val (.int (3 : Int32)), .val (.ref s_L3), .val (.ref s_L3), .val (.int (1 : Int32))] [])) t
                    refine XS.aload X395.here hx rfl (hb hby at_44) rfl rfl ?_
                    show Steps p.tables e below (T395.setTop (mkF m 46 #[.val (.int p0), .val (.int p1), .val (.int (3 : Int32)), .val (.int (3 : Int32)), .val (.ref s_L3), .val (.ref s_L3), .val (.int (1 : Int32))] [(.ref s_L3)])) t
                    refine XS.aload X395.here hx rfl (hb hby at_46) rfl rfl ?_
                    show Steps p.tables e below (T395.setTop (mkF m 48 #[.val (.int p0), .val (.int p1), .val (.int (3 : Int32)), .val (.int (3 : Int32)), .val (.ref s_L3), .val (.ref s_L3), .val (.int (1 : Int32))] [(.ref s_L3), (.ref s_L3)])) t
                    exact k
                  obtain ⟨cq398, kq398, q398a, q398b, q398c⟩ := isOf hZ e395 E_L3
                  obtain ⟨_, _, ⟨T398, L398, k398, n398⟩, -, X398, ⟨Lc398, hQ398, l398, y398, z398⟩, st398⟩ := X395.virtualBack hx (y := (⟨"com/example/hauora_id/hauoraid/model/ConfidenceLevel", "atLeast", "(Lcom/example/hauora_id/hauoraid/model/ConfidenceLevel;)Z"⟩ : MethodName)) (z := (⟨"com/example/hauora_id/hauoraid/model/ConfidenceLevel", "atLeast", "(Lcom/example/hauora_id/hauoraid/model/ConfidenceLevel;)Z"⟩ : MethodName)) hown (mvT hZ (hw _ (List.mem_of_getElem? (i := 13) rfl))) (mvT hZ (hw _ (List.mem_of_getElem? (i := 14) rfl))) (notFace_of_selects (args := #[]) (mvT hZ (hw _ (List.mem_of_getElem? (i := 16) rfl)))) (mvT hZ (hw _ (List.mem_of_getElem? (i := 16) rfl))) (mvT hZ (hw _ (List.mem_of_getElem? (i := 15) rfl))) (by decide) (backOf (W := 0) (rm3 l Z aZ hw [] s_L3 s_L3 s_COMPACT_STRINGS s_SIOOBE_FORMATTER s_L3_value s_L3_value_value k_s_L3_value_value (1 : Int32) [(.int (51 : Int32))] (51 : Int32) s_L3_value s_L3_value_value k_s_L3_value_value (1 : Int32) [(.int (51 : Int32))] (51 : Int32) h0 n0 Z0 S_COMPACT_STRINGS S_SIOOBE_FORMATTER rS_SIOOBE_FORMATTER hcs F_L3_value E_L3_value F_L3_value_coder F_L3_value_value V_L3_value_value (by decide) rfl F_L3_value E_L3_value F_L3_value_coder F_L3_value_value V_L3_value_value (by decide) rfl) hZ (hw _ (List.mem_of_getElem? (i := 17) rfl)) (hw _ (List.mem_of_getElem? (i := 6) rfl)) (by decide) (by decide)) q398a q398c (g := (mkF m 48 #[.val (.int p0), .val (.int p1), .val (.int (3 : Int32)), .val (.int (3 : Int32)), .val (.ref s_L3), .val (.ref s_L3), .val (.int (1 : Int32))] [(.ref s_L3), (.ref s_L3)])) rfl (by rw [hml]; rfl) (Steps.refl _) (argsL := [(.ref s_L3)]) (rest := []) (lenOf pd_101 rfl) rfl (by show 2 * 0 + _ ≤ _; exact Nat.le_of_eq rfl) (hb hby at_48) (fun _ _ => ⟨rfl, e395, (by decide : 0 + 0 ≤ _), (by decide : 0 + 0 ≤ _)⟩)
                  dsimp only [Pt.U, Pt.locs, Pt.cells, Pt.slots] at X398 l398 y398 z398 st398 hQ398
                  subst l398 y398 z398
                  obtain ⟨rfl, N398q, e398⟩ := hQ398
                  have N398 := Fr.app N395 N398q
                  have go399 : ∀ t, Steps p.tables e below (T398.setTop (mkF m 51 #[.val (.int p0), .val (.int p1), .val (.int (3 : Int32)), .val (.int (3 : Int32)), .val (.ref s_L3), .val (.ref s_L3), .val (.int (1 : Int32))] [(.int (f3 (51 : Int32) (51 : Int32)))])) t → Steps p.tables e below (s₁.setTop (entryFrame m #[(.int p0), (.int p1)] maxLocals)) t := fun t k => go397 _ (st398.trans k)
                  have go401 : ∀ t, Steps p.tables e below (T398.setTop (mkF m 61 #[.val (.int p0), .val (.int p1), .val (.int (3 : Int32)), .val (.int (3 : Int32)), .val (.ref s_L3), .val (.ref s_L3), .val (.int (1 : Int32))] [(.int b0_402)])) t → Steps p.tables e below (s₁.setTop (entryFrame m #[(.int p0), (.int p1)] maxLocals)) t := by
                    intro t k
                    refine go399 _ ?_
                    refine XS.iload X398.here hx rfl (hb hby at_51) rfl ?_
                    show Steps p.tables e below (T398.setTop (mkF m 53 #[.val (.int p0), .val (.int p1), .val (.int (3 : Int32)), .val (.int (3 : Int32)), .val (.ref s_L3), .val (.ref s_L3), .val (.int (1 : Int32))] [(.int (1 : Int32)), (.int (f3 (51 : Int32) (51 : Int32)))])) t
                    by_cases hc400 : (f3 (51 : Int32) (51 : Int32)) = (1 : Int32)
                    · refine XS.icmpNo X398.here hx rfl (hb hby at_53) rfl (XT.ii_ne_f hc400) ?_
                      show Steps p.tables e below (T398.setTop (mkF m 56 #[.val (.int p0), .val (.int p1), .val (.int (3 : Int32)), .val (.int (3 : Int32)), .val (.ref s_L3), .val (.ref s_L3), .val (.int (1 : Int32))] [])) t
                      refine XS.iconst X398.here hx rfl (hb hby at_56) ?_
                      show Steps p.tables e below (T398.setTop (mkF m 57 #[.val (.int p0), .val (.int p1), .val (.int (3 : Int32)), .val (.int (3 : Int32)), .val (.ref s_L3), .val (.ref s_L3), .val (.int (1 : Int32))] [(.int (1 : Int32))])) t
                      refine XS.goto X398.here hx rfl (pc0 := 57) (pc' := 61) rfl (hb hby at_57) (by decide) (by decide) ?_
                      show Steps p.tables e below (T398.setTop (mkF m 61 #[.val (.int p0), .val (.int p1), .val (.int (3 : Int32)), .val (.int (3 : Int32)), .val (.ref s_L3), .val (.ref s_L3), .val (.int (1 : Int32))] [(.int (1 : Int32))])) t
                      have hq403 : b0_402 = (1 : Int32) := by rw [b0_402, if_pos hc400]
                      rw [hq403] at k
                      exact k
                    · refine XS.icmpYes X398.here hx rfl (pc0 := 53) (pc' := 60) rfl (hb hby at_53) rfl (XT.ii_ne_t hc400) (by decide) (by decide) ?_
                      show Steps p.tables e below (T398.setTop (mkF m 60 #[.val (.int p0), .val (.int p1), .val (.int (3 : Int32)), .val (.int (3 : Int32)), .val (.ref s_L3), .val (.ref s_L3), .val (.int (1 : Int32))] [])) t
                      refine XS.iconst X398.here hx rfl (hb hby at_60) ?_
                      show Steps p.tables e below (T398.setTop (mkF m 61 #[.val (.int p0), .val (.int p1), .val (.int (3 : Int32)), .val (.int (3 : Int32)), .val (.ref s_L3), .val (.ref s_L3), .val (.int (1 : Int32))] [(.int (0 : Int32))])) t
                      have hq404 : b0_402 = (0 : Int32) := by rw [b0_402, if_neg hc400]
                      rw [hq404] at k
                      exact k
                  obtain ⟨fs, hr, hrun, hended, hW, hsame⟩ := X398.leave (v := some (.int b0_402)) (fun h => by rw [Bd.returns] at h; cases h)
                  refine ⟨_, _, go401 _ (Jvm.RoadKit.retOut X398 hx Bd.returns (own_nz (by unfold b0_402; (repeat' split) <;> first | exact Or.inl rfl | exact Or.inr rfl)) (Or.inl ⟨rfl, Or.inr (Or.inl rfl), _, rfl⟩) (hb hby at_61) hr), hrun, hended, _, _, rfl, ?_, ⟨_, rfl⟩, hW, hsame.mono (by decide) (by decide)⟩
                  show Q0 _ _ p0 p1 s_L1 s_L3 s_L1_value s_L1_value_value s_L3_value s_L3_value_value s_L3N s_L2 s_L3N_value s_L3N_value_value s_L2_value s_L2_value_value s_L2N s_L2N_value s_L2N_value_value k_s_L1_value_value k_s_L3_value_value k_s_L3N_value_value k_s_L2_value_value k_s_L2N_value_value s_COMPACT_STRINGS s_SIOOBE_FORMATTER h0 _ (T398.setFrames fs).heap _
                  have hE : (T398.setFrames fs).heap = h0 := e398
                  rw [hE]
                  exact ⟨congrArg (fun z => some (Value.int z)) ((by rw [f0, if_neg hs4, if_neg hs110, if_neg hs216, if_pos hs319, if_neg hs322, if_neg hs343, if_neg hs364, if_pos hs384] : b0_402 = (f0 p0 p1)).trans (f0_one p0 p1)), N398⟩
                · by_cases hs405 : (v0_2 p1) = (4 : Int32)
                  · have go406 : ∀ t, Steps p.tables e below (s₁.setTop (mkF m 15 #[.val (.int p0), .val (.int p1), .val (.int (3 : Int32)), .val (.int (4 : Int32)), .unset, .unset, .unset] [(.int (3 : Int32))])) t → Steps p.tables e below (s₁.setTop (entryFrame m #[(.int p0), (.int p1)] maxLocals)) t := by
                      have q := go321
                      rw [hs405] at q
                      exact q
                    obtain ⟨_, _, ⟨T407, L407, k407, n407⟩, -, X407, ⟨Lc407, hQ407, l407, y407, z407⟩, st407⟩ := Jvm.LawKit.callS X0 hx (y := (⟨"com/example/hauora_id/hauoraid/model/ConfidenceLevelAtLeastPinLaw", "pick", "(I)Lcom/example/hauora_id/hauoraid/model/ConfidenceLevel;"⟩ : MethodName)) hown (mvT hZ (hw _ (List.mem_of_getElem? (i := 1) rfl))) (mvT hZ (hw _ (List.mem_of_getElem? (i := 2) rfl))) (mvT hZ (hw _ (List.mem_of_getElem? (i := 3) rfl))) (mvT hZ (hw _ (List.mem_of_getElem? (i := 4) rfl))) (by decide) (backOf (W := 0) (rm1 l Z aZ hw [] (3 : Int32) s_L1 s_L2 s_L2N s_L3 s_L3N h0 n0 Z0 S_L1 S_L2 S_L2N S_L3 S_L3N) hZ (hw _ (List.mem_of_getElem? (i := 4) rfl)) (hw _ (List.mem_of_getElem? (i := 3) rfl)) (by decide) (by decide)) (g := (mkF m 15 #[.val (.int p0), .val (.int p1), .val (.int (3 : Int32)), .val (.int (4 : Int32)), .unset, .unset, .unset] [(.int (3 : Int32))])) rfl (by rw [hml]; rfl) (argsL := [(.int (3 : Int32))]) (rest := []) (lenOf pd_99 rfl) rfl (by show 2 * 0 + _ ≤ _; exact Nat.le_of_eq rfl) (hb hby at_15) (fun _ _ => ⟨rfl, e0, (by decide : 0 + 0 ≤ _), (by decide : 0 + 0 ≤ _)⟩)
                    dsimp only [Pt.U, Pt.locs, Pt.cells, Pt.slots] at X407 l407 y407 z407 st407 hQ407
                    subst l407 y407 z407
                    obtain ⟨rfl, N407q, e407⟩ := hQ407
                    have N407 := Fr.app N0 N407q
                    have go408 : ∀ t, Steps p.tables e below (T407.setTop (mkF m 18 #[.val (.int p0), .val (.int p1), .val (.int (3 : Int32)), .val (.int (4 : Int32)), .unset, .unset, .unset] [(.ref s_L3)])) t → Steps p.tables e below (s₁.setTop (entryFrame m #[(.int p0), (.int p1)] maxLocals)) t := fun t k => go406 _ (st407 _ k)
                    have go409 : ∀ t, Steps p.tables e below (T407.setTop (mkF m 21 #[.val (.int p0), .val (.int p1), .val (.int (3 : Int32)), .val (.int (4 : Int32)), .val (.ref s_L3), .unset, .unset] [(.int (4 : Int32))])) t → Steps p.tables e below (s₁.setTop (entryFrame m #[(.int p0), (.int p1)] maxLocals)) t := by
                      intro t k
                      refine go408 _ ?_
                      refine XS.astore X407.here hx rfl (hb hby at_18) rfl rfl (l' := #[.val (.int p0), .val (.int p1), .val (.int (3 : Int32)), .val (.int (4 : Int32)), .val (.ref s_L3), .unset, .unset]) rfl ?_
                      show Steps p.tables e below (T407.setTop (mkF m 20 #[.val (.int p0), .val (.int p1), .val (.int (3 : Int32)), .val (.int (4 : Int32)), .val (.ref s_L3), .unset, .unset] [])) t
                      refine XS.iloadN X407.here hx rfl (hb hby at_20) rfl ?_
                      show Steps p.tables e below (T407.setTop (mkF m 21 #[.val (.int p0), .val (.int p1), .val (.int (3 : Int32)), .val (.int (4 : Int32)), .val (.ref s_L3), .unset, .unset] [(.int (4 : Int32))])) t
                      exact k
                    obtain ⟨_, _, ⟨T410, L410, k410, n410⟩, -, X410, ⟨Lc410, hQ410, l410, y410, z410⟩, st410⟩ := Jvm.LawKit.callS X407 hx (y := (⟨"com/example/hauora_id/hauoraid/model/ConfidenceLevelAtLeastPinLaw", "pick", "(I)Lcom/example/hauora_id/hauoraid/model/ConfidenceLevel;"⟩ : MethodName)) hown (mvT hZ (hw _ (List.mem_of_getElem? (i := 1) rfl))) (mvT hZ (hw _ (List.mem_of_getElem? (i := 2) rfl))) (mvT hZ (hw _ (List.mem_of_getElem? (i := 3) rfl))) (mvT hZ (hw _ (List.mem_of_getElem? (i := 4) rfl))) (by decide) (backOf (W := 0) (rm1 l Z aZ hw [] (4 : Int32) s_L1 s_L2 s_L2N s_L3 s_L3N h0 n0 Z0 S_L1 S_L2 S_L2N S_L3 S_L3N) hZ (hw _ (List.mem_of_getElem? (i := 4) rfl)) (hw _ (List.mem_of_getElem? (i := 3) rfl)) (by decide) (by decide)) (g := (mkF m 21 #[.val (.int p0), .val (.int p1), .val (.int (3 : Int32)), .val (.int (4 : Int32)), .val (.ref s_L3), .unset, .unset] [(.int (4 : Int32))])) rfl (by rw [hml]; rfl) (argsL := [(.int (4 : Int32))]) (rest := []) (lenOf pd_99 rfl) rfl (by show 2 * 0 + _ ≤ _; exact Nat.le_of_eq rfl) (hb hby at_21) (fun _ _ => ⟨rfl, e407, (by decide : 0 + 0 ≤ _), (by decide : 0 + 0 ≤ _)⟩)
                    dsimp only [Pt.U, Pt.locs, Pt.cells, Pt.slots] at X410 l410 y410 z410 st410 hQ410
                    subst l410 y410 z410
                    obtain ⟨rfl, N410q, e410⟩ := hQ410
                    have N410 := Fr.app N407 N410q
                    have go411 : ∀ t, Steps p.tables e below (T410.setTop (mkF m 24 #[.val (.int p0), .val (.int p1), .val (.int (3 : Int32)), .val (.int (4 : Int32)), .val (.ref s_L3), .unset, .unset] [(.ref s_L3N)])) t → Steps p.tables e below (s₁.setTop (entryFrame m #[(.int p0), (.int p1)] maxLocals)) t := fun t k => go409 _ (st410 _ k)
                    have go412 : ∀ t, Steps p.tables e below (T410.setTop (mkF m 27 #[.val (.int p0), .val (.int p1), .val (.int (3 : Int32)), .val (.int (4 : Int32)), .val (.ref s_L3), .val (.ref s_L3N), .unset] [(.int (3 : Int32))])) t → Steps p.tables e below (s₁.setTop (entryFrame m #[(.int p0), (.int p1)] maxLocals)) t := by
                      intro t k
                      refine go411 _ ?_
                      refine XS.astore X410.here hx rfl (hb hby at_24) rfl rfl (l' := #[.val (.int p0), .val (.int p1), .val (.int (3 : Int32)), .val (.int (4 : Int32)), .val (.ref s_L3), .val (.ref s_L3N), .unset]) rfl ?_
                      show Steps p.tables e below (T410.setTop (mkF m 26 #[.val (.int p0), .val (.int p1), .val (.int (3 : Int32)), .val (.int (4 : Int32)), .val (.ref s_L3), .val (.ref s_L3N), .unset] [])) t
                      refine XS.iloadN X410.here hx rfl (hb hby at_26) rfl ?_
                      show Steps p.tables e below (T410.setTop (mkF m 27 #[.val (.int p0), .val (.int p1), .val (.int (3 : Int32)), .val (.int (4 : Int32)), .val (.ref s_L3), .val (.ref s_L3N), .unset] [(.int (3 : Int32))])) t
                      exact k
                    obtain ⟨_, _, ⟨T413, L413, k413, n413⟩, -, X413, ⟨Lc413, hQ413, l413, y413, z413⟩, st413⟩ := Jvm.LawKit.callS X410 hx (y := (⟨"com/example/hauora_id/hauoraid/model/ConfidenceLevelAtLeastPinLaw", "digit", "(I)I"⟩ : MethodName)) hown (mvT hZ (hw _ (List.mem_of_getElem? (i := 10) rfl))) (mvT hZ (hw _ (List.mem_of_getElem? (i := 11) rfl))) (mvT hZ (hw _ (List.mem_of_getElem? (i := 3) rfl))) (mvT hZ (hw _ (List.mem_of_getElem? (i := 12) rfl))) (by decide) (backOf (W := 0) (rm2 l Z aZ hw [] (3 : Int32) h0 n0 Z0 ) hZ (hw _ (List.mem_of_getElem? (i := 12) rfl)) (hw _ (List.mem_of_getElem? (i := 3) rfl)) (by decide) (by decide)) (g := (mkF m 27 #[.val (.int p0), .val (.int p1), .val (.int (3 : Int32)), .val (.int (4 : Int32)), .val (.ref s_L3), .val (.ref s_L3N), .unset] [(.int (3 : Int32))])) rfl (by rw [hml]; rfl) (argsL := [(.int (3 : Int32))]) (rest := []) (lenOf pd_100 rfl) rfl (by show 2 * 0 + _ ≤ _; exact Nat.le_of_eq rfl) (hb hby at_27) (fun _ _ => ⟨rfl, e410, (by decide : 0 + 0 ≤ _), (by decide : 0 + 0 ≤ _)⟩)
                    dsimp only [Pt.U, Pt.locs, Pt.cells, Pt.slots] at X413 l413 y413 z413 st413 hQ413
                    subst l413 y413 z413
                    obtain ⟨rfl, N413q, e413⟩ := hQ413
                    have N413 := Fr.app N410 N413q
                    have go414 : ∀ t, Steps p.tables e below (T413.setTop (mkF m 30 #[.val (.int p0), .val (.int p1), .val (.int (3 : Int32)), .val (.int (4 : Int32)), .val (.ref s_L3), .val (.ref s_L3N), .unset] [(.int (3 : Int32))])) t → Steps p.tables e below (s₁.setTop (entryFrame m #[(.int p0), (.int p1)] maxLocals)) t := fun t k => go412 _ (st413 _ k)
                    have go415 : ∀ t, Steps p.tables e below (T413.setTop (mkF m 31 #[.val (.int p0), .val (.int p1), .val (.int (3 : Int32)), .val (.int (4 : Int32)), .val (.ref s_L3), .val (.ref s_L3N), .unset] [(.int (4 : Int32)), (.int (3 : Int32))])) t → Steps p.tables e below (s₁.setTop (entryFrame m #[(.int p0), (.int p1)] maxLocals)) t := by
                      intro t k
                      refine go414 _ ?_
                      refine XS.iloadN X413.here hx rfl (hb hby at_30) rfl ?_
                      show Steps p.tables e below (T413.setTop (mkF m 31 #[.val (.int p0), .val (.int p1), .val (.int (3 : Int32)), .val (.int (4 : Int32)), .val (.ref s_L3), .val (.ref s_L3N), .unset] [(.int (4 : Int32)), (.int (3 : Int32))])) t
                      exact k
                    obtain ⟨_, _, ⟨T416, L416, k416, n416⟩, -, X416, ⟨Lc416, hQ416, l416, y416, z416⟩, st416⟩ := Jvm.LawKit.callS X413 hx (y := (⟨"com/example/hauora_id/hauoraid/model/ConfidenceLevelAtLeastPinLaw", "digit", "(I)I"⟩ : MethodName)) hown (mvT hZ (hw _ (List.mem_of_getElem? (i := 10) rfl))) (mvT hZ (hw _ (List.mem_of_getElem? (i := 11) rfl))) (mvT hZ (hw _ (List.mem_of_getElem? (i := 3) rfl))) (mvT hZ (hw _ (List.mem_of_getElem? (i := 12) rfl))) (by decide) (backOf (W := 1) (rm2 l Z aZ hw [] (4 : Int32) h0 n0 Z0 ) hZ (hw _ (List.mem_of_getElem? (i := 12) rfl)) (hw _ (List.mem_of_getElem? (i := 3) rfl)) (by decide) (by decide)) (g := (mkF m 31 #[.val (.int p0), .val (.int p1), .val (.int (3 : Int32)), .val (.int (4 : Int32)), .val (.ref s_L3), .val (.ref s_L3N), .unset] [(.int (4 : Int32)), (.int (3 : Int32))])) rfl (by rw [hml]; rfl) (argsL := [(.int (4 : Int32))]) (rest := [(.int (3 : Int32))]) (lenOf pd_100 rfl) rfl (by show 2 * 0 + _ ≤ _; exact Nat.le_of_eq rfl) (hb hby at_31) (fun _ _ => ⟨rfl, e413, (by decide : 0 + 0 ≤ _), (by decide : 0 + 0 ≤ _)⟩)
                    dsimp only [Pt.U, Pt.locs, Pt.cells, Pt.slots] at X416 l416 y416 z416 st416 hQ416
                    subst l416 y416 z416
                    obtain ⟨rfl, N416q, e416⟩ := hQ416
                    have N416 := Fr.app N413 N416q
                    have go417 : ∀ t, Steps p.tables e below (T416.setTop (mkF m 34 #[.val (.int p0), .val (.int p1), .val (.int (3 : Int32)), .val (.int (4 : Int32)), .val (.ref s_L3), .val (.ref s_L3N), .unset] [(.int (3 : Int32)), (.int (3 : Int32))])) t → Steps p.tables e below (s₁.setTop (entryFrame m #[(.int p0), (.int p1)] maxLocals)) t := fun t k => go415 _ (st416 _ k)
                    have go418 : ∀ t, Steps p.tables e below (T416.setTop (mkF m 48 #[.val (.int p0), .val (.int p1), .val (.int (3 : Int32)), .val (.int (4 : Int32)), .val (.ref s_L3), .val (.ref s_L3N), .val (.int (1 : Int32))] [(.ref s_L3N), (.ref s_L3)])) t → Steps p.tables e below (s₁.setTop (entryFrame m #[(.int p0), (.int p1)] maxLocals)) t := by
                      intro t k
                      refine go417 _ ?_
                      refine XS.icmpNo X416.here hx rfl (hb hby at_34) rfl (XT.ii_lt_f (by decide : ¬ ((3 : Int32) < (3 : Int32)))) ?_
                      show Steps p.tables e below (T416.setTop (mkF m 37 #[.val (.int p0), .val (.int p1), .val (.int (3 : Int32)), .val (.int (4 : Int32)), .val (.ref s_L3), .val (.ref s_L3N), .unset] [])) t
                      refine XS.iconst X416.here hx rfl (hb hby at_37) ?_
                      show Steps p.tables e below (T416.setTop (mkF m 38 #[.val (.int p0), .val (.int p1), .val (.int (3 : Int32)), .val (.int (4 : Int32)), .val (.ref s_L3), .val (.ref s_L3N), .unset] [(.int (1 : Int32))])) t
                      refine XS.goto X416.here hx rfl (pc0 := 38) (pc' := 42) rfl (hb hby at_38) (by decide) (by decide) ?_
                      show Steps p.tables e below (T416.setTop (mkF m 42 #[.val (.int p0), .val (.int p1), .val (.int (3 : Int32)), .val (.int (4 : Int32)), .val (.ref s_L3), .val (.ref s_L3N), .unset] [(.int (1 : Int32))])) t
                      refine XS.istore X416.here hx rfl (hb hby at_42) rfl (l' := #[.val (.int p0), .val (.int p1), .val (.int (3 : Int32)), .val (.int (4 : Int32)), .val (.ref s_L3), .val (.ref s_L3N), .val (.int (1 : Int32))]) rfl ?_
                      show Steps p.tables e below (T416.setTop (mkF m 44 #[.val (.int p0), .val (.int p1), .val (.int (3 : Int32)), .val (.int (4 : Int32)), .val (.ref s_L3), .val (.ref s_L3N), .val (.int (1 : Int32))] [])) t
                      refine XS.aload X416.here hx rfl (hb hby at_44) rfl rfl ?_
                      show Steps p.tables e below (T416.setTop (mkF m 46 #[.val (.int p0), .val (.int p1), .val (.int (3 : Int32)), .val (.int (4 : Int32)), .val (.ref s_L3), .val (.ref s_L3N), .val (.int (1 : Int32))] [(.ref s_L3)])) t
                      refine XS.aload X416.here hx rfl (hb hby at_46) rfl rfl ?_
                      show Steps p.tables e below (T416.setTop (mkF m 48 #[.val (.int p0), .val (.int p1), .val (.int (3 : Int32)), .val (.int (4 : Int32)), .val (.ref s_L3), .val (.ref s_L3N), .val (.int (1 : Int32))] [(.ref s_L3N), (.ref s_L3)])) t
                      exact k
                    obtain ⟨cq419, kq419, q419a, q419b, q419c⟩ := isOf hZ e416 E_L3
                    obtain ⟨_, _, ⟨T419, L419, k419, n419⟩, -, X419, ⟨Lc419, hQ419, l419, y419, z419⟩, st419⟩ := X416.virtualBack hx (y := (⟨"com/example/hauora_id/hauoraid/model/ConfidenceLevel", "atLeast", "(Lcom/example/hauora_id/hauoraid/model/ConfidenceLevel;)Z"⟩ : MethodName)) (z := (⟨"com/example/hauora_id/hauoraid/model/ConfidenceLevel", "atLeast", "(Lcom/example/hauora_id/hauoraid/model/ConfidenceLevel;)Z"⟩ : MethodName)) hown (mvT hZ (hw _ (List.mem_of_getElem? (i := 13) rfl))) (mvT hZ (hw _ (List.mem_of_getElem? (i := 14) rfl))) (notFace_of_selects (args := #[]) (mvT hZ (hw _ (List.mem_of_getElem? (i := 16) rfl)))) (mvT hZ (hw _ (List.mem_of_getElem? (i := 16) rfl))) (mvT hZ (hw _ (List.mem_of_getElem? (i := 15) rfl))) (by decide) (backOf (W := 0) (rm3 l Z aZ hw [] s_L3 s_L3N s_COMPACT_STRINGS s_SIOOBE_FORMATTER s_L3_value s_L3_value_value k_s_L3_value_value (1 : Int32) [(.int (51 : Int32))] (51 : Int32) s_L3N_value s_L3N_value_value k_s_L3N_value_value (2 : Int32) [(.int (51 : Int32)), (.int (78 : Int32))] (51 : Int32) h0 n0 Z0 S_COMPACT_STRINGS S_SIOOBE_FORMATTER rS_SIOOBE_FORMATTER hcs F_L3_value E_L3_value F_L3_value_coder F_L3_value_value V_L3_value_value (by decide) rfl F_L3N_value E_L3N_value F_L3N_value_coder F_L3N_value_value V_L3N_value_value (by decide) rfl) hZ (hw _ (List.mem_of_getElem? (i := 17) rfl)) (hw _ (List.mem_of_getElem? (i := 6) rfl)) (by decide) (by decide)) q419a q419c (g := (mkF m 48 #[.val (.int p0), .val (.int p1), .val (.int (3 : Int32)), .val (.int (4 : Int32)), .val (.ref s_L3), .val (.ref s_L3N), .val (.int (1 : Int32))] [(.ref s_L3N), (.ref s_L3)])) rfl (by rw [hml]; rfl) (Steps.refl _) (argsL := [(.ref s_L3N)]) (rest := []) (lenOf pd_101 rfl) rfl (by show 2 * 0 + _ ≤ _; exact Nat.le_of_eq rfl) (hb hby at_48) (fun _ _ => ⟨rfl, e416, (by decide : 0 + 0 ≤ _), (by decide : 0 + 0 ≤ _)⟩)
                    dsimp only [Pt.U, Pt.locs, Pt.cells, Pt.slots] at X419 l419 y419 z419 st419 hQ419
                    subst l419 y419 z419
                    obtain ⟨rfl, N419q, e419⟩ := hQ419
                    have N419 := Fr.app N416 N419q
                    have go420 : ∀ t, Steps p.tables e below (T419.setTop (mkF m 51 #[.val (.int p0), .val (.int p1), .val (.int (3 : Int32)), .val (.int (4 : Int32)), .val (.ref s_L3), .val (.ref s_L3N), .val (.int (1 : Int32))] [(.int (f3 (51 : Int32) (51 : Int32)))])) t → Steps p.tables e below (s₁.setTop (entryFrame m #[(.int p0), (.int p1)] maxLocals)) t := fun t k => go418 _ (st419.trans k)
                    have go422 : ∀ t, Steps p.tables e below (T419.setTop (mkF m 61 #[.val (.int p0), .val (.int p1), .val (.int (3 : Int32)), .val (.int (4 : Int32)), .val (.ref s_L3), .val (.ref s_L3N), .val (.int (1 : Int32))] [(.int b0_402)])) t → Steps p.tables e below (s₁.setTop (entryFrame m #[(.int p0), (.int p1)] maxLocals)) t := by
                      intro t k
                      refine go420 _ ?_
                      refine XS.iload X419.here hx rfl (hb hby at_51) rfl ?_
                      show Steps p.tables e below (T419.setTop (mkF m 53 #[.val (.int p0), .val (.int p1), .val (.int (3 : Int32)), .val (.int (4 : Int32)), .val (.ref s_L3), .val (.ref s_L3N), .val (.int (1 : Int32))] [(.int (1 : Int32)), (.int (f3 (51 : Int32) (51 : Int32)))])) t
                      by_cases hc421 : (f3 (51 : Int32) (51 : Int32)) = (1 : Int32)
                      · refine XS.icmpNo X419.here hx rfl (hb hby at_53) rfl (XT.ii_ne_f hc421) ?_
                        show Steps p.tables e below (T419.setTop (mkF m 56 #[.val (.int p0), .val (.int p1), .val (.int (3 : Int32)), .val (.int (4 : Int32)), .val (.ref s_L3), .val (.ref s_L3N), .val (.int (1 : Int32))] [])) t
                        refine XS.iconst X419.here hx rfl (hb hby at_56) ?_
                        show Steps p.tables e below (T419.setTop (mkF m 57 #[.val (.int p0), .val (.int p1), .val (.int (3 : Int32)), .val (.int (4 : Int32)), .val (.ref s_L3), .val (.ref s_L3N), .val (.int (1 : Int32))] [(.int (1 : Int32))])) t
                        refine XS.goto X419.here hx rfl (pc0 := 57) (pc' := 61) rfl (hb hby at_57) (by decide) (by decide) ?_
                        show Steps p.tables e below (T419.setTop (mkF m 61 #[.val (.int p0), .val (.int p1), .val (.int (3 : Int32)), .val (.int (4 : Int32)), .val (.ref s_L3), .val (.ref s_L3N), .val (.int (1 : Int32))] [(.int (1 : Int32))])) t
                        have hq423 : b0_402 = (1 : Int32) := by rw [b0_402, if_pos hc421]
                        rw [hq423] at k
                        exact k
                      · refine XS.icmpYes X419.here hx rfl (pc0 := 53) (pc' := 60) rfl (hb hby at_53) rfl (XT.ii_ne_t hc421) (by decide) (by decide) ?_
                        show Steps p.tables e below (T419.setTop (mkF m 60 #[.val (.int p0), .val (.int p1), .val (.int (3 : Int32)), .val (.int (4 : Int32)), .val (.ref s_L3), .val (.ref s_L3N), .val (.int (1 : Int32))] [])) t
                        refine XS.iconst X419.here hx rfl (hb hby at_60) ?_
                        show Steps p.tables e below (T419.setTop (mkF m 61 #[.val (.int p0), .val (.int p1), .val (.int (3 : Int32)), .val (.int (4 : Int32)), .val (.ref s_L3), .val (.ref s_L3N), .val (.int (1 : Int32))] [(.int (0 : Int32))])) t
                        have hq424 : b0_402 = (0 : Int32) := by rw [b0_402, if_neg hc421]
                        rw [hq424] at k
                        exact k
                    obtain ⟨fs, hr, hrun, hended, hW, hsame⟩ := X419.leave (v := some (.int b0_402)) (fun h => by rw [Bd.returns] at h; cases h)
                    refine ⟨_, _, go422 _ (Jvm.RoadKit.retOut X419 hx Bd.returns (own_nz (by unfold b0_402; (repeat' split) <;> first | exact Or.inl rfl | exact Or.inr rfl)) (Or.inl ⟨rfl, Or.inr (Or.inl rfl), _, rfl⟩) (hb hby at_61) hr), hrun, hended, _, _, rfl, ?_, ⟨_, rfl⟩, hW, hsame.mono (by decide) (by decide)⟩
                    show Q0 _ _ p0 p1 s_L1 s_L3 s_L1_value s_L1_value_value s_L3_value s_L3_value_value s_L3N s_L2 s_L3N_value s_L3N_value_value s_L2_value s_L2_value_value s_L2N s_L2N_value s_L2N_value_value k_s_L1_value_value k_s_L3_value_value k_s_L3N_value_value k_s_L2_value_value k_s_L2N_value_value s_COMPACT_STRINGS s_SIOOBE_FORMATTER h0 _ (T419.setFrames fs).heap _
                    have hE : (T419.setFrames fs).heap = h0 := e419
                    rw [hE]
                    exact ⟨congrArg (fun z => some (Value.int z)) ((by rw [f0, if_neg hs4, if_neg hs110, if_neg hs216, if_pos hs319, if_neg hs322, if_neg hs343, if_neg hs364, if_neg hs384, if_pos hs405] : b0_402 = (f0 p0 p1)).trans (f0_one p0 p1)), N419⟩
                  · exact (own_dead5 p1 hs322 hs343 hs364 hs384 hs405).elim
        · by_cases hs425 : (v0_1 p0) = (4 : Int32)
          · have go426 : ∀ t, Steps p.tables e below (s₁.setTop (mkF m 14 #[.val (.int p0), .val (.int p1), .val (.int (4 : Int32)), .val (.int (v0_2 p1)), .unset, .unset, .unset] [])) t → Steps p.tables e below (s₁.setTop (entryFrame m #[(.int p0), (.int p1)] maxLocals)) t := by
              have q := go3
              rw [hs425] at q
              exact q
            have go427 : ∀ t, Steps p.tables e below (s₁.setTop (mkF m 15 #[.val (.int p0), .val (.int p1), .val (.int (4 : Int32)), .val (.int (v0_2 p1)), .unset, .unset, .unset] [(.int (4 : Int32))])) t → Steps p.tables e below (s₁.setTop (entryFrame m #[(.int p0), (.int p1)] maxLocals)) t := by
              intro t k
              refine go426 _ ?_
              refine XS.iloadN X0.here hx rfl (hb hby at_14) rfl ?_
              show Steps p.tables e below (s₁.setTop (mkF m 15 #[.val (.int p0), .val (.int p1), .val (.int (4 : Int32)), .val (.int (v0_2 p1)), .unset, .unset, .unset] [(.int (4 : Int32))])) t
              exact k
            by_cases hs428 : (v0_2 p1) = (0 : Int32)
            · have go429 : ∀ t, Steps p.tables e below (s₁.setTop (mkF m 15 #[.val (.int p0), .val (.int p1), .val (.int (4 : Int32)), .val (.int (0 : Int32)), .unset, .unset, .unset] [(.int (4 : Int32))])) t → Steps p.tables e below (s₁.setTop (entryFrame m #[(.int p0), (.int p1)] maxLocals)) t := by
                have q := go427
                rw [hs428] at q
                exact q
              obtain ⟨_, _, ⟨T430, L430, k430, n430⟩, -, X430, ⟨Lc430, hQ430, l430, y430, z430⟩, st430⟩ := Jvm.LawKit.callS X0 hx (y := (⟨"com/example/hauora_id/hauoraid/model/ConfidenceLevelAtLeastPinLaw", "pick", "(I)Lcom/example/hauora_id/hauoraid/model/ConfidenceLevel;"⟩ : MethodName)) hown (mvT hZ (hw _ (List.mem_of_getElem? (i := 1) rfl))) (mvT hZ (hw _ (List.mem_of_getElem? (i := 2) rfl))) (mvT hZ (hw _ (List.mem_of_getElem? (i := 3) rfl))) (mvT hZ (hw _ (List.mem_of_getElem? (i := 4) rfl))) (by decide) (backOf (W := 0) (rm1 l Z aZ hw [] (4 : Int32) s_L1 s_L2 s_L2N s_L3 s_L3N h0 n0 Z0 S_L1 S_L2 S_L2N S_L3 S_L3N) hZ (hw _ (List.mem_of_getElem? (i := 4) rfl)) (hw _ (List.mem_of_getElem? (i := 3) rfl)) (by decide) (by decide)) (g := (mkF m 15 #[.val (.int p0), .val (.int p1), .val (.int (4 : Int32)), .val (.int (0 : Int32)), .unset, .unset, .unset] [(.int (4 : Int32))])) rfl (by rw [hml]; rfl) (argsL := [(.int (4 : Int32))]) (rest := []) (lenOf pd_99 rfl) rfl (by show 2 * 0 + _ ≤ _; exact Nat.le_of_eq rfl) (hb hby at_15) (fun _ _ => ⟨rfl, e0, (by decide : 0 + 0 ≤ _), (by decide : 0 + 0 ≤ _)⟩)
              dsimp only [Pt.U, Pt.locs, Pt.cells, Pt.slots] at X430 l430 y430 z430 st430 hQ430
              subst l430 y430 z430
              obtain ⟨rfl, N430q, e430⟩ := hQ430
              have N430 := Fr.app N0 N430q
              have go431 : ∀ t, Steps p.tables e below (T430.setTop (mkF m 18 #[.val (.int p0), .val (.int p1), .val (.int (4 : Int32)), .val (.int (0 : Int32)), .unset, .unset, .unset] [(.ref s_L3N)])) t → Steps p.tables e below (s₁.setTop (entryFrame m #[(.int p0), (.int p1)] maxLocals)) t := fun t k => go429 _ (st430 _ k)
              have go432 : ∀ t, Steps p.tables e below (T430.setTop (mkF m 21 #[.val (.int p0), .val (.int p1), .val (.int (4 : Int32)), .val (.int (0 : Int32)), .val (.ref s_L3N), .unset, .unset] [(.int (0 : Int32))])) t → Steps p.tables e below (s₁.setTop (entryFrame m #[(.int p0), (.int p1)] maxLocals)) t := by
                intro t k
                refine go431 _ ?_
                refine XS.astore X430.here hx rfl (hb hby at_18) rfl rfl (l' := #[.val (.int p0), .val (.int p1), .val (.int (4 : Int32)), .val (.int (0 : Int32)), .val (.ref s_L3N), .unset, .unset]) rfl ?_
                show Steps p.tables e below (T430.setTop (mkF m 20 #[.val (.int p0), .val (.int p1), .val (.int (4 : Int32)), .val (.int (0 : Int32)), .val (.ref s_L3N), .unset, .unset] [])) t
                refine XS.iloadN X430.here hx rfl (hb hby at_20) rfl ?_
                show Steps p.tables e below (T430.setTop (mkF m 21 #[.val (.int p0), .val (.int p1), .val (.int (4 : Int32)), .val (.int (0 : Int32)), .val (.ref s_L3N), .unset, .unset] [(.int (0 : Int32))])) t
                exact k
              obtain ⟨_, _, ⟨T433, L433, k433, n433⟩, -, X433, ⟨Lc433, hQ433, l433, y433, z433⟩, st433⟩ := Jvm.LawKit.callS X430 hx (y := (⟨"com/example/hauora_id/hauoraid/model/ConfidenceLevelAtLeastPinLaw", "pick", "(I)Lcom/example/hauora_id/hauoraid/model/ConfidenceLevel;"⟩ : MethodName)) hown (mvT hZ (hw _ (List.mem_of_getElem? (i := 1) rfl))) (mvT hZ (hw _ (List.mem_of_getElem? (i := 2) rfl))) (mvT hZ (hw _ (List.mem_of_getElem? (i := 3) rfl))) (mvT hZ (hw _ (List.mem_of_getElem? (i := 4) rfl))) (by decide) (backOf (W := 0) (rm1 l Z aZ hw [] (0 : Int32) s_L1 s_L2 s_L2N s_L3 s_L3N h0 n0 Z0 S_L1 S_L2 S_L2N S_L3 S_L3N) hZ (hw _ (List.mem_of_getElem? (i := 4) rfl)) (hw _ (List.mem_of_getElem? (i := 3) rfl)) (by decide) (by decide)) (g := (mkF m 21 #[.val (.int p0), .val (.int p1), .val (.int (4 : Int32)), .val (.int (0 : Int32)), .val (.ref s_L3N), .unset, .unset] [(.int (0 : Int32))])) rfl (by rw [hml]; rfl) (argsL := [(.int (0 : Int32))]) (rest := []) (lenOf pd_99 rfl) rfl (by show 2 * 0 + _ ≤ _; exact Nat.le_of_eq rfl) (hb hby at_21) (fun _ _ => ⟨rfl, e430, (by decide : 0 + 0 ≤ _), (by decide : 0 + 0 ≤ _)⟩)
              dsimp only [Pt.U, Pt.locs, Pt.cells, Pt.slots] at X433 l433 y433 z433 st433 hQ433
              subst l433 y433 z433
              obtain ⟨rfl, N433q, e433⟩ := hQ433
              have N433 := Fr.app N430 N433q
              have go434 : ∀ t, Steps p.tables e below (T433.setTop (mkF m 24 #[.val (.int p0), .val (.int p1), .val (.int (4 : Int32)), .val (.int (0 : Int32)), .val (.ref s_L3N), .unset, .unset] [(.ref s_L1)])) t → Steps p.tables e below (s₁.setTop (entryFrame m #[(.int p0), (.int p1)] maxLocals)) t := fun t k => go432 _ (st433 _ k)
              have go435 : ∀ t, Steps p.tables e below (T433.setTop (mkF m 27 #[.val (.int p0), .val (.int p1), .val (.int (4 : Int32)), .val (.int (0 : Int32)), .val (.ref s_L3N), .val (.ref s_L1), .unset] [(.int (4 : Int32))])) t → Steps p.tables e below (s₁.setTop (entryFrame m #[(.int p0), (.int p1)] maxLocals)) t := by
                intro t k
                refine go434 _ ?_
                refine XS.astore X433.here hx rfl (hb hby at_24) rfl rfl (l' := #[.val (.int p0), .val (.int p1), .val (.int (4 : Int32)), .val (.int (0 : Int32)), .val (.ref s_L3N), .val (.ref s_L1), .unset]) rfl ?_
                show Steps p.tables e below (T433.setTop (mkF m 26 #[.val (.int p0), .val (.int p1), .val (.int (4 : Int32)), .val (.int (0 : Int32)), .val (.ref s_L3N), .val (.ref s_L1), .unset] [])) t
                refine XS.iloadN X433.here hx rfl (hb hby at_26) rfl ?_
                show Steps p.tables e below (T433.setTop (mkF m 27 #[.val (.int p0), .val (.int p1), .val (.int (4 : Int32)), .val (.int (0 : Int32)), .val (.ref s_L3N), .val (.ref s_L1), .unset] [(.int (4 : Int32))])) t
                exact k
              obtain ⟨_, _, ⟨T436, L436, k436, n436⟩, -, X436, ⟨Lc436, hQ436, l436, y436, z436⟩, st436⟩ := Jvm.LawKit.callS X433 hx (y := (⟨"com/example/hauora_id/hauoraid/model/ConfidenceLevelAtLeastPinLaw", "digit", "(I)I"⟩ : MethodName)) hown (mvT hZ (hw _ (List.mem_of_getElem? (i := 10) rfl))) (mvT hZ (hw _ (List.mem_of_getElem? (i := 11) rfl))) (mvT hZ (hw _ (List.mem_of_getElem? (i := 3) rfl))) (mvT hZ (hw _ (List.mem_of_getElem? (i := 12) rfl))) (by decide) (backOf (W := 0) (rm2 l Z aZ hw [] (4 : Int32) h0 n0 Z0 ) hZ (hw _ (List.mem_of_getElem? (i := 12) rfl)) (hw _ (List.mem_of_getElem? (i := 3) rfl)) (by decide) (by decide)) (g := (mkF m 27 #[.val (.int p0), .val (.int p1), .val (.int (4 : Int32)), .val (.int (0 : Int32)), .val (.ref s_L3N), .val (.ref s_L1), .unset] [(.int (4 : Int32))])) rfl (by rw [hml]; rfl) (argsL := [(.int (4 : Int32))]) (rest := []) (lenOf pd_100 rfl) rfl (by show 2 * 0 + _ ≤ _; exact Nat.le_of_eq rfl) (hb hby at_27) (fun _ _ => ⟨rfl, e433, (by decide : 0 + 0 ≤ _), (by decide : 0 + 0 ≤ _)⟩)
              dsimp only [Pt.U, Pt.locs, Pt.cells, Pt.slots] at X436 l436 y436 z436 st436 hQ436
              subst l436 y436 z436
              obtain ⟨rfl, N436q, e436⟩ := hQ436
              have N436 := Fr.app N433 N436q
              have go437 : ∀ t, Steps p.tables e below (T436.setTop (mkF m 30 #[.val (.int p0), .val (.int p1), .val (.int (4 : Int32)), .val (.int (0 : Int32)), .val (.ref s_L3N), .val (.ref s_L1), .unset] [(.int (3 : Int32))])) t → Steps p.tables e below (s₁.setTop (entryFrame m #[(.int p0), (.int p1)] maxLocals)) t := fun t k => go435 _ (st436 _ k)
              have go438 : ∀ t, Steps p.tables e below (T436.setTop (mkF m 31 #[.val (.int p0), .val (.int p1), .val (.int (4 : Int32)), .val (.int (0 : Int32)), .val (.ref s_L3N), .val (.ref s_L1), .unset] [(.int (0 : Int32)), (.int (3 : Int32))])) t → Steps p.tables e below (s₁.setTop (entryFrame m #[(.int p0), (.int p1)] maxLocals)) t := by
                intro t k
                refine go437 _ ?_
                refine XS.iloadN X436.here hx rfl (hb hby at_30) rfl ?_
                show Steps p.tables e below (T436.setTop (mkF m 31 #[.val (.int p0), .val (.int p1), .val (.int (4 : Int32)), .val (.int (0 : Int32)), .val (.ref s_L3N), .val (.ref s_L1), .unset] [(.int (0 : Int32)), (.int (3 : Int32))])) t
                exact k
              obtain ⟨_, _, ⟨T439, L439, k439, n439⟩, -, X439, ⟨Lc439, hQ439, l439, y439, z439⟩, st439⟩ := Jvm.LawKit.callS X436 hx (y := (⟨"com/example/hauora_id/hauoraid/model/ConfidenceLevelAtLeastPinLaw", "digit", "(I)I"⟩ : MethodName)) hown (mvT hZ (hw _ (List.mem_of_getElem? (i := 10) rfl))) (mvT hZ (hw _ (List.mem_of_getElem? (i := 11) rfl))) (mvT hZ (hw _ (List.mem_of_getElem? (i := 3) rfl))) (mvT hZ (hw _ (List.mem_of_getElem? (i := 12) rfl))) (by decide) (backOf (W := 1) (rm2 l Z aZ hw [] (0 : Int32) h0 n0 Z0 ) hZ (hw _ (List.mem_of_getElem? (i := 12) rfl)) (hw _ (List.mem_of_getElem? (i := 3) rfl)) (by decide) (by decide)) (g := (mkF m 31 #[.val (.int p0), .val (.int p1), .val (.int (4 : Int32)), .val (.int (0 : Int32)), .val (.ref s_L3N), .val (.ref s_L1), .unset] [(.int (0 : Int32)), (.int (3 : Int32))])) rfl (by rw [hml]; rfl) (argsL := [(.int (0 : Int32))]) (rest := [(.int (3 : Int32))]) (lenOf pd_100 rfl) rfl (by show 2 * 0 + _ ≤ _; exact Nat.le_of_eq rfl) (hb hby at_31) (fun _ _ => ⟨rfl, e436, (by decide : 0 + 0 ≤ _), (by decide : 0 + 0 ≤ _)⟩)
              dsimp only [Pt.U, Pt.locs, Pt.cells, Pt.slots] at X439 l439 y439 z439 st439 hQ439
              subst l439 y439 z439
              obtain ⟨rfl, N439q, e439⟩ := hQ439
              have N439 := Fr.app N436 N439q
              have go440 : ∀ t, Steps p.tables e below (T439.setTop (mkF m 34 #[.val (.int p0), .val (.int p1), .val (.int (4 : Int32)), .val (.int (0 : Int32)), .val (.ref s_L3N), .val (.ref s_L1), .unset] [(.int (1 : Int32)), (.int (3 : Int32))])) t → Steps p.tables e below (s₁.setTop (entryFrame m #[(.int p0), (.int p1)] maxLocals)) t := fun t k => go438 _ (st439 _ k)
              have go441 : ∀ t, Steps p.tables e below (T439.setTop (mkF m 48 #[.val (.int p0), .val (.int p1), .val (.int (4 : Int32)), .val (.int (0 : Int32)), .val (.ref s_L3N), .val (.ref s_L1), .val (.int (1 : Int32))] [(.ref s_L1), (.ref s_L3N)])) t → Steps p.tables e below (s₁.setTop (entryFrame m #[(.int p0), (.int p1)] maxLocals)) t := by
                intro t k
                refine go440 _ ?_
                refine XS.icmpNo X439.here hx rfl (hb hby at_34) rfl (XT.ii_lt_f (by decide : ¬ ((3 : Int32) < (1 : Int32)))) ?_
                show Steps p.tables e below (T439.setTop (mkF m 37 #[.val (.int p0), .val (.int p1), .val (.int (4 : Int32)), .val (.int (0 : Int32)), .val (.ref s_L3N), .val (.ref s_L1), .unset] [])) t
                refine XS.iconst X439.here hx rfl (hb hby at_37) ?_
                show Steps p.tables e below (T439.setTop (mkF m 38 #[.val (.int p0), .val (.int p1), .val (.int (4 : Int32)), .val (.int (0 : Int32)), .val (.ref s_L3N), .val (.ref s_L1), .unset] [(.int (1 : Int32))])) t
                refine XS.goto X439.here hx rfl (pc0 := 38) (pc' := 42) rfl (hb hby at_38) (by decide) (by decide) ?_
                show Steps p.tables e below (T439.setTop (mkF m 42 #[.val (.int p0), .val (.int p1), .val (.int (4 : Int32)), .val (.int (0 : Int32)), .val (.ref s_L3N), .val (.ref s_L1), .unset] [(.int (1 : Int32))])) t
                refine XS.istore X439.here hx rfl (hb hby at_42) rfl (l' := #[.val (.int p0), .val (.int p1), .val (.int (4 : Int32)), .val (.int (0 : Int32)), .val (.ref s_L3N), .val (.ref s_L1), .val (.int (1 : Int32))]) rfl ?_
                show Steps p.tables e below (T439.setTop (mkF m 44 #[.val (.int p0), .val (.int p1), .val (.int (4 : Int32)), .val (.int (0 : Int32)), .val (.ref s_L3N), .val (.ref s_L1), .val (.int (1 : Int32))] [])) t
                refine XS.aload X439.here hx rfl (hb hby at_44) rfl rfl ?_
                show Steps p.tables e below (T439.setTop (mkF m 46 #[.val (.int p0), .val (.int p1), .val (.int (4 : Int32)), .val (.int (0 : Int32)), .val (.ref s_L3N), .val (.ref s_L1), .val (.int (1 : Int32))] [(.ref s_L3N)])) t
                refine XS.aload X439.here hx rfl (hb hby at_46) rfl rfl ?_
                show Steps p.tables e below (T439.setTop (mkF m 48 #[.val (.int p0), .val (.int p1), .val (.int (4 : Int32)), .val (.int (0 : Int32)), .val (.ref s_L3N), .val (.ref s_L1), .val (.int (1 : Int32))] [(.ref s_L1), (.ref s_L3N)])) t
                exact k
              obtain ⟨cq442, kq442, q442a, q442b, q442c⟩ := isOf hZ e439 E_L3N
              obtain ⟨_, _, ⟨T442, L442, k442, n442⟩, -, X442, ⟨Lc442, hQ442, l442, y442, z442⟩, st442⟩ := X439.virtualBack hx (y := (⟨"com/example/hauora_id/hauoraid/model/ConfidenceLevel", "atLeast", "(Lcom/example/hauora_id/hauoraid/model/ConfidenceLevel;)Z"⟩ : MethodName)) (z := (⟨"com/example/hauora_id/hauoraid/model/ConfidenceLevel", "atLeast", "(Lcom/example/hauora_id/hauoraid/model/ConfidenceLevel;)Z"⟩ : MethodName)) hown (mvT hZ (hw _ (List.mem_of_getElem? (i := 13) rfl))) (mvT hZ (hw _ (List.mem_of_getElem? (i := 14) rfl))) (notFace_of_selects (args := #[]) (mvT hZ (hw _ (List.mem_of_getElem? (i := 16) rfl)))) (mvT hZ (hw _ (List.mem_of_getElem? (i := 16) rfl))) (mvT hZ (hw _ (List.mem_of_getElem? (i := 15) rfl))) (by decide) (backOf (W := 0) (rm3 l Z aZ hw [] s_L3N s_L1 s_COMPACT_STRINGS s_SIOOBE_FORMATTER s_L3N_value s_L3N_value_value k_s_L3N_value_value (2 : Int32) [(.int (51 : Int32)), (.int (78 : Int32))] (51 : Int32) s_L1_value s_L1_value_value k_s_L1_value_value (1 : Int32) [(.int (49 : Int32))] (49 : Int32) h0 n0 Z0 S_COMPACT_STRINGS S_SIOOBE_FORMATTER rS_SIOOBE_FORMATTER hcs F_L3N_value E_L3N_value F_L3N_value_coder F_L3N_value_value V_L3N_value_value (by decide) rfl F_L1_value E_L1_value F_L1_value_coder F_L1_value_value V_L1_value_value (by decide) rfl) hZ (hw _ (List.mem_of_getElem? (i := 17) rfl)) (hw _ (List.mem_of_getElem? (i := 6) rfl)) (by decide) (by decide)) q442a q442c (g := (mkF m 48 #[.val (.int p0), .val (.int p1), .val (.int (4 : Int32)), .val (.int (0 : Int32)), .val (.ref s_L3N), .val (.ref s_L1), .val (.int (1 : Int32))] [(.ref s_L1), (.ref s_L3N)])) rfl (by rw [hml]; rfl) (Steps.refl _) (argsL := [(.ref s_L1)]) (rest := []) (lenOf pd_101 rfl) rfl (by show 2 * 0 + _ ≤ _; exact Nat.le_of_eq rfl) (hb hby at_48) (fun _ _ => ⟨rfl, e439, (by decide : 0 + 0 ≤ _), (by decide : 0 + 0 ≤ _)⟩)
              dsimp only [Pt.U, Pt.locs, Pt.cells, Pt.slots] at X442 l442 y442 z442 st442 hQ442
              subst l442 y442 z442
              obtain ⟨rfl, N442q, e442⟩ := hQ442
              have N442 := Fr.app N439 N442q
              have go443 : ∀ t, Steps p.tables e below (T442.setTop (mkF m 51 #[.val (.int p0), .val (.int p1), .val (.int (4 : Int32)), .val (.int (0 : Int32)), .val (.ref s_L3N), .val (.ref s_L1), .val (.int (1 : Int32))] [(.int (f3 (51 : Int32) (49 : Int32)))])) t → Steps p.tables e below (s₁.setTop (entryFrame m #[(.int p0), (.int p1)] maxLocals)) t := fun t k => go441 _ (st442.trans k)
              have go445 : ∀ t, Steps p.tables e below (T442.setTop (mkF m 61 #[.val (.int p0), .val (.int p1), .val (.int (4 : Int32)), .val (.int (0 : Int32)), .val (.ref s_L3N), .val (.ref s_L1), .val (.int (1 : Int32))] [(.int b0_340)])) t → Steps p.tables e below (s₁.setTop (entryFrame m #[(.int p0), (.int p1)] maxLocals)) t := by
                intro t k
                refine go443 _ ?_
                refine XS.iload X442.here hx rfl (hb hby at_51) rfl ?_
                show Steps p.tables e below (T442.setTop (mkF m 53 #[.val (.int p0), .val (.int p1), .val (.int (4 : Int32)), .val (.int (0 : Int32)), .val (.ref s_L3N), .val (.ref s_L1), .val (.int (1 : Int32))] [(.int (1 : Int32)), (.int (f3 (51 : Int32) (49 : Int32)))])) t
                by_cases hc444 : (f3 (51 : Int32) (49 : Int32)) = (1 : Int32)
                · refine XS.icmpNo X442.here hx rfl (hb hby at_53) rfl (XT.ii_ne_f hc444) ?_
                  show Steps p.tables e below (T442.setTop (mkF m 56 #[.val (.int p0), .val (.int p1), .val (.int (4 : Int32)), .val (.int (0 : Int32)), .val (.ref s_L3N), .val (.ref s_L1), .val (.int (1 : Int32))] [])) t
                  refine XS.iconst X442.here hx rfl (hb hby at_56) ?_
                  show Steps p.tables e below (T442.setTop (mkF m 57 #[.val (.int p0), .val (.int p1), .val (.int (4 : Int32)), .val (.int (0 : Int32)), .val (.ref s_L3N), .val (.ref s_L1), .val (.int (1 : Int32))] [(.int (1 : Int32))])) t
                  refine XS.goto X442.here hx rfl (pc0 := 57) (pc' := 61) rfl (hb hby at_57) (by decide) (by decide) ?_
                  show Steps p.tables e below (T442.setTop (mkF m 61 #[.val (.int p0), .val (.int p1), .val (.int (4 : Int32)), .val (.int (0 : Int32)), .val (.ref s_L3N), .val (.ref s_L1), .val (.int (1 : Int32))] [(.int (1 : Int32))])) t
                  have hq446 : b0_340 = (1 : Int32) := by rw [b0_340, if_pos hc444]
                  rw [hq446] at k
                  exact k
                · refine XS.icmpYes X442.here hx rfl (pc0 := 53) (pc' := 60) rfl (hb hby at_53) rfl (XT.ii_ne_t hc444) (by decide) (by decide) ?_
                  show Steps p.tables e below (T442.setTop (mkF m 60 #[.val (.int p0), .val (.int p1), .val (.int (4 : Int32)), .val (.int (0 : Int32)), .val (.ref s_L3N), .val (.ref s_L1), .val (.int (1 : Int32))] [])) t
                  refine XS.iconst X442.here hx rfl (hb hby at_60) ?_
                  show Steps p.tables e below (T442.setTop (mkF m 61 #[.val (.int p0), .val (.int p1), .val (.int (4 : Int32)), .val (.int (0 : Int32)), .val (.ref s_L3N), .val (.ref s_L1), .val (.int (1 : Int32))] [(.int (0 : Int32))])) t
                  have hq447 : b0_340 = (0 : Int32) := by rw [b0_340, if_neg hc444]
                  rw [hq447] at k
                  exact k
              obtain ⟨fs, hr, hrun, hended, hW, hsame⟩ := X442.leave (v := some (.int b0_340)) (fun h => by rw [Bd.returns] at h; cases h)
              refine ⟨_, _, go445 _ (Jvm.RoadKit.retOut X442 hx Bd.returns (own_nz (by unfold b0_340; (repeat' split) <;> first | exact Or.inl rfl | exact Or.inr rfl)) (Or.inl ⟨rfl, Or.inr (Or.inl rfl), _, rfl⟩) (hb hby at_61) hr), hrun, hended, _, _, rfl, ?_, ⟨_, rfl⟩, hW, hsame.mono (by decide) (by decide)⟩
              show Q0 _ _ p0 p1 s_L1 s_L3 s_L1_value s_L1_value_value s_L3_value s_L3_value_value s_L3N s_L2 s_L3N_value s_L3N_value_value s_L2_value s_L2_value_value s_L2N s_L2N_value s_L2N_value_value k_s_L1_value_value k_s_L3_value_value k_s_L3N_value_value k_s_L2_value_value k_s_L2N_value_value s_COMPACT_STRINGS s_SIOOBE_FORMATTER h0 _ (T442.setFrames fs).heap _
              have hE : (T442.setFrames fs).heap = h0 := e442
              rw [hE]
              exact ⟨congrArg (fun z => some (Value.int z)) ((by rw [f0, if_neg hs4, if_neg hs110, if_neg hs216, if_neg hs319, if_pos hs425, if_pos hs428] : b0_340 = (f0 p0 p1)).trans (f0_one p0 p1)), N442⟩
            · by_cases hs448 : (v0_2 p1) = (1 : Int32)
              · have go449 : ∀ t, Steps p.tables e below (s₁.setTop (mkF m 15 #[.val (.int p0), .val (.int p1), .val (.int (4 : Int32)), .val (.int (1 : Int32)), .unset, .unset, .unset] [(.int (4 : Int32))])) t → Steps p.tables e below (s₁.setTop (entryFrame m #[(.int p0), (.int p1)] maxLocals)) t := by
                  have q := go427
                  rw [hs448] at q
                  exact q
                obtain ⟨_, _, ⟨T450, L450, k450, n450⟩, -, X450, ⟨Lc450, hQ450, l450, y450, z450⟩, st450⟩ := Jvm.LawKit.callS X0 hx (y := (⟨"com/example/hauora_id/hauoraid/model/ConfidenceLevelAtLeastPinLaw", "pick", "(I)Lcom/example/hauora_id/hauoraid/model/ConfidenceLevel;"⟩ : MethodName)) hown (mvT hZ (hw _ (List.mem_of_getElem? (i := 1) rfl))) (mvT hZ (hw _ (List.mem_of_getElem? (i := 2) rfl))) (mvT hZ (hw _ (List.mem_of_getElem? (i := 3) rfl))) (mvT hZ (hw _ (List.mem_of_getElem? (i := 4) rfl))) (by decide) (backOf (W := 0) (rm1 l Z aZ hw [] (4 : Int32) s_L1 s_L2 s_L2N s_L3 s_L3N h0 n0 Z0 S_L1 S_L2 S_L2N S_L3 S_L3N) hZ (hw _ (List.mem_of_getElem? (i := 4) rfl)) (hw _ (List.mem_of_getElem? (i := 3) rfl)) (by decide) (by decide)) (g := (mkF m 15 #[.val (.int p0), .val (.int p1), .val (.int (4 : Int32)), .val (.int (1 : Int32)), .unset, .unset, .unset] [(.int (4 : Int32))])) rfl (by rw [hml]; rfl) (argsL := [(.int (4 : Int32))]) (rest := []) (lenOf pd_99 rfl) rfl (by show 2 * 0 + _ ≤ _; exact Nat.le_of_eq rfl) (hb hby at_15) (fun _ _ => ⟨rfl, e0, (by decide : 0 + 0 ≤ _), (by decide : 0 + 0 ≤ _)⟩)
                dsimp only [Pt.U, Pt.locs, Pt.cells, Pt.slots] at X450 l450 y450 z450 st450 hQ450
                subst l450 y450 z450
                obtain ⟨rfl, N450q, e450⟩ := hQ450
                have N450 := Fr.app N0 N450q
                have go451 : ∀ t, Steps p.tables e below (T450.setTop (mkF m 18 #[.val (.int p0), .val (.int p1), .val (.int (4 : Int32)), .val (.int (1 : Int32)), .unset, .unset, .unset] [(.ref s_L3N)])) t → Steps p.tables e below (s₁.setTop (entryFrame m #[(.int p0), (.int p1)] maxLocals)) t := fun t k => go449 _ (st450 _ k)
                have go452 : ∀ t, Steps p.tables e below (T450.setTop (mkF m 21 #[.val (.int p0), .val (.int p1), .val (.int (4 : Int32)), .val (.int (1 : Int32)), .val (.ref s_L3N), .unset, .unset] [(.int (1 : Int32))])) t → Steps p.tables e below (s₁.setTop (entryFrame m #[(.int p0), (.int p1)] maxLocals)) t := by
                  intro t k
                  refine go451 _ ?_
                  refine XS.astore X450.here hx rfl (hb hby at_18) rfl rfl (l' := #[.val (.int p0), .val (.int p1), .val (.int (4 : Int32)), .val (.int (1 : Int32)), .val (.ref s_L3N), .unset, .unset]) rfl ?_
                  show Steps p.tables e below (T450.setTop (mkF m 20 #[.val (.int p0), .val (.int p1), .val (.int (4 : Int32)), .val (.int (1 : Int32)), .val (.ref s_L3N), .unset, .unset] [])) t
                  refine XS.iloadN X450.here hx rfl (hb hby at_20) rfl ?_
                  show Steps p.tables e below (T450.setTop (mkF m 21 #[.val (.int p0), .val (.int p1), .val (.int (4 : Int32)), .val (.int (1 : Int32)), .val (.ref s_L3N), .unset, .unset] [(.int (1 : Int32))])) t
                  exact k
                obtain ⟨_, _, ⟨T453, L453, k453, n453⟩, -, X453, ⟨Lc453, hQ453, l453, y453, z453⟩, st453⟩ := Jvm.LawKit.callS X450 hx (y := (⟨"com/example/hauora_id/hauoraid/model/ConfidenceLevelAtLeastPinLaw", "pick", "(I)Lcom/example/hauora_id/hauoraid/model/ConfidenceLevel;"⟩ : MethodName)) hown (mvT hZ (hw _ (List.mem_of_getElem? (i := 1) rfl))) (mvT hZ (hw _ (List.mem_of_getElem? (i := 2) rfl))) (mvT hZ (hw _ (List.mem_of_getElem? (i := 3) rfl))) (mvT hZ (hw _ (List.mem_of_getElem? (i := 4) rfl))) (by decide) (backOf (W := 0) (rm1 l Z aZ hw [] (1 : Int32) s_L1 s_L2 s_L2N s_L3 s_L3N h0 n0 Z0 S_L1 S_L2 S_L2N S_L3 S_L3N) hZ (hw _ (List.mem_of_getElem? (i := 4) rfl)) (hw _ (List.mem_of_getElem? (i := 3) rfl)) (by decide) (by decide)) (g := (mkF m 21 #[.val (.int p0), .val (.int p1), .val (.int (4 : Int32)), .val (.int (1 : Int32)), .val (.ref s_L3N), .unset, .unset] [(.int (1 : Int32))])) rfl (by rw [hml]; rfl) (argsL := [(.int (1 : Int32))]) (rest := []) (lenOf pd_99 rfl) rfl (by show 2 * 0 + _ ≤ _; exact Nat.le_of_eq rfl) (hb hby at_21) (fun _ _ => ⟨rfl, e450, (by decide : 0 + 0 ≤ _), (by decide : 0 + 0 ≤ _)⟩)
                dsimp only [Pt.U, Pt.locs, Pt.cells, Pt.slots] at X453 l453 y453 z453 st453 hQ453
                subst l453 y453 z453
                obtain ⟨rfl, N453q, e453⟩ := hQ453
                have N453 := Fr.app N450 N453q
                have go454 : ∀ t, Steps p.tables e below (T453.setTop (mkF m 24 #[.val (.int p0), .val (.int p1), .val (.int (4 : Int32)), .val (.int (1 : Int32)), .val (.ref s_L3N), .unset, .unset] [(.ref s_L2)])) t → Steps p.tables e below (s₁.setTop (entryFrame m #[(.int p0), (.int p1)] maxLocals)) t := fun t k => go452 _ (st453 _ k)
                have go455 : ∀ t, Steps p.tables e below (T453.setTop (mkF m 27 #[.val (.int p0), .val (.int p1), .val (.int (4 : Int32)), .val (.int (1 : Int32)), .val (.ref s_L3N), .val (.ref s_L2), .unset] [(.int (4 : Int32))])) t → Steps p.tables e below (s₁.setTop (entryFrame m #[(.int p0), (.int p1)] maxLocals)) t := by
                  intro t k
                  refine go454 _ ?_
                  refine XS.astore X453.here hx rfl (hb hby at_24) rfl rfl (l' := #[.val (.int p0), .val (.int p1), .val (.int (4 : Int32)), .val (.int (1 : Int32)), .val (.ref s_L3N), .val (.ref s_L2), .unset]) rfl ?_
                  show Steps p.tables e below (T453.setTop (mkF m 26 #[.val (.int p0), .val (.int p1), .val (.int (4 : Int32)), .val (.int (1 : Int32)), .val (.ref s_L3N), .val (.ref s_L2), .unset] [])) t
                  refine XS.iloadN X453.here hx rfl (hb hby at_26) rfl ?_
                  show Steps p.tables e below (T453.setTop (mkF m 27 #[.val (.int p0), .val (.int p1), .val (.int (4 : Int32)), .val (.int (1 : Int32)), .val (.ref s_L3N), .val (.ref s_L2), .unset] [(.int (4 : Int32))])) t
                  exact k
                obtain ⟨_, _, ⟨T456, L456, k456, n456⟩, -, X456, ⟨Lc456, hQ456, l456, y456, z456⟩, st456⟩ := Jvm.LawKit.callS X453 hx (y := (⟨"com/example/hauora_id/hauoraid/model/ConfidenceLevelAtLeastPinLaw", "digit", "(I)I"⟩ : MethodName)) hown (mvT hZ (hw _ (List.mem_of_getElem? (i := 10) rfl))) (mvT hZ (hw _ (List.mem_of_getElem? (i := 11) rfl))) (mvT hZ (hw _ (List.mem_of_getElem? (i := 3) rfl))) (mvT hZ (hw _ (List.mem_of_getElem? (i := 12) rfl))) (by decide) (backOf (W := 0) (rm2 l Z aZ hw [] (4 : Int32) h0 n0 Z0 ) hZ (hw _ (List.mem_of_getElem? (i := 12) rfl)) (hw _ (List.mem_of_getElem? (i := 3) rfl)) (by decide) (by decide)) (g := (mkF m 27 #[.val (.int p0), .val (.int p1), .val (.int (4 : Int32)), .val (.int (1 : Int32)), .val (.ref s_L3N), .val (.ref s_L2), .unset] [(.int (4 : Int32))])) rfl (by rw [hml]; rfl) (argsL := [(.int (4 : Int32))]) (rest := []) (lenOf pd_100 rfl) rfl (by show 2 * 0 + _ ≤ _; exact Nat.le_of_eq rfl) (hb hby at_27) (fun _ _ => ⟨rfl, e453, (by decide : 0 + 0 ≤ _), (by decide : 0 + 0 ≤ _)⟩)
                dsimp only [Pt.U, Pt.locs, Pt.cells, Pt.slots] at X456 l456 y456 z456 st456 hQ456
                subst l456 y456 z456
                obtain ⟨rfl, N456q, e456⟩ := hQ456
                have N456 := Fr.app N453 N456q
                have go457 : ∀ t, Steps p.tables e below (T456.setTop (mkF m 30 #[.val (.int p0), .val (.int p1), .val (.int (4 : Int32)), .val (.int (1 : Int32)), .val (.ref s_L3N), .val (.ref s_L2), .unset] [(.int (3 : Int32))])) t → Steps p.tables e below (s₁.setTop (entryFrame m #[(.int p0), (.int p1)] maxLocals)) t := fun t k => go455 _ (st456 _ k)
                have go458 : ∀ t, Steps p.tables e below (T456.setTop (mkF m 31 #[.val (.int p0), .val (.int p1), .val (.int (4 : Int32)), .val (.int (1 : Int32)), .val (.ref s_L3N), .val (.ref s_L2), .unset] [(.int (1 : Int32)), (.int (3 : Int32))])) t → Steps p.tables e below (s₁.setTop (entryFrame m #[(.int p0), (.int p1)] maxLocals)) t := by
                  intro t k
                  refine go457 _ ?_
                  refine XS.iloadN X456.here hx rfl (hb hby at_30) rfl ?_
                  show Steps p.tables e below (T456.setTop (mkF m 31 #[.val (.int p0), .val (.int p1), .val (.int (4 : Int32)), .val (.int (1 : Int32)), .val (.ref s_L3N), .val (.ref s_L2), .unset] [(.int (1 : Int32)), (.int (3 : Int32))])) t
                  exact k
                obtain ⟨_, _, ⟨T459, L459, k459, n459⟩, -, X459, ⟨Lc459, hQ459, l459, y459, z459⟩, st459⟩ := Jvm.LawKit.callS X456 hx (y := (⟨"com/example/hauora_id/hauoraid/model/ConfidenceLevelAtLeastPinLaw", "digit", "(I)I"⟩ : MethodName)) hown (mvT hZ (hw _ (List.mem_of_getElem? (i := 10) rfl))) (mvT hZ (hw _ (List.mem_of_getElem? (i := 11) rfl))) (mvT hZ (hw _ (List.mem_of_getElem? (i := 3) rfl))) (mvT hZ (hw _ (List.mem_of_getElem? (i := 12) rfl))) (by decide) (backOf (W := 1) (rm2 l Z aZ hw [] (1 : Int32) h0 n0 Z0 ) hZ (hw _ (List.mem_of_getElem? (i := 12) rfl)) (hw _ (List.mem_of_getElem? (i := 3) rfl)) (by decide) (by decide)) (g := (mkF m 31 #[.val (.int p0), .val (.int p1), .val (.int (4 : Int32)), .val (.int (1 : Int32)), .val (.ref s_L3N), .val (.ref s_L2), .unset] [(.int (1 : Int32)), (.int (3 : Int32))])) rfl (by rw [hml]; rfl) (argsL := [(.int (1 : Int32))]) (rest := [(.int (3 : Int32))]) (lenOf pd_100 rfl) rfl (by show 2 * 0 + _ ≤ _; exact Nat.le_of_eq rfl) (hb hby at_31) (fun _ _ => ⟨rfl, e456, (by decide : 0 + 0 ≤ _), (by decide : 0 + 0 ≤ _)⟩)
                dsimp only [Pt.U, Pt.locs, Pt.cells, Pt.slots] at X459 l459 y459 z459 st459 hQ459
                subst l459 y459 z459
                obtain ⟨rfl, N459q, e459⟩ := hQ459
                have N459 := Fr.app N456 N459q
                have go460 : ∀ t, Steps p.tables e below (T459.setTop (mkF m 34 #[.val (.int p0), .val (.int p1), .val (.int (4 : Int32)), .val (.int (1 : Int32)), .val (.ref s_L3N), .val (.ref s_L2), .unset] [(.int (2 : Int32)), (.int (3 : Int32))])) t → Steps p.tables e below (s₁.setTop (entryFrame m #[(.int p0), (.int p1)] maxLocals)) t := fun t k => go458 _ (st459 _ k)
                have go461 : ∀ t, Steps p.tables e below (T459.setTop (mkF m 48 #[.val (.int p0), .val (.int p1), .val (.int (4 : Int32)), .val (.int (1 : Int32)), .val (.ref s_L3N), .val (.ref s_L2), .val (.int (1 : Int32))] [(.ref s_L2), (.ref s_L3N)])) t → Steps p.tables e below (s₁.setTop (entryFrame m #[(.int p0), (.int p1)] maxLocals)) t := by
                  intro t k
                  refine go460 _ ?_
                  refine XS.icmpNo X459.here hx rfl (hb hby at_34) rfl (XT.ii_lt_f (by decide : ¬ ((3 : Int32) < (2 : Int32)))) ?_
                  show Steps p.tables e below (T459.setTop (mkF m 37 #[.val (.int p0), .val (.int p1), .val (.int (4 : Int32)), .val (.int (1 : Int32)), .val (.ref s_L3N), .val (.ref s_L2), .unset] [])) t
                  refine XS.iconst X459.here hx rfl (hb hby at_37) ?_
                  show Steps p.tables e below (T459.setTop (mkF m 38 #[.val (.int p0), .val (.int p1), .val (.int (4 : Int32)), .val (.int (1 : Int32)), .val (.ref s_L3N), .val (.ref s_L2), .unset] [(.int (1 : Int32))])) t
                  refine XS.goto X459.here hx rfl (pc0 := 38) (pc' := 42) rfl (hb hby at_38) (by decide) (by decide) ?_
                  show Steps p.tables e below (T459.setTop (mkF m 42 #[.val (.int p0), .val (.int p1), .val (.int (4 : Int32)), .val (.int (1 : Int32)), .val (.ref s_L3N), .val (.ref s_L2), .unset] [(.int (1 : Int32))])) t
                  refine XS.istore X459.here hx rfl (hb hby at_42) rfl (l' := #[.val (.int p0), .val (.int p1), .val (.int (4 : Int32)), .val (.int (1 : Int32)), .val (.ref s_L3N), .val (.ref s_L2), .val (.int (1 : Int32))]) rfl ?_
                  show Steps p.tables e below (T459.setTop (mkF m 44 #[.val (.int p0), .val (.int p1), .val (.int (4 : Int32)), .val (.int (1 : Int32)), .val (.ref s_L3N), .val (.ref s_L2), .val (.int (1 : Int32))] [])) t
                  refine XS.aload X459.here hx rfl (hb hby at_44) rfl rfl ?_
                  show Steps p.tables e below (T459.setTop (mkF m 46 #[.val (.int p0), .val (.int p1), .val (.int (4 : Int32)), .val (.int (1 : Int32)), .val (.ref s_L3N), .val (.ref s_L2), .val (.int (1 : Int32))] [(.ref s_L3N)])) t
                  refine XS.aload X459.here hx rfl (hb hby at_46) rfl rfl ?_
                  show Steps p.tables e below (T459.setTop (mkF m 48 #[.val (.int p0), .val (.int p1), .val (.int (4 : Int32)), .val (.int (1 : Int32)), .val (.ref s_L3N), .val (.ref s_L2), .val (.int (1 : Int32))] [(.ref s_L2), (.ref s_L3N)])) t
                  exact k
                obtain ⟨cq462, kq462, q462a, q462b, q462c⟩ := isOf hZ e459 E_L3N
                obtain ⟨_, _, ⟨T462, L462, k462, n462⟩, -, X462, ⟨Lc462, hQ462, l462, y462, z462⟩, st462⟩ := X459.virtualBack hx (y := (⟨"com/example/hauora_id/hauoraid/model/ConfidenceLevel", "atLeast", "(Lcom/example/hauora_id/hauoraid/model/ConfidenceLevel;)Z"⟩ : MethodName)) (z := (⟨"com/example/hauora_id/hauoraid/model/ConfidenceLevel", "atLeast", "(Lcom/example/hauora_id/hauoraid/model/ConfidenceLevel;)Z"⟩ : MethodName)) hown (mvT hZ (hw _ (List.mem_of_getElem? (i := 13) rfl))) (mvT hZ (hw _ (List.mem_of_getElem? (i := 14) rfl))) (notFace_of_selects (args := #[]) (mvT hZ (hw _ (List.mem_of_getElem? (i := 16) rfl)))) (mvT hZ (hw _ (List.mem_of_getElem? (i := 16) rfl))) (mvT hZ (hw _ (List.mem_of_getElem? (i := 15) rfl))) (by decide) (backOf (W := 0) (rm3 l Z aZ hw [] s_L3N s_L2 s_COMPACT_STRINGS s_SIOOBE_FORMATTER s_L3N_value s_L3N_value_value k_s_L3N_value_value (2 : Int32) [(.int (51 : Int32)), (.int (78 : Int32))] (51 : Int32) s_L2_value s_L2_value_value k_s_L2_value_value (1 : Int32) [(.int (50 : Int32))] (50 : Int32) h0 n0 Z0 S_COMPACT_STRINGS S_SIOOBE_FORMATTER rS_SIOOBE_FORMATTER hcs F_L3N_value E_L3N_value F_L3N_value_coder F_L3N_value_value V_L3N_value_value (by decide) rfl F_L2_value E_L2_value F_L2_value_coder F_L2_value_value V_L2_value_value (by decide) rfl) hZ (hw _ (List.mem_of_getElem? (i := 17) rfl)) (hw _ (List.mem_of_getElem? (i := 6) rfl)) (by decide) (by decide)) q462a q462c (g := (mkF m 48 #[.val (.int p0), .val (.int p1), .val (.int (4 : Int32)), .val (.int (1 : Int32)), .val (.ref s_L3N), .val (.ref s_L2), .val (.int (1 : Int32))] [(.ref s_L2), (.ref s_L3N)])) rfl (by rw [hml]; rfl) (Steps.refl _) (argsL := [(.ref s_L2)]) (rest := []) (lenOf pd_101 rfl) rfl (by show 2 * 0 + _ ≤ _; exact Nat.le_of_eq rfl) (hb hby at_48) (fun _ _ => ⟨rfl, e459, (by decide : 0 + 0 ≤ _), (by decide : 0 + 0 ≤ _)⟩)
                dsimp only [Pt.U, Pt.locs, Pt.cells, Pt.slots] at X462 l462 y462 z462 st462 hQ462
                subst l462 y462 z462
                obtain ⟨rfl, N462q, e462⟩ := hQ462
                have N462 := Fr.app N459 N462q
                have go463 : ∀ t, Steps p.tables e below (T462.setTop (mkF m 51 #[.val (.int p0), .val (.int p1), .val (.int (4 : Int32)), .val (.int (1 : Int32)), .val (.ref s_L3N), .val (.ref s_L2), .val (.int (1 : Int32))] [(.int (f3 (51 : Int32) (50 : Int32)))])) t → Steps p.tables e below (s₁.setTop (entryFrame m #[(.int p0), (.int p1)] maxLocals)) t := fun t k => go461 _ (st462.trans k)
                have go465 : ∀ t, Steps p.tables e below (T462.setTop (mkF m 61 #[.val (.int p0), .val (.int p1), .val (.int (4 : Int32)), .val (.int (1 : Int32)), .val (.ref s_L3N), .val (.ref s_L2), .val (.int (1 : Int32))] [(.int b0_361)])) t → Steps p.tables e below (s₁.setTop (entryFrame m #[(.int p0), (.int p1)] maxLocals)) t := by
                  intro t k
                  refine go463 _ ?_
                  refine XS.iload X462.here hx rfl (hb hby at_51) rfl ?_
                  show Steps p.tables e below (T462.setTop (mkF m 53 #[.val (.int p0), .val (.int p1), .val (.int (4 : Int32)), .val (.int (1 : Int32)), .val (.ref s_L3N), .val (.ref s_L2), .val (.int (1 : Int32))] [(.int (1 : Int32)), (.int (f3 (51 : Int32) (50 : Int32)))])) t
                  by_cases hc464 : (f3 (51 : Int32) (50 : Int32)) = (1 : Int32)
                  · refine XS.icmpNo X462.here hx rfl (hb hby at_53) rfl (XT.ii_ne_f hc464) ?_
                    show Steps p.tables e below (T462.setTop (mkF m 56 #[.val (.int p0), .val (.int p1), .val (.int (4 : Int32)), .val (.int (1 : Int32)), .val (.ref s_L3N), .val (.ref s_L2), .val (.int (1 : Int32))] [])) t
                    refine XS.iconst X462.here hx rfl (hb hby at_56) ?_
                    show Steps p.tables e below (T462.setTop (mkF m 57 #[.val (.int p0), .val (.int p1), .val (.int (4 : Int32)), .val (.int (1 : Int32)), .val (.ref s_L3N), .val (.ref s_L2), .val (.int (1 : Int32))] [(.int (1 : Int32))])) t
                    refine XS.goto X462.here hx rfl (pc0 := 57) (pc' := 61) rfl (hb hby at_57) (by decide) (by decide) ?_
                    show Steps p.tables e below (T462.setTop (mkF m 61 #[.val (.int p0), .val (.int p1), .val (.int (4 : Int32)), .val (.int (1 : Int32)), .val (.ref s_L3N), .val (.ref s_L2), .val (.int (1 : Int32))] [(.int (1 : Int32))])) t
                    have hq466 : b0_361 = (1 : Int32) := by rw [b0_361, if_pos hc464]
                    rw [hq466] at k
                    exact k
                  · refine XS.icmpYes X462.here hx rfl (pc0 := 53) (pc' := 60) rfl (hb hby at_53) rfl (XT.ii_ne_t hc464) (by decide) (by decide) ?_
                    show Steps p.tables e below (T462.setTop (mkF m 60 #[.val (.int p0), .val (.int p1), .val (.int (4 : Int32)), .val (.int (1 : Int32)), .val (.ref s_L3N), .val (.ref s_L2), .val (.int (1 : Int32))] [])) t
                    refine XS.iconst X462.here hx rfl (hb hby at_60) ?_
                    show Steps p.tables e below (T462.setTop (mkF m 61 #[.val (.int p0), .val (.int p1), .val (.int (4 : Int32)), .val (.int (1 : Int32)), .val (.ref s_L3N), .val (.ref s_L2), .val (.int (1 : Int32))] [(.int (0 : Int32))])) t
                    have hq467 : b0_361 = (0 : Int32) := by rw [b0_361, if_neg hc464]
                    rw [hq467] at k
                    exact k
                obtain ⟨fs, hr, hrun, hended, hW, hsame⟩ := X462.leave (v := some (.int b0_361)) (fun h => by rw [Bd.returns] at h; cases h)
                refine ⟨_, _, go465 _ (Jvm.RoadKit.retOut X462 hx Bd.returns (own_nz (by unfold b0_361; (repeat' split) <;> first | exact Or.inl rfl | exact Or.inr rfl)) (Or.inl ⟨rfl, Or.inr (Or.inl rfl), _, rfl⟩) (hb hby at_61) hr), hrun, hended, _, _, rfl, ?_, ⟨_, rfl⟩, hW, hsame.mono (by decide) (by decide)⟩
                show Q0 _ _ p0 p1 s_L1 s_L3 s_L1_value s_L1_value_value s_L3_value s_L3_value_value s_L3N s_L2 s_L3N_value s_L3N_value_value s_L2_value s_L2_value_value s_L2N s_L2N_value s_L2N_value_value k_s_L1_value_value k_s_L3_value_value k_s_L3N_value_value k_s_L2_value_value k_s_L2N_value_value s_COMPACT_STRINGS s_SIOOBE_FORMATTER h0 _ (T462.setFrames fs).heap _
                have hE : (T462.setFrames fs).heap = h0 := e462
                rw [hE]
                exact ⟨congrArg (fun z => some (Value.int z)) ((by rw [f0, if_neg hs4, if_neg hs110, if_neg hs216, if_neg hs319, if_pos hs425, if_neg hs428, if_pos hs448] : b0_361 = (f0 p0 p1)).trans (f0_one p0 p1)), N462⟩
              · by_cases hs468 : (v0_2 p1) = (2 : Int32)
                · have go469 : ∀ t, Steps p.tables e below (s₁.setTop (mkF m 15 #[.val (.int p0), .val (.int p1), .val (.int (4 : Int32)), .val (.int (2 : Int32)), .unset, .unset, .unset] [(.int (4 : Int32))])) t → Steps p.tables e below (s₁.setTop (entryFrame m #[(.int p0), (.int p1)] maxLocals)) t := by
                    have q := go427
                    rw [hs468] at q
                    exact q
                  obtain ⟨_, _, ⟨T470, L470, k470, n470⟩, -, X470, ⟨Lc470, hQ470, l470, y470, z470⟩, st470⟩ := Jvm.LawKit.callS X0 hx (y := (⟨"com/example/hauora_id/hauoraid/model/ConfidenceLevelAtLeastPinLaw", "pick", "(I)Lcom/example/hauora_id/hauoraid/model/ConfidenceLevel;"⟩ : MethodName)) hown (mvT hZ (hw _ (List.mem_of_getElem? (i := 1) rfl))) (mvT hZ (hw _ (List.mem_of_getElem? (i := 2) rfl))) (mvT hZ (hw _ (List.mem_of_getElem? (i := 3) rfl))) (mvT hZ (hw _ (List.mem_of_getElem? (i := 4) rfl))) (by decide) (backOf (W := 0) (rm1 l Z aZ hw [] (4 : Int32) s_L1 s_L2 s_L2N s_L3 s_L3N h0 n0 Z0 S_L1 S_L2 S_L2N S_L3 S_L3N) hZ (hw _ (List.mem_of_getElem? (i := 4) rfl)) (hw _ (List.mem_of_getElem? (i := 3) rfl)) (by decide) (by decide)) (g := (mkF m 15 #[.val (.int p0), .val (.int p1), .val (.int (4 : Int32)), .val (.int (2 : Int32)), .unset, .unset, .unset] [(.int (4 : Int32))])) rfl (by rw [hml]; rfl) (argsL := [(.int (4 : Int32))]) (rest := []) (lenOf pd_99 rfl) rfl (by show 2 * 0 + _ ≤ _; exact Nat.le_of_eq rfl) (hb hby at_15) (fun _ _ => ⟨rfl, e0, (by decide : 0 + 0 ≤ _), (by decide : 0 + 0 ≤ _)⟩)
                  dsimp only [Pt.U, Pt.locs, Pt.cells, Pt.slots] at X470 l470 y470 z470 st470 hQ470
                  subst l470 y470 z470
                  obtain ⟨rfl, N470q, e470⟩ := hQ470
                  have N470 := Fr.app N0 N470q
                  have go471 : ∀ t, Steps p.tables e below (T470.setTop (mkF m 18 #[.val (.int p0), .val (.int p1), .val (.int (4 : Int32)), .val (.int (2 : Int32)), .unset, .unset, .unset] [(.ref s_L3N)])) t → Steps p.tables e below (s₁.setTop (entryFrame m #[(.int p0), (.int p1)] maxLocals)) t := fun t k => go469 _ (st470 _ k)
                  have go472 : ∀ t, Steps p.tables e below (T470.setTop (mkF m 21 #[.val (.int p0), .val (.int p1), .val (.int (4 : Int32)), .val (.int (2 : Int32)), .val (.ref s_L3N), .unset, .unset] [(.int (2 : Int32))])) t → Steps p.tables e below (s₁.setTop (entryFrame m #[(.int p0), (.int p1)] maxLocals)) t := by
                    intro t k
                    refine go471 _ ?_
                    refine XS.astore X470.here hx rfl (hb hby at_18) rfl rfl (l' := #[.val (.int p0), .val (.int p1), .val (.int (4 : Int32)), .val (.int (2 : Int32)), .val (.ref s_L3N), .unset, .unset]) rfl ?_
                    show Steps p.tables e below (T470.setTop (mkF m 20 #[.val (.int p0), .val (.int p1), .val (.int (4 : Int32)), .val (.int (2 : Int32)), .val (.ref s_L3N), .unset, .unset] [])) t
                    refine XS.iloadN X470.here hx rfl (hb hby at_20) rfl ?_
                    show Steps p.tables e below (T470.setTop (mkF m 21 #[.val (.int p0), .val (.int p1), .val (.int (4 : Int32)), .val (.int (2 : Int32)), .val (.ref s_L3N), .unset, .unset] [(.int (2 : Int32))])) t
                    exact k
                  obtain ⟨_, _, ⟨T473, L473, k473, n473⟩, -, X473, ⟨Lc473, hQ473, l473, y473, z473⟩, st473⟩ := Jvm.LawKit.callS X470 hx (y := (⟨"com/example/hauora_id/hauoraid/model/ConfidenceLevelAtLeastPinLaw", "pick", "(I)Lcom/example/hauora_id/hauoraid/model/ConfidenceLevel;"⟩ : MethodName)) hown (mvT hZ (hw _ (List.mem_of_getElem? (i := 1) rfl))) (mvT hZ (hw _ (List.mem_of_getElem? (i := 2) rfl))) (mvT hZ (hw _ (List.mem_of_getElem? (i := 3) rfl))) (mvT hZ (hw _ (List.mem_of_getElem? (i := 4) rfl))) (by decide) (backOf (W := 0) (rm1 l Z aZ hw [] (2 : Int32) s_L1 s_L2 s_L2N s_L3 s_L3N h0 n0 Z0 S_L1 S_L2 S_L2N S_L3 S_L3N) hZ (hw _ (List.mem_of_getElem? (i := 4) rfl)) (hw _ (List.mem_of_getElem? (i := 3) rfl)) (by decide) (by decide)) (g := (mkF m 21 #[.val (.int p0), .val (.int p1), .val (.int (4 : Int32)), .val (.int (2 : Int32)), .val (.ref s_L3N), .unset, .unset] [(.int (2 : Int32))])) rfl (by rw [hml]; rfl) (argsL := [(.int (2 : Int32))]) (rest := []) (lenOf pd_99 rfl) rfl (by show 2 * 0 + _ ≤ _; exact Nat.le_of_eq rfl) (hb hby at_21) (fun _ _ => ⟨rfl, e470, (by decide : 0 + 0 ≤ _), (by decide : 0 + 0 ≤ _)⟩)
                  dsimp only [Pt.U, Pt.locs, Pt.cells, Pt.slots] at X473 l473 y473 z473 st473 hQ473
                  subst l473 y473 z473
                  obtain ⟨rfl, N473q, e473⟩ := hQ473
                  have N473 := Fr.app N470 N473q
                  have go474 : ∀ t, Steps p.tables e below (T473.setTop (mkF m 24 #[.val (.int p0), .val (.int p1), .val (.int (4 : Int32)), .val (.int (2 : Int32)), .val (.ref s_L3N), .unset, .unset] [(.ref s_L2N)])) t → Steps p.tables e below (s₁.setTop (entryFrame m #[(.int p0), (.int p1)] maxLocals)) t := fun t k => go472 _ (st473 _ k)
                  have go475 : ∀ t, Steps p.tables e below (T473.setTop (mkF m 27 #[.val (.int p0), .val (.int p1), .val (.int (4 : Int32)), .val (.int (2 : Int32)), .val (.ref s_L3N), .val (.ref s_L2N), .unset] [(.int (4 : Int32))])) t → Steps p.tables e below (s₁.setTop (entryFrame m #[(.int p0), (.int p1)] maxLocals)) t := by
                    intro t k
                    refine go474 _ ?_
                    refine XS.astore X473.here hx rfl (hb hby at_24) rfl rfl (l' := #[.val (.int p0), .val (.int p1), .val (.int (4 : Int32)), .val (.int (2 : Int32)), .val (.ref s_L3N), .val (.ref s_L2N), .unset]) rfl ?_
                    show Steps p.tables e below (T473.setTop (mkF m 26 #[.val (.int p0), .val (.int p1), .val (.int (4 : Int32)), .val (.int (2 : Int32)), .val (.ref s_L3N), .val (.ref s_L2N), .unset] [])) t
                    refine XS.iloadN X473.here hx rfl (hb hby at_26) rfl ?_
                    show Steps p.tables e below (T473.setTop (mkF m 27 #[.val (.int p0), .val (.int p1), .val (.int (4 : Int32)), .val (.int (2 : Int32)), .val (.ref s_L3N), .val (.ref s_L2N), .unset] [(.int (4 : Int32))])) t
                    exact k
                  obtain ⟨_, _, ⟨T476, L476, k476, n476⟩, -, X476, ⟨Lc476, hQ476, l476, y476, z476⟩, st476⟩ := Jvm.LawKit.callS X473 hx (y := (⟨"com/example/hauora_id/hauoraid/model/ConfidenceLevelAtLeastPinLaw", "digit", "(I)I"⟩ : MethodName)) hown (mvT hZ (hw _ (List.mem_of_getElem? (i := 10) rfl))) (mvT hZ (hw _ (List.mem_of_getElem? (i := 11) rfl))) (mvT hZ (hw _ (List.mem_of_getElem? (i := 3) rfl))) (mvT hZ (hw _ (List.mem_of_getElem? (i := 12) rfl))) (by decide) (backOf (W := 0) (rm2 l Z aZ hw [] (4 : Int32) h0 n0 Z0 ) hZ (hw _ (List.mem_of_getElem? (i := 12) rfl)) (hw _ (List.mem_of_getElem? (i := 3) rfl)) (by decide) (by decide)) (g := (mkF m 27 #[.val (.int p0), .val (.int p1), .val (.int (4 : Int32)), .val (.int (2 : Int32)), .val (.ref s_L3N), .val (.ref s_L2N), .unset] [(.int (4 : Int32))])) rfl (by rw [hml]; rfl) (argsL := [(.int (4 : Int32))]) (rest := []) (lenOf pd_100 rfl) rfl (by show 2 * 0 + _ ≤ _; exact Nat.le_of_eq rfl) (hb hby at_27) (fun _ _ => ⟨rfl, e473, (by decide : 0 + 0 ≤ _), (by decide : 0 + 0 ≤ _)⟩)
                  dsimp only [Pt.U, Pt.locs, Pt.cells, Pt.slots] at X476 l476 y476 z476 st476 hQ476
                  subst l476 y476 z476
                  obtain ⟨rfl, N476q, e476⟩ := hQ476
                  have N476 := Fr.app N473 N476q
                  have go477 : ∀ t, Steps p.tables e below (T476.setTop (mkF m 30 #[.val (.int p0), .val (.int p1), .val (.int (4 : Int32)), .val (.int (2 : Int32)), .val (.ref s_L3N), .val (.ref s_L2N), .unset] [(.int (3 : Int32))])) t → Steps p.tables e below (s₁.setTop (entryFrame m #[(.int p0), (.int p1)] maxLocals)) t := fun t k => go475 _ (st476 _ k)
                  have go478 : ∀ t, Steps p.tables e below (T476.setTop (mkF m 31 #[.val (.int p0), .val (.int p1), .val (.int (4 : Int32)), .val (.int (2 : Int32)), .val (.ref s_L3N), .val (.ref s_L2N), .unset] [(.int (2 : Int32)), (.int (3 : Int32))])) t → Steps p.tables e below (s₁.setTop (entryFrame m #[(.int p0), (.int p1)] maxLocals)) t := by
                    intro t k
                    refine go477 _ ?_
                    refine XS.iloadN X476.here hx rfl (hb hby at_30) rfl ?_
                    show Steps p.tables e below (T476.setTop (mkF m 31 #[.val (.int p0), .val (.int p1), .val (.int (4 : Int32)), .val (.int (2 : Int32)), .val (.ref s_L3N), .val (.ref s_L2N), .unset] [(.int (2 : Int32)), (.int (3 : Int32))])) t
                    exact k
                  obtain ⟨_, _, ⟨T479, L479, k479, n479⟩, -, X479, ⟨Lc479, hQ479, l479, y479, z479⟩, st479⟩ := Jvm.LawKit.callS X476 hx (y := (⟨"com/example/hauora_id/hauoraid/model/ConfidenceLevelAtLeastPinLaw", "digit", "(I)I"⟩ : MethodName)) hown (mvT hZ (hw _ (List.mem_of_getElem? (i := 10) rfl))) (mvT hZ (hw _ (List.mem_of_getElem? (i := 11) rfl))) (mvT hZ (hw _ (List.mem_of_getElem? (i := 3) rfl))) (mvT hZ (hw _ (List.mem_of_getElem? (i := 12) rfl))) (by decide) (backOf (W := 1) (rm2 l Z aZ hw [] (2 : Int32) h0 n0 Z0 ) hZ (hw _ (List.mem_of_getElem? (i := 12) rfl)) (hw _ (List.mem_of_getElem? (i := 3) rfl)) (by decide) (by decide)) (g := (mkF m 31 #[.val (.int p0), .val (.int p1), .val (.int (4 : Int32)), .val (.int (2 : Int32)), .val (.ref s_L3N), .val (.ref s_L2N), .unset] [(.int (2 : Int32)), (.int (3 : Int32))])) rfl (by rw [hml]; rfl) (argsL := [(.int (2 : Int32))]) (rest := [(.int (3 : Int32))]) (lenOf pd_100 rfl) rfl (by show 2 * 0 + _ ≤ _; exact Nat.le_of_eq rfl) (hb hby at_31) (fun _ _ => ⟨rfl, e476, (by decide : 0 + 0 ≤ _), (by decide : 0 + 0 ≤ _)⟩)
                  dsimp only [Pt.U, Pt.locs, Pt.cells, Pt.slots] at X479 l479 y479 z479 st479 hQ479
                  subst l479 y479 z479
                  obtain ⟨rfl, N479q, e479⟩ := hQ479
                  have N479 := Fr.app N476 N479q
                  have go480 : ∀ t, Steps p.tables e below (T479.setTop (mkF m 34 #[.val (.int p0), .val (.int p1), .val (.int (4 : Int32)), .val (.int (2 : Int32)), .val (.ref s_L3N), .val (.ref s_L2N), .unset] [(.int (2 : Int32)), (.int (3 : Int32))])) t → Steps p.tables e below (s₁.setTop (entryFrame m #[(.int p0), (.int p1)] maxLocals)) t := fun t k => go478 _ (st479 _ k)
                  have go481 : ∀ t, Steps p.tables e below (T479.setTop (mkF m 48 #[.val (.int p0), .val (.int p1), .val (.int (4 : Int32)), .val (.int (2 : Int32)), .val (.ref s_L3N), .val (.ref s_L2N), .val (.int (1 : Int32))] [(.ref s_L2N), (.ref s_L3N)])) t → Steps p.tables e below (s₁.setTop (entryFrame m #[(.int p0), (.int p1)] maxLocals)) t := by
                    intro t k
                    refine go480 _ ?_
                    refine XS.icmpNo X479.here hx rfl (hb hby at_34) rfl (XT.ii_lt_f (by decide : ¬ ((3 : Int32) < (2 : Int32)))) ?_
                    show Steps p.tables e below (T479.setTop (mkF m 37 #[.val (.int p0), .val (.int p1), .val (.int (4 : Int32)), .val (.int (2 : Int32)), .val (.ref s_L3N), .val (.ref s_L2N), .unset] [])) t
                    refine XS.iconst X479.here hx rfl (hb hby at_37) ?_
                    show Steps p.tables e below (T479.setTop (mkF m 38 #[.val (.int p0), .val (.int p1), .val (.int (4 : Int32)), .val (.int (2 : Int32)), .val (.ref s_L3N), .val (.ref s_L2N), .unset] [(.int (1 : Int32))])) t
                    refine XS.goto X479.here hx rfl (pc0 := 38) (pc' := 42) rfl (hb hby at_38) (by decide) (by decide) ?_
                    show Steps p.tables e below (T479.setTop (mkF m 42 #[.val (.int p0), .val (.int p1), .val (.int (4 : Int32)), .val (.int (2 : Int32)), .val (.ref s_L3N), .val (.ref s_L2N), .unset] [(.int (1 : Int32))])) t
                    refine XS.istore X479.here hx rfl (hb hby at_42) rfl (l' := #[.val (.int p0), .val (.int p1), .val (.int (4 : Int32)), .val (.int (2 : Int32)), .val (.ref s_L3N), .val (.ref s_L2N), .val (.int (1 : Int32))]) rfl ?_
                    show Steps p.tables e below (T479.setTop (mkF m 44 #[.val (.int p0), .val (.int p1), .val (.int (4 : Int32)), .val (.int (2 : Int32)), .val (.ref s_L3N), .val (.ref s_L2N), .val (.int (1 : Int32))] [])) t
                    refine XS.aload X479.here hx rfl (hb hby at_44) rfl rfl ?_
                    show Steps p.tables e below (T479.setTop (mkF m 46 #[.val (.int p0), .val (.int p1), .val (.int (4 : Int32)), .val (.int (2 : Int32)), .val (.ref s_L3N), .val (.ref s_L2N), .val (.int (1 : Int32))] [(.ref s_L3N)])) t
                    refine XS.aload X479.here hx rfl (hb hby at_46) rfl rfl ?_
                    show Steps p.tables e below (T479.setTop (mkF m 48 #[.val (.int p0), .val (.int p1), .val (.int (4 : Int32)), .val (.int (2 : Int32)), .val (.ref s_L3N), .val (.ref s_L2N), .val (.int (1 : Int32))] [(.ref s_L2N), (.ref s_L3N)])) t
                    exact k
                  obtain ⟨cq482, kq482, q482a, q482b, q482c⟩ := isOf hZ e479 E_L3N
                  obtain ⟨_, _, ⟨T482, L482, k482, n482⟩, -, X482, ⟨Lc482, hQ482, l482, y482, z482⟩, st482⟩ := X479.virtualBack hx (y := (⟨"com/example/hauora_id/hauoraid/model/ConfidenceLevel", "atLeast", "(Lcom/example/hauora_id/hauoraid/model/ConfidenceLevel;)Z"⟩ : MethodName)) (z := (⟨"com/example/hauora_id/hauoraid/model/ConfidenceLevel", "atLeast", "(Lcom/example/hauora_id/hauoraid/model/ConfidenceLevel;)Z"⟩ : MethodName)) hown (mvT hZ (hw _ (List.mem_of_getElem? (i := 13) rfl))) (mvT hZ (hw _ (List.mem_of_getElem? (i := 14) rfl))) (notFace_of_selects (args := #[]) (mvT hZ (hw _ (List.mem_of_getElem? (i := 16) rfl)))) (mvT hZ (hw _ (List.mem_of_getElem? (i := 16) rfl))) (mvT hZ (hw _ (List.mem_of_getElem? (i := 15) rfl))) (by decide) (backOf (W := 0) (rm3 l Z aZ hw [] s_L3N s_L2N s_COMPACT_STRINGS s_SIOOBE_FORMATTER s_L3N_value s_L3N_value_value k_s_L3N_value_value (2 : Int32) [(.int (51 : Int32)), (.int (78 : Int32))] (51 : Int32) s_L2N_value s_L2N_value_value k_s_L2N_value_value (2 : Int32) [(.int (50 : Int32)), (.int (78 : Int32))] (50 : Int32) h0 n0 Z0 S_COMPACT_STRINGS S_SIOOBE_FORMATTER rS_SIOOBE_FORMATTER hcs F_L3N_value E_L3N_value F_L3N_value_coder F_L3N_value_value V_L3N_value_value (by decide) rfl F_L2N_value E_L2N_value F_L2N_value_coder F_L2N_value_value V_L2N_value_value (by decide) rfl) hZ (hw _ (List.mem_of_getElem? (i := 17) rfl)) (hw _ (List.mem_of_getElem? (i := 6) rfl)) (by decide) (by decide)) q482a q482c (g := (mkF m 48 #[.val (.int p0), .val (.int p1), .val (.int (4 : Int32)), .val (.int (2 : Int32)), .val (.ref s_L3N), .val (.ref s_L2N), .val (.int (1 : Int32))] [(.ref s_L2N), (.ref s_L3N)])) rfl (by rw [hml]; rfl) (Steps.refl _) (argsL := [(.ref s_L2N)]) (rest := []) (lenOf pd_101 rfl) rfl (by show 2 * 0 + _ ≤ _; exact Nat.le_of_eq rfl) (hb hby at_48) (fun _ _ => ⟨rfl, e479, (by decide : 0 + 0 ≤ _), (by decide : 0 + 0 ≤ _)⟩)
                  dsimp only [Pt.U, Pt.locs, Pt.cells, Pt.slots] at X482 l482 y482 z482 st482 hQ482
                  subst l482 y482 z482
                  obtain ⟨rfl, N482q, e482⟩ := hQ482
                  have N482 := Fr.app N479 N482q
                  have go483 : ∀ t, Steps p.tables e below (T482.setTop (mkF m 51 #[.val (.int p0), .val (.int p1), .val (.int (4 : Int32)), .val (.int (2 : Int32)), .val (.ref s_L3N), .val (.ref s_L2N), .val (.int (1 : Int32))] [(.int (f3 (51 : Int32) (50 : Int32)))])) t → Steps p.tables e below (s₁.setTop (entryFrame m #[(.int p0), (.int p1)] maxLocals)) t := fun t k => go481 _ (st482.trans k)
                  have go485 : ∀ t, Steps p.tables e below (T482.setTop (mkF m 61 #[.val (.int p0), .val (.int p1), .val (.int (4 : Int32)), .val (.int (2 : Int32)), .val (.ref s_L3N), .val (.ref s_L2N), .val (.int (1 : Int32))] [(.int b0_361)])) t → Steps p.tables e below (s₁.setTop (entryFrame m #[(.int p0), (.int p1)] maxLocals)) t := by
                    intro t k
                    refine go483 _ ?_
                    refine XS.iload X482.here hx rfl (hb hby at_51) rfl ?_
                    show Steps p.tables e below (T482.setTop (mkF m 53 #[.val (.int p0), .val (.int p1), .val (.int (4 : Int32)), .val (.int (2 : Int32)), .val (.ref s_L3N), .val (.ref s_L2N), .val (.int (1 : Int32))] [(.int (1 : Int32)), (.int (f3 (51 : Int32) (50 : Int32)))])) t
                    by_cases hc484 : (f3 (51 : Int32) (50 : Int32)) = (1 : Int32)
                    · refine XS.icmpNo X482.here hx rfl (hb hby at_53) rfl (XT.ii_ne_f hc484) ?_
                      show Steps p.tables e below (T482.setTop (mkF m 56 #[.val (.int p0), .val (.int p1), .val (.int (4 : Int32)), .val (.int (2 : Int32)), .val (.ref s_L3N), .val (.ref s_L2N), .val (.int (1 : Int32))] [])) t
                      refine XS.iconst X482.here hx rfl (hb hby at_56) ?_
                      show Steps p.tables e below (T482.setTop (mkF m 57 #[.val (.int p0), .val (.int p1), .val (.int (4 : Int32)), .val (.int (2 : Int32)), .val (.ref s_L3N), .val (.ref s_L2N), .val (.int (1 : Int32))] [(.int (1 : Int32))])) t
                      refine XS.goto X482.here hx rfl (pc0 := 57) (pc' := 61) rfl (hb hby at_57) (by decide) (by decide) ?_
                      show Steps p.tables e below (T482.setTop (mkF m 61 #[.val (.int p0), .val (.int p1), .val (.int (4 : Int32)), .val (.int (2 : Int32)), .val (.ref s_L3N), .val (.ref s_L2N), .val (.int (1 : Int32))] [(.int (1 : Int32))])) t
                      have hq486 : b0_361 = (1 : Int32) := by rw [b0_361, if_pos hc484]
                      rw [hq486] at k
                      exact k
                    · refine XS.icmpYes X482.here hx rfl (pc0 := 53) (pc' := 60) rfl (hb hby at_53) rfl (XT.ii_ne_t hc484) (by decide) (by decide) ?_
                      show Steps p.tables e below (T482.setTop (mkF m 60 #[.val (.int p0), .val (.int p1), .val (.int (4 : Int32)), .val (.int (2 : Int32)), .val (.ref s_L3N), .val (.ref s_L2N), .val (.int (1 : Int32))] [])) t
                      refine XS.iconst X482.here hx rfl (hb hby at_60) ?_
                      show Steps p.tables e below (T482.setTop (mkF m 61 #[.val (.int p0), .val (.int p1), .val (.int (4 : Int32)), .val (.int (2 : Int32)), .val (.ref s_L3N), .val (.ref s_L2N), .val (.int (1 : Int32))] [(.int (0 : Int32))])) t
                      have hq487 : b0_361 = (0 : Int32) := by rw [b0_361, if_neg hc484]
                      rw [hq487] at k
                      exact k
                  obtain ⟨fs, hr, hrun, hended, hW, hsame⟩ := X482.leave (v := some (.int b0_361)) (fun h => by rw [Bd.returns] at h; cases h)
                  refine ⟨_, _, go485 _ (Jvm.RoadKit.retOut X482 hx Bd.returns (own_nz (by unfold b0_361; (repeat' split) <;> first | exact Or.inl rfl | exact Or.inr rfl)) (Or.inl ⟨rfl, Or.inr (Or.inl rfl), _, rfl⟩) (hb hby at_61) hr), hrun, hended, _, _, rfl, ?_, ⟨_, rfl⟩, hW, hsame.mono (by decide) (by decide)⟩
                  show Q0 _ _ p0 p1 s_L1 s_L3 s_L1_value s_L1_value_value s_L3_value s_L3_value_value s_L3N s_L2 s_L3N_value s_L3N_value_value s_L2_value s_L2_value_value s_L2N s_L2N_value s_L2N_value_value k_s_L1_value_value k_s_L3_value_value k_s_L3N_value_value k_s_L2_value_value k_s_L2N_value_value s_COMPACT_STRINGS s_SIOOBE_FORMATTER h0 _ (T482.setFrames fs).heap _
                  have hE : (T482.setFrames fs).heap = h0 := e482
                  rw [hE]
                  exact ⟨congrArg (fun z => some (Value.int z)) ((by rw [f0, if_neg hs4, if_neg hs110, if_neg hs216, if_neg hs319, if_pos hs425, if_neg hs428, if_neg hs448, if_pos hs468] : b0_361 = (f0 p0 p1)).trans (f0_one p0 p1)), N482⟩
                · by_cases hs488 : (v0_2 p1) = (3 : Int32)
                  · have go489 : ∀ t, Steps p.tables e below (s₁.setTop (mkF m 15 #[.val (.int p0), .val (.int p1), .val (.int (4 : Int32)), .val (.int (3 : Int32)), .unset, .unset, .unset] [(.int (4 : Int32))])) t → Steps p.tables e below (s₁.setTop (entryFrame m #[(.int p0), (.int p1)] maxLocals)) t := by
                      have q := go427
                      rw [hs488] at q
                      exact q
                    obtain ⟨_, _, ⟨T490, L490, k490, n490⟩, -, X490, ⟨Lc490, hQ490, l490, y490, z490⟩, st490⟩ := Jvm.LawKit.callS X0 hx (y := (⟨"com/example/hauora_id/hauoraid/model/ConfidenceLevelAtLeastPinLaw", "pick", "(I)Lcom/example/hauora_id/hauoraid/model/ConfidenceLevel;"⟩ : MethodName)) hown (mvT hZ (hw _ (List.mem_of_getElem? (i := 1) rfl))) (mvT hZ (hw _ (List.mem_of_getElem? (i := 2) rfl))) (mvT hZ (hw _ (List.mem_of_getElem? (i := 3) rfl))) (mvT hZ (hw _ (List.mem_of_getElem? (i := 4) rfl))) (by decide) (backOf (W := 0) (rm1 l Z aZ hw [] (4 : Int32) s_L1 s_L2 s_L2N s_L3 s_L3N h0 n0 Z0 S_L1 S_L2 S_L2N S_L3 S_L3N) hZ (hw _ (List.mem_of_getElem? (i := 4) rfl)) (hw _ (List.mem_of_getElem? (i := 3) rfl)) (by decide) (by decide)) (g := (mkF m 15 #[.val (.int p0), .val (.int p1), .val (.int (4 : Int32)), .val (.int (3 : Int32)), .unset, .unset, .unset] [(.int (4 : Int32))])) rfl (by rw [hml]; rfl) (argsL := [(.int (4 : Int32))]) (rest := []) (lenOf pd_99 rfl) rfl (by show 2 * 0 + _ ≤ _; exact Nat.le_of_eq rfl) (hb hby at_15) (fun _ _ => ⟨rfl, e0, (by decide : 0 + 0 ≤ _), (by decide : 0 + 0 ≤ _)⟩)
                    dsimp only [Pt.U, Pt.locs, Pt.cells, Pt.slots] at X490 l490 y490 z490 st490 hQ490
                    subst l490 y490 z490
                    obtain ⟨rfl, N490q, e490⟩ := hQ490
                    have N490 := Fr.app N0 N490q
                    have go491 : ∀ t, Steps p.tables e below (T490.setTop (mkF m 18 #[.val (.int p0), .val (.int p1), .val (.int (4 : Int32)), .val (.int (3 : Int32)), .unset, .unset, .unset] [(.ref s_L3N)])) t → Steps p.tables e below (s₁.setTop (entryFrame m #[(.int p0), (.int p1)] maxLocals)) t := fun t k => go489 _ (st490 _ k)
                    have go492 : ∀ t, Steps p.tables e below (T490.setTop (mkF m 21 #[.val (.int p0), .val (.int p1), .val (.int (4 : Int32)), .val (.int (3 : Int32)), .val (.ref s_L3N), .unset, .unset] [(.int (3 : Int32))])) t → Steps p.tables e below (s₁.setTop (entryFrame m #[(.int p0), (.int p1)] maxLocals)) t := by
                      intro t k
                      refine go491 _ ?_
                      refine XS.astore X490.here hx rfl (hb hby at_18) rfl rfl (l' := #[.val (.int p0), .val (.int p1), .val (.int (4 : Int32)), .val (.int (3 : Int32)), .val (.ref s_L3N), .unset, .unset]) rfl ?_
                      show Steps p.tables e below (T490.setTop (mkF m 20 #[.val (.int p0), .val (.int p1), .val (.int (4 : Int32)), .val (.int (3 : Int32)), .val (.ref s_L3N), .unset, .unset] [])) t
                      refine XS.iloadN X490.here hx rfl (hb hby at_20) rfl ?_
                      show Steps p.tables e below (T490.setTop (mkF m 21 #[.val (.int p0), .val (.int p1), .val (.int (4 : Int32)), .val (.int (3 : Int32)), .val (.ref s_L3N), .unset, .unset] [(.int (3 : Int32))])) t
                      exact k
                    obtain ⟨_, _, ⟨T493, L493, k493, n493⟩, -, X493, ⟨Lc493, hQ493, l493, y493, z493⟩, st493⟩ := Jvm.LawKit.callS X490 hx (y := (⟨"com/example/hauora_id/hauoraid/model/ConfidenceLevelAtLeastPinLaw", "pick", "(I)Lcom/example/hauora_id/hauoraid/model/ConfidenceLevel;"⟩ : MethodName)) hown (mvT hZ (hw _ (List.mem_of_getElem? (i := 1) rfl))) (mvT hZ (hw _ (List.mem_of_getElem? (i := 2) rfl))) (mvT hZ (hw _ (List.mem_of_getElem? (i := 3) rfl))) (mvT hZ (hw _ (List.mem_of_getElem? (i := 4) rfl))) (by decide) (backOf (W := 0) (rm1 l Z aZ hw [] (3 : Int32) s_L1 s_L2 s_L2N s_L3 s_L3N h0 n0 Z0 S_L1 S_L2 S_L2N S_L3 S_L3N) hZ (hw _ (List.mem_of_getElem? (i := 4) rfl)) (hw _ (List.mem_of_getElem? (i := 3) rfl)) (by decide) (by decide)) (g := (mkF m 21 #[.val (.int p0), .val (.int p1), .val (.int (4 : Int32)), .val (.int (3 : Int32)), .val (.ref s_L3N), .unset, .unset] [(.int (3 : Int32))])) rfl (by rw [hml]; rfl) (argsL := [(.int (3 : Int32))]) (rest := []) (lenOf pd_99 rfl) rfl (by show 2 * 0 + _ ≤ _; exact Nat.le_of_eq rfl) (hb hby at_21) (fun _ _ => ⟨rfl, e490, (by decide : 0 + 0 ≤ _), (by decide : 0 + 0 ≤ _)⟩)
                    dsimp only [Pt.U, Pt.locs, Pt.cells, Pt.slots] at X493 l493 y493 z493 st493 hQ493
                    subst l493 y493 z493
                    obtain ⟨rfl, N493q, e493⟩ := hQ493
                    have N493 := Fr.app N490 N493q
                    have go494 : ∀ t, Steps p.tables e below (T493.setTop (mkF m 24 #[.val (.int p0), .val (.int p1), .val (.int (4 : Int32)), .val (.int (3 : Int32)), .val (.ref s_L3N), .unset, .unset] [(.ref s_L3)])) t → Steps p.tables e below (s₁.setTop (entryFrame m #[(.int p0), (.int p1)] maxLocals)) t := fun t k => go492 _ (st493 _ k)
                    have go495 : ∀ t, Steps p.tables e below (T493.setTop (mkF m 27 #[.val (.int p0), .val (.int p1), .val (.int (4 : Int32)), .val (.int (3 : Int32)), .val (.ref s_L3N), .val (.ref s_L3), .unset] [(.int (4 : Int32))])) t → Steps p.tables e below (s₁.setTop (entryFrame m #[(.int p0), (.int p1)] maxLocals)) t := by
                      intro t k
                      refine go494 _ ?_
                      refine XS.astore X493.here hx rfl (hb hby at_24) rfl rfl (l' := #[.val (.int p0), .val (.int p1), .val (.int (4 : Int32)), .val (.int (3 : Int32)), .val (.ref s_L3N), .val (.ref s_L3), .unset]) rfl ?_
                      show Steps p.tables e below (T493.setTop (mkF m 26 #[.val (.int p0), .val (.int p1), .val (.int (4 : Int32)), .val (.int (3 : Int32)), .val (.ref s_L3N), .val (.ref s_L3), .unset] [])) t
                      refine XS.iloadN X493.here hx rfl (hb hby at_26) rfl ?_
                      show Steps p.tables e below (T493.setTop (mkF m 27 #[.val (.int p0), .val (.int p1), .val (.int (4 : Int32)), .val (.int (3 : Int32)), .val (.ref s_L3N), .val (.ref s_L3), .unset] [(.int (4 : Int32))])) t
                      exact k
                    obtain ⟨_, _, ⟨T496, L496, k496, n496⟩, -, X496, ⟨Lc496, hQ496, l496, y496, z496⟩, st496⟩ := Jvm.LawKit.callS X493 hx (y := (⟨"com/example/hauora_id/hauoraid/model/ConfidenceLevelAtLeastPinLaw", "digit", "(I)I"⟩ : MethodName)) hown (mvT hZ (hw _ (List.mem_of_getElem? (i := 10) rfl))) (mvT hZ (hw _ (List.mem_of_getElem? (i := 11) rfl))) (mvT hZ (hw _ (List.mem_of_getElem? (i := 3) rfl))) (mvT hZ (hw _ (List.mem_of_getElem? (i := 12) rfl))) (by decide) (backOf (W := 0) (rm2 l Z aZ hw [] (4 : Int32) h0 n0 Z0 ) hZ (hw _ (List.mem_of_getElem? (i := 12) rfl)) (hw _ (List.mem_of_getElem? (i := 3) rfl)) (by decide) (by decide)) (g := (mkF m 27 #[.val (.int p0), .val (.int p1), .val (.int (4 : Int32)), .val (.int (3 : Int32)), .val (.ref s_L3N), .val (.ref s_L3), .unset] [(.int (4 : Int32))])) rfl (by rw [hml]; rfl) (argsL := [(.int (4 : Int32))]) (rest := []) (lenOf pd_100 rfl) rfl (by show 2 * 0 + _ ≤ _; exact Nat.le_of_eq rfl) (hb hby at_27) (fun _ _ => ⟨rfl, e493, (by decide : 0 + 0 ≤ _), (by decide : 0 + 0 ≤ _)⟩)
                    dsimp only [Pt.U, Pt.locs, Pt.cells, Pt.slots] at X496 l496 y496 z496 st496 hQ496
                    subst l496 y496 z496
                    obtain ⟨rfl, N496q, e496⟩ := hQ496
                    have N496 := Fr.app N493 N496q
                    have go497 : ∀ t, Steps p.tables e below (T496.setTop (mkF m 30 #[.val (.int p0), .val (.int p1), .val (.int (4 : Int32)), .val (.int (3 : Int32)), .val (.ref s_L3N), .val (.ref s_L3), .unset] [(.int (3 : Int32))])) t → Steps p.tables e below (s₁.setTop (entryFrame m #[(.int p0), (.int p1)] maxLocals)) t := fun t k => go495 _ (st496 _ k)
                    have go498 : ∀ t, Steps p.tables e below (T496.setTop (mkF m 31 #[.val (.int p0), .val (.int p1), .val (.int (4 : Int32)), .val (.int (3 : Int32)), .val (.ref s_L3N), .val (.ref s_L3), .unset] [(.int (3 : Int32)), (.int (3 : Int32))])) t → Steps p.tables e below (s₁.setTop (entryFrame m #[(.int p0), (.int p1)] maxLocals)) t := by
                      intro t k
                      refine go497 _ ?_
                      refine XS.iloadN X496.here hx rfl (hb hby at_30) rfl ?_
                      show Steps p.tables e below (T496.setTop (mkF m 31 #[.val (.int p0), .val (.int p1), .val (.int (4 : Int32)), .val (.int (3 : Int32)), .val (.ref s_L3N), .val (.ref s_L3), .unset] [(.int (3 : Int32)), (.int (3 : Int32))])) t
                      exact k
                    obtain ⟨_, _, ⟨T499, L499, k499, n499⟩, -, X499, ⟨Lc499, hQ499, l499, y499, z499⟩, st499⟩ := Jvm.LawKit.callS X496 hx (y := (⟨"com/example/hauora_id/hauoraid/model/ConfidenceLevelAtLeastPinLaw", "digit", "(I)I"⟩ : MethodName)) hown (mvT hZ (hw _ (List.mem_of_getElem? (i := 10) rfl))) (mvT hZ (hw _ (List.mem_of_getElem? (i := 11) rfl))) (mvT hZ (hw _ (List.mem_of_getElem? (i := 3) rfl))) (mvT hZ (hw _ (List.mem_of_getElem? (i := 12) rfl))) (by decide) (backOf (W := 1) (rm2 l Z aZ hw [] (3 : Int32) h0 n0 Z0 ) hZ (hw _ (List.mem_of_getElem? (i := 12) rfl)) (hw _ (List.mem_of_getElem? (i := 3) rfl)) (by decide) (by decide)) (g := (mkF m 31 #[.val (.int p0), .val (.int p1), .val (.int (4 : Int32)), .val (.int (3 : Int32)), .val (.ref s_L3N), .val (.ref s_L3), .unset] [(.int (3 : Int32)), (.int (3 : Int32))])) rfl (by rw [hml]; rfl) (argsL := [(.int (3 : Int32))]) (rest := [(.int (3 : Int32))]) (lenOf pd_100 rfl) rfl (by show 2 * 0 + _ ≤ _; exact Nat.le_of_eq rfl) (hb hby at_31) (fun _ _ => ⟨rfl, e496, (by decide : 0 + 0 ≤ _), (by decide : 0 + 0 ≤ _)⟩)
                    dsimp only [Pt.U, Pt.locs, Pt.cells, Pt.slots] at X499 l499 y499 z499 st499 hQ499
                    subst l499 y499 z499
                    obtain ⟨rfl, N499q, e499⟩ := hQ499
                    have N499 := Fr.app N496 N499q
                    have go500 : ∀ t, Steps p.tables e below (T499.setTop (mkF m 34 #[.val (.int p0), .val (.int p1), .val (.int (4 : Int32)), .val (.int (3 : Int32)), .val (.ref s_L3N), .val (.ref s_L3), .unset] [(.int (3 : Int32)), (.int (3 : Int32))])) t → Steps p.tables e below (s₁.setTop (entryFrame m #[(.int p0), (.int p1)] maxLocals)) t := fun t k => go498 _ (st499 _ k)
                    have go501 : ∀ t, Steps p.tables e below (T499.setTop (mkF m 48 #[.val (.int p0), .val (.int p1), .val (.int (4 : Int32)), .val (.int (3 : Int32)), .val (.ref s_L3N), .val (.ref s_L3), .val (.int (1 : Int32))] [(.ref s_L3), (.ref s_L3N)])) t → Steps p.tables e below (s₁.setTop (entryFrame m #[(.int p0), (.int p1)] maxLocals)) t := by
                      intro t k
                      refine go500 _ ?_
                      refine XS.icmpNo X499.here hx rfl (hb hby at_34) rfl (XT.ii_lt_f (by decide : ¬ ((3 : Int32) < (3 : Int32)))) ?_
                      show Steps p.tables e below (T499.setTop (mkF m 37 #[.val (.int p0), .val (.int p1), .val (.int (4 : Int32)), .val (.int (3 : Int32)), .val (.ref s_L3N), .val (.ref s_L3), .unset] [])) t
                      refine XS.iconst X499.here hx rfl (hb hby at_37) ?_
                      show Steps p.tables e below (T499.setTop (mkF m 38 #[.val (.int p0), .val (.int p1), .val (.int (4 : Int32)), .val (.int (3 : Int32)), .val (.ref s_L3N), .val (.ref s_L3), .unset] [(.int (1 : Int32))])) t
                      refine XS.goto X499.here hx rfl (pc0 := 38) (pc' := 42) rfl (hb hby at_38) (by decide) (by decide) ?_
                      show Steps p.tables e below (T499.setTop (mkF m 42 #[.val (.int p0), .val (.int p1), .val (.int (4 : Int32)), .val (.int (3 : Int32)), .val (.ref s_L3N), .val (.ref s_L3), .unset] [(.int (1 : Int32))])) t
                      refine XS.istore X499.here hx rfl (hb hby at_42) rfl (l' := #[.val (.int p0), .val (.int p1), .val (.int (4 : Int32)), .val (.int (3 : Int32)), .val (.ref s_L3N), .val (.ref s_L3), .val (.int (1 : Int32))]) rfl ?_
                      show Steps p.tables e below (T499.setTop (mkF m 44 #[.val (.int p0), .val (.int p1), .val (.int (4 : Int32)), .val (.int (3 : Int32)), .val (.ref s_L3N), .val (.ref s_L3), .val (.int (1 : Int32))] [])) t
                      refine XS.aload X499.here hx rfl (hb hby at_44) rfl rfl ?_
                      show Steps p.tables e below (T499.setTop (mkF m 46 #[.val (.int p0), .val (.int p1), .val (.int (4 : Int32)), .val (.int (3 : Int32)), .val (.ref s_L3N), .val (.ref s_L3), .val (.int (1 : Int32))] [(.ref s_L3N)])) t
                      refine XS.aload X499.here hx rfl (hb hby at_46) rfl rfl ?_
                      show Steps p.tables e below (T499.setTop (mkF m 48 #[.val (.int p0), .val (.int p1), .val (.int (4 : Int32)), .val (.int (3 : Int32)), .val (.ref s_L3N), .val (.ref s_L3), .val (.int (1 : Int32))] [(.ref s_L3), (.ref s_L3N)])) t
                      exact k
                    obtain ⟨cq502, kq502, q502a, q502b, q502c⟩ := isOf hZ e499 E_L3N
                    obtain ⟨_, _, ⟨T502, L502, k502, n502⟩, -, X502, ⟨Lc502, hQ502, l502, y502, z502⟩, st502⟩ := X499.virtualBack hx (y := (⟨"com/example/hauora_id/hauoraid/model/ConfidenceLevel", "atLeast", "(Lcom/example/hauora_id/hauoraid/model/ConfidenceLevel;)Z"⟩ : MethodName)) (z := (⟨"com/example/hauora_id/hauoraid/model/ConfidenceLevel", "atLeast", "(Lcom/example/hauora_id/hauoraid/model/ConfidenceLevel;)Z"⟩ : MethodName)) hown (mvT hZ (hw _ (List.mem_of_getElem? (i := 13) rfl))) (mvT hZ (hw _ (List.mem_of_getElem? (i := 14) rfl))) (notFace_of_selects (args := #[]) (mvT hZ (hw _ (List.mem_of_getElem? (i := 16) rfl)))) (mvT hZ (hw _ (List.mem_of_getElem? (i := 16) rfl))) (mvT hZ (hw _ (List.mem_of_getElem? (i := 15) rfl))) (by decide) (backOf (W := 0) (rm3 l Z aZ hw [] s_L3N s_L3 s_COMPACT_STRINGS s_SIOOBE_FORMATTER s_L3N_value s_L3N_value_value k_s_L3N_value_value (2 : Int32) [(.int (51 : Int32)), (.int (78 : Int32))] (51 : Int32) s_L3_value s_L3_value_value k_s_L3_value_value (1 : Int32) [(.int (51 : Int32))] (51 : Int32) h0 n0 Z0 S_COMPACT_STRINGS S_SIOOBE_FORMATTER rS_SIOOBE_FORMATTER hcs F_L3N_value E_L3N_value F_L3N_value_coder F_L3N_value_value V_L3N_value_value (by decide) rfl F_L3_value E_L3_value F_L3_value_coder F_L3_value_value V_L3_value_value (by decide) rfl) hZ (hw _ (List.mem_of_getElem? (i := 17) rfl)) (hw _ (List.mem_of_getElem? (i := 6) rfl)) (by decide) (by decide)) q502a q502c (g := (mkF m 48 #[.val (.int p0), .val (.int p1), .val (.int (4 : Int32)), .val (.int (3 : Int32)), .val (.ref s_L3N), .val (.ref s_L3), .val (.int (1 : Int32))] [(.ref s_L3), (.ref s_L3N)])) rfl (by rw [hml]; rfl) (Steps.refl _) (argsL := [(.ref s_L3)]) (rest := []) (lenOf pd_101 rfl) rfl (by show 2 * 0 + _ ≤ _; exact Nat.le_of_eq rfl) (hb hby at_48) (fun _ _ => ⟨rfl, e499, (by decide : 0 + 0 ≤ _), (by decide : 0 + 0 ≤ _)⟩)
                    dsimp only [Pt.U, Pt.locs, Pt.cells, Pt.slots] at X502 l502 y502 z502 st502 hQ502
                    subst l502 y502 z502
                    obtain ⟨rfl, N502q, e502⟩ := hQ502
                    have N502 := Fr.app N499 N502q
                    have go503 : ∀ t, Steps p.tables e below (T502.setTop (mkF m 51 #[.val (.int p0), .val (.int p1), .val (.int (4 : Int32)), .val (.int (3 : Int32)), .val (.ref s_L3N), .val (.ref s_L3), .val (.int (1 : Int32))] [(.int (f3 (51 : Int32) (51 : Int32)))])) t → Steps p.tables e below (s₁.setTop (entryFrame m #[(.int p0), (.int p1)] maxLocals)) t := fun t k => go501 _ (st502.trans k)
                    have go505 : ∀ t, Steps p.tables e below (T502.setTop (mkF m 61 #[.val (.int p0), .val (.int p1), .val (.int (4 : Int32)), .val (.int (3 : Int32)), .val (.ref s_L3N), .val (.ref s_L3), .val (.int (1 : Int32))] [(.int b0_402)])) t → Steps p.tables e below (s₁.setTop (entryFrame m #[(.int p0), (.int p1)] maxLocals)) t := by
                      intro t k
                      refine go503 _ ?_
                      refine XS.iload X502.here hx rfl (hb hby at_51) rfl ?_
                      show Steps p.tables e below (T502.setTop (mkF m 53 #[.val (.int p0), .val (.int p1), .val (.int (4 : Int32)), .val (.int (3 : Int32)), .val (.ref s_L3N), .val (.ref s_L3), .val (.int (1 : Int32))] [(.int (1 : Int32)), (.int (f3 (51 : Int32) (51 : Int32)))])) t
                      by_cases hc504 : (f3 (51 : Int32) (51 : Int32)) = (1 : Int32)
                      · refine XS.icmpNo X502.here hx rfl (hb hby at_53) rfl (XT.ii_ne_f hc504) ?_
                        show Steps p.tables e below (T502.setTop (mkF m 56 #[.val (.int p0), .val (.int p1), .val (.int (4 : Int32)), .val (.int (3 : Int32)), .val (.ref s_L3N), .val (.ref s_L3), .val (.int (1 : Int32))] [])) t
                        refine XS.iconst X502.here hx rfl (hb hby at_56) ?_
                        show Steps p.tables e below (T502.setTop (mkF m 57 #[.val (.int p0), .val (.int p1), .val (.int (4 : Int32)), .val (.int (3 : Int32)), .val (.ref s_L3N), .val (.ref s_L3), .val (.int (1 : Int32))] [(.int (1 : Int32))])) t
                        refine XS.goto X502.here hx rfl (pc0 := 57) (pc' := 61) rfl (hb hby at_57) (by decide) (by decide) ?_
                        show Steps p.tables e below (T502.setTop (mkF m 61 #[.val (.int p0), .val (.int p1), .val (.int (4 : Int32)), .val (.int (3 : Int32)), .val (.ref s_L3N), .val (.ref s_L3), .val (.int (1 : Int32))] [(.int (1 : Int32))])) t
                        have hq506 : b0_402 = (1 : Int32) := by rw [b0_402, if_pos hc504]
                        rw [hq506] at k
                        exact k
                      · refine XS.icmpYes X502.here hx rfl (pc0 := 53) (pc' := 60) rfl (hb hby at_53) rfl (XT.ii_ne_t hc504) (by decide) (by decide) ?_
                        show Steps p.tables e below (T502.setTop (mkF m 60 #[.val (.int p0), .val (.int p1), .val (.int (4 : Int32)), .val (.int (3 : Int32)), .val (.ref s_L3N), .val (.ref s_L3), .val (.int (1 : Int32))] [])) t
                        refine XS.iconst X502.here hx rfl (hb hby at_60) ?_
                        show Steps p.tables e below (T502.setTop (mkF m 61 #[.val (.int p0), .val (.int p1), .val (.int (4 : Int32)), .val (.int (3 : Int32)), .val (.ref s_L3N), .val (.ref s_L3), .val (.int (1 : Int32))] [(.int (0 : Int32))])) t
                        have hq507 : b0_402 = (0 : Int32) := by rw [b0_402, if_neg hc504]
                        rw [hq507] at k
                        exact k
                    obtain ⟨fs, hr, hrun, hended, hW, hsame⟩ := X502.leave (v := some (.int b0_402)) (fun h => by rw [Bd.returns] at h; cases h)
                    refine ⟨_, _, go505 _ (Jvm.RoadKit.retOut X502 hx Bd.returns (own_nz (by unfold b0_402; (repeat' split) <;> first | exact Or.inl rfl | exact Or.inr rfl)) (Or.inl ⟨rfl, Or.inr (Or.inl rfl), _, rfl⟩) (hb hby at_61) hr), hrun, hended, _, _, rfl, ?_, ⟨_, rfl⟩, hW, hsame.mono (by decide) (by decide)⟩
                    show Q0 _ _ p0 p1 s_L1 s_L3 s_L1_value s_L1_value_value s_L3_value s_L3_value_value s_L3N s_L2 s_L3N_value s_L3N_value_value s_L2_value s_L2_value_value s_L2N s_L2N_value s_L2N_value_value k_s_L1_value_value k_s_L3_value_value k_s_L3N_value_value k_s_L2_value_value k_s_L2N_value_value s_COMPACT_STRINGS s_SIOOBE_FORMATTER h0 _ (T502.setFrames fs).heap _
                    have hE : (T502.setFrames fs).heap = h0 := e502
                    rw [hE]
                    exact ⟨congrArg (fun z => some (Value.int z)) ((by rw [f0, if_neg hs4, if_neg hs110, if_neg hs216, if_neg hs319, if_pos hs425, if_neg hs428, if_neg hs448, if_neg hs468, if_pos hs488] : b0_402 = (f0 p0 p1)).trans (f0_one p0 p1)), N502⟩
                  · by_cases hs508 : (v0_2 p1) = (4 : Int32)
                    · have go509 : ∀ t, Steps p.tables e below (s₁.setTop (mkF m 15 #[.val (.int p0), .val (.int p1), .val (.int (4 : Int32)), .val (.int (4 : Int32)), .unset, .unset, .unset] [(.int (4 : Int32))])) t → Steps p.tables e below (s₁.setTop (entryFrame m #[(.int p0), (.int p1)] maxLocals)) t := by
                        have q := go427
                        rw [hs508] at q
                        exact q
                      obtain ⟨_, _, ⟨T510, L510, k510, n510⟩, -, X510, ⟨Lc510, hQ510, l510, y510, z510⟩, st510⟩ := Jvm.LawKit.callS X0 hx (y := (⟨"com/example/hauora_id/hauoraid/model/ConfidenceLevelAtLeastPinLaw", "pick", "(I)Lcom/example/hauora_id/hauoraid/model/ConfidenceLevel;"⟩ : MethodName)) hown (mvT hZ (hw _ (List.mem_of_getElem? (i := 1) rfl))) (mvT hZ (hw _ (List.mem_of_getElem? (i := 2) rfl))) (mvT hZ (hw _ (List.mem_of_getElem? (i := 3) rfl))) (mvT hZ (hw _ (List.mem_of_getElem? (i := 4) rfl))) (by decide) (backOf (W := 0) (rm1 l Z aZ hw [] (4 : Int32) s_L1 s_L2 s_L2N s_L3 s_L3N h0 n0 Z0 S_L1 S_L2 S_L2N S_L3 S_L3N) hZ (hw _ (List.mem_of_getElem? (i := 4) rfl)) (hw _ (List.mem_of_getElem? (i := 3) rfl)) (by decide) (by decide)) (g := (mkF m 15 #[.val (.int p0), .val (.int p1), .val (.int (4 : Int32)), .val (.int (4 : Int32)), .unset, .unset, .unset] [(.int (4 : Int32))])) rfl (by rw [hml]; rfl) (argsL := [(.int (4 : Int32))]) (rest := []) (lenOf pd_99 rfl) rfl (by show 2 * 0 + _ ≤ _; exact Nat.le_of_eq rfl) (hb hby at_15) (fun _ _ => ⟨rfl, e0, (by decide : 0 + 0 ≤ _), (by decide : 0 + 0 ≤ _)⟩)
                      dsimp only [Pt.U, Pt.locs, Pt.cells, Pt.slots] at X510 l510 y510 z510 st510 hQ510
                      subst l510 y510 z510
                      obtain ⟨rfl, N510q, e510⟩ := hQ510
                      have N510 := Fr.app N0 N510q
                      have go511 : ∀ t, Steps p.tables e below (T510.setTop (mkF m 18 #[.val (.int p0), .val (.int p1), .val (.int (4 : Int32)), .val (.int (4 : Int32)), .unset, .unset, .unset] [(.ref s_L3N)])) t → Steps p.tables e below (s₁.setTop (entryFrame m #[(.int p0), (.int p1)] maxLocals)) t := fun t k => go509 _ (st510 _ k)
                      have go512 : ∀ t, Steps p.tables e below (T510.setTop (mkF m 21 #[.val (.int p0), .val (.int p1), .val (.int (4 : Int32)), .val (.int (4 : Int32)), .val (.ref s_L3N), .unset, .unset] [(.int (4 : Int32))])) t → Steps p.tables e below (s₁.setTop (entryFrame m #[(.int p0), (.int p1)] maxLocals)) t := by
                        intro t k
                        refine go511 _ ?_
                        refine XS.astore X510.here hx rfl (hb hby at_18) rfl rfl (l' := #[.val (.int p0), .val (.int p1), .val (.int (4 : Int32)), .val (.int (4 : Int32)), .val (.ref s_L3N), .unset, .unset]) rfl ?_
                        show Steps p.tables e below (T510.setTop (mkF m 20 #[.val (.int p0), .val (.int p1), .val (.int (4 : Int32)), .val (.int (4 : Int32)), .val (.ref s_L3N), .unset, .unset] [])) t
                        refine XS.iloadN X510.here hx rfl (hb hby at_20) rfl ?_
                        show Steps p.tables e below (T510.setTop (mkF m 21 #[.val (.int p0), .val (.int p1), .val (.int (4 : Int32)), .val (.int (4 : Int32)), .val (.ref s_L3N), .unset, .unset] [(.int (4 : Int32))])) t
                        exact k
                      obtain ⟨_, _, ⟨T513, L513, k513, n513⟩, -, X513, ⟨Lc513, hQ513, l513, y513, z513⟩, st513⟩ := Jvm.LawKit.callS X510 hx (y := (⟨"com/example/hauora_id/hauoraid/model/ConfidenceLevelAtLeastPinLaw", "pick", "(I)Lcom/example/hauora_id/hauoraid/model/ConfidenceLevel;"⟩ : MethodName)) hown (mvT hZ (hw _ (List.mem_of_getElem? (i := 1) rfl))) (mvT hZ (hw _ (List.mem_of_getElem? (i := 2) rfl))) (mvT hZ (hw _ (List.mem_of_getElem? (i := 3) rfl))) (mvT hZ (hw _ (List.mem_of_getElem? (i := 4) rfl))) (by decide) (backOf (W := 0) (rm1 l Z aZ hw [] (4 : Int32) s_L1 s_L2 s_L2N s_L3 s_L3N h0 n0 Z0 S_L1 S_L2 S_L2N S_L3 S_L3N) hZ (hw _ (List.mem_of_getElem? (i := 4) rfl)) (hw _ (List.mem_of_getElem? (i := 3) rfl)) (by decide) (by decide)) (g := (mkF m 21 #[.val (.int p0), .val (.int p1), .val (.int (4 : Int32)), .val (.int (4 : Int32)), .val (.ref s_L3N), .unset, .unset] [(.int (4 : Int32))])) rfl (by rw [hml]; rfl) (argsL := [(.int (4 : Int32))]) (rest := []) (lenOf pd_99 rfl) rfl (by show 2 * 0 + _ ≤ _; exact Nat.le_of_eq rfl) (hb hby at_21) (fun _ _ => ⟨rfl, e510, (by decide : 0 + 0 ≤ _), (by decide : 0 + 0 ≤ _)⟩)
                      dsimp only [Pt.U, Pt.locs, Pt.cells, Pt.slots] at X513 l513 y513 z513 st513 hQ513
                      subst l513 y513 z513
                      obtain ⟨rfl, N513q, e513⟩ := hQ513
                      have N513 := Fr.app N510 N513q
                      have go514 : ∀ t, Steps p.tables e below (T513.setTop (mkF m 24 #[.val (.int p0), .val (.int p1), .val (.int (4 : Int32)), .val (.int (4 : Int32)), .val (.ref s_L3N), .unset, .unset] [(.ref s_L3N)])) t → Steps p.tables e below (s₁.setTop (entryFrame m #[(.int p0), (.int p1)] maxLocals)) t := fun t k => go512 _ (st513 _ k)
                      have go515 : ∀ t, Steps p.tables e below (T513.setTop (mkF m 27 #[.val (.int p0), .val (.int p1), .val (.int (4 : Int32)), .val (.int (4 : Int32)), .val (.ref s_L3N), .val (.ref s_L3N), .unset] [(.int (4 : Int32))])) t → Steps p.tables e below (s₁.setTop (entryFrame m #[(.int p0), (.int p1)] maxLocals)) t := by
                        intro t k
                        refine go514 _ ?_
                        refine XS.astore X513.here hx rfl (hb hby at_24) rfl rfl (l' := #[.val (.int p0), .val (.int p1), .val (.int (4 : Int32)), .val (.int (4 : Int32)), .val (.ref s_L3N), .val (.ref s_L3N), .unset]) rfl ?_
                        show Steps p.tables e below (T513.setTop (mkF m 26 #[.val (.int p0), .val (.int p1), .val (.int (4 : Int32)), .val (.int (4 : Int32)), .val (.ref s_L3N), .val (.ref s_L3N), .unset] [])) t
                        refine XS.iloadN X513.here hx rfl (hb hby at_26) rfl ?_
                        show Steps p.tables e below (T513.setTop (mkF m 27 #[.val (.int p0), .val (.int p1), .val (.int (4 : Int32)), .val (.int (4 : Int32)), .val (.ref s_L3N), .val (.ref s_L3N), .unset] [(.int (4 : Int32))])) t
                        exact k
                      obtain ⟨_, _, ⟨T516, L516, k516, n516⟩, -, X516, ⟨Lc516, hQ516, l516, y516, z516⟩, st516⟩ := Jvm.LawKit.callS X513 hx (y := (⟨"com/example/hauora_id/hauoraid/model/ConfidenceLevelAtLeastPinLaw", "digit", "(I)I"⟩ : MethodName)) hown (mvT hZ (hw _ (List.mem_of_getElem? (i := 10) rfl))) (mvT hZ (hw _ (List.mem_of_getElem? (i := 11) rfl))) (mvT hZ (hw _ (List.mem_of_getElem? (i := 3) rfl))) (mvT hZ (hw _ (List.mem_of_getElem? (i := 12) rfl))) (by decide) (backOf (W := 0) (rm2 l Z aZ hw [] (4 : Int32) h0 n0 Z0 ) hZ (hw _ (List.mem_of_getElem? (i := 12) rfl)) (hw _ (List.mem_of_getElem? (i := 3) rfl)) (by decide) (by decide)) (g := (mkF m 27 #[.val (.int p0), .val (.int p1), .val (.int (4 : Int32)), .val (.int (4 : Int32)), .val (.ref s_L3N), .val (.ref s_L3N), .unset] [(.int (4 : Int32))])) rfl (by rw [hml]; rfl) (argsL := [(.int (4 : Int32))]) (rest := []) (lenOf pd_100 rfl) rfl (by show 2 * 0 + _ ≤ _; exact Nat.le_of_eq rfl) (hb hby at_27) (fun _ _ => ⟨rfl, e513, (by decide : 0 + 0 ≤ _), (by decide : 0 + 0 ≤ _)⟩)
                      dsimp only [Pt.U, Pt.locs, Pt.cells, Pt.slots] at X516 l516 y516 z516 st516 hQ516
                      subst l516 y516 z516
                      obtain ⟨rfl, N516q, e516⟩ := hQ516
                      have N516 := Fr.app N513 N516q
                      have go517 : ∀ t, Steps p.tables e below (T516.setTop (mkF m 30 #[.val (.int p0), .val (.int p1), .val (.int (4 : Int32)), .val (.int (4 : Int32)), .val (.ref s_L3N), .val (.ref s_L3N), .unset] [(.int (3 : Int32))])) t → Steps p.tables e below (s₁.setTop (entryFrame m #[(.int p0), (.int p1)] maxLocals)) t := fun t k => go515 _ (st516 _ k)
                      have go518 : ∀ t, Steps p.tables e below (T516.setTop (mkF m 31 #[.val (.int p0), .val (.int p1), .val (.int (4 : Int32)), .val (.int (4 : Int32)), .val (.ref s_L3N), .val (.ref s_L3N), .unset] [(.int (4 : Int32)), (.int (3 : Int32))])) t → Steps p.tables e below (s₁.setTop (entryFrame m #[(.int p0), (.int p1)] maxLocals)) t := by
                        intro t k
                        refine go517 _ ?_
                        refine XS.iloadN X516.here hx rfl (hb hby at_30) rfl ?_
                        show Steps p.tables e below (T516.setTop (mkF m 31 #[.val (.int p0), .val (.int p1), .val (.int (4 : Int32)), .val (.int (4 : Int32)), .val (.ref s_L3N), .val (.ref s_L3N), .unset] [(.int (4 : Int32)), (.int (3 : Int32))])) t
                        exact k
                      obtain ⟨_, _, ⟨T519, L519, k519, n519⟩, -, X519, ⟨Lc519, hQ519, l519, y519, z519⟩, st519⟩ := Jvm.LawKit.callS X516 hx (y := (⟨"com/example/hauora_id/hauoraid/model/ConfidenceLevelAtLeastPinLaw", "digit", "(I)I"⟩ : MethodName)) hown (mvT hZ (hw _ (List.mem_of_getElem? (i := 10) rfl))) (mvT hZ (hw _ (List.mem_of_getElem? (i := 11) rfl))) (mvT hZ (hw _ (List.mem_of_getElem? (i := 3) rfl))) (mvT hZ (hw _ (List.mem_of_getElem? (i := 12) rfl))) (by decide) (backOf (W := 1) (rm2 l Z aZ hw [] (4 : Int32) h0 n0 Z0 ) hZ (hw _ (List.mem_of_getElem? (i := 12) rfl)) (hw _ (List.mem_of_getElem? (i := 3) rfl)) (by decide) (by decide)) (g := (mkF m 31 #[.val (.int p0), .val (.int p1), .val (.int (4 : Int32)), .val (.int (4 : Int32)), .val (.ref s_L3N), .val (.ref s_L3N), .unset] [(.int (4 : Int32)), (.int (3 : Int32))])) rfl (by rw [hml]; rfl) (argsL := [(.int (4 : Int32))]) (rest := [(.int (3 : Int32))]) (lenOf pd_100 rfl) rfl (by show 2 * 0 + _ ≤ _; exact Nat.le_of_eq rfl) (hb hby at_31) (fun _ _ => ⟨rfl, e516, (by decide : 0 + 0 ≤ _), (by decide : 0 + 0 ≤ _)⟩)
                      dsimp only [Pt.U, Pt.locs, Pt.cells, Pt.slots] at X519 l519 y519 z519 st519 hQ519
                      subst l519 y519 z519
                      obtain ⟨rfl, N519q, e519⟩ := hQ519
                      have N519 := Fr.app N516 N519q
                      have go520 : ∀ t, Steps p.tables e below (T519.setTop (mkF m 34 #[.val (.int p0), .val (.int p1), .val (.int (4 : Int32)), .val (.int (4 : Int32)), .val (.ref s_L3N), .val (.ref s_L3N), .unset] [(.int (3 : Int32)), (.int (3 : Int32))])) t → Steps p.tables e below (s₁.setTop (entryFrame m #[(.int p0), (.int p1)] maxLocals)) t := fun t k => go518 _ (st519 _ k)
                      have go521 : ∀ t, Steps p.tables e below (T519.setTop (mkF m 48 #[.val (.int p0), .val (.int p1), .val (.int (4 : Int32)), .val (.int (4 : Int32)), .val (.ref s_L3N), .val (.ref s_L3N), .val (.int (1 : Int32))] [(.ref s_L3N), (.ref s_L3N)])) t → Steps p.tables e below (s₁.setTop (entryFrame m #[(.int p0), (.int p1)] maxLocals)) t := by
                        intro t k
                        refine go520 _ ?_
                        refine XS.icmpNo X519.here hx rfl (hb hby at_34) rfl (XT.ii_lt_f (by decide : ¬ ((3 : Int32) < (3 : Int32)))) ?_
                        show Steps p.tables e below (T519.setTop (mkF m 37 #[.val (.int p0), .val (.int p1), .val (.int (4 : Int32)), .val (.int (4 : Int32)), .val (.ref s_L3N), .val (.ref s_L3N), .unset] [])) t
                        refine XS.iconst X519.here hx rfl (hb hby at_37) ?_
                        show Steps p.tables e below (T519.setTop (mkF m 38 #[.val (.int p0), .val (.int p1), .val (.int (4 : Int32)), .val (.int (4 : Int32)), .val (.ref s_L3N), .val (.ref s_L3N), .unset] [(.int (1 : Int32))])) t
                        refine XS.goto X519.here hx rfl (pc0 := 38) (pc' := 42) rfl (hb hby at_38) (by decide) (by decide) ?_
                        show Steps p.tables e below (T519.setTop (mkF m 42 #[.val (.int p0), .val (.int p1), .val (.int (4 : Int32)), .val (.int (4 : Int32)), .val (.ref s_L3N), .val (.ref s_L3N), .unset] [(.int (1 : Int32))])) t
                        refine XS.istore X519.here hx rfl (hb hby at_42) rfl (l' := #[.val (.int p0), .val (.int p1), .val (.int (4 : Int32)), .val (.int (4 : Int32)), .val (.ref s_L3N), .val (.ref s_L3N), .val (.int (1 : Int32))]) rfl ?_
                        show Steps p.tables e below (T519.setTop (mkF m 44 #[.val (.int p0), .val (.int p1), .val (.int (4 : Int32)), .val (.int (4 : Int32)), .val (.ref s_L3N), .val (.ref s_L3N), .val (.int (1 : Int32))] [])) t
                        refine XS.aload X519.here hx rfl (hb hby at_44) rfl rfl ?_
                        show Steps p.tables e below (T519.setTop (mkF m 46 #[.val (.int p0), .val (.int p1), .val (.int (4 : Int32)), .val (.int (4 : Int32)), .val (.ref s_L3N), .val (.ref s_L3N), .val (.int (1 : Int32))] [(.ref s_L3N)])) t
                        refine XS.aload X519.here hx rfl (hb hby at_46) rfl rfl ?_
                        show Steps p.tables e below (T519.setTop (mkF m 48 #[.val (.int p0), .val (.int p1), .val (.int (4 : Int32)), .val (.int (4 : Int32)), .val (.ref s_L3N), .val (.ref s_L3N), .val (.int (1 : Int32))] [(.ref s_L3N), (.ref s_L3N)])) t
                        exact k
                      obtain ⟨cq522, kq522, q522a, q522b, q522c⟩ := isOf hZ e519 E_L3N
                      obtain ⟨_, _, ⟨T522, L522, k522, n522⟩, -, X522, ⟨Lc522, hQ522, l522, y522, z522⟩, st522⟩ := X519.virtualBack hx (y := (⟨"com/example/hauora_id/hauoraid/model/ConfidenceLevel", "atLeast", "(Lcom/example/hauora_id/hauoraid/model/ConfidenceLevel;)Z"⟩ : MethodName)) (z := (⟨"com/example/hauora_id/hauoraid/model/ConfidenceLevel", "atLeast", "(Lcom/example/hauora_id/hauoraid/model/ConfidenceLevel;)Z"⟩ : MethodName)) hown (mvT hZ (hw _ (List.mem_of_getElem? (i := 13) rfl))) (mvT hZ (hw _ (List.mem_of_getElem? (i := 14) rfl))) (notFace_of_selects (args := #[]) (mvT hZ (hw _ (List.mem_of_getElem? (i := 16) rfl)))) (mvT hZ (hw _ (List.mem_of_getElem? (i := 16) rfl))) (mvT hZ (hw _ (List.mem_of_getElem? (i := 15) rfl))) (by decide) (backOf (W := 0) (rm3 l Z aZ hw [] s_L3N s_L3N s_COMPACT_STRINGS s_SIOOBE_FORMATTER s_L3N_value s_L3N_value_value k_s_L3N_value_value (2 : Int32) [(.int (51 : Int32)), (.int (78 : Int32))] (51 : Int32) s_L3N_value s_L3N_value_value k_s_L3N_value_value (2 : Int32) [(.int (51 : Int32)), (.int (78 : Int32))] (51 : Int32) h0 n0 Z0 S_COMPACT_STRINGS S_SIOOBE_FORMATTER rS_SIOOBE_FORMATTER hcs F_L3N_value E_L3N_value F_L3N_value_coder F_L3N_value_value V_L3N_value_value (by decide) rfl F_L3N_value E_L3N_value F_L3N_value_coder F_L3N_value_value V_L3N_value_value (by decide) rfl) hZ (hw _ (List.mem_of_getElem? (i := 17) rfl)) (hw _ (List.mem_of_getElem? (i := 6) rfl)) (by decide) (by decide)) q522a q522c (g := (mkF m 48 #[.val (.int p0), .val (.int p1), .val (.int (4 : Int32)), .val (.int (4 : Int32)), .val (.ref s_L3N), .val (.ref s_L3N), .val (.int (1 : Int32))] [(.ref s_L3N), (.ref s_L3N)])) rfl (by rw [hml]; rfl) (Steps.refl _) (argsL := [(.ref s_L3N)]) (rest := []) (lenOf pd_101 rfl) rfl (by show 2 * 0 + _ ≤ _; exact Nat.le_of_eq rfl) (hb hby at_48) (fun _ _ => ⟨rfl, e519, (by decide : 0 + 0 ≤ _), (by decide : 0 + 0 ≤ _)⟩)
                      dsimp only [Pt.U, Pt.locs, Pt.cells, Pt.slots] at X522 l522 y522 z522 st522 hQ522
                      subst l522 y522 z522
                      obtain ⟨rfl, N522q, e522⟩ := hQ522
                      have N522 := Fr.app N519 N522q
                      have go523 : ∀ t, Steps p.tables e below (T522.setTop (mkF m 51 #[.val (.int p0), .val (.int p1), .val (.int (4 : Int32)), .val (.int (4 : Int32)), .val (.ref s_L3N), .val (.ref s_L3N), .val (.int (1 : Int32))] [(.int (f3 (51 : Int32) (51 : Int32)))])) t → Steps p.tables e below (s₁.setTop (entryFrame m #[(.int p0), (.int p1)] maxLocals)) t := fun t k => go521 _ (st522.trans k)
                      have go525 : ∀ t, Steps p.tables e below (T522.setTop (mkF m 61 #[.val (.int p0), .val (.int p1), .val (.int (4 : Int32)), .val (.int (4 : Int32)), .val (.ref s_L3N), .val (.ref s_L3N), .val (.int (1 : Int32))] [(.int b0_402)])) t → Steps p.tables e below (s₁.setTop (entryFrame m #[(.int p0), (.int p1)] maxLocals)) t := by
                        intro t k
                        refine go523 _ ?_
                        refine XS.iload X522.here hx rfl (hb hby at_51) rfl ?_
                        show Steps p.tables e below (T522.setTop (mkF m 53 #[.val (.int p0), .val (.int p1), .val (.int (4 : Int32)), .val (.int (4 : Int32)), .val (.ref s_L3N), .val (.ref s_L3N), .val (.int (1 : Int32))] [(.int (1 : Int32)), (.int (f3 (51 : Int32) (51 : Int32)))])) t
                        by_cases hc524 : (f3 (51 : Int32) (51 : Int32)) = (1 : Int32)
                        · refine XS.icmpNo X522.here hx rfl (hb hby at_53) rfl (XT.ii_ne_f hc524) ?_
                          show Steps p.tables e below (T522.setTop (mkF m 56 #[.val (.int p0), .val (.int p1), .val (.int (4 : Int32)), .val (.int (4 : Int32)), .val (.ref s_L3N), .val (.ref s_L3N), .val (.int (1 : Int32))] [])) t
                          refine XS.iconst X522.here hx rfl (hb hby at_56) ?_
                          show Steps p.tables e below (T522.setTop (mkF m 57 #[.val (.int p0), .val (.int p1), .val (.int (4 : Int32)), .val (.int (4 : Int32)), .val (.ref s_L3N), .val (.ref s_L3N), .val (.int (1 : Int32))] [(.int (1 : Int32))])) t
                          refine XS.goto X522.here hx rfl (pc0 := 57) (pc' := 61) rfl (hb hby at_57) (by decide) (by decide) ?_
                          show Steps p.tables e below (T522.setTop (mkF m 61 #[.val (.int p0), .val (.int p1), .val (.int (4 : Int32)), .val (.int (4 : Int32)), .val (.ref s_L3N), .val (.ref s_L3N), .val (.int (1 : Int32))] [(.int (1 : Int32))])) t
                          have hq526 : b0_402 = (1 : Int32) := by rw [b0_402, if_pos hc524]
                          rw [hq526] at k
                          exact k
                        · refine XS.icmpYes X522.here hx rfl (pc0 := 53) (pc' := 60) rfl (hb hby at_53) rfl (XT.ii_ne_t hc524) (by decide) (by decide) ?_
                          show Steps p.tables e below (T522.setTop (mkF m 60 #[.val (.int p0), .val (.int p1), .val (.int (4 : Int32)), .val (.int (4 : Int32)), .val (.ref s_L3N), .val (.ref s_L3N), .val (.int (1 : Int32))] [])) t
                          refine XS.iconst X522.here hx rfl (hb hby at_60) ?_
                          show Steps p.tables e below (T522.setTop (mkF m 61 #[.val (.int p0), .val (.int p1), .val (.int (4 : Int32)), .val (.int (4 : Int32)), .val (.ref s_L3N), .val (.ref s_L3N), .val (.int (1 : Int32))] [(.int (0 : Int32))])) t
                          have hq527 : b0_402 = (0 : Int32) := by rw [b0_402, if_neg hc524]
                          rw [hq527] at k
                          exact k
                      obtain ⟨fs, hr, hrun, hended, hW, hsame⟩ := X522.leave (v := some (.int b0_402)) (fun h => by rw [Bd.returns] at h; cases h)
                      refine ⟨_, _, go525 _ (Jvm.RoadKit.retOut X522 hx Bd.returns (own_nz (by unfold b0_402; (repeat' split) <;> first | exact Or.inl rfl | exact Or.inr rfl)) (Or.inl ⟨rfl, Or.inr (Or.inl rfl), _, rfl⟩) (hb hby at_61) hr), hrun, hended, _, _, rfl, ?_, ⟨_, rfl⟩, hW, hsame.mono (by decide) (by decide)⟩
                      show Q0 _ _ p0 p1 s_L1 s_L3 s_L1_value s_L1_value_value s_L3_value s_L3_value_value s_L3N s_L2 s_L3N_value s_L3N_value_value s_L2_value s_L2_value_value s_L2N s_L2N_value s_L2N_value_value k_s_L1_value_value k_s_L3_value_value k_s_L3N_value_value k_s_L2_value_value k_s_L2N_value_value s_COMPACT_STRINGS s_SIOOBE_FORMATTER h0 _ (T522.setFrames fs).heap _
                      have hE : (T522.setFrames fs).heap = h0 := e522
                      rw [hE]
                      exact ⟨congrArg (fun z => some (Value.int z)) ((by rw [f0, if_neg hs4, if_neg hs110, if_neg hs216, if_neg hs319, if_pos hs425, if_neg hs428, if_neg hs448, if_neg hs468, if_neg hs488, if_pos hs508] : b0_402 = (f0 p0 p1)).trans (f0_one p0 p1)), N522⟩
                    · exact (own_dead5 p1 hs428 hs448 hs468 hs488 hs508).elim
          · exact (own_dead5 p0 hs4 hs110 hs216 hs319 hs425).elim
set_option maxRecDepth 65536 in
set_option maxHeartbeats 40000000 in
theorem comes_1 {Post : Tables → Env → Array Value → State → Outcome → State → Prop} (hpost : ∀ tb e args s v u, (limb_1_1.after args s (.returned v) u = true ∧ limb_1_2.after args s (.returned v) u = true ∧ True) → FrameEnd s (.returned v) u (Jvm.fieldLocs frame_1_writes args s ++ Jvm.arrayLocs frame_1_arrays args s ++ Jvm.staticLocs frame_1_statics s) 0 0 → Post tb e args s (.returned v) u) :
    ArmFor flags0 classFile x code maxLocals ret World_1 tables_1 room_1 Calls_1 rest_1 Pre_1 Post := by
  intro l hfl _ _ p e ha hc hk s m args below hf hA hF happ hP
  obtain ⟨hcalls, hrest, hpre⟩ := hP
  obtain ⟨-, -, -, hnamed, -, -, -, hat⟩ := (Spec.applies_iff hf).mp happ
  obtain ⟨hg, hn⟩ := and_e (Cond.before_iff.mp (show (Jvm.Cond.and given_1 narrow_1).before args s = true from hpre))
  obtain ⟨hcount, hg1⟩ := and_e hg
  obtain ⟨ha0, hb0⟩ := and_e hg1
  obtain ⟨w0, w1, rfl⟩ : ∃ w0 w1 : Value, args = #[w0, w1] := by
    have hs : args.size = 2 := by simpa [Cond.value, given_1] using hcount
    obtain ⟨L⟩ := args
    match L, hs with
    | [w0, w1], _ => exact ⟨w0, w1, rfl⟩
  have hw := fun d (hd : d ∈ tables_1) => atoms_spec (ws := Jvm.Cond.code x code maxLocals ret :: tables_1) hat d (List.mem_cons_of_mem _ hd)
  have hfit : Fit s := fun {y c} hc i hi => by
    obtain ⟨ha, rfl⟩ := Array.getElem?_eq_some_iff.mp hc
    have q := List.all_eq_true.mp ((Array.all_eq_true_iff_forall_mem.mp hF) _ (Array.getElem_mem ha)) i (List.mem_range.mpr hi)
    simpa [Array.getElem?_eq_getElem hi] using q
  obtain ⟨hsets, hown0⟩ := atoms_of _ (rest_1_c_eq ▸ (show rest_1_c.before _ s = true from hrest))
  have hr0 := Cond.before_iff.mp hown0
  obtain ⟨i0, ei0⟩ := is_v ha0
  obtain rfl : w0 = (.int i0) := Option.some.inj ei0
  obtain ⟨i1, ei1⟩ := is_v hb0
  obtain rfl : w1 = (.int i1) := Option.some.inj ei1
  obtain ⟨na0, nb0⟩ := and_e hn
  obtain ⟨na1, nb1⟩ := and_e nb0
  obtain ⟨na2, nb2⟩ := and_e nb1
  obtain ⟨na3, nb3⟩ := and_e nb2
  obtain ⟨na4, nb4⟩ := and_e nb3
  obtain ⟨na5, nb5⟩ := and_e nb4
  obtain ⟨na6, nb6⟩ := and_e nb5
  obtain ⟨na7, nb7⟩ := and_e nb6
  obtain ⟨na8, nb8⟩ := and_e nb7
  obtain ⟨na9, nb9⟩ := and_e nb8
  obtain ⟨na10, nb10⟩ := and_e nb9
  obtain ⟨na11, nb11⟩ := and_e nb10
  obtain ⟨na12, nb12⟩ := and_e nb11
  obtain ⟨na13, nb13⟩ := and_e nb12
  obtain ⟨na14, nb14⟩ := and_e nb13
  obtain ⟨na15, nb15⟩ := and_e nb14
  obtain ⟨na16, nb16⟩ := and_e nb15
  obtain ⟨na17, nb17⟩ := and_e nb16
  obtain ⟨na18, nb18⟩ := and_e nb17
  obtain ⟨na19, nb19⟩ := and_e nb18
  obtain ⟨na20, nb20⟩ := and_e nb19
  obtain ⟨na21, nb21⟩ := and_e nb20
  obtain ⟨na22, nb22⟩ := and_e nb21
  obtain ⟨na23, nb23⟩ := and_e nb22
  obtain ⟨na24, nb24⟩ := and_e nb23
  obtain ⟨na25, nb25⟩ := and_e nb24
  obtain ⟨na26, nb26⟩ := and_e nb25
  obtain ⟨na27, nb27⟩ := and_e nb26
  obtain ⟨na28, nb28⟩ := and_e nb27
  obtain ⟨na29, nb29⟩ := and_e nb28
  obtain ⟨na30, nb30⟩ := and_e nb29
  obtain ⟨s_L1, ev_s_L1⟩ := exa_v na0
  have S_L1 : Sta s s.heap "com/example/hauora_id/hauoraid/model/ConfidenceLevel" "L1" "Lcom/example/hauora_id/hauoraid/model/ConfidenceLevel;" (.ref s_L1) := Sta.start ev_s_L1 (Or.inr ⟨(hw _ (List.mem_of_getElem? (i := 6) rfl)), (hw _ (List.mem_of_getElem? (i := 7) rfl))⟩)
  have E_L1 : Exa s s.heap s_L1 "com/example/hauora_id/hauoraid/model/ConfidenceLevel" := Exa.start ev_s_L1 na0
  obtain ⟨s_L3, ev_s_L3⟩ := exa_v na1
  have S_L3 : Sta s s.heap "com/example/hauora_id/hauoraid/model/ConfidenceLevel" "L3" "Lcom/example/hauora_id/hauoraid/model/ConfidenceLevel;" (.ref s_L3) := Sta.start ev_s_L3 (Or.inr ⟨(hw _ (List.mem_of_getElem? (i := 6) rfl)), (hw _ (List.mem_of_getElem? (i := 9) rfl))⟩)
  have E_L3 : Exa s s.heap s_L3 "com/example/hauora_id/hauoraid/model/ConfidenceLevel" := Exa.start ev_s_L3 na1
  obtain ⟨s_L1_value, ev_s_L1_value⟩ := exa_v na2
  have F_L1_value : Fld s s.heap s_L1 "com/example/hauora_id/hauoraid/model/ConfidenceLevel" "value" "Ljava/lang/String;" (.ref s_L1_value) := Fld.start ((fld_at ev_s_L1).symm.trans ev_s_L1_value)
  have E_L1_value : Exa s s.heap s_L1_value "java/lang/String" := Exa.start ev_s_L1_value na2
  have F_L1_value_coder : Fld s s.heap s_L1_value "java/lang/String" "coder" "B" (.int (0 : Int32)) := Fld.start ((fld_at ev_s_L1_value).symm.trans (own_eqi na3))
  obtain ⟨s_L1_value_value, ev_s_L1_value_value⟩ := arr_v na4
  have F_L1_value_value : Fld s s.heap s_L1_value "java/lang/String" "value" "[B" (.ref s_L1_value_value) := Fld.start ((fld_at ev_s_L1_value).symm.trans ev_s_L1_value_value)
  obtain ⟨c_s_L1_value_value, Ac_s_L1_value_value⟩ := Arr.start ev_s_L1_value_value na4
  obtain ⟨lt_s_L1_value_value, le_s_L1_value_value⟩ := own_len (own_eqi na5) ev_s_L1_value_value Ac_s_L1_value_value
  have el0_s_L1_value_value := (elem_in (own_eqi na6) ev_s_L1_value_value (Term.int_eval _) Ac_s_L1_value_value.1).2
  obtain ⟨s_L3_value, ev_s_L3_value⟩ := exa_v na7
  have F_L3_value : Fld s s.heap s_L3 "com/example/hauora_id/hauoraid/model/ConfidenceLevel" "value" "Ljava/lang/String;" (.ref s_L3_value) := Fld.start ((fld_at ev_s_L3).symm.trans ev_s_L3_value)
  have E_L3_value : Exa s s.heap s_L3_value "java/lang/String" := Exa.start ev_s_L3_value na7
  have F_L3_value_coder : Fld s s.heap s_L3_value "java/lang/String" "coder" "B" (.int (0 : Int32)) := Fld.start ((fld_at ev_s_L3_value).symm.trans (own_eqi na8))
  obtain ⟨s_L3_value_value, ev_s_L3_value_value⟩ := arr_v na9
  have F_L3_value_value : Fld s s.heap s_L3_value "java/lang/String" "value" "[B" (.ref s_L3_value_value) := Fld.start ((fld_at ev_s_L3_value).symm.trans ev_s_L3_value_value)
  obtain ⟨c_s_L3_value_value, Ac_s_L3_value_value⟩ := Arr.start ev_s_L3_value_value na9
  obtain ⟨lt_s_L3_value_value, le_s_L3_value_value⟩ := own_len (own_eqi na10) ev_s_L3_value_value Ac_s_L3_value_value
  have el0_s_L3_value_value := (elem_in (own_eqi na11) ev_s_L3_value_value (Term.int_eval _) Ac_s_L3_value_value.1).2
  obtain ⟨s_L3N, ev_s_L3N⟩ := exa_v na12
  have S_L3N : Sta s s.heap "com/example/hauora_id/hauoraid/model/ConfidenceLevel" "L3N" "Lcom/example/hauora_id/hauoraid/model/ConfidenceLevel;" (.ref s_L3N) := Sta.start ev_s_L3N (Or.inr ⟨(hw _ (List.mem_of_getElem? (i := 6) rfl)), (hw _ (List.mem_of_getElem? (i := 49) rfl))⟩)
  have E_L3N : Exa s s.heap s_L3N "com/example/hauora_id/hauoraid/model/ConfidenceLevel" := Exa.start ev_s_L3N na12
  obtain ⟨s_L2, ev_s_L2⟩ := exa_v na13
  have S_L2 : Sta s s.heap "com/example/hauora_id/hauoraid/model/ConfidenceLevel" "L2" "Lcom/example/hauora_id/hauoraid/model/ConfidenceLevel;" (.ref s_L2) := Sta.start ev_s_L2 (Or.inr ⟨(hw _ (List.mem_of_getElem? (i := 6) rfl)), (hw _ (List.mem_of_getElem? (i := 51) rfl))⟩)
  have E_L2 : Exa s s.heap s_L2 "com/example/hauora_id/hauoraid/model/ConfidenceLevel" := Exa.start ev_s_L2 na13
  obtain ⟨s_L3N_value, ev_s_L3N_value⟩ := exa_v na14
  have F_L3N_value : Fld s s.heap s_L3N "com/example/hauora_id/hauoraid/model/ConfidenceLevel" "value" "Ljava/lang/String;" (.ref s_L3N_value) := Fld.start ((fld_at ev_s_L3N).symm.trans ev_s_L3N_value)
  have E_L3N_value : Exa s s.heap s_L3N_value "java/lang/String" := Exa.start ev_s_L3N_value na14
  have F_L3N_value_coder : Fld s s.heap s_L3N_value "java/lang/String" "coder" "B" (.int (0 : Int32)) := Fld.start ((fld_at ev_s_L3N_value).symm.trans (own_eqi na15))
  obtain ⟨s_L3N_value_value, ev_s_L3N_value_value⟩ := arr_v na16
  have F_L3N_value_value : Fld s s.heap s_L3N_value "java/lang/String" "value" "[B" (.ref s_L3N_value_value) := Fld.start ((fld_at ev_s_L3N_value).symm.trans ev_s_L3N_value_value)
  obtain ⟨c_s_L3N_value_value, Ac_s_L3N_value_value⟩ := Arr.start ev_s_L3N_value_value na16
  obtain ⟨lt_s_L3N_value_value, le_s_L3N_value_value⟩ := own_len (own_eqi na17) ev_s_L3N_value_value Ac_s_L3N_value_value
  have el0_s_L3N_value_value := (elem_in (own_eqi na18) ev_s_L3N_value_value (Term.int_eval _) Ac_s_L3N_value_value.1).2
  obtain ⟨s_L2_value, ev_s_L2_value⟩ := exa_v na19
  have F_L2_value : Fld s s.heap s_L2 "com/example/hauora_id/hauoraid/model/ConfidenceLevel" "value" "Ljava/lang/String;" (.ref s_L2_value) := Fld.start ((fld_at ev_s_L2).symm.trans ev_s_L2_value)
  have E_L2_value : Exa s s.heap s_L2_value "java/lang/String" := Exa.start ev_s_L2_value na19
  have F_L2_value_coder : Fld s s.heap s_L2_value "java/lang/String" "coder" "B" (.int (0 : Int32)) := Fld.start ((fld_at ev_s_L2_value).symm.trans (own_eqi na20))
  obtain ⟨s_L2_value_value, ev_s_L2_value_value⟩ := arr_v na21
  have F_L2_value_value : Fld s s.heap s_L2_value "java/lang/String" "value" "[B" (.ref s_L2_value_value) := Fld.start ((fld_at ev_s_L2_value).symm.trans ev_s_L2_value_value)
  obtain ⟨c_s_L2_value_value, Ac_s_L2_value_value⟩ := Arr.start ev_s_L2_value_value na21
  obtain ⟨lt_s_L2_value_value, le_s_L2_value_value⟩ := own_len (own_eqi na22) ev_s_L2_value_value Ac_s_L2_value_value
  have el0_s_L2_value_value := (elem_in (own_eqi na23) ev_s_L2_value_value (Term.int_eval _) Ac_s_L2_value_value.1).2
  obtain ⟨s_L2N, ev_s_L2N⟩ := exa_v na24
  have S_L2N : Sta s s.heap "com/example/hauora_id/hauoraid/model/ConfidenceLevel" "L2N" "Lcom/example/hauora_id/hauoraid/model/ConfidenceLevel;" (.ref s_L2N) := Sta.start ev_s_L2N (Or.inr ⟨(hw _ (List.mem_of_getElem? (i := 6) rfl)), (hw _ (List.mem_of_getElem? (i := 53) rfl))⟩)
  have E_L2N : Exa s s.heap s_L2N "com/example/hauora_id/hauoraid/model/ConfidenceLevel" := Exa.start ev_s_L2N na24
  obtain ⟨s_L2N_value, ev_s_L2N_value⟩ := exa_v na25
  have F_L2N_value : Fld s s.heap s_L2N "com/example/hauora_id/hauoraid/model/ConfidenceLevel" "value" "Ljava/lang/String;" (.ref s_L2N_value) := Fld.start ((fld_at ev_s_L2N).symm.trans ev_s_L2N_value)
  have E_L2N_value : Exa s s.heap s_L2N_value "java/lang/String" := Exa.start ev_s_L2N_value na25
  have F_L2N_value_coder : Fld s s.heap s_L2N_value "java/lang/String" "coder" "B" (.int (0 : Int32)) := Fld.start ((fld_at ev_s_L2N_value).symm.trans (own_eqi na26))
  obtain ⟨s_L2N_value_value, ev_s_L2N_value_value⟩ := arr_v na27
  have F_L2N_value_value : Fld s s.heap s_L2N_value "java/lang/String" "value" "[B" (.ref s_L2N_value_value) := Fld.start ((fld_at ev_s_L2N_value).symm.trans ev_s_L2N_value_value)
  obtain ⟨c_s_L2N_value_value, Ac_s_L2N_value_value⟩ := Arr.start ev_s_L2N_value_value na27
  obtain ⟨lt_s_L2N_value_value, le_s_L2N_value_value⟩ := own_len (own_eqi na28) ev_s_L2N_value_value Ac_s_L2N_value_value
  have el0_s_L2N_value_value := (elem_in (own_eqi na29) ev_s_L2N_value_value (Term.int_eval _) Ac_s_L2N_value_value.1).2
  have el1_s_L3N_value_value := (elem_in (own_eqi na30) ev_s_L3N_value_value (Term.int_eval _) Ac_s_L3N_value_value.1).2
  have el1_s_L2N_value_value := (elem_in (own_eqi nb30) ev_s_L2N_value_value (Term.int_eval _) Ac_s_L2N_value_value.1).2
  have V_L1_value_value : Arv s s.heap s_L1_value_value c_s_L1_value_value.cls .byte (1 : Int32) [(.int (49 : Int32))] (.int (0 : Int32)) := Arv.start hfit Ac_s_L1_value_value lt_s_L1_value_value le_s_L1_value_value (by decide) rfl ⟨el0_s_L1_value_value, trivial⟩
  have V_L3_value_value : Arv s s.heap s_L3_value_value c_s_L3_value_value.cls .byte (1 : Int32) [(.int (51 : Int32))] (.int (0 : Int32)) := Arv.start hfit Ac_s_L3_value_value lt_s_L3_value_value le_s_L3_value_value (by decide) rfl ⟨el0_s_L3_value_value, trivial⟩
  have V_L3N_value_value : Arv s s.heap s_L3N_value_value c_s_L3N_value_value.cls .byte (2 : Int32) [(.int (51 : Int32)), (.int (78 : Int32))] (.int (0 : Int32)) := Arv.start hfit Ac_s_L3N_value_value lt_s_L3N_value_value le_s_L3N_value_value (by decide) rfl ⟨el0_s_L3N_value_value, el1_s_L3N_value_value, trivial⟩
  have V_L2_value_value : Arv s s.heap s_L2_value_value c_s_L2_value_value.cls .byte (1 : Int32) [(.int (50 : Int32))] (.int (0 : Int32)) := Arv.start hfit Ac_s_L2_value_value lt_s_L2_value_value le_s_L2_value_value (by decide) rfl ⟨el0_s_L2_value_value, trivial⟩
  have V_L2N_value_value : Arv s s.heap s_L2N_value_value c_s_L2N_value_value.cls .byte (2 : Int32) [(.int (50 : Int32)), (.int (78 : Int32))] (.int (0 : Int32)) := Arv.start hfit Ac_s_L2N_value_value lt_s_L2N_value_value le_s_L2N_value_value (by decide) rfl ⟨el0_s_L2N_value_value, el1_s_L2N_value_value, trivial⟩
  obtain ⟨cs, ecs⟩ := is_v (Cond.before_iff.mp (hsets _ (List.mem_of_getElem? (i := 1) rfl)))
  have S_COMPACT_STRINGS : Sta s s.heap "java/lang/String" "COMPACT_STRINGS" "Z" (.int cs) := Sta.start ecs (Or.inl (hsets _ (List.mem_of_getElem? (i := 0) rfl)))
  have hcs : ¬ cs = (0 : Int32) := fun q => by subst q; have z := not_v (Cond.before_iff.mp (hsets _ (List.mem_of_getElem? (i := 2) rfl))); rw [eq_i ecs (Term.int_eval (0 : Int32)) rfl] at z; cases z
  obtain ⟨sf, esf, rsf⟩ := isR_v (Cond.before_iff.mp (hsets _ (List.mem_of_getElem? (i := 8) rfl)))
  have S_SIOOBE_FORMATTER : Sta s s.heap "jdk/internal/util/Preconditions" "SIOOBE_FORMATTER" "Ljava/util/function/BiFunction;" sf := Sta.start esf (Or.inl (hsets _ (List.mem_of_getElem? (i := 7) rfl)))
  obtain ⟨n, o, h1, h2, h3, _, L, rfl, ⟨rfl, N⟩, hq⟩ := rm0 l s _ hw tables_1 i0 i1 s_L1 s_L3 s_L1_value s_L1_value_value s_L3_value s_L3_value_value s_L3N s_L2 s_L3N_value s_L3N_value_value s_L2_value s_L2_value_value s_L2N s_L2N_value s_L2N_value_value c_s_L1_value_value.cls c_s_L3_value_value.cls c_s_L3N_value_value.cls c_s_L2_value_value.cls c_s_L2N_value_value.cls cs sf s.heap s.heap.size (Nat.le_refl _) S_L1 E_L1 S_L3 E_L3 F_L1_value E_L1_value F_L1_value_coder F_L1_value_value F_L3_value E_L3_value F_L3_value_coder F_L3_value_value S_L3N E_L3N S_L2 E_L2 F_L3N_value E_L3N_value F_L3N_value_coder F_L3N_value_value F_L2_value E_L2_value F_L2_value_coder F_L2_value_value S_L2N E_L2N F_L2N_value E_L2N_value F_L2N_value_coder F_L2N_value_value V_L1_value_value V_L3_value_value V_L3N_value_value V_L2_value_value V_L2N_value_value S_COMPACT_STRINGS hcs S_SIOOBE_FORMATTER rsf p e ha hc hk s m _ below hf ((Spec.applies_iff_loose hf).mp happ).1 ⟨rfl, State.Warmed39.refl s, rfl⟩ trivial
  refine ⟨n, _, h1, h2, h3, hpost _ _ _ _ _ _ ⟨Cond.after_iff.mpr rfl, Cond.after_iff.mpr (eq_i res_at (Term.int_eval (1)) rfl), trivial⟩ ⟨hq.1, hq.2.1, (hq.2.2.sift fun y hy => Or.inr (N y hy)).mono (by decide) (by decide)⟩⟩
theorem main_1_1 : Claimed_1_1 := comes_1 fun _ _ _ _ _ _ h hF => ⟨h.1, hF⟩
theorem main_1_2 : Claimed_1_2 := comes_1 fun _ _ _ _ _ _ h hF => ⟨h.2.1, hF⟩
end Jvm.Pilot.@@N@@
namespace Jvm.Pilot.@@N@@
open Jvm Jvm.ClassFile Sem Op Lib Jvm.Free Jvm.Stand Jvm.Pilot.@@N@@.Jvm.D
/-! MADE BY PROGRAM (witnessworld.py) out of the Statement's table words and the real class files: 18 classes; the members and pool entries that the words name. The judged class is class 1, her method 3. -/
namespace start1
open Jvm.ClassFile
def u (s : String) : CpInfo := .utf8 (stringToUtf16 s)
/-- a pool by its gaps: so many unusable entries, then the entry; so many at the end -/
def gap : Nat → List CpInfo → List CpInfo
  | 0, r => r
  | n + 1, r => .unusable :: gap n r
def poolList (es : List (Nat × CpInfo)) (last : Nat) : List CpInfo := es.foldr (fun e r => gap e.1 (e.2 :: r)) (gap last [])
def pool (es : List (Nat × CpInfo)) (last : Nat) : Array CpInfo := ⟨poolList es last⟩
def fileOf (pool : Array CpInfo) (this : Nat) (attrs : Array Attribute := #[]) (ms : Array MethodInfo := #[]) (fl : Nat := 33) (sup : Nat := 0) (ifs : Array Nat := #[]) (fds : Array FieldInfo := #[]) : ClassFile where
  minorVersion := 0
  majorVersion := 65
  constantPool := pool
  accessFlags := fl
  thisClass := this
  superClass := sup
  interfaces := ifs
  fields := fds
  methods := ms
  attributes := attrs
def plain (name : String) (sup : Option ClassId) : Class where
  name := name
  kind := .ordinary
  loader := none
  accessFlags := 33
  super := sup
  interfaces := #[]
  cf := none
  fields := #[]
  methods := #[]
  instanceTypes := #[]
  staticTypes := #[]
  resolved := #[]
  callSites := []
  init := .initialized
  statics := none
  mirror := none

def pool0 : Array CpInfo := pool [(5, u "<init>"), (0, u "()V"), (1, .class_ 10), (1, u "java/lang/Object")] 113

def k0m0 : Method := { name := "<init>", desc := "()V", sig := { parameters := [], returnType := none }, accessFlags := 1, code := none }
/-- java/lang/Object -/
def k0 : Class := { plain "java/lang/Object" none with
  accessFlags := 33
  interfaces := #[]
  cf := some (fileOf pool0 8 #[] #[{ accessFlags := 1, nameIndex := 5, descriptorIndex := 6, attributes := #[] }] 33 0 #[] #[])
  fields := #[]
  methods := #[k0m0]
  instanceTypes := #[]
  staticTypes := #[]
  resolved := Array.replicate 124 none
  statics := none }

def pool1 : Array CpInfo := pool [(2, .class_ 4), (1, u "java/lang/Object"), (0, u "<init>"), (0, u "()V"), (0, .fieldref 8 9), (0, .class_ 10), (0, .nameAndType 11 12), (0, u "com/example/hauora_id/hauoraid/model/ConfidenceLevel"), (0, u "L1"), (0, u "Lcom/example/hauora_id/hauoraid/model/ConfidenceLevel;"), (0, .fieldref 8 14), (0, .nameAndType 15 12), (0, u "L2"), (0, .fieldref 8 17), (0, .nameAndType 18 12), (0, u "L2N"), (0, .fieldref 8 20), (0, .nameAndType 21 12), (0, u "L3"), (0, .fieldref 8 23), (0, .nameAndType 24 12), (0, u "L3N"), (0, .integer 2147483647), (0, .methodref 27 28), (0, .class_ 29), (0, .nameAndType 30 31), (0, u "com/example/hauora_id/hauoraid/model/ConfidenceLevelAtLeastPinLaw"), (0, u "pick"), (0, u "(I)Lcom/example/hauora_id/hauoraid/model/ConfidenceLevel;"), (0, .methodref 27 33), (0, .nameAndType 34 35), (0, u "digit"), (0, u "(I)I"), (0, .methodref 8 37), (0, .nameAndType 38 39), (0, u "atLeast"), (0, u "(Lcom/example/hauora_id/hauoraid/model/ConfidenceLevel;)Z"), (3, u "law"), (0, u "(II)Z")] 2

def k1m0 : Method := { name := "<init>", desc := "()V", sig := { parameters := [], returnType := none }, accessFlags := 1, code := none }
def k1c1 : Code := { maxStack := 2, maxLocals := 1, code := method_2_code, exceptionTable := #[], attributes := #[] }
def k1m1 : Method := { name := "pick", desc := "(I)Lcom/example/hauora_id/hauoraid/model/ConfidenceLevel;", sig := { parameters := [.int], returnType := some (.object "com/example/hauora_id/hauoraid/model/ConfidenceLevel") }, accessFlags := 10, code := some k1c1 }
def k1c2 : Code := { maxStack := 2, maxLocals := 1, code := method_3_code, exceptionTable := #[], attributes := #[] }
def k1m2 : Method := { name := "digit", desc := "(I)I", sig := { parameters := [.int], returnType := some .int }, accessFlags := 10, code := some k1c2 }
def k1c3 : Code := { maxStack := 2, maxLocals := 7, code := code, exceptionTable := #[], attributes := #[] }
def k1m3 : Method := { name := "law", desc := "(II)Z", sig := { parameters := [.int, .int], returnType := some .boolean }, accessFlags := 9, code := some k1c3 }
/-- com/example/hauora_id/hauoraid/model/ConfidenceLevelAtLeastPinLaw -/
def k1 : Class := { plain "com/example/hauora_id/hauoraid/model/ConfidenceLevelAtLeastPinLaw" (some 0) with
  accessFlags := 49
  interfaces := #[]
  cf := some (fileOf pool1 27 #[] #[{ accessFlags := 1, nameIndex := 5, descriptorIndex := 6, attributes := #[] }, { accessFlags := 10, nameIndex := 30, descriptorIndex := 31, attributes := #[] }, { accessFlags := 10, nameIndex := 34, descriptorIndex := 35, attributes := #[] }, { accessFlags := 9, nameIndex := 43, descriptorIndex := 44, attributes := #[] }] 49 2 #[] #[])
  fields := #[]
  methods := #[k1m0, k1m1, k1m2, k1m3]
  instanceTypes := #[]
  staticTypes := #[]
  resolved := Array.replicate 47 none
  statics := none }

def pool2 : Array CpInfo := pool [(1, .class_ 2), (0, u "java/lang/constant/Constable"), (0, .class_ 4), (0, u "java/lang/Object")] 6

/-- java/lang/constant/Constable -/
def k2 : Class := { plain "java/lang/constant/Constable" (some 0) with
  accessFlags := 1537
  interfaces := #[]
  cf := some (fileOf pool2 1 #[] #[] 1537 3 #[] #[])
  fields := #[]
  methods := #[]
  instanceTypes := #[]
  staticTypes := #[]
  resolved := Array.replicate 11 none
  statics := none }

def pool3 : Array CpInfo := pool [(1, .class_ 2), (0, u "java/lang/Comparable"), (0, .class_ 4), (0, u "java/lang/Object")] 7

/-- java/lang/Comparable -/
def k3 : Class := { plain "java/lang/Comparable" (some 0) with
  accessFlags := 1537
  interfaces := #[]
  cf := some (fileOf pool3 1 #[] #[] 1537 3 #[] #[])
  fields := #[]
  methods := #[]
  instanceTypes := #[]
  staticTypes := #[]
  resolved := Array.replicate 12 none
  statics := none }

def pool4 : Array CpInfo := pool [(1, .class_ 2), (0, u "java/io/Serializable"), (0, .class_ 4), (0, u "java/lang/Object")] 2

/-- java/io/Serializable -/
def k4 : Class := { plain "java/io/Serializable" (some 0) with
  accessFlags := 1537
  interfaces := #[]
  cf := some (fileOf pool4 1 #[] #[] 1537 3 #[] #[])
  fields := #[]
  methods := #[]
  instanceTypes := #[]
  staticTypes := #[]
  resolved := Array.replicate 7 none
  statics := none }

def pool5 : Array CpInfo := pool [(2, .class_ 4), (1, u "java/lang/Enum"), (0, u "name"), (0, u "Ljava/lang/String;"), (2, u "ordinal"), (0, u "I"), (1, .class_ 14), (1, u "java/lang/Object"), (4, u "hash"), (86, .class_ 108), (1, u "java/lang/Enum$EnumDesc"), (2, .class_ 112), (0, u "java/lang/constant/Constable"), (0, .class_ 114), (0, u "java/lang/Comparable"), (0, .class_ 116), (0, u "java/io/Serializable")] 87

/-- java/lang/Enum -/
def k5 : Class := { plain "java/lang/Enum" (some 0) with
  accessFlags := 1057
  interfaces := #[2, 3, 4]
  cf := some (fileOf pool5 2 #[.nestMembers #[106]] #[] 1057 12 #[111, 113, 115] #[{ accessFlags := 18, nameIndex := 5, descriptorIndex := 6, attributes := #[] }, { accessFlags := 18, nameIndex := 9, descriptorIndex := 10, attributes := #[] }, { accessFlags := 2, nameIndex := 19, descriptorIndex := 10, attributes := #[] }])
  fields := #[{ name := "name", type := (.object "java/lang/String"), accessFlags := 18, slot := 0, constantValue := 0 }, { name := "ordinal", type := .int, accessFlags := 18, slot := 1, constantValue := 0 }, { name := "hash", type := .int, accessFlags := 2, slot := 2, constantValue := 0 }]
  methods := #[]
  instanceTypes := #[(.object "java/lang/String"), .int, .int]
  staticTypes := #[]
  resolved := Array.replicate 204 none
  statics := none }

def pool6 : Array CpInfo := pool [(1, .class_ 2), (0, u "com/example/hauora_id/hauoraid/model/ConfidenceLevel"), (2, u "L1"), (0, u "Lcom/example/hauora_id/hauoraid/model/ConfidenceLevel;"), (2, u "L2"), (2, u "L2N"), (2, u "L3"), (2, u "L3N"), (2, u "$VALUES"), (0, u "[Lcom/example/hauora_id/hauoraid/model/ConfidenceLevel;"), (6, .class_ 31), (1, u "java/lang/Enum"), (6, .fieldref 1 39), (0, .nameAndType 40 41), (0, u "value"), (0, u "Ljava/lang/String;"), (27, .class_ 71), (1, u "java/lang/String"), (2, .methodref 69 75), (0, .nameAndType 76 77), (0, u "charAt"), (0, u "(I)C"), (2, u "atLeast"), (0, u "(Lcom/example/hauora_id/hauoraid/model/ConfidenceLevel;)Z")] 79

def k6c0 : Code := { maxStack := 3, maxLocals := 2, code := prog_7_method_7_code, exceptionTable := #[], attributes := #[] }
def k6m0 : Method := { name := "atLeast", desc := "(Lcom/example/hauora_id/hauoraid/model/ConfidenceLevel;)Z", sig := { parameters := [(.object "com/example/hauora_id/hauoraid/model/ConfidenceLevel")], returnType := some .boolean }, accessFlags := 1, code := some k6c0 }
/-- com/example/hauora_id/hauoraid/model/ConfidenceLevel -/
def k6 : Class := { plain "com/example/hauora_id/hauoraid/model/ConfidenceLevel" (some 5) with
  accessFlags := 16433
  interfaces := #[]
  cf := some (fileOf pool6 1 #[] #[{ accessFlags := 1, nameIndex := 80, descriptorIndex := 81, attributes := #[] }] 16433 29 #[] #[{ accessFlags := 16409, nameIndex := 5, descriptorIndex := 6, attributes := #[] }, { accessFlags := 16409, nameIndex := 9, descriptorIndex := 6, attributes := #[] }, { accessFlags := 16409, nameIndex := 12, descriptorIndex := 6, attributes := #[] }, { accessFlags := 16409, nameIndex := 15, descriptorIndex := 6, attributes := #[] }, { accessFlags := 16409, nameIndex := 18, descriptorIndex := 6, attributes := #[] }, { accessFlags := 18, nameIndex := 40, descriptorIndex := 41, attributes := #[] }, { accessFlags := 4122, nameIndex := 21, descriptorIndex := 22, attributes := #[] }])
  fields := #[{ name := "L1", type := (.object "com/example/hauora_id/hauoraid/model/ConfidenceLevel"), accessFlags := 16409, slot := 0, constantValue := 0 }, { name := "L2", type := (.object "com/example/hauora_id/hauoraid/model/ConfidenceLevel"), accessFlags := 16409, slot := 1, constantValue := 0 }, { name := "L2N", type := (.object "com/example/hauora_id/hauoraid/model/ConfidenceLevel"), accessFlags := 16409, slot := 2, constantValue := 0 }, { name := "L3", type := (.object "com/example/hauora_id/hauoraid/model/ConfidenceLevel"), accessFlags := 16409, slot := 3, constantValue := 0 }, { name := "L3N", type := (.object "com/example/hauora_id/hauoraid/model/ConfidenceLevel"), accessFlags := 16409, slot := 4, constantValue := 0 }, { name := "value", type := (.object "java/lang/String"), accessFlags := 18, slot := 3, constantValue := 0 }, { name := "$VALUES", type := (.array (.object "com/example/hauora_id/hauoraid/model/ConfidenceLevel")), accessFlags := 4122, slot := 5, constantValue := 0 }]
  methods := #[k6m0]
  instanceTypes := #[(.object "java/lang/String"), .int, .int, (.object "java/lang/String")]
  staticTypes := #[(.object "com/example/hauora_id/hauoraid/model/ConfidenceLevel"), (.object "com/example/hauora_id/hauoraid/model/ConfidenceLevel"), (.object "com/example/hauora_id/hauoraid/model/ConfidenceLevel"), (.object "com/example/hauora_id/hauoraid/model/ConfidenceLevel"), (.object "com/example/hauora_id/hauoraid/model/ConfidenceLevel"), (.array (.object "com/example/hauora_id/hauoraid/model/ConfidenceLevel"))]
  resolved := Array.replicate 161 none
  statics := some 0 }

def pool7 : Array CpInfo := pool [(2, .class_ 4), (1, u "java/lang/CharSequence"), (42, .class_ 48), (0, u "java/lang/CharSequence$1CodePointIterator"), (10, .class_ 60), (0, u "java/lang/CharSequence$1CharIterator"), (5, .class_ 67), (0, u "java/lang/Object")] 63

/-- java/lang/CharSequence -/
def k7 : Class := { plain "java/lang/CharSequence" (some 0) with
  accessFlags := 1537
  interfaces := #[]
  cf := some (fileOf pool7 2 #[.nestMembers #[47, 59]] #[] 1537 66 #[] #[])
  fields := #[]
  methods := #[]
  instanceTypes := #[]
  staticTypes := #[]
  resolved := Array.replicate 131 none
  statics := none }

def pool8 : Array CpInfo := pool [(1, .class_ 2), (0, u "java/lang/constant/ConstantDesc"), (0, .class_ 4), (0, u "java/lang/Object")] 32

/-- java/lang/constant/ConstantDesc -/
def k8 : Class := { plain "java/lang/constant/ConstantDesc" (some 0) with
  accessFlags := 1537
  interfaces := #[]
  cf := some (fileOf pool8 1 #[] #[] 1537 3 #[] #[])
  fields := #[]
  methods := #[]
  instanceTypes := #[]
  staticTypes := #[]
  resolved := Array.replicate 37 none
  statics := none }

def pool9 : Array CpInfo := pool [(2, .class_ 4), (1, u "java/lang/Object"), (0, u "<init>"), (0, u "()V"), (2, .fieldref 10 11), (0, .class_ 12), (0, .nameAndType 13 14), (0, u "java/lang/String"), (0, u "value"), (0, u "[B"), (0, .fieldref 10 16), (0, .nameAndType 17 18), (0, u "coder"), (0, u "B"), (2, u "hash"), (0, u "I"), (2, u "hashIsZero"), (0, u "Z"), (11, .fieldref 10 39), (0, .nameAndType 40 26), (0, u "COMPACT_STRINGS"), (66, .class_ 109), (1, u "java/lang/StringLatin1"), (32, u "()Z"), (220, u "([BI)C"), (27, u "(II)V"), (35, u "(I)C"), (64, .methodref 10 493), (0, .nameAndType 494 142), (0, u "isLatin1"), (0, .methodref 107 496), (0, .nameAndType 497 363), (0, u "charAt"), (3, u "checkIndex"), (73, .class_ 576), (0, u "java/lang/CharSequence"), (22, u "CASE_INSENSITIVE_ORDER"), (0, u "Ljava/util/Comparator;"), (452, .fieldref 1054 1055), (0, .class_ 1056), (0, .nameAndType 1057 1058), (0, u "jdk/internal/util/Preconditions"), (0, u "SIOOBE_FORMATTER"), (0, u "Ljava/util/function/BiFunction;"), (0, .methodref 1054 1060), (0, .nameAndType 501 1061), (0, u "(IILjava/util/function/BiFunction;)I"), (39, u "serialPersistentFields"), (0, u "[Ljava/io/ObjectStreamField;"), (0, .class_ 1104), (0, u "java/lang/String$CaseInsensitiveComparator"), (1, .class_ 1107), (0, u "java/io/Serializable"), (0, .class_ 1109), (0, u "java/lang/Comparable"), (0, .class_ 1111), (0, u "java/lang/constant/Constable"), (0, .class_ 1113), (0, u "java/lang/constant/ConstantDesc"), (2, u "serialVersionUID"), (0, u "J"), (3, u "REPL"), (0, u "C"), (2, u "LATIN1"), (1, u "UTF16")] 323

def k9m0 : Method := { name := "<init>", desc := "()V", sig := { parameters := [], returnType := none }, accessFlags := 1, code := none }
def k9c1 : Code := { maxStack := 2, maxLocals := 2, code := jdk_42_method_56_code, exceptionTable := #[], attributes := #[] }
def k9m1 : Method := { name := "charAt", desc := "(I)C", sig := { parameters := [.int], returnType := some .char }, accessFlags := 1, code := some k9c1 }
def k9c2 : Code := { maxStack := 1, maxLocals := 1, code := jdk_42_method_154_code, exceptionTable := #[], attributes := #[] }
def k9m2 : Method := { name := "isLatin1", desc := "()Z", sig := { parameters := [], returnType := some .boolean }, accessFlags := 0, code := some k9c2 }
def k9c3 : Code := { maxStack := 3, maxLocals := 2, code := jdk_42_method_155_code, exceptionTable := #[], attributes := #[] }
def k9m3 : Method := { name := "checkIndex", desc := "(II)V", sig := { parameters := [.int, .int], returnType := none }, accessFlags := 8, code := some k9c3 }
/-- java/lang/String -/
def k9 : Class := { plain "java/lang/String" (some 0) with
  accessFlags := 49
  interfaces := #[4, 3, 7, 2, 8]
  cf := some (fileOf pool9 10 #[.nestMembers #[1103]] #[{ accessFlags := 1, nameIndex := 5, descriptorIndex := 6, attributes := #[] }, { accessFlags := 1, nameIndex := 497, descriptorIndex := 427, attributes := #[] }, { accessFlags := 0, nameIndex := 494, descriptorIndex := 142, attributes := #[] }, { accessFlags := 8, nameIndex := 501, descriptorIndex := 391, attributes := #[] }] 49 2 #[1106, 1108, 575, 1110, 1112] #[{ accessFlags := 18, nameIndex := 13, descriptorIndex := 14, attributes := #[] }, { accessFlags := 18, nameIndex := 17, descriptorIndex := 18, attributes := #[] }, { accessFlags := 2, nameIndex := 21, descriptorIndex := 22, attributes := #[] }, { accessFlags := 2, nameIndex := 25, descriptorIndex := 26, attributes := #[] }, { accessFlags := 26, nameIndex := 1116, descriptorIndex := 1117, attributes := #[] }, { accessFlags := 24, nameIndex := 40, descriptorIndex := 26, attributes := #[] }, { accessFlags := 26, nameIndex := 1101, descriptorIndex := 1102, attributes := #[] }, { accessFlags := 26, nameIndex := 1121, descriptorIndex := 1122, attributes := #[] }, { accessFlags := 25, nameIndex := 599, descriptorIndex := 600, attributes := #[] }, { accessFlags := 24, nameIndex := 1125, descriptorIndex := 18, attributes := #[] }, { accessFlags := 24, nameIndex := 1127, descriptorIndex := 18, attributes := #[] }])
  fields := #[{ name := "value", type := (.array .byte), accessFlags := 18, slot := 0, constantValue := 0 }, { name := "coder", type := .byte, accessFlags := 18, slot := 1, constantValue := 0 }, { name := "hash", type := .int, accessFlags := 2, slot := 2, constantValue := 0 }, { name := "hashIsZero", type := .boolean, accessFlags := 2, slot := 3, constantValue := 0 }, { name := "serialVersionUID", type := .long, accessFlags := 26, slot := 0, constantValue := 0 }, { name := "COMPACT_STRINGS", type := .boolean, accessFlags := 24, slot := 1, constantValue := 0 }, { name := "serialPersistentFields", type := (.array (.object "java/io/ObjectStreamField")), accessFlags := 26, slot := 2, constantValue := 0 }, { name := "REPL", type := .char, accessFlags := 26, slot := 3, constantValue := 0 }, { name := "CASE_INSENSITIVE_ORDER", type := (.object "java/util/Comparator"), accessFlags := 25, slot := 4, constantValue := 0 }, { name := "LATIN1", type := .byte, accessFlags := 24, slot := 5, constantValue := 0 }, { name := "UTF16", type := .byte, accessFlags := 24, slot := 6, constantValue := 0 }]
  methods := #[k9m0, k9m1, k9m2, k9m3]
  instanceTypes := #[(.array .byte), .byte, .int, .boolean]
  staticTypes := #[.long, .boolean, (.array (.object "java/io/ObjectStreamField")), .char, (.object "java/util/Comparator"), .byte, .byte]
  resolved := Array.replicate 1451 none
  statics := some 1 }

def pool10 : Array CpInfo := pool [(1, .class_ 2), (0, u "java/lang/String"), (1, .class_ 6), (1, u "java/lang/Object"), (0, u "<init>"), (0, u "()V"), (0, .methodref 1 10), (0, .nameAndType 11 12), (0, u "checkIndex"), (0, u "(II)V"), (1, .class_ 16), (1, u "java/lang/StringLatin1"), (36, u "([BI)C"), (67, u "$assertionsDisabled"), (0, u "Z"), (98, .class_ 223), (1, u "java/lang/StringLatin1$LinesSpliterator"), (28, u "charAt"), (137, .class_ 391), (0, u "java/lang/StringLatin1$CharsSpliterator")] 3

def k10m0 : Method := { name := "<init>", desc := "()V", sig := { parameters := [], returnType := none }, accessFlags := 0, code := none }
def k10c1 : Code := { maxStack := 2, maxLocals := 2, code := jdk_43_method_2_code, exceptionTable := #[], attributes := #[] }
def k10m1 : Method := { name := "charAt", desc := "([BI)C", sig := { parameters := [(.array .byte), .int], returnType := some .char }, accessFlags := 9, code := some k10c1 }
/-- java/lang/StringLatin1 -/
def k10 : Class := { plain "java/lang/StringLatin1" (some 0) with
  accessFlags := 48
  interfaces := #[]
  cf := some (fileOf pool10 14 #[.nestMembers #[390, 221]] #[{ accessFlags := 0, nameIndex := 7, descriptorIndex := 8, attributes := #[] }, { accessFlags := 9, nameIndex := 252, descriptorIndex := 53, attributes := #[] }] 48 4 #[] #[{ accessFlags := 4120, nameIndex := 121, descriptorIndex := 122, attributes := #[] }])
  fields := #[{ name := "$assertionsDisabled", type := .boolean, accessFlags := 4120, slot := 0, constantValue := 0 }]
  methods := #[k10m0, k10m1]
  instanceTypes := #[]
  staticTypes := #[.boolean]
  resolved := Array.replicate 395 none
  statics := none }

def pool11 : Array CpInfo := pool [(2, .class_ 4), (1, u "java/lang/Object"), (0, u "<init>"), (0, u "()V"), (17, .class_ 26), (1, u "jdk/internal/util/Preconditions"), (6, u "checkIndex"), (21, .class_ 56), (0, u "jdk/internal/util/Preconditions$4"), (57, .class_ 115), (0, u "jdk/internal/util/Preconditions$1"), (7, u "SIOOBE_FORMATTER"), (0, u "Ljava/util/function/BiFunction;"), (0, .class_ 126), (0, u "jdk/internal/util/Preconditions$2"), (3, u "AIOOBE_FORMATTER"), (0, .class_ 132), (0, u "jdk/internal/util/Preconditions$3"), (3, u "IOOBE_FORMATTER"), (41, u "(IILjava/util/function/BiFunction;)I")] 15

def k11m0 : Method := { name := "<init>", desc := "()V", sig := { parameters := [], returnType := none }, accessFlags := 1, code := none }
def k11c1 : Code := { maxStack := 3, maxLocals := 3, code := jdk_41_method_11_code, exceptionTable := #[], attributes := #[] }
def k11m1 : Method := { name := "checkIndex", desc := "(IILjava/util/function/BiFunction;)I", sig := { parameters := [.int, .int, (.object "java/util/function/BiFunction")], returnType := some .int }, accessFlags := 9, code := some k11c1 }
/-- jdk/internal/util/Preconditions -/
def k11 : Class := { plain "jdk/internal/util/Preconditions" (some 0) with
  accessFlags := 33
  interfaces := #[]
  cf := some (fileOf pool11 24 #[.nestMembers #[55, 131, 125, 114]] #[{ accessFlags := 1, nameIndex := 5, descriptorIndex := 6, attributes := #[] }, { accessFlags := 9, nameIndex := 33, descriptorIndex := 178, attributes := #[] }] 33 2 #[] #[{ accessFlags := 25, nameIndex := 123, descriptorIndex := 124, attributes := #[] }, { accessFlags := 25, nameIndex := 130, descriptorIndex := 124, attributes := #[] }, { accessFlags := 25, nameIndex := 136, descriptorIndex := 124, attributes := #[] }])
  fields := #[{ name := "SIOOBE_FORMATTER", type := (.object "java/util/function/BiFunction"), accessFlags := 25, slot := 0, constantValue := 0 }, { name := "AIOOBE_FORMATTER", type := (.object "java/util/function/BiFunction"), accessFlags := 25, slot := 1, constantValue := 0 }, { name := "IOOBE_FORMATTER", type := (.object "java/util/function/BiFunction"), accessFlags := 25, slot := 2, constantValue := 0 }]
  methods := #[k11m0, k11m1]
  instanceTypes := #[]
  staticTypes := #[(.object "java/util/function/BiFunction"), (.object "java/util/function/BiFunction"), (.object "java/util/function/BiFunction")]
  resolved := Array.replicate 194 none
  statics := some 2 }

def pool12 : Array CpInfo := pool [(9, u "<init>"), (6, .class_ 18), (1, u "java/lang/Object"), (0, u "()V"), (1, .class_ 23), (1, u "jdk/internal/util/ArraysSupport"), (0, u "LOG2_ARRAY_LONG_INDEX_SCALE"), (0, u "I"), (2, u "U"), (0, u "Ljdk/internal/misc/Unsafe;"), (8, u "BIG_ENDIAN"), (0, u "Z"), (8, u "LOG2_BYTE_BIT_SIZE"), (4, u "LOG2_ARRAY_INT_INDEX_SCALE"), (54, u "JLA"), (0, u "Ljdk/internal/access/JavaLangAccess;"), (11, u "LOG2_ARRAY_BOOLEAN_INDEX_SCALE"), (9, u "LOG2_ARRAY_BYTE_INDEX_SCALE"), (5, u "LOG2_ARRAY_CHAR_INDEX_SCALE"), (5, u "LOG2_ARRAY_SHORT_INDEX_SCALE"), (18, u "LOG2_ARRAY_FLOAT_INDEX_SCALE"), (24, u "LOG2_ARRAY_DOUBLE_INDEX_SCALE"), (89, u "T_BOOLEAN"), (2, u "T_CHAR"), (1, u "T_FLOAT"), (1, u "T_DOUBLE"), (1, u "T_BYTE"), (1, u "T_SHORT"), (1, u "T_INT"), (1, u "T_LONG"), (1, u "SOFT_MAX_ARRAY_LENGTH")] 83

def k12m0 : Method := { name := "<init>", desc := "()V", sig := { parameters := [], returnType := none }, accessFlags := 2, code := none }
/-- jdk/internal/util/ArraysSupport -/
def k12 : Class := { plain "jdk/internal/util/ArraysSupport" (some 0) with
  accessFlags := 33
  interfaces := #[]
  cf := some (fileOf pool12 21 #[] #[{ accessFlags := 2, nameIndex := 9, descriptorIndex := 19, attributes := #[] }] 33 16 #[] #[{ accessFlags := 24, nameIndex := 28, descriptorIndex := 29, attributes := #[] }, { accessFlags := 26, nameIndex := 38, descriptorIndex := 39, attributes := #[] }, { accessFlags := 25, nameIndex := 121, descriptorIndex := 25, attributes := #[] }, { accessFlags := 25, nameIndex := 131, descriptorIndex := 25, attributes := #[] }, { accessFlags := 25, nameIndex := 137, descriptorIndex := 25, attributes := #[] }, { accessFlags := 25, nameIndex := 143, descriptorIndex := 25, attributes := #[] }, { accessFlags := 25, nameIndex := 53, descriptorIndex := 25, attributes := #[] }, { accessFlags := 25, nameIndex := 24, descriptorIndex := 25, attributes := #[] }, { accessFlags := 25, nameIndex := 162, descriptorIndex := 25, attributes := #[] }, { accessFlags := 25, nameIndex := 187, descriptorIndex := 25, attributes := #[] }, { accessFlags := 26, nameIndex := 48, descriptorIndex := 25, attributes := #[] }, { accessFlags := 25, nameIndex := 277, descriptorIndex := 25, attributes := #[] }, { accessFlags := 25, nameIndex := 280, descriptorIndex := 25, attributes := #[] }, { accessFlags := 25, nameIndex := 282, descriptorIndex := 25, attributes := #[] }, { accessFlags := 25, nameIndex := 284, descriptorIndex := 25, attributes := #[] }, { accessFlags := 25, nameIndex := 286, descriptorIndex := 25, attributes := #[] }, { accessFlags := 25, nameIndex := 288, descriptorIndex := 25, attributes := #[] }, { accessFlags := 25, nameIndex := 290, descriptorIndex := 25, attributes := #[] }, { accessFlags := 25, nameIndex := 292, descriptorIndex := 25, attributes := #[] }, { accessFlags := 26, nameIndex := 108, descriptorIndex := 109, attributes := #[] }, { accessFlags := 25, nameIndex := 294, descriptorIndex := 25, attributes := #[] }])
  fields := #[{ name := "U", type := (.object "jdk/internal/misc/Unsafe"), accessFlags := 24, slot := 0, constantValue := 0 }, { name := "BIG_ENDIAN", type := .boolean, accessFlags := 26, slot := 1, constantValue := 0 }, { name := "LOG2_ARRAY_BOOLEAN_INDEX_SCALE", type := .int, accessFlags := 25, slot := 2, constantValue := 0 }, { name := "LOG2_ARRAY_BYTE_INDEX_SCALE", type := .int, accessFlags := 25, slot := 3, constantValue := 0 }, { name := "LOG2_ARRAY_CHAR_INDEX_SCALE", type := .int, accessFlags := 25, slot := 4, constantValue := 0 }, { name := "LOG2_ARRAY_SHORT_INDEX_SCALE", type := .int, accessFlags := 25, slot := 5, constantValue := 0 }, { name := "LOG2_ARRAY_INT_INDEX_SCALE", type := .int, accessFlags := 25, slot := 6, constantValue := 0 }, { name := "LOG2_ARRAY_LONG_INDEX_SCALE", type := .int, accessFlags := 25, slot := 7, constantValue := 0 }, { name := "LOG2_ARRAY_FLOAT_INDEX_SCALE", type := .int, accessFlags := 25, slot := 8, constantValue := 0 }, { name := "LOG2_ARRAY_DOUBLE_INDEX_SCALE", type := .int, accessFlags := 25, slot := 9, constantValue := 0 }, { name := "LOG2_BYTE_BIT_SIZE", type := .int, accessFlags := 26, slot := 10, constantValue := 0 }, { name := "T_BOOLEAN", type := .int, accessFlags := 25, slot := 11, constantValue := 0 }, { name := "T_CHAR", type := .int, accessFlags := 25, slot := 12, constantValue := 0 }, { name := "T_FLOAT", type := .int, accessFlags := 25, slot := 13, constantValue := 0 }, { name := "T_DOUBLE", type := .int, accessFlags := 25, slot := 14, constantValue := 0 }, { name := "T_BYTE", type := .int, accessFlags := 25, slot := 15, constantValue := 0 }, { name := "T_SHORT", type := .int, accessFlags := 25, slot := 16, constantValue := 0 }, { name := "T_INT", type := .int, accessFlags := 25, slot := 17, constantValue := 0 }, { name := "T_LONG", type := .int, accessFlags := 25, slot := 18, constantValue := 0 }, { name := "JLA", type := (.object "jdk/internal/access/JavaLangAccess"), accessFlags := 26, slot := 19, constantValue := 0 }, { name := "SOFT_MAX_ARRAY_LENGTH", type := .int, accessFlags := 25, slot := 20, constantValue := 0 }]
  methods := #[k12m0]
  instanceTypes := #[]
  staticTypes := #[(.object "jdk/internal/misc/Unsafe"), .boolean, .int, .int, .int, .int, .int, .int, .int, .int, .int, .int, .int, .int, .int, .int, .int, .int, .int, (.object "jdk/internal/access/JavaLangAccess"), .int]
  resolved := Array.replicate 378 none
  statics := none }

def pool13 : Array CpInfo := pool [(1, u "java/lang/Cloneable"), (0, .class_ 1), (0, u "java/lang/Object"), (0, .class_ 3)] 3

/-- java/lang/Cloneable -/
def k13 : Class := { plain "java/lang/Cloneable" (some 0) with
  accessFlags := 1537
  interfaces := #[]
  cf := some (fileOf pool13 2 #[] #[] 1537 4 #[] #[])
  fields := #[]
  methods := #[]
  instanceTypes := #[]
  staticTypes := #[]
  resolved := Array.replicate 8 none
  statics := none }

/-- the primitive byte -/
def k14 : Class := { plain "byte" none with kind := .primitive 'B', accessFlags := 0x411 }
/-- [B -/
def k15 : Class := { plain "[B" (some 0) with kind := .array 14 .byte, interfaces := #[13, 4], accessFlags := 1041 }

/-- the primitive int -/
def k16 : Class := { plain "int" none with kind := .primitive 'I', accessFlags := 0x411 }
/-- [I -/
def k17 : Class := { plain "[I" (some 0) with kind := .array 16 .int, interfaces := #[13, 4], accessFlags := 1041 }

def heap : Heap := #[{ cls := 6, slots := #[.ref 3, .ref 8, .ref 11, .ref 4, .ref 7, .null], vm := .statics 6 },
  { cls := 9, slots := #[.long 0, .int 1, .null, .int 0, .null, .int 0, .int 0], vm := .statics 9 },
  { cls := 11, slots := #[.null, .null, .null], vm := .statics 11 },
  { cls := 6, slots := #[.null, .int 0, .int 0, .ref 5], vm := .none },
  { cls := 6, slots := #[.null, .int 0, .int 0, .ref 6], vm := .none },
  { cls := 9, slots := #[.ref 13, .int (0), .int 0, .int 0], vm := .none },
  { cls := 9, slots := #[.ref 14, .int (0), .int 0, .int 0], vm := .none },
  { cls := 6, slots := #[.null, .int 0, .int 0, .ref 9], vm := .none },
  { cls := 6, slots := #[.null, .int 0, .int 0, .ref 10], vm := .none },
  { cls := 9, slots := #[.ref 15, .int (0), .int 0, .int 0], vm := .none },
  { cls := 9, slots := #[.ref 16, .int (0), .int 0, .int 0], vm := .none },
  { cls := 6, slots := #[.null, .int 0, .int 0, .ref 12], vm := .none },
  { cls := 9, slots := #[.ref 17, .int (0), .int 0, .int 0], vm := .none },
  { cls := 15, slots := #[.int (49)], vm := .none },
  { cls := 15, slots := #[.int (51)], vm := .none },
  { cls := 15, slots := #[.int (51), .int (78)], vm := .none },
  { cls := 15, slots := #[.int (50)], vm := .none },
  { cls := 15, slots := #[.int (50), .int (78)], vm := .none }]
def classes : Array Class := #[k0, k1, k2, k3, k4, k5, k6, k7, k8, k9, k10, k11, k12, k13, k14, k15, k16, k17]
def interned : List (Array UInt16 × Addr) := []
def slotsUsed : Nat := 63
def theMethod : MethodId := ⟨1, 3⟩
def args0 : Array Value := #[.int 5, .int 3]
def aboutOver (below : List Frame) : State where
  vm := { classes := classes, interned := interned.toArray }
  heap := heap
  slotsUsed := slotsUsed
  threads := #[{ frames := .invoking theMethod args0 :: below }]
def below0 : List Frame := [.native { method := ⟨0, 0⟩, args := #[] }]
def about1 : State := aboutOver below0
def p0 : Program := .bare "" "" ""
def e0 : Env := launch0.env 0 0 0
theorem w_frames : about1.frames = Frame.invoking theMethod args0 :: below0 := rfl
set_option maxRecDepth 65536 in
theorem w_args : argsFit about1.vm theMethod args0 = true := by decide +kernel
set_option maxRecDepth 65536 in
theorem w_heap : heapFits about1 = true := by decide +kernel
set_option maxRecDepth 65536 in
theorem w_runnable : about1.curStatus? = some .runnable := by decide +kernel
set_option maxRecDepth 65536 in
theorem w_alone : about1.alone = true := by decide +kernel
set_option maxRecDepth 65536 in
theorem w_named : about1.methodNamed? x = some theMethod := by decide +kernel
set_option maxRecDepth 65536 in
theorem w_hears : about1.hears theMethod below0 = true := by decide +kernel
set_option maxRecDepth 65536 in
theorem w_ripe : about1.ripe theMethod args0 below0 = true := by decide +kernel
theorem w_running : about1.status = .running := rfl
set_option maxRecDepth 65536 in
theorem w_room : about1.hasRoom e0.platform room_1 = true :=
  launch0.hasRoom_least _ room_1 (by decide +kernel) (by decide +kernel) (by decide +kernel) (by decide +kernel) (by decide +kernel) (by decide +kernel)
theorem allAtoms_all (ts : List Jvm.Cond) (a : Array Jvm.Value) (st : Jvm.State) : (allAtoms ts).before a st = ts.all (fun c => c.before a st) := by
  induction ts with
  | nil => rfl
  | cons c t ih =>
    show (Jvm.Cond.and c (allAtoms t)).before a st = _
    rw [Jvm.Cond.before_and, ih, List.all_cons]
def words1 : List Jvm.Cond := Jvm.Cond.code x code maxLocals ret :: tables_1
/-- a 'code' word, met by the world's own term for the bytes: nothing is compared byte by byte -/
theorem code_word {y : MethodName} {bytes : ByteArray} {mx : Nat} {rt : Option FieldType} {a : Array Value} {s : State} {m : MethodId} {meth : Method} {c : Code} (h1 : s.methodNamed? y = some m) (h2 : s.vm.method? m = some meth) (h3 : meth.code = some c) (h4 : c.code = bytes)
    (h5 : (c.maxLocals == mx && c.exceptionTable.isEmpty && decide (c.maxStack ≤ mostOperands) && decide (meth.sig.returnType = rt) && !meth.locks && decide (parseMethodDescriptor y.desc = some meth.sig)) = true) : (Jvm.Cond.code y bytes mx rt).before a s = true := by
  simp only [Bool.and_eq_true, beq_iff_eq, Bool.not_eq_true', decide_eq_true_eq] at h5
  obtain ⟨⟨⟨⟨⟨g1, g2⟩, g3⟩, g4⟩, g5⟩, g6⟩ := h5
  simp [Cond.before, Cond.holds, Cond.value, h1, h2, h3, h4, g1, g2, g3, g4, g5, g6]
def isCode : Jvm.Cond → Bool
  | .code _ _ _ _ => true
  | _ => false
theorem all_split {L : List Jvm.Cond} {P : Jvm.Cond → Bool} (h1 : L.all (fun c => isCode c || P c) = true) (h2 : ∀ c ∈ L.filter isCode, P c = true) : L.all P = true := by
  refine List.all_eq_true.mpr fun c hc => ?_
  have h := List.all_eq_true.mp h1 c hc
  rcases Bool.eq_false_or_eq_true (isCode c) with hi | hi
  · exact h2 c (List.mem_filter.mpr ⟨hc, hi⟩)
  · simpa [hi] using h
set_option maxRecDepth 65536 in
theorem w_c0 : (Jvm.Cond.code x code maxLocals ret).before args0 about1 = true := code_word (m := ⟨1, 3⟩) (meth := k1m3) (c := k1c3) (by decide +kernel) rfl rfl rfl (by decide +kernel)
set_option maxRecDepth 65536 in
theorem w_c1 : (Jvm.Cond.code ({ cls := "com/example/hauora_id/hauoraid/model/ConfidenceLevelAtLeastPinLaw", name := "pick", desc := "(I)Lcom/example/hauora_id/hauoraid/model/ConfidenceLevel;" } : Jvm.MethodName) method_2_code (1 : Nat) (Option.some (Jvm.ClassFile.FieldType.object "com/example/hauora_id/hauoraid/model/ConfidenceLevel"))).before args0 about1 = true := code_word (m := ⟨1, 1⟩) (meth := k1m1) (c := k1c1) (by decide +kernel) rfl rfl rfl (by decide +kernel)
set_option maxRecDepth 65536 in
theorem w_c2 : (Jvm.Cond.code ({ cls := "com/example/hauora_id/hauoraid/model/ConfidenceLevelAtLeastPinLaw", name := "digit", desc := "(I)I" } : Jvm.MethodName) method_3_code (1 : Nat) (Option.some Jvm.ClassFile.FieldType.int)).before args0 about1 = true := code_word (m := ⟨1, 2⟩) (meth := k1m2) (c := k1c2) (by decide +kernel) rfl rfl rfl (by decide +kernel)
set_option maxRecDepth 65536 in
theorem w_c3 : (Jvm.Cond.code ({ cls := "com/example/hauora_id/hauoraid/model/ConfidenceLevel", name := "atLeast", desc := "(Lcom/example/hauora_id/hauoraid/model/ConfidenceLevel;)Z" } : Jvm.MethodName) prog_7_method_7_code (2 : Nat) (Option.some Jvm.ClassFile.FieldType.boolean)).before args0 about1 = true := code_word (m := ⟨6, 0⟩) (meth := k6m0) (c := k6c0) (by decide +kernel) rfl rfl rfl (by decide +kernel)
set_option maxRecDepth 65536 in
theorem w_c4 : (Jvm.Cond.code ({ cls := "java/lang/String", name := "charAt", desc := "(I)C" } : Jvm.MethodName) jdk_42_method_56_code (2 : Nat) (Option.some Jvm.ClassFile.FieldType.char)).before args0 about1 = true := code_word (m := ⟨9, 1⟩) (meth := k9m1) (c := k9c1) (by decide +kernel) rfl rfl rfl (by decide +kernel)
set_option maxRecDepth 65536 in
theorem w_c5 : (Jvm.Cond.code ({ cls := "java/lang/String", name := "isLatin1", desc := "()Z" } : Jvm.MethodName) jdk_42_method_154_code (1 : Nat) (Option.some Jvm.ClassFile.FieldType.boolean)).before args0 about1 = true := code_word (m := ⟨9, 2⟩) (meth := k9m2) (c := k9c2) (by decide +kernel) rfl rfl rfl (by decide +kernel)
set_option maxRecDepth 65536 in
theorem w_c6 : (Jvm.Cond.code ({ cls := "java/lang/StringLatin1", name := "charAt", desc := "([BI)C" } : Jvm.MethodName) jdk_43_method_2_code (2 : Nat) (Option.some Jvm.ClassFile.FieldType.char)).before args0 about1 = true := code_word (m := ⟨10, 1⟩) (meth := k10m1) (c := k10c1) (by decide +kernel) rfl rfl rfl (by decide +kernel)
set_option maxRecDepth 65536 in
theorem w_c7 : (Jvm.Cond.code ({ cls := "java/lang/String", name := "checkIndex", desc := "(II)V" } : Jvm.MethodName) jdk_42_method_155_code (2 : Nat) (Option.none : Option Jvm.ClassFile.FieldType)).before args0 about1 = true := code_word (m := ⟨9, 3⟩) (meth := k9m3) (c := k9c3) (by decide +kernel) rfl rfl rfl (by decide +kernel)
set_option maxRecDepth 65536 in
theorem w_c8 : (Jvm.Cond.code ({ cls := "jdk/internal/util/Preconditions", name := "checkIndex", desc := "(IILjava/util/function/BiFunction;)I" } : Jvm.MethodName) jdk_41_method_11_code (3 : Nat) (Option.some Jvm.ClassFile.FieldType.int)).before args0 about1 = true := code_word (m := ⟨11, 1⟩) (meth := k11m1) (c := k11c1) (by decide +kernel) rfl rfl rfl (by decide +kernel)
def codes1 : List Jvm.Cond := [Jvm.Cond.code x code maxLocals ret, Jvm.Cond.code ({ cls := "com/example/hauora_id/hauoraid/model/ConfidenceLevelAtLeastPinLaw", name := "pick", desc := "(I)Lcom/example/hauora_id/hauoraid/model/ConfidenceLevel;" } : Jvm.MethodName) method_2_code (1 : Nat) (Option.some (Jvm.ClassFile.FieldType.object "com/example/hauora_id/hauoraid/model/ConfidenceLevel")), Jvm.Cond.code ({ cls := "com/example/hauora_id/hauoraid/model/ConfidenceLevelAtLeastPinLaw", name := "digit", desc := "(I)I" } : Jvm.MethodName) method_3_code (1 : Nat) (Option.some Jvm.ClassFile.FieldType.int), Jvm.Cond.code ({ cls := "com/example/hauora_id/hauoraid/model/ConfidenceLevel", name := "atLeast", desc := "(Lcom/example/hauora_id/hauoraid/model/ConfidenceLevel;)Z" } : Jvm.MethodName) prog_7_method_7_code (2 : Nat) (Option.some Jvm.ClassFile.FieldType.boolean), Jvm.Cond.code ({ cls := "java/lang/String", name := "charAt", desc := "(I)C" } : Jvm.MethodName) jdk_42_method_56_code (2 : Nat) (Option.some Jvm.ClassFile.FieldType.char), Jvm.Cond.code ({ cls := "java/lang/String", name := "isLatin1", desc := "()Z" } : Jvm.MethodName) jdk_42_method_154_code (1 : Nat) (Option.some Jvm.ClassFile.FieldType.boolean), Jvm.Cond.code ({ cls := "java/lang/StringLatin1", name := "charAt", desc := "([BI)C" } : Jvm.MethodName) jdk_43_method_2_code (2 : Nat) (Option.some Jvm.ClassFile.FieldType.char), Jvm.Cond.code ({ cls := "java/lang/String", name := "checkIndex", desc := "(II)V" } : Jvm.MethodName) jdk_42_method_155_code (2 : Nat) (Option.none : Option Jvm.ClassFile.FieldType), Jvm.Cond.code ({ cls := "jdk/internal/util/Preconditions", name := "checkIndex", desc := "(IILjava/util/function/BiFunction;)I" } : Jvm.MethodName) jdk_41_method_11_code (3 : Nat) (Option.some Jvm.ClassFile.FieldType.int)]
set_option maxRecDepth 65536 in
theorem codes_eq : words1.filter isCode = codes1 := rfl
theorem w_codes : ∀ c ∈ words1.filter isCode, c.before args0 about1 = true := by
  rw [codes_eq]
  intro c hc
  simp only [codes1, List.mem_cons, List.not_mem_nil, or_false] at hc
  rcases hc with rfl | rfl | rfl | rfl | rfl | rfl | rfl | rfl | rfl
  · exact w_c0
  · exact w_c1
  · exact w_c2
  · exact w_c3
  · exact w_c4
  · exact w_c5
  · exact w_c6
  · exact w_c7
  · exact w_c8
set_option maxRecDepth 65536 in
theorem w_t1 : (words1.take 24).all (fun c => isCode c || c.before args0 about1) = true := by decide +kernel
set_option maxRecDepth 65536 in
theorem w_t2 : ((words1.drop 24).take 24).all (fun c => isCode c || c.before args0 about1) = true := by decide +kernel
set_option maxRecDepth 65536 in
theorem w_t3 : ((words1.drop 24).drop 24).all (fun c => isCode c || c.before args0 about1) = true := by decide +kernel
theorem w_tables : (allAtoms (Jvm.Cond.code x code maxLocals ret :: tables_1)).before args0 about1 = true := by
  rw [allAtoms_all]
  show words1.all (fun c => c.before args0 about1) = true
  refine all_split ?_ w_codes
  rw [← List.take_append_drop 24 words1, List.all_append, w_t1, ← List.take_append_drop 24 (words1.drop 24), List.all_append, w_t2, w_t3]
  rfl
set_option maxRecDepth 65536 in
theorem w_rest : rest_1_c.before args0 about1 = true := by decide +kernel
set_option maxRecDepth 65536 in
theorem w_case : (Jvm.Cond.and given_1 narrow_1).before args0 about1 = true := by decide +kernel
theorem w_applies : (headSpec (Jvm.Cond.code x code maxLocals ret :: tables_1) room_1).applies x e0.platform about1 = true :=
  (Spec.applies_iff w_frames).mpr ⟨w_running, w_runnable, w_alone, w_named, w_hears, w_ripe, w_room, w_tables⟩
theorem atStart : AtStart classFile x code maxLocals ret World_1 tables_1 room_1 Calls_1 rest_1 Pre_1 launch0 p0 e0 about1 theMethod args0 below0 :=
  ⟨lists_1, trivial, launch0.admits_env _ _ _, launch0.least_env, fairChoices_fair.cas, fairChoices_fair.clock, w_frames, w_args, w_heap, w_applies, trivial, w_rest, w_case⟩
end start1
theorem witness_1 : WitnessClaimed_1 := ⟨start1.p0, start1.e0, start1.about1, start1.theMethod, start1.args0, start1.below0, start1.atStart⟩
end Jvm.Pilot.@@N@@
