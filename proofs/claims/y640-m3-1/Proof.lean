import JvmDerived
import JvmDerived.Pilot.@@N@@Statement
import JvmDerived.Pilot.@@N@@Code
set_option linter.unusedVariables false
set_option linter.unusedSimpArgs false
namespace Jvm.Pilot.@@N@@
open Jvm Jvm.ClassFile Sem Op Lib Jvm.Free Jvm.Stand Jvm.LawKit Jvm.RoadKit Bundle Jvm.Pilot.@@N@@.Jvm.D
theorem own_exa_ns {Z : State} {h : Heap} {a : Addr} {C : String} (E : Exa Z h a C) : ∀ c : Cell, h[a]? = some c → c.vm.isStatics = false := fun c hc => by
  obtain ⟨cell, k, h1, -, -, h4, -⟩ := E
  rw [h1] at hc; cases hc; exact h4
theorem own_sta_keep {Z : State} {h h' : Heap} {C n d : String} {v : Value} {ws : List Addr} (F : Sta Z h C n d v) (K : Keep h h' ws) (q : ∀ x ∈ ws, ∀ c : Cell, h[x]? = some c → c.vm.isStatics = false) : Sta Z h' C n d v := by
  obtain ⟨cf, i, k, f, st, cell, h1, h2, h3, h4, h5, h6, h7⟩ := F
  exact ⟨cf, i, k, f, st, cell, h1, h2, h3, h4, K.2.1 st cell h5 (fun hm => by have := q st hm cell h5; rw [h6] at this; cases this), h6, h7⟩
theorem own_ins_keep {Z : State} {h h' : Heap} {a : Addr} {C : String} {b : Bool} {ws : List Addr} (F : Ins Z h a C b) (K : Keep h h' ws) : Ins Z h' a C b := by
  obtain ⟨cell, cT, h1, h2, h3⟩ := F
  obtain ⟨c', q1, q2, q3, -⟩ := K.2.2 a cell h1
  exact ⟨c', cT, q1, h2, by rw [q3, q2]; exact h3⟩
theorem own_ne {r c : Int32} (k : Int) (hc : c.toInt = k) (h : ¬ r = c) : ¬ r.toInt = k := fun e => h (Int32.toInt_inj.mp (e.trans hc.symm))
theorem own_cat1 {v : Value} (h : v.isRef = true) : 2 * 0 + ([v].map fun v => v.category).sum ≤ 1 := by simp [XT.cat1 h]
theorem own_nz {z : Int32} (h : z = 0 ∨ z = 1) : narrow .boolean (.int z) = .int z := by rcases h with rfl | rfl <;> rfl
theorem own_eqi {a : Term} {args : Array Value} {s : State} {k : Int32} (h : (Jvm.Cond.eq a (Term.int k)).value args s none s [] = some true) : a.eval args s none [] s = some (.int k) := by
  cases ha : a.eval args s none [] s with
  | none => simp [Cond.value, ha] at h
  | some x => cases x <;> simp [Cond.value, ha, Term.eval] at h ⊢; exact h
theorem own_eqr {a b : Term} {args : Array Value} {s : State} {y : Addr} (hb : b.eval args s none [] s = some (.ref y)) (h : (Jvm.Cond.eq a b).value args s none s [] = some true) : a.eval args s none [] s = some (.ref y) := by
  cases ha : a.eval args s none [] s with
  | none => simp [Cond.value, ha] at h
  | some x => cases x <;> simp [Cond.value, ha, hb] at h ⊢; exact h
theorem own_len {t : Term} {args : Array Value} {s : State} {n : Int32} {x : Addr} {c : Cell} {ty : FieldType} (h : (Term.length t).eval args s none [] s = some (.int n)) (ht : t.eval args s none [] s = some (.ref x)) (A : Arr s s.heap x c ty) : c.slots.size < 2 ^ 31 ∧ c.slots.size.toInt32 = n := by
  have ha : s.arrayAt? x = some c := Arr.fin (Vm.Alike.refl _) A
  simp only [Term.eval, ht, ha, Option.bind_eq_bind, Option.bind_some] at h
  split at h
  · rename_i hl; simp at h; exact ⟨hl, h⟩
  · cases h
theorem d1_0 : decode method_2_code 0 = .ok (.iload_n 0, 1) := by decide +kernel
theorem d1_1 : decode method_2_code 1 = .ok (.ifCond .ne 7, 3) := by decide +kernel
theorem d1_4 : decode method_2_code 4 = .ok (.getstatic 7, 3) := by decide +kernel
theorem d1_7 : decode method_2_code 7 = .ok (.areturn, 1) := by decide +kernel
theorem d1_8 : decode method_2_code 8 = .ok (.iload_n 0, 1) := by decide +kernel
theorem d1_9 : decode method_2_code 9 = .ok (.iconst 1, 1) := by decide +kernel
theorem d1_10 : decode method_2_code 10 = .ok (.if_icmp .ne 7, 3) := by decide +kernel
theorem d1_13 : decode method_2_code 13 = .ok (.getstatic 13, 3) := by decide +kernel
theorem d1_16 : decode method_2_code 16 = .ok (.areturn, 1) := by decide +kernel
theorem d1_17 : decode method_2_code 17 = .ok (.iload_n 0, 1) := by decide +kernel
theorem d1_18 : decode method_2_code 18 = .ok (.iconst 2, 1) := by decide +kernel
theorem d1_19 : decode method_2_code 19 = .ok (.if_icmp .ne 7, 3) := by decide +kernel
theorem d1_22 : decode method_2_code 22 = .ok (.getstatic 16, 3) := by decide +kernel
theorem d1_25 : decode method_2_code 25 = .ok (.areturn, 1) := by decide +kernel
theorem d1_26 : decode method_2_code 26 = .ok (.iload_n 0, 1) := by decide +kernel
theorem d1_27 : decode method_2_code 27 = .ok (.iconst 3, 1) := by decide +kernel
theorem d1_28 : decode method_2_code 28 = .ok (.if_icmp .ne 7, 3) := by decide +kernel
theorem d1_31 : decode method_2_code 31 = .ok (.getstatic 19, 3) := by decide +kernel
theorem d1_34 : decode method_2_code 34 = .ok (.areturn, 1) := by decide +kernel
theorem d1_35 : decode method_2_code 35 = .ok (.iload_n 0, 1) := by decide +kernel
theorem d1_36 : decode method_2_code 36 = .ok (.iconst 4, 1) := by decide +kernel
theorem d1_37 : decode method_2_code 37 = .ok (.if_icmp .ne 7, 3) := by decide +kernel
theorem d1_40 : decode method_2_code 40 = .ok (.getstatic 22, 3) := by decide +kernel
theorem d1_43 : decode method_2_code 43 = .ok (.areturn, 1) := by decide +kernel
theorem d1_44 : decode method_2_code 44 = .ok (.iload_n 0, 1) := by decide +kernel
theorem d1_45 : decode method_2_code 45 = .ok (.iconst 5, 1) := by decide +kernel
theorem d1_46 : decode method_2_code 46 = .ok (.if_icmp .ne 7, 3) := by decide +kernel
theorem d1_49 : decode method_2_code 49 = .ok (.getstatic 25, 3) := by decide +kernel
theorem d1_52 : decode method_2_code 52 = .ok (.areturn, 1) := by decide +kernel
theorem d1_53 : decode method_2_code 53 = .ok (.iload_n 0, 1) := by decide +kernel
theorem d1_54 : decode method_2_code 54 = .ok (.bipush 6, 2) := by decide +kernel
theorem d1_56 : decode method_2_code 56 = .ok (.if_icmp .ne 7, 3) := by decide +kernel
theorem d1_59 : decode method_2_code 59 = .ok (.getstatic 28, 3) := by decide +kernel
theorem d1_62 : decode method_2_code 62 = .ok (.areturn, 1) := by decide +kernel
theorem d1_63 : decode method_2_code 63 = .ok (.iload_n 0, 1) := by decide +kernel
theorem d1_64 : decode method_2_code 64 = .ok (.bipush 7, 2) := by decide +kernel
theorem d1_66 : decode method_2_code 66 = .ok (.if_icmp .ne 7, 3) := by decide +kernel
theorem d1_69 : decode method_2_code 69 = .ok (.getstatic 31, 3) := by decide +kernel
theorem d1_72 : decode method_2_code 72 = .ok (.areturn, 1) := by decide +kernel
theorem d1_73 : decode method_2_code 73 = .ok (.iload_n 0, 1) := by decide +kernel
theorem d1_74 : decode method_2_code 74 = .ok (.bipush 8, 2) := by decide +kernel
theorem d1_76 : decode method_2_code 76 = .ok (.if_icmp .ne 7, 3) := by decide +kernel
theorem d1_79 : decode method_2_code 79 = .ok (.getstatic 34, 3) := by decide +kernel
theorem d1_82 : decode method_2_code 82 = .ok (.areturn, 1) := by decide +kernel
theorem d1_83 : decode method_2_code 83 = .ok (.iload_n 0, 1) := by decide +kernel
theorem d1_84 : decode method_2_code 84 = .ok (.bipush 9, 2) := by decide +kernel
theorem d1_86 : decode method_2_code 86 = .ok (.if_icmp .ne 7, 3) := by decide +kernel
theorem d1_89 : decode method_2_code 89 = .ok (.getstatic 37, 3) := by decide +kernel
theorem d1_92 : decode method_2_code 92 = .ok (.areturn, 1) := by decide +kernel
theorem d1_93 : decode method_2_code 93 = .ok (.iload_n 0, 1) := by decide +kernel
theorem d1_94 : decode method_2_code 94 = .ok (.bipush 10, 2) := by decide +kernel
theorem d1_96 : decode method_2_code 96 = .ok (.if_icmp .ne 7, 3) := by decide +kernel
theorem d1_99 : decode method_2_code 99 = .ok (.getstatic 40, 3) := by decide +kernel
theorem d1_102 : decode method_2_code 102 = .ok (.areturn, 1) := by decide +kernel
theorem d1_103 : decode method_2_code 103 = .ok (.iload_n 0, 1) := by decide +kernel
theorem d1_104 : decode method_2_code 104 = .ok (.bipush 11, 2) := by decide +kernel
theorem d1_106 : decode method_2_code 106 = .ok (.if_icmp .ne 7, 3) := by decide +kernel
theorem d1_109 : decode method_2_code 109 = .ok (.getstatic 43, 3) := by decide +kernel
theorem d1_112 : decode method_2_code 112 = .ok (.areturn, 1) := by decide +kernel
theorem d1_113 : decode method_2_code 113 = .ok (.iload_n 0, 1) := by decide +kernel
theorem d1_114 : decode method_2_code 114 = .ok (.bipush 12, 2) := by decide +kernel
theorem d1_116 : decode method_2_code 116 = .ok (.if_icmp .ne 7, 3) := by decide +kernel
theorem d1_119 : decode method_2_code 119 = .ok (.getstatic 46, 3) := by decide +kernel
theorem d1_122 : decode method_2_code 122 = .ok (.areturn, 1) := by decide +kernel
theorem d1_123 : decode method_2_code 123 = .ok (.iload_n 0, 1) := by decide +kernel
theorem d1_124 : decode method_2_code 124 = .ok (.bipush 13, 2) := by decide +kernel
theorem d1_126 : decode method_2_code 126 = .ok (.if_icmp .ne 7, 3) := by decide +kernel
theorem d1_129 : decode method_2_code 129 = .ok (.getstatic 49, 3) := by decide +kernel
theorem d1_132 : decode method_2_code 132 = .ok (.areturn, 1) := by decide +kernel
theorem d1_133 : decode method_2_code 133 = .ok (.getstatic 52, 3) := by decide +kernel
theorem d1_136 : decode method_2_code 136 = .ok (.areturn, 1) := by decide +kernel
theorem pn_71 : plainName "com/example/mirk/mirk/eval/MeasurePerQueryPinLaw" = true := by first | (simp [plainName, overriddenIn]; done) | decide +kernel
def f1 (p0 : Int32) (s_NUM_Q : Addr) (s_NUM_RET : Addr) (s_NUM_REL : Addr) (s_NUM_REL_RET : Addr) (s_MAP : Addr) (s_RPREC : Addr) (s_BPREF : Addr) (s_RECIP_RANK : Addr) (s_P_5 : Addr) (s_P_10 : Addr) (s_P_20 : Addr) (s_RECALL_10 : Addr) (s_RECALL_100 : Addr) (s_NDCG : Addr) (s_NDCG_CUT_10 : Addr) : Addr := (if p0 = (0 : Int32) then s_NUM_Q else (if p0 = (1 : Int32) then s_NUM_RET else (if p0 = (2 : Int32) then s_NUM_REL else (if p0 = (3 : Int32) then s_NUM_REL_RET else (if p0 = (4 : Int32) then s_MAP else (if p0 = (5 : Int32) then s_RPREC else (if p0 = (6 : Int32) then s_BPREF else (if p0 = (7 : Int32) then s_RECIP_RANK else (if p0 = (8 : Int32) then s_P_5 else (if p0 = (9 : Int32) then s_P_10 else (if p0 = (10 : Int32) then s_P_20 else (if p0 = (11 : Int32) then s_RECALL_10 else (if p0 = (12 : Int32) then s_RECALL_100 else (if p0 = (13 : Int32) then s_NDCG else s_NDCG_CUT_10))))))))))))))
def Q1 (Z : State) (n0 : Nat) (p0 : Int32) (s_NUM_Q : Addr) (s_NUM_RET : Addr) (s_NUM_REL : Addr) (s_NUM_REL_RET : Addr) (s_MAP : Addr) (s_RPREC : Addr) (s_BPREF : Addr) (s_RECIP_RANK : Addr) (s_P_5 : Addr) (s_P_10 : Addr) (s_P_20 : Addr) (s_RECALL_10 : Addr) (s_RECALL_100 : Addr) (s_NDCG : Addr) (s_NDCG_CUT_10 : Addr) (h0 : Heap) (v : Option Value) (h : Heap) (L : List Loc) : Prop := v = some (.ref (f1 p0 s_NUM_Q s_NUM_RET s_NUM_REL s_NUM_REL_RET s_MAP s_RPREC s_BPREF s_RECIP_RANK s_P_5 s_P_10 s_P_20 s_RECALL_10 s_RECALL_100 s_NDCG s_NDCG_CUT_10)) ∧ Fr n0 L ∧ h = h0
theorem ef1 (m : MethodId) (p0 : Int32) : entryFrame m #[(.int p0)] 1 = mkF m 0 #[.val (.int p0)] [] := by first | (simp [entryFrame, mkF, argsToLocals, Value.category]; done) | rfl
set_option maxRecDepth 65536 in
set_option maxHeartbeats 40000000 in
theorem rm1 (l : Launch) (Z : State) (aZ : Array Value) (hw : ∀ d ∈ tables_1, d.before aZ Z = true) (ws : List Jvm.Cond) (p0 : Int32) (s_NUM_Q : Addr) (s_NUM_RET : Addr) (s_NUM_REL : Addr) (s_NUM_REL_RET : Addr) (s_MAP : Addr) (s_RPREC : Addr) (s_BPREF : Addr) (s_RECIP_RANK : Addr) (s_P_5 : Addr) (s_P_10 : Addr) (s_P_20 : Addr) (s_RECALL_10 : Addr) (s_RECALL_100 : Addr) (s_NDCG : Addr) (s_NDCG_CUT_10 : Addr) (h0 : Heap) (n0 : Nat) (Z0 : n0 ≤ h0.size) (S_NUM_Q : Sta Z h0 "com/example/mirk/mirk/eval/Measure" "NUM_Q" "Lcom/example/mirk/mirk/eval/Measure;" (.ref s_NUM_Q)) (S_NUM_RET : Sta Z h0 "com/example/mirk/mirk/eval/Measure" "NUM_RET" "Lcom/example/mirk/mirk/eval/Measure;" (.ref s_NUM_RET)) (S_NUM_REL : Sta Z h0 "com/example/mirk/mirk/eval/Measure" "NUM_REL" "Lcom/example/mirk/mirk/eval/Measure;" (.ref s_NUM_REL)) (S_NUM_REL_RET : Sta Z h0 "com/example/mirk/mirk/eval/Measure" "NUM_REL_RET" "Lcom/example/mirk/mirk/eval/Measure;" (.ref s_NUM_REL_RET)) (S_MAP : Sta Z h0 "com/example/mirk/mirk/eval/Measure" "MAP" "Lcom/example/mirk/mirk/eval/Measure;" (.ref s_MAP)) (S_RPREC : Sta Z h0 "com/example/mirk/mirk/eval/Measure" "RPREC" "Lcom/example/mirk/mirk/eval/Measure;" (.ref s_RPREC)) (S_BPREF : Sta Z h0 "com/example/mirk/mirk/eval/Measure" "BPREF" "Lcom/example/mirk/mirk/eval/Measure;" (.ref s_BPREF)) (S_RECIP_RANK : Sta Z h0 "com/example/mirk/mirk/eval/Measure" "RECIP_RANK" "Lcom/example/mirk/mirk/eval/Measure;" (.ref s_RECIP_RANK)) (S_P_5 : Sta Z h0 "com/example/mirk/mirk/eval/Measure" "P_5" "Lcom/example/mirk/mirk/eval/Measure;" (.ref s_P_5)) (S_P_10 : Sta Z h0 "com/example/mirk/mirk/eval/Measure" "P_10" "Lcom/example/mirk/mirk/eval/Measure;" (.ref s_P_10)) (S_P_20 : Sta Z h0 "com/example/mirk/mirk/eval/Measure" "P_20" "Lcom/example/mirk/mirk/eval/Measure;" (.ref s_P_20)) (S_RECALL_10 : Sta Z h0 "com/example/mirk/mirk/eval/Measure" "RECALL_10" "Lcom/example/mirk/mirk/eval/Measure;" (.ref s_RECALL_10)) (S_RECALL_100 : Sta Z h0 "com/example/mirk/mirk/eval/Measure" "RECALL_100" "Lcom/example/mirk/mirk/eval/Measure;" (.ref s_RECALL_100)) (S_NDCG : Sta Z h0 "com/example/mirk/mirk/eval/Measure" "NDCG" "Lcom/example/mirk/mirk/eval/Measure;" (.ref s_NDCG)) (S_NDCG_CUT_10 : Sta Z h0 "com/example/mirk/mirk/eval/Measure" "NDCG_CUT_10" "Lcom/example/mirk/mirk/eval/Measure;" (.ref s_NDCG_CUT_10)) :
    MetFree l (⟨"com/example/mirk/mirk/eval/MeasurePerQueryPinLaw", "pick", "(I)Lcom/example/mirk/mirk/eval/Measure;"⟩ : MethodName) (head1 (Jvm.Cond.code (⟨"com/example/mirk/mirk/eval/MeasurePerQueryPinLaw", "pick", "(I)Lcom/example/mirk/mirk/eval/Measure;"⟩ : MethodName) method_2_code 1 (some (.object "com/example/mirk/mirk/eval/Measure")) :: ws) ({ frames := 0, cells := 0, slots := 0, locals := 0 } : Room)) (fun a U => a = #[(.int p0)] ∧ Z.Warmed39 U.vm ∧ U.heap = h0) (fun _ _ _ _ _ => True) (fun _ U o U' => ∃ v L, o = .returned v ∧ Q1 Z n0 p0 s_NUM_Q s_NUM_RET s_NUM_REL s_NUM_REL_RET s_MAP s_RPREC s_BPREF s_RECIP_RANK s_P_5 s_P_10 s_P_20 s_RECALL_10 s_RECALL_100 s_NDCG s_NDCG_CUT_10 h0 v U'.heap L ∧ FrameEnd U o U' L ({ frames := 0, cells := 0, slots := 0, locals := 0 } : Room).cells ({ frames := 0, cells := 0, slots := 0, locals := 0 } : Room).slots) := by
  refine MetFree.of_bodySF (plainFor_of_name pn_71) hisR ?_
  intro p e s m args below meth c s₁ Bd hml0 hP hK
  obtain ⟨rfl, hZ, hh⟩ := hP
  have hx := Bd.exec
  have hby := Bd.bytes
  have hml : c.maxLocals = 1 := hml0
  have hown : s.vm.findClass "com/example/mirk/mirk/eval/MeasurePerQueryPinLaw" = some m.cls := findClass_of_methodNamed Bd.named
  have hnm := (name_of_methodNamed Bd.named Bd.method).1
  have X0 : Stand p l e ({ frames := 0, cells := 0, slots := 0, locals := 0 } : Room) s m #[(.int p0)] below meth c s₁ [] 0 0 := Stand.of_body Bd
  have e0 : s₁.heap = h0 := by rw [← hh, Bd.state]; rfl
  have N0 := Fr.nil n0
  have K0 : Keep h0 h0 [] := Keep.refl _ _
  have go0 : ∀ t, Steps p.tables e below (s₁.setTop (mkF m 0 #[.val (.int p0)] [])) t → Steps p.tables e below (s₁.setTop (entryFrame m #[(.int p0)] 1)) t := fun t k => castTop (ef1 m p0) k
  have go1 : ∀ t, Steps p.tables e below (s₁.setTop (mkF m 1 #[.val (.int p0)] [(.int p0)])) t → Steps p.tables e below (s₁.setTop (entryFrame m #[(.int p0)] 1)) t := by
    intro t k
    refine go0 _ ?_
    refine XS.iloadN X0.here hx rfl (hb hby d1_0) rfl ?_
    show Steps p.tables e below (s₁.setTop (mkF m 1 #[.val (.int p0)] [(.int p0)])) t
    exact k
  by_cases hs2 : p0 = (0 : Int32)
  · have go3 : ∀ t, Steps p.tables e below (s₁.setTop (mkF m 4 #[.val (.int p0)] [])) t → Steps p.tables e below (s₁.setTop (entryFrame m #[(.int p0)] 1)) t := by
      intro t k
      refine go1 _ ?_
      refine XS.ifNo X0.here hx rfl (hb hby d1_1) rfl (XT.i0_ne_f hs2) ?_
      show Steps p.tables e below (s₁.setTop (mkF m 4 #[.val (.int p0)] [])) t
      exact k
    obtain ⟨T4, X4, e4, st4⟩ := getS2 X0 hx hZ hown (host := "") (Or.inl (hw _ (List.mem_of_getElem? (i := 5) rfl))) Via.refl e0 S_NUM_Q (g := (mkF m 4 #[.val (.int p0)] [])) rfl (hb hby d1_4)
    have go5 : ∀ t, Steps p.tables e below (T4.setTop (mkF m 7 #[.val (.int p0)] [(.ref s_NUM_Q)])) t → Steps p.tables e below (s₁.setTop (entryFrame m #[(.int p0)] 1)) t := fun t k => go3 _ (st4 _ k)
    obtain ⟨fs, hr, hrun, hended, hW, hsame⟩ := X4.leave (v := some (.ref s_NUM_Q)) (fun h => by rw [Bd.returns] at h; cases h)
    refine ⟨_, _, go5 _ (Jvm.RoadKit.retOut X4 hx Bd.returns rfl (Or.inr (Or.inr (Or.inr (Or.inr ⟨rfl, rfl, rfl⟩)))) (hb hby d1_7) hr), hrun, hended, _, _, rfl, ?_, ⟨_, rfl⟩, hW, hsame.mono (by decide) (by decide)⟩
    show Q1 _ _ p0 s_NUM_Q s_NUM_RET s_NUM_REL s_NUM_REL_RET s_MAP s_RPREC s_BPREF s_RECIP_RANK s_P_5 s_P_10 s_P_20 s_RECALL_10 s_RECALL_100 s_NDCG s_NDCG_CUT_10 h0 _ (T4.setFrames fs).heap _
    have hE : (T4.setFrames fs).heap = h0 := e4
    rw [hE]
    exact ⟨by rw [f1, if_pos hs2], N0, rfl⟩
  · have go6 : ∀ t, Steps p.tables e below (s₁.setTop (mkF m 10 #[.val (.int p0)] [(.int (1 : Int32)), (.int p0)])) t → Steps p.tables e below (s₁.setTop (entryFrame m #[(.int p0)] 1)) t := by
      intro t k
      refine go1 _ ?_
      refine XS.ifYes X0.here hx rfl (pc0 := 1) (pc' := 8) rfl (hb hby d1_1) rfl (XT.i0_ne_t hs2) (by decide) (by decide) ?_
      show Steps p.tables e below (s₁.setTop (mkF m 8 #[.val (.int p0)] [])) t
      refine XS.iloadN X0.here hx rfl (hb hby d1_8) rfl ?_
      show Steps p.tables e below (s₁.setTop (mkF m 9 #[.val (.int p0)] [(.int p0)])) t
      refine XS.iconst X0.here hx rfl (hb hby d1_9) ?_
      show Steps p.tables e below (s₁.setTop (mkF m 10 #[.val (.int p0)] [(.int (1 : Int32)), (.int p0)])) t
      exact k
    by_cases hs7 : p0 = (1 : Int32)
    · have go8 : ∀ t, Steps p.tables e below (s₁.setTop (mkF m 13 #[.val (.int p0)] [])) t → Steps p.tables e below (s₁.setTop (entryFrame m #[(.int p0)] 1)) t := by
        intro t k
        refine go6 _ ?_
        refine XS.icmpNo X0.here hx rfl (hb hby d1_10) rfl (XT.ii_ne_f hs7) ?_
        show Steps p.tables e below (s₁.setTop (mkF m 13 #[.val (.int p0)] [])) t
        exact k
      obtain ⟨T9, X9, e9, st9⟩ := getS2 X0 hx hZ hown (host := "") (Or.inl (hw _ (List.mem_of_getElem? (i := 34) rfl))) Via.refl e0 S_NUM_RET (g := (mkF m 13 #[.val (.int p0)] [])) rfl (hb hby d1_13)
      have go10 : ∀ t, Steps p.tables e below (T9.setTop (mkF m 16 #[.val (.int p0)] [(.ref s_NUM_RET)])) t → Steps p.tables e below (s₁.setTop (entryFrame m #[(.int p0)] 1)) t := fun t k => go8 _ (st9 _ k)
      obtain ⟨fs, hr, hrun, hended, hW, hsame⟩ := X9.leave (v := some (.ref s_NUM_RET)) (fun h => by rw [Bd.returns] at h; cases h)
      refine ⟨_, _, go10 _ (Jvm.RoadKit.retOut X9 hx Bd.returns rfl (Or.inr (Or.inr (Or.inr (Or.inr ⟨rfl, rfl, rfl⟩)))) (hb hby d1_16) hr), hrun, hended, _, _, rfl, ?_, ⟨_, rfl⟩, hW, hsame.mono (by decide) (by decide)⟩
      show Q1 _ _ p0 s_NUM_Q s_NUM_RET s_NUM_REL s_NUM_REL_RET s_MAP s_RPREC s_BPREF s_RECIP_RANK s_P_5 s_P_10 s_P_20 s_RECALL_10 s_RECALL_100 s_NDCG s_NDCG_CUT_10 h0 _ (T9.setFrames fs).heap _
      have hE : (T9.setFrames fs).heap = h0 := e9
      rw [hE]
      exact ⟨by rw [f1, if_neg hs2, if_pos hs7], N0, rfl⟩
    · have go11 : ∀ t, Steps p.tables e below (s₁.setTop (mkF m 19 #[.val (.int p0)] [(.int (2 : Int32)), (.int p0)])) t → Steps p.tables e below (s₁.setTop (entryFrame m #[(.int p0)] 1)) t := by
        intro t k
        refine go6 _ ?_
        refine XS.icmpYes X0.here hx rfl (pc0 := 10) (pc' := 17) rfl (hb hby d1_10) rfl (XT.ii_ne_t hs7) (by decide) (by decide) ?_
        show Steps p.tables e below (s₁.setTop (mkF m 17 #[.val (.int p0)] [])) t
        refine XS.iloadN X0.here hx rfl (hb hby d1_17) rfl ?_
        show Steps p.tables e below (s₁.setTop (mkF m 18 #[.val (.int p0)] [(.int p0)])) t
        refine XS.iconst X0.here hx rfl (hb hby d1_18) ?_
        show Steps p.tables e below (s₁.setTop (mkF m 19 #[.val (.int p0)] [(.int (2 : Int32)), (.int p0)])) t
        exact k
      by_cases hs12 : p0 = (2 : Int32)
      · have go13 : ∀ t, Steps p.tables e below (s₁.setTop (mkF m 22 #[.val (.int p0)] [])) t → Steps p.tables e below (s₁.setTop (entryFrame m #[(.int p0)] 1)) t := by
          intro t k
          refine go11 _ ?_
          refine XS.icmpNo X0.here hx rfl (hb hby d1_19) rfl (XT.ii_ne_f hs12) ?_
          show Steps p.tables e below (s₁.setTop (mkF m 22 #[.val (.int p0)] [])) t
          exact k
        obtain ⟨T14, X14, e14, st14⟩ := getS2 X0 hx hZ hown (host := "") (Or.inl (hw _ (List.mem_of_getElem? (i := 26) rfl))) Via.refl e0 S_NUM_REL (g := (mkF m 22 #[.val (.int p0)] [])) rfl (hb hby d1_22)
        have go15 : ∀ t, Steps p.tables e below (T14.setTop (mkF m 25 #[.val (.int p0)] [(.ref s_NUM_REL)])) t → Steps p.tables e below (s₁.setTop (entryFrame m #[(.int p0)] 1)) t := fun t k => go13 _ (st14 _ k)
        obtain ⟨fs, hr, hrun, hended, hW, hsame⟩ := X14.leave (v := some (.ref s_NUM_REL)) (fun h => by rw [Bd.returns] at h; cases h)
        refine ⟨_, _, go15 _ (Jvm.RoadKit.retOut X14 hx Bd.returns rfl (Or.inr (Or.inr (Or.inr (Or.inr ⟨rfl, rfl, rfl⟩)))) (hb hby d1_25) hr), hrun, hended, _, _, rfl, ?_, ⟨_, rfl⟩, hW, hsame.mono (by decide) (by decide)⟩
        show Q1 _ _ p0 s_NUM_Q s_NUM_RET s_NUM_REL s_NUM_REL_RET s_MAP s_RPREC s_BPREF s_RECIP_RANK s_P_5 s_P_10 s_P_20 s_RECALL_10 s_RECALL_100 s_NDCG s_NDCG_CUT_10 h0 _ (T14.setFrames fs).heap _
        have hE : (T14.setFrames fs).heap = h0 := e14
        rw [hE]
        exact ⟨by rw [f1, if_neg hs2, if_neg hs7, if_pos hs12], N0, rfl⟩
      · have go16 : ∀ t, Steps p.tables e below (s₁.setTop (mkF m 28 #[.val (.int p0)] [(.int (3 : Int32)), (.int p0)])) t → Steps p.tables e below (s₁.setTop (entryFrame m #[(.int p0)] 1)) t := by
          intro t k
          refine go11 _ ?_
          refine XS.icmpYes X0.here hx rfl (pc0 := 19) (pc' := 26) rfl (hb hby d1_19) rfl (XT.ii_ne_t hs12) (by decide) (by decide) ?_
          show Steps p.tables e below (s₁.setTop (mkF m 26 #[.val (.int p0)] [])) t
          refine XS.iloadN X0.here hx rfl (hb hby d1_26) rfl ?_
          show Steps p.tables e below (s₁.setTop (mkF m 27 #[.val (.int p0)] [(.int p0)])) t
          refine XS.iconst X0.here hx rfl (hb hby d1_27) ?_
          show Steps p.tables e below (s₁.setTop (mkF m 28 #[.val (.int p0)] [(.int (3 : Int32)), (.int p0)])) t
          exact k
        by_cases hs17 : p0 = (3 : Int32)
        · have go18 : ∀ t, Steps p.tables e below (s₁.setTop (mkF m 31 #[.val (.int p0)] [])) t → Steps p.tables e below (s₁.setTop (entryFrame m #[(.int p0)] 1)) t := by
            intro t k
            refine go16 _ ?_
            refine XS.icmpNo X0.here hx rfl (hb hby d1_28) rfl (XT.ii_ne_f hs17) ?_
            show Steps p.tables e below (s₁.setTop (mkF m 31 #[.val (.int p0)] [])) t
            exact k
          obtain ⟨T19, X19, e19, st19⟩ := getS2 X0 hx hZ hown (host := "") (Or.inl (hw _ (List.mem_of_getElem? (i := 14) rfl))) Via.refl e0 S_NUM_REL_RET (g := (mkF m 31 #[.val (.int p0)] [])) rfl (hb hby d1_31)
          have go20 : ∀ t, Steps p.tables e below (T19.setTop (mkF m 34 #[.val (.int p0)] [(.ref s_NUM_REL_RET)])) t → Steps p.tables e below (s₁.setTop (entryFrame m #[(.int p0)] 1)) t := fun t k => go18 _ (st19 _ k)
          obtain ⟨fs, hr, hrun, hended, hW, hsame⟩ := X19.leave (v := some (.ref s_NUM_REL_RET)) (fun h => by rw [Bd.returns] at h; cases h)
          refine ⟨_, _, go20 _ (Jvm.RoadKit.retOut X19 hx Bd.returns rfl (Or.inr (Or.inr (Or.inr (Or.inr ⟨rfl, rfl, rfl⟩)))) (hb hby d1_34) hr), hrun, hended, _, _, rfl, ?_, ⟨_, rfl⟩, hW, hsame.mono (by decide) (by decide)⟩
          show Q1 _ _ p0 s_NUM_Q s_NUM_RET s_NUM_REL s_NUM_REL_RET s_MAP s_RPREC s_BPREF s_RECIP_RANK s_P_5 s_P_10 s_P_20 s_RECALL_10 s_RECALL_100 s_NDCG s_NDCG_CUT_10 h0 _ (T19.setFrames fs).heap _
          have hE : (T19.setFrames fs).heap = h0 := e19
          rw [hE]
          exact ⟨by rw [f1, if_neg hs2, if_neg hs7, if_neg hs12, if_pos hs17], N0, rfl⟩
        · have go21 : ∀ t, Steps p.tables e below (s₁.setTop (mkF m 37 #[.val (.int p0)] [(.int (4 : Int32)), (.int p0)])) t → Steps p.tables e below (s₁.setTop (entryFrame m #[(.int p0)] 1)) t := by
            intro t k
            refine go16 _ ?_
            refine XS.icmpYes X0.here hx rfl (pc0 := 28) (pc' := 35) rfl (hb hby d1_28) rfl (XT.ii_ne_t hs17) (by decide) (by decide) ?_
            show Steps p.tables e below (s₁.setTop (mkF m 35 #[.val (.int p0)] [])) t
            refine XS.iloadN X0.here hx rfl (hb hby d1_35) rfl ?_
            show Steps p.tables e below (s₁.setTop (mkF m 36 #[.val (.int p0)] [(.int p0)])) t
            refine XS.iconst X0.here hx rfl (hb hby d1_36) ?_
            show Steps p.tables e below (s₁.setTop (mkF m 37 #[.val (.int p0)] [(.int (4 : Int32)), (.int p0)])) t
            exact k
          by_cases hs22 : p0 = (4 : Int32)
          · have go23 : ∀ t, Steps p.tables e below (s₁.setTop (mkF m 40 #[.val (.int p0)] [])) t → Steps p.tables e below (s₁.setTop (entryFrame m #[(.int p0)] 1)) t := by
              intro t k
              refine go21 _ ?_
              refine XS.icmpNo X0.here hx rfl (hb hby d1_37) rfl (XT.ii_ne_f hs22) ?_
              show Steps p.tables e below (s₁.setTop (mkF m 40 #[.val (.int p0)] [])) t
              exact k
            obtain ⟨T24, X24, e24, st24⟩ := getS2 X0 hx hZ hown (host := "") (Or.inl (hw _ (List.mem_of_getElem? (i := 38) rfl))) Via.refl e0 S_MAP (g := (mkF m 40 #[.val (.int p0)] [])) rfl (hb hby d1_40)
            have go25 : ∀ t, Steps p.tables e below (T24.setTop (mkF m 43 #[.val (.int p0)] [(.ref s_MAP)])) t → Steps p.tables e below (s₁.setTop (entryFrame m #[(.int p0)] 1)) t := fun t k => go23 _ (st24 _ k)
            obtain ⟨fs, hr, hrun, hended, hW, hsame⟩ := X24.leave (v := some (.ref s_MAP)) (fun h => by rw [Bd.returns] at h; cases h)
            refine ⟨_, _, go25 _ (Jvm.RoadKit.retOut X24 hx Bd.returns rfl (Or.inr (Or.inr (Or.inr (Or.inr ⟨rfl, rfl, rfl⟩)))) (hb hby d1_43) hr), hrun, hended, _, _, rfl, ?_, ⟨_, rfl⟩, hW, hsame.mono (by decide) (by decide)⟩
            show Q1 _ _ p0 s_NUM_Q s_NUM_RET s_NUM_REL s_NUM_REL_RET s_MAP s_RPREC s_BPREF s_RECIP_RANK s_P_5 s_P_10 s_P_20 s_RECALL_10 s_RECALL_100 s_NDCG s_NDCG_CUT_10 h0 _ (T24.setFrames fs).heap _
            have hE : (T24.setFrames fs).heap = h0 := e24
            rw [hE]
            exact ⟨by rw [f1, if_neg hs2, if_neg hs7, if_neg hs12, if_neg hs17, if_pos hs22], N0, rfl⟩
          · have go26 : ∀ t, Steps p.tables e below (s₁.setTop (mkF m 46 #[.val (.int p0)] [(.int (5 : Int32)), (.int p0)])) t → Steps p.tables e below (s₁.setTop (entryFrame m #[(.int p0)] 1)) t := by
              intro t k
              refine go21 _ ?_
              refine XS.icmpYes X0.here hx rfl (pc0 := 37) (pc' := 44) rfl (hb hby d1_37) rfl (XT.ii_ne_t hs22) (by decide) (by decide) ?_
              show Steps p.tables e below (s₁.setTop (mkF m 44 #[.val (.int p0)] [])) t
              refine XS.iloadN X0.here hx rfl (hb hby d1_44) rfl ?_
              show Steps p.tables e below (s₁.setTop (mkF m 45 #[.val (.int p0)] [(.int p0)])) t
              refine XS.iconst X0.here hx rfl (hb hby d1_45) ?_
              show Steps p.tables e below (s₁.setTop (mkF m 46 #[.val (.int p0)] [(.int (5 : Int32)), (.int p0)])) t
              exact k
            by_cases hs27 : p0 = (5 : Int32)
            · have go28 : ∀ t, Steps p.tables e below (s₁.setTop (mkF m 49 #[.val (.int p0)] [])) t → Steps p.tables e below (s₁.setTop (entryFrame m #[(.int p0)] 1)) t := by
                intro t k
                refine go26 _ ?_
                refine XS.icmpNo X0.here hx rfl (hb hby d1_46) rfl (XT.ii_ne_f hs27) ?_
                show Steps p.tables e below (s₁.setTop (mkF m 49 #[.val (.int p0)] [])) t
                exact k
              obtain ⟨T29, X29, e29, st29⟩ := getS2 X0 hx hZ hown (host := "") (Or.inl (hw _ (List.mem_of_getElem? (i := 16) rfl))) Via.refl e0 S_RPREC (g := (mkF m 49 #[.val (.int p0)] [])) rfl (hb hby d1_49)
              have go30 : ∀ t, Steps p.tables e below (T29.setTop (mkF m 52 #[.val (.int p0)] [(.ref s_RPREC)])) t → Steps p.tables e below (s₁.setTop (entryFrame m #[(.int p0)] 1)) t := fun t k => go28 _ (st29 _ k)
              obtain ⟨fs, hr, hrun, hended, hW, hsame⟩ := X29.leave (v := some (.ref s_RPREC)) (fun h => by rw [Bd.returns] at h; cases h)
              refine ⟨_, _, go30 _ (Jvm.RoadKit.retOut X29 hx Bd.returns rfl (Or.inr (Or.inr (Or.inr (Or.inr ⟨rfl, rfl, rfl⟩)))) (hb hby d1_52) hr), hrun, hended, _, _, rfl, ?_, ⟨_, rfl⟩, hW, hsame.mono (by decide) (by decide)⟩
              show Q1 _ _ p0 s_NUM_Q s_NUM_RET s_NUM_REL s_NUM_REL_RET s_MAP s_RPREC s_BPREF s_RECIP_RANK s_P_5 s_P_10 s_P_20 s_RECALL_10 s_RECALL_100 s_NDCG s_NDCG_CUT_10 h0 _ (T29.setFrames fs).heap _
              have hE : (T29.setFrames fs).heap = h0 := e29
              rw [hE]
              exact ⟨by rw [f1, if_neg hs2, if_neg hs7, if_neg hs12, if_neg hs17, if_neg hs22, if_pos hs27], N0, rfl⟩
            · have go31 : ∀ t, Steps p.tables e below (s₁.setTop (mkF m 56 #[.val (.int p0)] [(.int (6 : Int32)), (.int p0)])) t → Steps p.tables e below (s₁.setTop (entryFrame m #[(.int p0)] 1)) t := by
                intro t k
                refine go26 _ ?_
                refine XS.icmpYes X0.here hx rfl (pc0 := 46) (pc' := 53) rfl (hb hby d1_46) rfl (XT.ii_ne_t hs27) (by decide) (by decide) ?_
                show Steps p.tables e below (s₁.setTop (mkF m 53 #[.val (.int p0)] [])) t
                refine XS.iloadN X0.here hx rfl (hb hby d1_53) rfl ?_
                show Steps p.tables e below (s₁.setTop (mkF m 54 #[.val (.int p0)] [(.int p0)])) t
                refine XS.bipush X0.here hx rfl (hb hby d1_54) ?_
                show Steps p.tables e below (s₁.setTop (mkF m 56 #[.val (.int p0)] [(.int (6 : Int32)), (.int p0)])) t
                exact k
              by_cases hs32 : p0 = (6 : Int32)
              · have go33 : ∀ t, Steps p.tables e below (s₁.setTop (mkF m 59 #[.val (.int p0)] [])) t → Steps p.tables e below (s₁.setTop (entryFrame m #[(.int p0)] 1)) t := by
                  intro t k
                  refine go31 _ ?_
                  refine XS.icmpNo X0.here hx rfl (hb hby d1_56) rfl (XT.ii_ne_f hs32) ?_
                  show Steps p.tables e below (s₁.setTop (mkF m 59 #[.val (.int p0)] [])) t
                  exact k
                obtain ⟨T34, X34, e34, st34⟩ := getS2 X0 hx hZ hown (host := "") (Or.inl (hw _ (List.mem_of_getElem? (i := 20) rfl))) Via.refl e0 S_BPREF (g := (mkF m 59 #[.val (.int p0)] [])) rfl (hb hby d1_59)
                have go35 : ∀ t, Steps p.tables e below (T34.setTop (mkF m 62 #[.val (.int p0)] [(.ref s_BPREF)])) t → Steps p.tables e below (s₁.setTop (entryFrame m #[(.int p0)] 1)) t := fun t k => go33 _ (st34 _ k)
                obtain ⟨fs, hr, hrun, hended, hW, hsame⟩ := X34.leave (v := some (.ref s_BPREF)) (fun h => by rw [Bd.returns] at h; cases h)
                refine ⟨_, _, go35 _ (Jvm.RoadKit.retOut X34 hx Bd.returns rfl (Or.inr (Or.inr (Or.inr (Or.inr ⟨rfl, rfl, rfl⟩)))) (hb hby d1_62) hr), hrun, hended, _, _, rfl, ?_, ⟨_, rfl⟩, hW, hsame.mono (by decide) (by decide)⟩
                show Q1 _ _ p0 s_NUM_Q s_NUM_RET s_NUM_REL s_NUM_REL_RET s_MAP s_RPREC s_BPREF s_RECIP_RANK s_P_5 s_P_10 s_P_20 s_RECALL_10 s_RECALL_100 s_NDCG s_NDCG_CUT_10 h0 _ (T34.setFrames fs).heap _
                have hE : (T34.setFrames fs).heap = h0 := e34
                rw [hE]
                exact ⟨by rw [f1, if_neg hs2, if_neg hs7, if_neg hs12, if_neg hs17, if_neg hs22, if_neg hs27, if_pos hs32], N0, rfl⟩
              · have go36 : ∀ t, Steps p.tables e below (s₁.setTop (mkF m 66 #[.val (.int p0)] [(.int (7 : Int32)), (.int p0)])) t → Steps p.tables e below (s₁.setTop (entryFrame m #[(.int p0)] 1)) t := by
                  intro t k
                  refine go31 _ ?_
                  refine XS.icmpYes X0.here hx rfl (pc0 := 56) (pc' := 63) rfl (hb hby d1_56) rfl (XT.ii_ne_t hs32) (by decide) (by decide) ?_
                  show Steps p.tables e below (s₁.setTop (mkF m 63 #[.val (.int p0)] [])) t
                  refine XS.iloadN X0.here hx rfl (hb hby d1_63) rfl ?_
                  show Steps p.tables e below (s₁.setTop (mkF m 64 #[.val (.int p0)] [(.int p0)])) t
                  refine XS.bipush X0.here hx rfl (hb hby d1_64) ?_
                  show Steps p.tables e below (s₁.setTop (mkF m 66 #[.val (.int p0)] [(.int (7 : Int32)), (.int p0)])) t
                  exact k
                by_cases hs37 : p0 = (7 : Int32)
                · have go38 : ∀ t, Steps p.tables e below (s₁.setTop (mkF m 69 #[.val (.int p0)] [])) t → Steps p.tables e below (s₁.setTop (entryFrame m #[(.int p0)] 1)) t := by
                    intro t k
                    refine go36 _ ?_
                    refine XS.icmpNo X0.here hx rfl (hb hby d1_66) rfl (XT.ii_ne_f hs37) ?_
                    show Steps p.tables e below (s₁.setTop (mkF m 69 #[.val (.int p0)] [])) t
                    exact k
                  obtain ⟨T39, X39, e39, st39⟩ := getS2 X0 hx hZ hown (host := "") (Or.inl (hw _ (List.mem_of_getElem? (i := 24) rfl))) Via.refl e0 S_RECIP_RANK (g := (mkF m 69 #[.val (.int p0)] [])) rfl (hb hby d1_69)
                  have go40 : ∀ t, Steps p.tables e below (T39.setTop (mkF m 72 #[.val (.int p0)] [(.ref s_RECIP_RANK)])) t → Steps p.tables e below (s₁.setTop (entryFrame m #[(.int p0)] 1)) t := fun t k => go38 _ (st39 _ k)
                  obtain ⟨fs, hr, hrun, hended, hW, hsame⟩ := X39.leave (v := some (.ref s_RECIP_RANK)) (fun h => by rw [Bd.returns] at h; cases h)
                  refine ⟨_, _, go40 _ (Jvm.RoadKit.retOut X39 hx Bd.returns rfl (Or.inr (Or.inr (Or.inr (Or.inr ⟨rfl, rfl, rfl⟩)))) (hb hby d1_72) hr), hrun, hended, _, _, rfl, ?_, ⟨_, rfl⟩, hW, hsame.mono (by decide) (by decide)⟩
                  show Q1 _ _ p0 s_NUM_Q s_NUM_RET s_NUM_REL s_NUM_REL_RET s_MAP s_RPREC s_BPREF s_RECIP_RANK s_P_5 s_P_10 s_P_20 s_RECALL_10 s_RECALL_100 s_NDCG s_NDCG_CUT_10 h0 _ (T39.setFrames fs).heap _
                  have hE : (T39.setFrames fs).heap = h0 := e39
                  rw [hE]
                  exact ⟨by rw [f1, if_neg hs2, if_neg hs7, if_neg hs12, if_neg hs17, if_neg hs22, if_neg hs27, if_neg hs32, if_pos hs37], N0, rfl⟩
                · have go41 : ∀ t, Steps p.tables e below (s₁.setTop (mkF m 76 #[.val (.int p0)] [(.int (8 : Int32)), (.int p0)])) t → Steps p.tables e below (s₁.setTop (entryFrame m #[(.int p0)] 1)) t := by
                    intro t k
                    refine go36 _ ?_
                    refine XS.icmpYes X0.here hx rfl (pc0 := 66) (pc' := 73) rfl (hb hby d1_66) rfl (XT.ii_ne_t hs37) (by decide) (by decide) ?_
                    show Steps p.tables e below (s₁.setTop (mkF m 73 #[.val (.int p0)] [])) t
                    refine XS.iloadN X0.here hx rfl (hb hby d1_73) rfl ?_
                    show Steps p.tables e below (s₁.setTop (mkF m 74 #[.val (.int p0)] [(.int p0)])) t
                    refine XS.bipush X0.here hx rfl (hb hby d1_74) ?_
                    show Steps p.tables e below (s₁.setTop (mkF m 76 #[.val (.int p0)] [(.int (8 : Int32)), (.int p0)])) t
                    exact k
                  by_cases hs42 : p0 = (8 : Int32)
                  · have go43 : ∀ t, Steps p.tables e below (s₁.setTop (mkF m 79 #[.val (.int p0)] [])) t → Steps p.tables e below (s₁.setTop (entryFrame m #[(.int p0)] 1)) t := by
                      intro t k
                      refine go41 _ ?_
                      refine XS.icmpNo X0.here hx rfl (hb hby d1_76) rfl (XT.ii_ne_f hs42) ?_
                      show Steps p.tables e below (s₁.setTop (mkF m 79 #[.val (.int p0)] [])) t
                      exact k
                    obtain ⟨T44, X44, e44, st44⟩ := getS2 X0 hx hZ hown (host := "") (Or.inl (hw _ (List.mem_of_getElem? (i := 32) rfl))) Via.refl e0 S_P_5 (g := (mkF m 79 #[.val (.int p0)] [])) rfl (hb hby d1_79)
                    have go45 : ∀ t, Steps p.tables e below (T44.setTop (mkF m 82 #[.val (.int p0)] [(.ref s_P_5)])) t → Steps p.tables e below (s₁.setTop (entryFrame m #[(.int p0)] 1)) t := fun t k => go43 _ (st44 _ k)
                    obtain ⟨fs, hr, hrun, hended, hW, hsame⟩ := X44.leave (v := some (.ref s_P_5)) (fun h => by rw [Bd.returns] at h; cases h)
                    refine ⟨_, _, go45 _ (Jvm.RoadKit.retOut X44 hx Bd.returns rfl (Or.inr (Or.inr (Or.inr (Or.inr ⟨rfl, rfl, rfl⟩)))) (hb hby d1_82) hr), hrun, hended, _, _, rfl, ?_, ⟨_, rfl⟩, hW, hsame.mono (by decide) (by decide)⟩
                    show Q1 _ _ p0 s_NUM_Q s_NUM_RET s_NUM_REL s_NUM_REL_RET s_MAP s_RPREC s_BPREF s_RECIP_RANK s_P_5 s_P_10 s_P_20 s_RECALL_10 s_RECALL_100 s_NDCG s_NDCG_CUT_10 h0 _ (T44.setFrames fs).heap _
                    have hE : (T44.setFrames fs).heap = h0 := e44
                    rw [hE]
                    exact ⟨by rw [f1, if_neg hs2, if_neg hs7, if_neg hs12, if_neg hs17, if_neg hs22, if_neg hs27, if_neg hs32, if_neg hs37, if_pos hs42], N0, rfl⟩
                  · have go46 : ∀ t, Steps p.tables e below (s₁.setTop (mkF m 86 #[.val (.int p0)] [(.int (9 : Int32)), (.int p0)])) t → Steps p.tables e below (s₁.setTop (entryFrame m #[(.int p0)] 1)) t := by
                      intro t k
                      refine go41 _ ?_
                      refine XS.icmpYes X0.here hx rfl (pc0 := 76) (pc' := 83) rfl (hb hby d1_76) rfl (XT.ii_ne_t hs42) (by decide) (by decide) ?_
                      show Steps p.tables e below (s₁.setTop (mkF m 83 #[.val (.int p0)] [])) t
                      refine XS.iloadN X0.here hx rfl (hb hby d1_83) rfl ?_
                      show Steps p.tables e below (s₁.setTop (mkF m 84 #[.val (.int p0)] [(.int p0)])) t
                      refine XS.bipush X0.here hx rfl (hb hby d1_84) ?_
                      show Steps p.tables e below (s₁.setTop (mkF m 86 #[.val (.int p0)] [(.int (9 : Int32)), (.int p0)])) t
                      exact k
                    by_cases hs47 : p0 = (9 : Int32)
                    · have go48 : ∀ t, Steps p.tables e below (s₁.setTop (mkF m 89 #[.val (.int p0)] [])) t → Steps p.tables e below (s₁.setTop (entryFrame m #[(.int p0)] 1)) t := by
                        intro t k
                        refine go46 _ ?_
                        refine XS.icmpNo X0.here hx rfl (hb hby d1_86) rfl (XT.ii_ne_f hs47) ?_
                        show Steps p.tables e below (s₁.setTop (mkF m 89 #[.val (.int p0)] [])) t
                        exact k
                      obtain ⟨T49, X49, e49, st49⟩ := getS2 X0 hx hZ hown (host := "") (Or.inl (hw _ (List.mem_of_getElem? (i := 40) rfl))) Via.refl e0 S_P_10 (g := (mkF m 89 #[.val (.int p0)] [])) rfl (hb hby d1_89)
                      have go50 : ∀ t, Steps p.tables e below (T49.setTop (mkF m 92 #[.val (.int p0)] [(.ref s_P_10)])) t → Steps p.tables e below (s₁.setTop (entryFrame m #[(.int p0)] 1)) t := fun t k => go48 _ (st49 _ k)
                      obtain ⟨fs, hr, hrun, hended, hW, hsame⟩ := X49.leave (v := some (.ref s_P_10)) (fun h => by rw [Bd.returns] at h; cases h)
                      refine ⟨_, _, go50 _ (Jvm.RoadKit.retOut X49 hx Bd.returns rfl (Or.inr (Or.inr (Or.inr (Or.inr ⟨rfl, rfl, rfl⟩)))) (hb hby d1_92) hr), hrun, hended, _, _, rfl, ?_, ⟨_, rfl⟩, hW, hsame.mono (by decide) (by decide)⟩
                      show Q1 _ _ p0 s_NUM_Q s_NUM_RET s_NUM_REL s_NUM_REL_RET s_MAP s_RPREC s_BPREF s_RECIP_RANK s_P_5 s_P_10 s_P_20 s_RECALL_10 s_RECALL_100 s_NDCG s_NDCG_CUT_10 h0 _ (T49.setFrames fs).heap _
                      have hE : (T49.setFrames fs).heap = h0 := e49
                      rw [hE]
                      exact ⟨by rw [f1, if_neg hs2, if_neg hs7, if_neg hs12, if_neg hs17, if_neg hs22, if_neg hs27, if_neg hs32, if_neg hs37, if_neg hs42, if_pos hs47], N0, rfl⟩
                    · have go51 : ∀ t, Steps p.tables e below (s₁.setTop (mkF m 96 #[.val (.int p0)] [(.int (10 : Int32)), (.int p0)])) t → Steps p.tables e below (s₁.setTop (entryFrame m #[(.int p0)] 1)) t := by
                        intro t k
                        refine go46 _ ?_
                        refine XS.icmpYes X0.here hx rfl (pc0 := 86) (pc' := 93) rfl (hb hby d1_86) rfl (XT.ii_ne_t hs47) (by decide) (by decide) ?_
                        show Steps p.tables e below (s₁.setTop (mkF m 93 #[.val (.int p0)] [])) t
                        refine XS.iloadN X0.here hx rfl (hb hby d1_93) rfl ?_
                        show Steps p.tables e below (s₁.setTop (mkF m 94 #[.val (.int p0)] [(.int p0)])) t
                        refine XS.bipush X0.here hx rfl (hb hby d1_94) ?_
                        show Steps p.tables e below (s₁.setTop (mkF m 96 #[.val (.int p0)] [(.int (10 : Int32)), (.int p0)])) t
                        exact k
                      by_cases hs52 : p0 = (10 : Int32)
                      · have go53 : ∀ t, Steps p.tables e below (s₁.setTop (mkF m 99 #[.val (.int p0)] [])) t → Steps p.tables e below (s₁.setTop (entryFrame m #[(.int p0)] 1)) t := by
                          intro t k
                          refine go51 _ ?_
                          refine XS.icmpNo X0.here hx rfl (hb hby d1_96) rfl (XT.ii_ne_f hs52) ?_
                          show Steps p.tables e below (s₁.setTop (mkF m 99 #[.val (.int p0)] [])) t
                          exact k
                        obtain ⟨T54, X54, e54, st54⟩ := getS2 X0 hx hZ hown (host := "") (Or.inl (hw _ (List.mem_of_getElem? (i := 30) rfl))) Via.refl e0 S_P_20 (g := (mkF m 99 #[.val (.int p0)] [])) rfl (hb hby d1_99)
                        have go55 : ∀ t, Steps p.tables e below (T54.setTop (mkF m 102 #[.val (.int p0)] [(.ref s_P_20)])) t → Steps p.tables e below (s₁.setTop (entryFrame m #[(.int p0)] 1)) t := fun t k => go53 _ (st54 _ k)
                        obtain ⟨fs, hr, hrun, hended, hW, hsame⟩ := X54.leave (v := some (.ref s_P_20)) (fun h => by rw [Bd.returns] at h; cases h)
                        refine ⟨_, _, go55 _ (Jvm.RoadKit.retOut X54 hx Bd.returns rfl (Or.inr (Or.inr (Or.inr (Or.inr ⟨rfl, rfl, rfl⟩)))) (hb hby d1_102) hr), hrun, hended, _, _, rfl, ?_, ⟨_, rfl⟩, hW, hsame.mono (by decide) (by decide)⟩
                        show Q1 _ _ p0 s_NUM_Q s_NUM_RET s_NUM_REL s_NUM_REL_RET s_MAP s_RPREC s_BPREF s_RECIP_RANK s_P_5 s_P_10 s_P_20 s_RECALL_10 s_RECALL_100 s_NDCG s_NDCG_CUT_10 h0 _ (T54.setFrames fs).heap _
                        have hE : (T54.setFrames fs).heap = h0 := e54
                        rw [hE]
                        exact ⟨by rw [f1, if_neg hs2, if_neg hs7, if_neg hs12, if_neg hs17, if_neg hs22, if_neg hs27, if_neg hs32, if_neg hs37, if_neg hs42, if_neg hs47, if_pos hs52], N0, rfl⟩
                      · have go56 : ∀ t, Steps p.tables e below (s₁.setTop (mkF m 106 #[.val (.int p0)] [(.int (11 : Int32)), (.int p0)])) t → Steps p.tables e below (s₁.setTop (entryFrame m #[(.int p0)] 1)) t := by
                          intro t k
                          refine go51 _ ?_
                          refine XS.icmpYes X0.here hx rfl (pc0 := 96) (pc' := 103) rfl (hb hby d1_96) rfl (XT.ii_ne_t hs52) (by decide) (by decide) ?_
                          show Steps p.tables e below (s₁.setTop (mkF m 103 #[.val (.int p0)] [])) t
                          refine XS.iloadN X0.here hx rfl (hb hby d1_103) rfl ?_
                          show Steps p.tables e below (s₁.setTop (mkF m 104 #[.val (.int p0)] [(.int p0)])) t
                          refine XS.bipush X0.here hx rfl (hb hby d1_104) ?_
                          show Steps p.tables e below (s₁.setTop (mkF m 106 #[.val (.int p0)] [(.int (11 : Int32)), (.int p0)])) t
                          exact k
                        by_cases hs57 : p0 = (11 : Int32)
                        · have go58 : ∀ t, Steps p.tables e below (s₁.setTop (mkF m 109 #[.val (.int p0)] [])) t → Steps p.tables e below (s₁.setTop (entryFrame m #[(.int p0)] 1)) t := by
                            intro t k
                            refine go56 _ ?_
                            refine XS.icmpNo X0.here hx rfl (hb hby d1_106) rfl (XT.ii_ne_f hs57) ?_
                            show Steps p.tables e below (s₁.setTop (mkF m 109 #[.val (.int p0)] [])) t
                            exact k
                          obtain ⟨T59, X59, e59, st59⟩ := getS2 X0 hx hZ hown (host := "") (Or.inl (hw _ (List.mem_of_getElem? (i := 28) rfl))) Via.refl e0 S_RECALL_10 (g := (mkF m 109 #[.val (.int p0)] [])) rfl (hb hby d1_109)
                          have go60 : ∀ t, Steps p.tables e below (T59.setTop (mkF m 112 #[.val (.int p0)] [(.ref s_RECALL_10)])) t → Steps p.tables e below (s₁.setTop (entryFrame m #[(.int p0)] 1)) t := fun t k => go58 _ (st59 _ k)
                          obtain ⟨fs, hr, hrun, hended, hW, hsame⟩ := X59.leave (v := some (.ref s_RECALL_10)) (fun h => by rw [Bd.returns] at h; cases h)
                          refine ⟨_, _, go60 _ (Jvm.RoadKit.retOut X59 hx Bd.returns rfl (Or.inr (Or.inr (Or.inr (Or.inr ⟨rfl, rfl, rfl⟩)))) (hb hby d1_112) hr), hrun, hended, _, _, rfl, ?_, ⟨_, rfl⟩, hW, hsame.mono (by decide) (by decide)⟩
                          show Q1 _ _ p0 s_NUM_Q s_NUM_RET s_NUM_REL s_NUM_REL_RET s_MAP s_RPREC s_BPREF s_RECIP_RANK s_P_5 s_P_10 s_P_20 s_RECALL_10 s_RECALL_100 s_NDCG s_NDCG_CUT_10 h0 _ (T59.setFrames fs).heap _
                          have hE : (T59.setFrames fs).heap = h0 := e59
                          rw [hE]
                          exact ⟨by rw [f1, if_neg hs2, if_neg hs7, if_neg hs12, if_neg hs17, if_neg hs22, if_neg hs27, if_neg hs32, if_neg hs37, if_neg hs42, if_neg hs47, if_neg hs52, if_pos hs57], N0, rfl⟩
                        · have go61 : ∀ t, Steps p.tables e below (s₁.setTop (mkF m 116 #[.val (.int p0)] [(.int (12 : Int32)), (.int p0)])) t → Steps p.tables e below (s₁.setTop (entryFrame m #[(.int p0)] 1)) t := by
                            intro t k
                            refine go56 _ ?_
                            refine XS.icmpYes X0.here hx rfl (pc0 := 106) (pc' := 113) rfl (hb hby d1_106) rfl (XT.ii_ne_t hs57) (by decide) (by decide) ?_
                            show Steps p.tables e below (s₁.setTop (mkF m 113 #[.val (.int p0)] [])) t
                            refine XS.iloadN X0.here hx rfl (hb hby d1_113) rfl ?_
                            show Steps p.tables e below (s₁.setTop (mkF m 114 #[.val (.int p0)] [(.int p0)])) t
                            refine XS.bipush X0.here hx rfl (hb hby d1_114) ?_
                            show Steps p.tables e below (s₁.setTop (mkF m 116 #[.val (.int p0)] [(.int (12 : Int32)), (.int p0)])) t
                            exact k
                          by_cases hs62 : p0 = (12 : Int32)
                          · have go63 : ∀ t, Steps p.tables e below (s₁.setTop (mkF m 119 #[.val (.int p0)] [])) t → Steps p.tables e below (s₁.setTop (entryFrame m #[(.int p0)] 1)) t := by
                              intro t k
                              refine go61 _ ?_
                              refine XS.icmpNo X0.here hx rfl (hb hby d1_116) rfl (XT.ii_ne_f hs62) ?_
                              show Steps p.tables e below (s₁.setTop (mkF m 119 #[.val (.int p0)] [])) t
                              exact k
                            obtain ⟨T64, X64, e64, st64⟩ := getS2 X0 hx hZ hown (host := "") (Or.inl (hw _ (List.mem_of_getElem? (i := 36) rfl))) Via.refl e0 S_RECALL_100 (g := (mkF m 119 #[.val (.int p0)] [])) rfl (hb hby d1_119)
                            have go65 : ∀ t, Steps p.tables e below (T64.setTop (mkF m 122 #[.val (.int p0)] [(.ref s_RECALL_100)])) t → Steps p.tables e below (s₁.setTop (entryFrame m #[(.int p0)] 1)) t := fun t k => go63 _ (st64 _ k)
                            obtain ⟨fs, hr, hrun, hended, hW, hsame⟩ := X64.leave (v := some (.ref s_RECALL_100)) (fun h => by rw [Bd.returns] at h; cases h)
                            refine ⟨_, _, go65 _ (Jvm.RoadKit.retOut X64 hx Bd.returns rfl (Or.inr (Or.inr (Or.inr (Or.inr ⟨rfl, rfl, rfl⟩)))) (hb hby d1_122) hr), hrun, hended, _, _, rfl, ?_, ⟨_, rfl⟩, hW, hsame.mono (by decide) (by decide)⟩
                            show Q1 _ _ p0 s_NUM_Q s_NUM_RET s_NUM_REL s_NUM_REL_RET s_MAP s_RPREC s_BPREF s_RECIP_RANK s_P_5 s_P_10 s_P_20 s_RECALL_10 s_RECALL_100 s_NDCG s_NDCG_CUT_10 h0 _ (T64.setFrames fs).heap _
                            have hE : (T64.setFrames fs).heap = h0 := e64
                            rw [hE]
                            exact ⟨by rw [f1, if_neg hs2, if_neg hs7, if_neg hs12, if_neg hs17, if_neg hs22, if_neg hs27, if_neg hs32, if_neg hs37, if_neg hs42, if_neg hs47, if_neg hs52, if_neg hs57, if_pos hs62], N0, rfl⟩
                          · have go66 : ∀ t, Steps p.tables e below (s₁.setTop (mkF m 126 #[.val (.int p0)] [(.int (13 : Int32)), (.int p0)])) t → Steps p.tables e below (s₁.setTop (entryFrame m #[(.int p0)] 1)) t := by
                              intro t k
                              refine go61 _ ?_
                              refine XS.icmpYes X0.here hx rfl (pc0 := 116) (pc' := 123) rfl (hb hby d1_116) rfl (XT.ii_ne_t hs62) (by decide) (by decide) ?_
                              show Steps p.tables e below (s₁.setTop (mkF m 123 #[.val (.int p0)] [])) t
                              refine XS.iloadN X0.here hx rfl (hb hby d1_123) rfl ?_
                              show Steps p.tables e below (s₁.setTop (mkF m 124 #[.val (.int p0)] [(.int p0)])) t
                              refine XS.bipush X0.here hx rfl (hb hby d1_124) ?_
                              show Steps p.tables e below (s₁.setTop (mkF m 126 #[.val (.int p0)] [(.int (13 : Int32)), (.int p0)])) t
                              exact k
                            by_cases hs67 : p0 = (13 : Int32)
                            · have go68 : ∀ t, Steps p.tables e below (s₁.setTop (mkF m 129 #[.val (.int p0)] [])) t → Steps p.tables e below (s₁.setTop (entryFrame m #[(.int p0)] 1)) t := by
                                intro t k
                                refine go66 _ ?_
                                refine XS.icmpNo X0.here hx rfl (hb hby d1_126) rfl (XT.ii_ne_f hs67) ?_
                                show Steps p.tables e below (s₁.setTop (mkF m 129 #[.val (.int p0)] [])) t
                                exact k
                              obtain ⟨T69, X69, e69, st69⟩ := getS2 X0 hx hZ hown (host := "") (Or.inl (hw _ (List.mem_of_getElem? (i := 18) rfl))) Via.refl e0 S_NDCG (g := (mkF m 129 #[.val (.int p0)] [])) rfl (hb hby d1_129)
                              have go70 : ∀ t, Steps p.tables e below (T69.setTop (mkF m 132 #[.val (.int p0)] [(.ref s_NDCG)])) t → Steps p.tables e below (s₁.setTop (entryFrame m #[(.int p0)] 1)) t := fun t k => go68 _ (st69 _ k)
                              obtain ⟨fs, hr, hrun, hended, hW, hsame⟩ := X69.leave (v := some (.ref s_NDCG)) (fun h => by rw [Bd.returns] at h; cases h)
                              refine ⟨_, _, go70 _ (Jvm.RoadKit.retOut X69 hx Bd.returns rfl (Or.inr (Or.inr (Or.inr (Or.inr ⟨rfl, rfl, rfl⟩)))) (hb hby d1_132) hr), hrun, hended, _, _, rfl, ?_, ⟨_, rfl⟩, hW, hsame.mono (by decide) (by decide)⟩
                              show Q1 _ _ p0 s_NUM_Q s_NUM_RET s_NUM_REL s_NUM_REL_RET s_MAP s_RPREC s_BPREF s_RECIP_RANK s_P_5 s_P_10 s_P_20 s_RECALL_10 s_RECALL_100 s_NDCG s_NDCG_CUT_10 h0 _ (T69.setFrames fs).heap _
                              have hE : (T69.setFrames fs).heap = h0 := e69
                              rw [hE]
                              exact ⟨by rw [f1, if_neg hs2, if_neg hs7, if_neg hs12, if_neg hs17, if_neg hs22, if_neg hs27, if_neg hs32, if_neg hs37, if_neg hs42, if_neg hs47, if_neg hs52, if_neg hs57, if_neg hs62, if_pos hs67], N0, rfl⟩
                            · have go71 : ∀ t, Steps p.tables e below (s₁.setTop (mkF m 133 #[.val (.int p0)] [])) t → Steps p.tables e below (s₁.setTop (entryFrame m #[(.int p0)] 1)) t := by
                                intro t k
                                refine go66 _ ?_
                                refine XS.icmpYes X0.here hx rfl (pc0 := 126) (pc' := 133) rfl (hb hby d1_126) rfl (XT.ii_ne_t hs67) (by decide) (by decide) ?_
                                show Steps p.tables e below (s₁.setTop (mkF m 133 #[.val (.int p0)] [])) t
                                exact k
                              obtain ⟨T72, X72, e72, st72⟩ := getS2 X0 hx hZ hown (host := "") (Or.inl (hw _ (List.mem_of_getElem? (i := 22) rfl))) Via.refl e0 S_NDCG_CUT_10 (g := (mkF m 133 #[.val (.int p0)] [])) rfl (hb hby d1_133)
                              have go73 : ∀ t, Steps p.tables e below (T72.setTop (mkF m 136 #[.val (.int p0)] [(.ref s_NDCG_CUT_10)])) t → Steps p.tables e below (s₁.setTop (entryFrame m #[(.int p0)] 1)) t := fun t k => go71 _ (st72 _ k)
                              obtain ⟨fs, hr, hrun, hended, hW, hsame⟩ := X72.leave (v := some (.ref s_NDCG_CUT_10)) (fun h => by rw [Bd.returns] at h; cases h)
                              refine ⟨_, _, go73 _ (Jvm.RoadKit.retOut X72 hx Bd.returns rfl (Or.inr (Or.inr (Or.inr (Or.inr ⟨rfl, rfl, rfl⟩)))) (hb hby d1_136) hr), hrun, hended, _, _, rfl, ?_, ⟨_, rfl⟩, hW, hsame.mono (by decide) (by decide)⟩
                              show Q1 _ _ p0 s_NUM_Q s_NUM_RET s_NUM_REL s_NUM_REL_RET s_MAP s_RPREC s_BPREF s_RECIP_RANK s_P_5 s_P_10 s_P_20 s_RECALL_10 s_RECALL_100 s_NDCG s_NDCG_CUT_10 h0 _ (T72.setFrames fs).heap _
                              have hE : (T72.setFrames fs).heap = h0 := e72
                              rw [hE]
                              exact ⟨by rw [f1, if_neg hs2, if_neg hs7, if_neg hs12, if_neg hs17, if_neg hs22, if_neg hs27, if_neg hs32, if_neg hs37, if_neg hs42, if_neg hs47, if_neg hs52, if_neg hs57, if_neg hs62, if_neg hs67], N0, rfl⟩
theorem d2_0 : decode prog_10_method_6_code 0 = .ok (.aload_n 0, 1) := by decide +kernel
theorem d2_1 : decode prog_10_method_6_code 1 = .ok (.getstatic 3, 3) := by decide +kernel
theorem d2_4 : decode prog_10_method_6_code 4 = .ok (.if_acmp .eq 7, 3) := by decide +kernel
theorem d2_11 : decode prog_10_method_6_code 11 = .ok (.iconst 0, 1) := by decide +kernel
theorem d2_7 : decode prog_10_method_6_code 7 = .ok (.iconst 1, 1) := by decide +kernel
theorem d2_8 : decode prog_10_method_6_code 8 = .ok (.goto 4, 3) := by decide +kernel
theorem d2_12 : decode prog_10_method_6_code 12 = .ok (.ireturn, 1) := by decide +kernel
theorem pn_80 : plainName "com/example/mirk/mirk/eval/Measure" = true := by first | (simp [plainName, overriddenIn]; done) | decide +kernel
def b2_6 (a0 : Addr) (s_NUM_Q : Addr) : Int32 := (if a0 = s_NUM_Q then (0 : Int32) else (1 : Int32))
def f2 (a0 : Addr) (s_NUM_Q : Addr) : Int32 := (b2_6 a0 s_NUM_Q)
def Q2 (Z : State) (n0 : Nat) (a0 : Addr) (s_NUM_Q : Addr) (h0 : Heap) (v : Option Value) (h : Heap) (L : List Loc) : Prop := v = some (.int (f2 a0 s_NUM_Q)) ∧ Fr n0 L ∧ h = h0
theorem ef2 (m : MethodId) (a0 : Addr) : entryFrame m #[(.ref a0)] 1 = mkF m 0 #[.val (.ref a0)] [] := by first | (simp [entryFrame, mkF, argsToLocals, Value.category]; done) | rfl
set_option maxRecDepth 65536 in
set_option maxHeartbeats 40000000 in
theorem rm2 (l : Launch) (Z : State) (aZ : Array Value) (hw : ∀ d ∈ tables_1, d.before aZ Z = true) (ws : List Jvm.Cond) (a0 : Addr) (s_NUM_Q : Addr) (h0 : Heap) (n0 : Nat) (Z0 : n0 ≤ h0.size) (S_NUM_Q : Sta Z h0 "com/example/mirk/mirk/eval/Measure" "NUM_Q" "Lcom/example/mirk/mirk/eval/Measure;" (.ref s_NUM_Q)) :
    MetFree l (⟨"com/example/mirk/mirk/eval/Measure", "perQuery", "()Z"⟩ : MethodName) (head1 (Jvm.Cond.code (⟨"com/example/mirk/mirk/eval/Measure", "perQuery", "()Z"⟩ : MethodName) prog_10_method_6_code 1 (some .boolean) :: ws) ({ frames := 0, cells := 0, slots := 0, locals := 0 } : Room)) (fun a U => a = #[(.ref a0)] ∧ Z.Warmed39 U.vm ∧ U.heap = h0) (fun _ _ _ _ _ => True) (fun _ U o U' => ∃ v L, o = .returned v ∧ Q2 Z n0 a0 s_NUM_Q h0 v U'.heap L ∧ FrameEnd U o U' L ({ frames := 0, cells := 0, slots := 0, locals := 0 } : Room).cells ({ frames := 0, cells := 0, slots := 0, locals := 0 } : Room).slots) := by
  refine MetFree.of_bodySF (plainFor_of_name pn_80) hisR ?_
  intro p e s m args below meth c s₁ Bd hml0 hP hK
  obtain ⟨rfl, hZ, hh⟩ := hP
  have hx := Bd.exec
  have hby := Bd.bytes
  have hml : c.maxLocals = 1 := hml0
  have hown : s.vm.findClass "com/example/mirk/mirk/eval/Measure" = some m.cls := findClass_of_methodNamed Bd.named
  have hnm := (name_of_methodNamed Bd.named Bd.method).1
  have X0 : Stand p l e ({ frames := 0, cells := 0, slots := 0, locals := 0 } : Room) s m #[(.ref a0)] below meth c s₁ [] 0 0 := Stand.of_body Bd
  have e0 : s₁.heap = h0 := by rw [← hh, Bd.state]; rfl
  have N0 := Fr.nil n0
  have K0 : Keep h0 h0 [] := Keep.refl _ _
  have go0 : ∀ t, Steps p.tables e below (s₁.setTop (mkF m 0 #[.val (.ref a0)] [])) t → Steps p.tables e below (s₁.setTop (entryFrame m #[(.ref a0)] 1)) t := fun t k => castTop (ef2 m a0) k
  have go1 : ∀ t, Steps p.tables e below (s₁.setTop (mkF m 1 #[.val (.ref a0)] [(.ref a0)])) t → Steps p.tables e below (s₁.setTop (entryFrame m #[(.ref a0)] 1)) t := by
    intro t k
    refine go0 _ ?_
    refine XS.aloadN X0.here hx rfl (hb hby d2_0) rfl rfl ?_
    show Steps p.tables e below (s₁.setTop (mkF m 1 #[.val (.ref a0)] [(.ref a0)])) t
    exact k
  obtain ⟨T2, X2, e2, st2⟩ := getS2 X0 hx hZ hown (host := "") (Or.inl (hw _ (List.mem_of_getElem? (i := 13) rfl))) Via.refl e0 S_NUM_Q (g := (mkF m 1 #[.val (.ref a0)] [(.ref a0)])) rfl (hb hby d2_1)
  have go3 : ∀ t, Steps p.tables e below (T2.setTop (mkF m 4 #[.val (.ref a0)] [(.ref s_NUM_Q), (.ref a0)])) t → Steps p.tables e below (s₁.setTop (entryFrame m #[(.ref a0)] 1)) t := fun t k => go1 _ (st2 _ k)
  have go5 : ∀ t, Steps p.tables e below (T2.setTop (mkF m 12 #[.val (.ref a0)] [(.int (b2_6 a0 s_NUM_Q))])) t → Steps p.tables e below (s₁.setTop (entryFrame m #[(.ref a0)] 1)) t := by
    intro t k
    refine go3 _ ?_
    by_cases hc4 : a0 = s_NUM_Q
    · refine Jvm.RoadKit.acmp (g := (mkF m 4 #[.val (.ref a0)] [(.ref s_NUM_Q), (.ref a0)])) X2 hx rfl rfl rfl (pc0 := 4) (pc' := 11) (same := true) rfl (hb hby d2_4) rfl (decide_eq_true (congrArg Value.ref hc4)) (by decide) (by decide) ?_
      show Steps p.tables e below (T2.setTop (mkF m 11 #[.val (.ref a0)] [])) t
      refine XS.iconst X2.here hx rfl (hb hby d2_11) ?_
      show Steps p.tables e below (T2.setTop (mkF m 12 #[.val (.ref a0)] [(.int (0 : Int32))])) t
      have hq7 : (b2_6 a0 s_NUM_Q) = (0 : Int32) := by rw [b2_6, if_pos hc4]
      rw [hq7] at k
      exact k
    · refine Jvm.RoadKit.acmp (g := (mkF m 4 #[.val (.ref a0)] [(.ref s_NUM_Q), (.ref a0)])) X2 hx rfl rfl rfl (pc0 := 4) (pc' := 7) (same := false) rfl (hb hby d2_4) rfl (decide_eq_false fun q => hc4 (Value.ref.inj q)) (by decide) (by decide) ?_
      show Steps p.tables e below (T2.setTop (mkF m 7 #[.val (.ref a0)] [])) t
      refine XS.iconst X2.here hx rfl (hb hby d2_7) ?_
      show Steps p.tables e below (T2.setTop (mkF m 8 #[.val (.ref a0)] [(.int (1 : Int32))])) t
      refine XS.goto X2.here hx rfl (pc0 := 8) (pc' := 12) rfl (hb hby d2_8) (by decide) (by decide) ?_
      show Steps p.tables e below (T2.setTop (mkF m 12 #[.val (.ref a0)] [(.int (1 : Int32))])) t
      have hq8 : (b2_6 a0 s_NUM_Q) = (1 : Int32) := by rw [b2_6, if_neg hc4]
      rw [hq8] at k
      exact k
  obtain ⟨fs, hr, hrun, hended, hW, hsame⟩ := X2.leave (v := some (.int (b2_6 a0 s_NUM_Q))) (fun h => by rw [Bd.returns] at h; cases h)
  refine ⟨_, _, go5 _ (Jvm.RoadKit.retOut X2 hx Bd.returns (own_nz (by unfold b2_6; (repeat' split) <;> first | exact Or.inl rfl | exact Or.inr rfl)) (Or.inl ⟨rfl, Or.inr (Or.inl rfl), _, rfl⟩) (hb hby d2_12) hr), hrun, hended, _, _, rfl, ?_, ⟨_, rfl⟩, hW, hsame.mono (by decide) (by decide)⟩
  show Q2 _ _ a0 s_NUM_Q h0 _ (T2.setFrames fs).heap _
  have hE : (T2.setFrames fs).heap = h0 := e2
  rw [hE]
  exact ⟨by rw [f2], N0, rfl⟩
theorem own_dead15 (x : Int32) (h0 : ¬ (x &&& 2147483647) % 15 = 0) (h1 : ¬ (x &&& 2147483647) % 15 = 1) (h2 : ¬ (x &&& 2147483647) % 15 = 2) (h3 : ¬ (x &&& 2147483647) % 15 = 3) (h4 : ¬ (x &&& 2147483647) % 15 = 4) (h5 : ¬ (x &&& 2147483647) % 15 = 5) (h6 : ¬ (x &&& 2147483647) % 15 = 6) (h7 : ¬ (x &&& 2147483647) % 15 = 7) (h8 : ¬ (x &&& 2147483647) % 15 = 8) (h9 : ¬ (x &&& 2147483647) % 15 = 9) (h10 : ¬ (x &&& 2147483647) % 15 = 10) (h11 : ¬ (x &&& 2147483647) % 15 = 11) (h12 : ¬ (x &&& 2147483647) % 15 = 12) (h13 : ¬ (x &&& 2147483647) % 15 = 13) (h14 : ¬ (x &&& 2147483647) % 15 = 14) : False := by
  have hm := c_mask x 2147483647 31 (by decide) (by decide)
  have hr := (c_irem (x &&& 2147483647) 15 15 (by decide)).1 (by omega)
  have g0 := own_ne 0 rfl h0
  have g1 := own_ne 1 rfl h1
  have g2 := own_ne 2 rfl h2
  have g3 := own_ne 3 rfl h3
  have g4 := own_ne 4 rfl h4
  have g5 := own_ne 5 rfl h5
  have g6 := own_ne 6 rfl h6
  have g7 := own_ne 7 rfl h7
  have g8 := own_ne 8 rfl h8
  have g9 := own_ne 9 rfl h9
  have g10 := own_ne 10 rfl h10
  have g11 := own_ne 11 rfl h11
  have g12 := own_ne 12 rfl h12
  have g13 := own_ne 13 rfl h13
  have g14 := own_ne 14 rfl h14
  omega
theorem pd_82 : parseMethodDescriptor "(I)Lcom/example/mirk/mirk/eval/Measure;" = some ⟨[.int], some (.object "com/example/mirk/mirk/eval/Measure")⟩ := by decide +kernel
theorem pd_83 : parseMethodDescriptor "()Z" = some ⟨[], some .boolean⟩ := by decide +kernel
def v0_1 (p0 : Int32) : Int32 := ((p0 &&& (2147483647 : Int32)) % (15 : Int32))
def b0_13 (s_NUM_Q : Addr) : Int32 := (if (f2 s_NUM_Q s_NUM_Q) = (0 : Int32) then (1 : Int32) else (0 : Int32))
def b0_26 (s_NUM_Q : Addr) (s_NUM_RET : Addr) : Int32 := (if (f2 s_NUM_RET s_NUM_Q) = (1 : Int32) then (1 : Int32) else (0 : Int32))
def b0_39 (s_NUM_Q : Addr) (s_NUM_REL : Addr) : Int32 := (if (f2 s_NUM_REL s_NUM_Q) = (1 : Int32) then (1 : Int32) else (0 : Int32))
def b0_52 (s_NUM_Q : Addr) (s_NUM_REL_RET : Addr) : Int32 := (if (f2 s_NUM_REL_RET s_NUM_Q) = (1 : Int32) then (1 : Int32) else (0 : Int32))
def b0_65 (s_NUM_Q : Addr) (s_MAP : Addr) : Int32 := (if (f2 s_MAP s_NUM_Q) = (1 : Int32) then (1 : Int32) else (0 : Int32))
def b0_78 (s_NUM_Q : Addr) (s_RPREC : Addr) : Int32 := (if (f2 s_RPREC s_NUM_Q) = (1 : Int32) then (1 : Int32) else (0 : Int32))
def b0_91 (s_NUM_Q : Addr) (s_BPREF : Addr) : Int32 := (if (f2 s_BPREF s_NUM_Q) = (1 : Int32) then (1 : Int32) else (0 : Int32))
def b0_104 (s_NUM_Q : Addr) (s_RECIP_RANK : Addr) : Int32 := (if (f2 s_RECIP_RANK s_NUM_Q) = (1 : Int32) then (1 : Int32) else (0 : Int32))
def b0_117 (s_NUM_Q : Addr) (s_P_5 : Addr) : Int32 := (if (f2 s_P_5 s_NUM_Q) = (1 : Int32) then (1 : Int32) else (0 : Int32))
def b0_130 (s_NUM_Q : Addr) (s_P_10 : Addr) : Int32 := (if (f2 s_P_10 s_NUM_Q) = (1 : Int32) then (1 : Int32) else (0 : Int32))
def b0_143 (s_NUM_Q : Addr) (s_P_20 : Addr) : Int32 := (if (f2 s_P_20 s_NUM_Q) = (1 : Int32) then (1 : Int32) else (0 : Int32))
def b0_156 (s_NUM_Q : Addr) (s_RECALL_10 : Addr) : Int32 := (if (f2 s_RECALL_10 s_NUM_Q) = (1 : Int32) then (1 : Int32) else (0 : Int32))
def b0_169 (s_NUM_Q : Addr) (s_RECALL_100 : Addr) : Int32 := (if (f2 s_RECALL_100 s_NUM_Q) = (1 : Int32) then (1 : Int32) else (0 : Int32))
def b0_182 (s_NUM_Q : Addr) (s_NDCG : Addr) : Int32 := (if (f2 s_NDCG s_NUM_Q) = (1 : Int32) then (1 : Int32) else (0 : Int32))
def b0_195 (s_NUM_Q : Addr) (s_NDCG_CUT_10 : Addr) : Int32 := (if (f2 s_NDCG_CUT_10 s_NUM_Q) = (1 : Int32) then (1 : Int32) else (0 : Int32))
def f0 (p0 : Int32) (s_NUM_Q : Addr) (s_NUM_REL_RET : Addr) (s_RPREC : Addr) (s_NDCG : Addr) (s_BPREF : Addr) (s_NDCG_CUT_10 : Addr) (s_RECIP_RANK : Addr) (s_NUM_REL : Addr) (s_RECALL_10 : Addr) (s_P_20 : Addr) (s_P_5 : Addr) (s_NUM_RET : Addr) (s_RECALL_100 : Addr) (s_MAP : Addr) (s_P_10 : Addr) : Int32 := (if (v0_1 p0) = (0 : Int32) then (b0_13 s_NUM_Q) else (if (v0_1 p0) = (1 : Int32) then (b0_26 s_NUM_Q s_NUM_RET) else (if (v0_1 p0) = (2 : Int32) then (b0_39 s_NUM_Q s_NUM_REL) else (if (v0_1 p0) = (3 : Int32) then (b0_52 s_NUM_Q s_NUM_REL_RET) else (if (v0_1 p0) = (4 : Int32) then (b0_65 s_NUM_Q s_MAP) else (if (v0_1 p0) = (5 : Int32) then (b0_78 s_NUM_Q s_RPREC) else (if (v0_1 p0) = (6 : Int32) then (b0_91 s_NUM_Q s_BPREF) else (if (v0_1 p0) = (7 : Int32) then (b0_104 s_NUM_Q s_RECIP_RANK) else (if (v0_1 p0) = (8 : Int32) then (b0_117 s_NUM_Q s_P_5) else (if (v0_1 p0) = (9 : Int32) then (b0_130 s_NUM_Q s_P_10) else (if (v0_1 p0) = (10 : Int32) then (b0_143 s_NUM_Q s_P_20) else (if (v0_1 p0) = (11 : Int32) then (b0_156 s_NUM_Q s_RECALL_10) else (if (v0_1 p0) = (12 : Int32) then (b0_169 s_NUM_Q s_RECALL_100) else (if (v0_1 p0) = (13 : Int32) then (b0_182 s_NUM_Q s_NDCG) else (if (v0_1 p0) = (14 : Int32) then (b0_195 s_NUM_Q s_NDCG_CUT_10) else (1 : Int32))))))))))))))))
theorem f0_one (p0 : Int32) (s_NUM_Q : Addr) (s_NUM_REL_RET : Addr) (s_RPREC : Addr) (s_NDCG : Addr) (s_BPREF : Addr) (s_NDCG_CUT_10 : Addr) (s_RECIP_RANK : Addr) (s_NUM_REL : Addr) (s_RECALL_10 : Addr) (s_P_20 : Addr) (s_P_5 : Addr) (s_NUM_RET : Addr) (s_RECALL_100 : Addr) (s_MAP : Addr) (s_P_10 : Addr) (ne_NUM_RET : s_NUM_RET ≠ s_NUM_Q) (ne_NUM_REL : s_NUM_REL ≠ s_NUM_Q) (ne_NUM_REL_RET : s_NUM_REL_RET ≠ s_NUM_Q) (ne_MAP : s_MAP ≠ s_NUM_Q) (ne_RPREC : s_RPREC ≠ s_NUM_Q) (ne_BPREF : s_BPREF ≠ s_NUM_Q) (ne_RECIP_RANK : s_RECIP_RANK ≠ s_NUM_Q) (ne_P_5 : s_P_5 ≠ s_NUM_Q) (ne_P_10 : s_P_10 ≠ s_NUM_Q) (ne_P_20 : s_P_20 ≠ s_NUM_Q) (ne_RECALL_10 : s_RECALL_10 ≠ s_NUM_Q) (ne_RECALL_100 : s_RECALL_100 ≠ s_NUM_Q) (ne_NDCG : s_NDCG ≠ s_NUM_Q) (ne_NDCG_CUT_10 : s_NDCG_CUT_10 ≠ s_NUM_Q) : f0 p0 s_NUM_Q s_NUM_REL_RET s_RPREC s_NDCG s_BPREF s_NDCG_CUT_10 s_RECIP_RANK s_NUM_REL s_RECALL_10 s_P_20 s_P_5 s_NUM_RET s_RECALL_100 s_MAP s_P_10 = 1 := by
  unfold f0
  by_cases h0 : v0_1 p0 = (0 : Int32)
  · rw [if_pos h0]; simp [b0_13, b0_26, b0_39, b0_52, b0_65, b0_78, b0_91, b0_104, b0_117, b0_130, b0_143, b0_156, b0_169, b0_182, b0_195, f2, b2_6]
  rw [if_neg h0]
  by_cases h1 : v0_1 p0 = (1 : Int32)
  · rw [if_pos h1]; simp [b0_13, b0_26, b0_39, b0_52, b0_65, b0_78, b0_91, b0_104, b0_117, b0_130, b0_143, b0_156, b0_169, b0_182, b0_195, f2, b2_6, ne_NUM_RET]
  rw [if_neg h1]
  by_cases h2 : v0_1 p0 = (2 : Int32)
  · rw [if_pos h2]; simp [b0_13, b0_26, b0_39, b0_52, b0_65, b0_78, b0_91, b0_104, b0_117, b0_130, b0_143, b0_156, b0_169, b0_182, b0_195, f2, b2_6, ne_NUM_REL]
  rw [if_neg h2]
  by_cases h3 : v0_1 p0 = (3 : Int32)
  · rw [if_pos h3]; simp [b0_13, b0_26, b0_39, b0_52, b0_65, b0_78, b0_91, b0_104, b0_117, b0_130, b0_143, b0_156, b0_169, b0_182, b0_195, f2, b2_6, ne_NUM_REL_RET]
  rw [if_neg h3]
  by_cases h4 : v0_1 p0 = (4 : Int32)
  · rw [if_pos h4]; simp [b0_13, b0_26, b0_39, b0_52, b0_65, b0_78, b0_91, b0_104, b0_117, b0_130, b0_143, b0_156, b0_169, b0_182, b0_195, f2, b2_6, ne_MAP]
  rw [if_neg h4]
  by_cases h5 : v0_1 p0 = (5 : Int32)
  · rw [if_pos h5]; simp [b0_13, b0_26, b0_39, b0_52, b0_65, b0_78, b0_91, b0_104, b0_117, b0_130, b0_143, b0_156, b0_169, b0_182, b0_195, f2, b2_6, ne_RPREC]
  rw [if_neg h5]
  by_cases h6 : v0_1 p0 = (6 : Int32)
  · rw [if_pos h6]; simp [b0_13, b0_26, b0_39, b0_52, b0_65, b0_78, b0_91, b0_104, b0_117, b0_130, b0_143, b0_156, b0_169, b0_182, b0_195, f2, b2_6, ne_BPREF]
  rw [if_neg h6]
  by_cases h7 : v0_1 p0 = (7 : Int32)
  · rw [if_pos h7]; simp [b0_13, b0_26, b0_39, b0_52, b0_65, b0_78, b0_91, b0_104, b0_117, b0_130, b0_143, b0_156, b0_169, b0_182, b0_195, f2, b2_6, ne_RECIP_RANK]
  rw [if_neg h7]
  by_cases h8 : v0_1 p0 = (8 : Int32)
  · rw [if_pos h8]; simp [b0_13, b0_26, b0_39, b0_52, b0_65, b0_78, b0_91, b0_104, b0_117, b0_130, b0_143, b0_156, b0_169, b0_182, b0_195, f2, b2_6, ne_P_5]
  rw [if_neg h8]
  by_cases h9 : v0_1 p0 = (9 : Int32)
  · rw [if_pos h9]; simp [b0_13, b0_26, b0_39, b0_52, b0_65, b0_78, b0_91, b0_104, b0_117, b0_130, b0_143, b0_156, b0_169, b0_182, b0_195, f2, b2_6, ne_P_10]
  rw [if_neg h9]
  by_cases h10 : v0_1 p0 = (10 : Int32)
  · rw [if_pos h10]; simp [b0_13, b0_26, b0_39, b0_52, b0_65, b0_78, b0_91, b0_104, b0_117, b0_130, b0_143, b0_156, b0_169, b0_182, b0_195, f2, b2_6, ne_P_20]
  rw [if_neg h10]
  by_cases h11 : v0_1 p0 = (11 : Int32)
  · rw [if_pos h11]; simp [b0_13, b0_26, b0_39, b0_52, b0_65, b0_78, b0_91, b0_104, b0_117, b0_130, b0_143, b0_156, b0_169, b0_182, b0_195, f2, b2_6, ne_RECALL_10]
  rw [if_neg h11]
  by_cases h12 : v0_1 p0 = (12 : Int32)
  · rw [if_pos h12]; simp [b0_13, b0_26, b0_39, b0_52, b0_65, b0_78, b0_91, b0_104, b0_117, b0_130, b0_143, b0_156, b0_169, b0_182, b0_195, f2, b2_6, ne_RECALL_100]
  rw [if_neg h12]
  by_cases h13 : v0_1 p0 = (13 : Int32)
  · rw [if_pos h13]; simp [b0_13, b0_26, b0_39, b0_52, b0_65, b0_78, b0_91, b0_104, b0_117, b0_130, b0_143, b0_156, b0_169, b0_182, b0_195, f2, b2_6, ne_NDCG]
  rw [if_neg h13]
  by_cases h14 : v0_1 p0 = (14 : Int32)
  · rw [if_pos h14]; simp [b0_13, b0_26, b0_39, b0_52, b0_65, b0_78, b0_91, b0_104, b0_117, b0_130, b0_143, b0_156, b0_169, b0_182, b0_195, f2, b2_6, ne_NDCG_CUT_10]
  rw [if_neg h14]

def Q0 (Z : State) (n0 : Nat) (p0 : Int32) (s_NUM_Q : Addr) (s_NUM_REL_RET : Addr) (s_RPREC : Addr) (s_NDCG : Addr) (s_BPREF : Addr) (s_NDCG_CUT_10 : Addr) (s_RECIP_RANK : Addr) (s_NUM_REL : Addr) (s_RECALL_10 : Addr) (s_P_20 : Addr) (s_P_5 : Addr) (s_NUM_RET : Addr) (s_RECALL_100 : Addr) (s_MAP : Addr) (s_P_10 : Addr) (h0 : Heap) (v : Option Value) (h : Heap) (L : List Loc) : Prop := v = some (.int 1) ∧ Fr n0 L
theorem ef0 (m : MethodId) (p0 : Int32) : entryFrame m #[(.int p0)] maxLocals = mkF m 0 #[.val (.int p0), .unset, .unset, .unset] [] := by first | (simp [entryFrame, mkF, argsToLocals, Value.category, maxLocals]; done) | rfl
set_option maxRecDepth 65536 in
set_option maxHeartbeats 40000000 in
theorem rm0 (l : Launch) (Z : State) (aZ : Array Value) (hw : ∀ d ∈ tables_1, d.before aZ Z = true) (ws : List Jvm.Cond) (p0 : Int32) (s_NUM_Q : Addr) (s_NUM_REL_RET : Addr) (s_RPREC : Addr) (s_NDCG : Addr) (s_BPREF : Addr) (s_NDCG_CUT_10 : Addr) (s_RECIP_RANK : Addr) (s_NUM_REL : Addr) (s_RECALL_10 : Addr) (s_P_20 : Addr) (s_P_5 : Addr) (s_NUM_RET : Addr) (s_RECALL_100 : Addr) (s_MAP : Addr) (s_P_10 : Addr) (h0 : Heap) (n0 : Nat) (Z0 : n0 ≤ h0.size) (S_NUM_Q : Sta Z h0 "com/example/mirk/mirk/eval/Measure" "NUM_Q" "Lcom/example/mirk/mirk/eval/Measure;" (.ref s_NUM_Q)) (E_NUM_Q : Exa Z h0 s_NUM_Q "com/example/mirk/mirk/eval/Measure") (S_NUM_REL_RET : Sta Z h0 "com/example/mirk/mirk/eval/Measure" "NUM_REL_RET" "Lcom/example/mirk/mirk/eval/Measure;" (.ref s_NUM_REL_RET)) (E_NUM_REL_RET : Exa Z h0 s_NUM_REL_RET "com/example/mirk/mirk/eval/Measure") (F_NUM_REL_RET_ordinal : Fld Z h0 s_NUM_REL_RET "java/lang/Enum" "ordinal" "I" (.int (3 : Int32))) (F_NUM_Q_ordinal : Fld Z h0 s_NUM_Q "java/lang/Enum" "ordinal" "I" (.int (0 : Int32))) (S_RPREC : Sta Z h0 "com/example/mirk/mirk/eval/Measure" "RPREC" "Lcom/example/mirk/mirk/eval/Measure;" (.ref s_RPREC)) (E_RPREC : Exa Z h0 s_RPREC "com/example/mirk/mirk/eval/Measure") (F_RPREC_ordinal : Fld Z h0 s_RPREC "java/lang/Enum" "ordinal" "I" (.int (5 : Int32))) (S_NDCG : Sta Z h0 "com/example/mirk/mirk/eval/Measure" "NDCG" "Lcom/example/mirk/mirk/eval/Measure;" (.ref s_NDCG)) (E_NDCG : Exa Z h0 s_NDCG "com/example/mirk/mirk/eval/Measure") (F_NDCG_ordinal : Fld Z h0 s_NDCG "java/lang/Enum" "ordinal" "I" (.int (13 : Int32))) (S_BPREF : Sta Z h0 "com/example/mirk/mirk/eval/Measure" "BPREF" "Lcom/example/mirk/mirk/eval/Measure;" (.ref s_BPREF)) (E_BPREF : Exa Z h0 s_BPREF "com/example/mirk/mirk/eval/Measure") (F_BPREF_ordinal : Fld Z h0 s_BPREF "java/lang/Enum" "ordinal" "I" (.int (6 : Int32))) (S_NDCG_CUT_10 : Sta Z h0 "com/example/mirk/mirk/eval/Measure" "NDCG_CUT_10" "Lcom/example/mirk/mirk/eval/Measure;" (.ref s_NDCG_CUT_10)) (E_NDCG_CUT_10 : Exa Z h0 s_NDCG_CUT_10 "com/example/mirk/mirk/eval/Measure") (F_NDCG_CUT_10_ordinal : Fld Z h0 s_NDCG_CUT_10 "java/lang/Enum" "ordinal" "I" (.int (14 : Int32))) (S_RECIP_RANK : Sta Z h0 "com/example/mirk/mirk/eval/Measure" "RECIP_RANK" "Lcom/example/mirk/mirk/eval/Measure;" (.ref s_RECIP_RANK)) (E_RECIP_RANK : Exa Z h0 s_RECIP_RANK "com/example/mirk/mirk/eval/Measure") (F_RECIP_RANK_ordinal : Fld Z h0 s_RECIP_RANK "java/lang/Enum" "ordinal" "I" (.int (7 : Int32))) (S_NUM_REL : Sta Z h0 "com/example/mirk/mirk/eval/Measure" "NUM_REL" "Lcom/example/mirk/mirk/eval/Measure;" (.ref s_NUM_REL)) (E_NUM_REL : Exa Z h0 s_NUM_REL "com/example/mirk/mirk/eval/Measure") (F_NUM_REL_ordinal : Fld Z h0 s_NUM_REL "java/lang/Enum" "ordinal" "I" (.int (2 : Int32))) (S_RECALL_10 : Sta Z h0 "com/example/mirk/mirk/eval/Measure" "RECALL_10" "Lcom/example/mirk/mirk/eval/Measure;" (.ref s_RECALL_10)) (E_RECALL_10 : Exa Z h0 s_RECALL_10 "com/example/mirk/mirk/eval/Measure") (F_RECALL_10_ordinal : Fld Z h0 s_RECALL_10 "java/lang/Enum" "ordinal" "I" (.int (11 : Int32))) (S_P_20 : Sta Z h0 "com/example/mirk/mirk/eval/Measure" "P_20" "Lcom/example/mirk/mirk/eval/Measure;" (.ref s_P_20)) (E_P_20 : Exa Z h0 s_P_20 "com/example/mirk/mirk/eval/Measure") (F_P_20_ordinal : Fld Z h0 s_P_20 "java/lang/Enum" "ordinal" "I" (.int (10 : Int32))) (S_P_5 : Sta Z h0 "com/example/mirk/mirk/eval/Measure" "P_5" "Lcom/example/mirk/mirk/eval/Measure;" (.ref s_P_5)) (E_P_5 : Exa Z h0 s_P_5 "com/example/mirk/mirk/eval/Measure") (F_P_5_ordinal : Fld Z h0 s_P_5 "java/lang/Enum" "ordinal" "I" (.int (8 : Int32))) (S_NUM_RET : Sta Z h0 "com/example/mirk/mirk/eval/Measure" "NUM_RET" "Lcom/example/mirk/mirk/eval/Measure;" (.ref s_NUM_RET)) (E_NUM_RET : Exa Z h0 s_NUM_RET "com/example/mirk/mirk/eval/Measure") (F_NUM_RET_ordinal : Fld Z h0 s_NUM_RET "java/lang/Enum" "ordinal" "I" (.int (1 : Int32))) (S_RECALL_100 : Sta Z h0 "com/example/mirk/mirk/eval/Measure" "RECALL_100" "Lcom/example/mirk/mirk/eval/Measure;" (.ref s_RECALL_100)) (E_RECALL_100 : Exa Z h0 s_RECALL_100 "com/example/mirk/mirk/eval/Measure") (F_RECALL_100_ordinal : Fld Z h0 s_RECALL_100 "java/lang/Enum" "ordinal" "I" (.int (12 : Int32))) (S_MAP : Sta Z h0 "com/example/mirk/mirk/eval/Measure" "MAP" "Lcom/example/mirk/mirk/eval/Measure;" (.ref s_MAP)) (E_MAP : Exa Z h0 s_MAP "com/example/mirk/mirk/eval/Measure") (F_MAP_ordinal : Fld Z h0 s_MAP "java/lang/Enum" "ordinal" "I" (.int (4 : Int32))) (S_P_10 : Sta Z h0 "com/example/mirk/mirk/eval/Measure" "P_10" "Lcom/example/mirk/mirk/eval/Measure;" (.ref s_P_10)) (E_P_10 : Exa Z h0 s_P_10 "com/example/mirk/mirk/eval/Measure") (F_P_10_ordinal : Fld Z h0 s_P_10 "java/lang/Enum" "ordinal" "I" (.int (9 : Int32))) :
    MetFree l x (head1 (Jvm.Cond.code x code maxLocals ret :: ws) room_1) (fun a U => a = #[(.int p0)] ∧ Z.Warmed39 U.vm ∧ U.heap = h0) (fun _ _ _ _ _ => True) (fun _ U o U' => ∃ v L, o = .returned v ∧ Q0 Z n0 p0 s_NUM_Q s_NUM_REL_RET s_RPREC s_NDCG s_BPREF s_NDCG_CUT_10 s_RECIP_RANK s_NUM_REL s_RECALL_10 s_P_20 s_P_5 s_NUM_RET s_RECALL_100 s_MAP s_P_10 h0 v U'.heap L ∧ FrameEnd U o U' L room_1.cells room_1.slots) := by
  refine MetFree.of_bodySF (plainFor_of_name pn_71) hisR ?_
  intro p e s m args below meth c s₁ Bd hml0 hP hK
  obtain ⟨rfl, hZ, hh⟩ := hP
  have hx := Bd.exec
  have hby := Bd.bytes
  have hml : c.maxLocals = 4 := hml0
  have hown : s.vm.findClass "com/example/mirk/mirk/eval/MeasurePerQueryPinLaw" = some m.cls := findClass_of_methodNamed Bd.named
  have hnm := (name_of_methodNamed Bd.named Bd.method).1
  have X0 : Stand p l e room_1 s m #[(.int p0)] below meth c s₁ [] 0 0 := Stand.of_body Bd
  have e0 : s₁.heap = h0 := by rw [← hh, Bd.state]; rfl
  have N0 := Fr.nil n0
  have K0 : Keep h0 h0 [] := Keep.refl _ _
  have go0 : ∀ t, Steps p.tables e below (s₁.setTop (mkF m 0 #[.val (.int p0), .unset, .unset, .unset] [])) t → Steps p.tables e below (s₁.setTop (entryFrame m #[(.int p0)] maxLocals)) t := fun t k => castTop (ef0 m p0) k
  have ne_NUM_RET : s_NUM_RET ≠ s_NUM_Q := Fld.ne F_NUM_RET_ordinal F_NUM_Q_ordinal (by decide)
  have ne_NUM_REL : s_NUM_REL ≠ s_NUM_Q := Fld.ne F_NUM_REL_ordinal F_NUM_Q_ordinal (by decide)
  have ne_NUM_REL_RET : s_NUM_REL_RET ≠ s_NUM_Q := Fld.ne F_NUM_REL_RET_ordinal F_NUM_Q_ordinal (by decide)
  have ne_MAP : s_MAP ≠ s_NUM_Q := Fld.ne F_MAP_ordinal F_NUM_Q_ordinal (by decide)
  have ne_RPREC : s_RPREC ≠ s_NUM_Q := Fld.ne F_RPREC_ordinal F_NUM_Q_ordinal (by decide)
  have ne_BPREF : s_BPREF ≠ s_NUM_Q := Fld.ne F_BPREF_ordinal F_NUM_Q_ordinal (by decide)
  have ne_RECIP_RANK : s_RECIP_RANK ≠ s_NUM_Q := Fld.ne F_RECIP_RANK_ordinal F_NUM_Q_ordinal (by decide)
  have ne_P_5 : s_P_5 ≠ s_NUM_Q := Fld.ne F_P_5_ordinal F_NUM_Q_ordinal (by decide)
  have ne_P_10 : s_P_10 ≠ s_NUM_Q := Fld.ne F_P_10_ordinal F_NUM_Q_ordinal (by decide)
  have ne_P_20 : s_P_20 ≠ s_NUM_Q := Fld.ne F_P_20_ordinal F_NUM_Q_ordinal (by decide)
  have ne_RECALL_10 : s_RECALL_10 ≠ s_NUM_Q := Fld.ne F_RECALL_10_ordinal F_NUM_Q_ordinal (by decide)
  have ne_RECALL_100 : s_RECALL_100 ≠ s_NUM_Q := Fld.ne F_RECALL_100_ordinal F_NUM_Q_ordinal (by decide)
  have ne_NDCG : s_NDCG ≠ s_NUM_Q := Fld.ne F_NDCG_ordinal F_NUM_Q_ordinal (by decide)
  have ne_NDCG_CUT_10 : s_NDCG_CUT_10 ≠ s_NUM_Q := Fld.ne F_NDCG_CUT_10_ordinal F_NUM_Q_ordinal (by decide)
  have go2 : ∀ t, Steps p.tables e below (s₁.setTop (mkF m 8 #[.val (.int p0), .val (.int (v0_1 p0)), .unset, .unset] [])) t → Steps p.tables e below (s₁.setTop (entryFrame m #[(.int p0)] maxLocals)) t := by
    intro t k
    refine go0 _ ?_
    refine XS.iloadN X0.here hx rfl (hb hby at_0) rfl ?_
    show Steps p.tables e below (s₁.setTop (mkF m 1 #[.val (.int p0), .unset, .unset, .unset] [(.int p0)])) t
    refine X0.ldcInt hx hown (mvT hZ (hw _ (List.mem_of_getElem? (i := 0) rfl))) (g := (mkF m 1 #[.val (.int p0), .unset, .unset, .unset] [(.int p0)])) rfl (hb hby at_1) _ ?_
    show Steps p.tables e below (s₁.setTop (mkF m 3 #[.val (.int p0), .unset, .unset, .unset] [(.int (2147483647 : Int32)), (.int p0)])) t
    refine XS.iand X0.here hx rfl (hb hby at_3) rfl ?_
    show Steps p.tables e below (s₁.setTop (mkF m 4 #[.val (.int p0), .unset, .unset, .unset] [(.int (p0 &&& (2147483647 : Int32)))])) t
    refine XS.bipush X0.here hx rfl (hb hby at_4) ?_
    show Steps p.tables e below (s₁.setTop (mkF m 6 #[.val (.int p0), .unset, .unset, .unset] [(.int (15 : Int32)), (.int (p0 &&& (2147483647 : Int32)))])) t
    refine iremM X0 hx rfl (hb hby at_6) rfl (by decide) ?_
    show Steps p.tables e below (s₁.setTop (mkF m 7 #[.val (.int p0), .unset, .unset, .unset] [(.int ((p0 &&& (2147483647 : Int32)) % (15 : Int32)))])) t
    show Steps p.tables e below (s₁.setTop (mkF m 7 #[.val (.int p0), .unset, .unset, .unset] [(.int (v0_1 p0))])) t
    refine XS.istoreN X0.here hx rfl (hb hby at_7) rfl (l' := #[.val (.int p0), .val (.int (v0_1 p0)), .unset, .unset]) rfl ?_
    show Steps p.tables e below (s₁.setTop (mkF m 8 #[.val (.int p0), .val (.int (v0_1 p0)), .unset, .unset] [])) t
    exact k
  by_cases hs3 : (v0_1 p0) = (0 : Int32)
  · have go4 : ∀ t, Steps p.tables e below (s₁.setTop (mkF m 8 #[.val (.int p0), .val (.int (0 : Int32)), .unset, .unset] [])) t → Steps p.tables e below (s₁.setTop (entryFrame m #[(.int p0)] maxLocals)) t := by
      have q := go2
      rw [hs3] at q
      exact q
    have go5 : ∀ t, Steps p.tables e below (s₁.setTop (mkF m 9 #[.val (.int p0), .val (.int (0 : Int32)), .unset, .unset] [(.int (0 : Int32))])) t → Steps p.tables e below (s₁.setTop (entryFrame m #[(.int p0)] maxLocals)) t := by
      intro t k
      refine go4 _ ?_
      refine XS.iloadN X0.here hx rfl (hb hby at_8) rfl ?_
      show Steps p.tables e below (s₁.setTop (mkF m 9 #[.val (.int p0), .val (.int (0 : Int32)), .unset, .unset] [(.int (0 : Int32))])) t
      exact k
    obtain ⟨_, _, ⟨T6, L6, k6, n6⟩, -, X6, ⟨Lc6, hQ6, l6, y6, z6⟩, st6⟩ := Jvm.LawKit.callS X0 hx (y := (⟨"com/example/mirk/mirk/eval/MeasurePerQueryPinLaw", "pick", "(I)Lcom/example/mirk/mirk/eval/Measure;"⟩ : MethodName)) hown (mvT hZ (hw _ (List.mem_of_getElem? (i := 1) rfl))) (mvT hZ (hw _ (List.mem_of_getElem? (i := 2) rfl))) (mvT hZ (hw _ (List.mem_of_getElem? (i := 3) rfl))) (mvT hZ (hw _ (List.mem_of_getElem? (i := 4) rfl))) (by decide) (backOf (W := 0) (rm1 l Z aZ hw [] (0 : Int32) s_NUM_Q s_NUM_RET s_NUM_REL s_NUM_REL_RET s_MAP s_RPREC s_BPREF s_RECIP_RANK s_P_5 s_P_10 s_P_20 s_RECALL_10 s_RECALL_100 s_NDCG s_NDCG_CUT_10 h0 n0 Z0 S_NUM_Q S_NUM_RET S_NUM_REL S_NUM_REL_RET S_MAP S_RPREC S_BPREF S_RECIP_RANK S_P_5 S_P_10 S_P_20 S_RECALL_10 S_RECALL_100 S_NDCG S_NDCG_CUT_10) hZ (hw _ (List.mem_of_getElem? (i := 4) rfl)) (hw _ (List.mem_of_getElem? (i := 3) rfl)) (by decide) (by decide)) (g := (mkF m 9 #[.val (.int p0), .val (.int (0 : Int32)), .unset, .unset] [(.int (0 : Int32))])) rfl (by rw [hml]; rfl) (argsL := [(.int (0 : Int32))]) (rest := []) (lenOf pd_82 rfl) rfl (by show 2 * 0 + _ ≤ _; exact Nat.le_of_eq rfl) (hb hby at_9) (fun _ _ => ⟨rfl, e0, (by decide : 0 + 0 ≤ _), (by decide : 0 + 0 ≤ _)⟩)
    dsimp only [Pt.U, Pt.locs, Pt.cells, Pt.slots] at X6 l6 y6 z6 st6 hQ6
    subst l6 y6 z6
    obtain ⟨rfl, N6q, e6⟩ := hQ6
    have N6 := Fr.app N0 N6q
    have go7 : ∀ t, Steps p.tables e below (T6.setTop (mkF m 12 #[.val (.int p0), .val (.int (0 : Int32)), .unset, .unset] [(.ref s_NUM_Q)])) t → Steps p.tables e below (s₁.setTop (entryFrame m #[(.int p0)] maxLocals)) t := fun t k => go5 _ (st6 _ k)
    have go8 : ∀ t, Steps p.tables e below (T6.setTop (mkF m 24 #[.val (.int p0), .val (.int (0 : Int32)), .val (.ref s_NUM_Q), .val (.int (0 : Int32))] [(.ref s_NUM_Q)])) t → Steps p.tables e below (s₁.setTop (entryFrame m #[(.int p0)] maxLocals)) t := by
      intro t k
      refine go7 _ ?_
      refine XS.astoreN X6.here hx rfl (hb hby at_12) rfl rfl (l' := #[.val (.int p0), .val (.int (0 : Int32)), .val (.ref s_NUM_Q), .unset]) rfl ?_
      show Steps p.tables e below (T6.setTop (mkF m 13 #[.val (.int p0), .val (.int (0 : Int32)), .val (.ref s_NUM_Q), .unset] [])) t
      refine XS.iloadN X6.here hx rfl (hb hby at_13) rfl ?_
      show Steps p.tables e below (T6.setTop (mkF m 14 #[.val (.int p0), .val (.int (0 : Int32)), .val (.ref s_NUM_Q), .unset] [(.int (0 : Int32))])) t
      refine XS.ifYes X6.here hx rfl (pc0 := 14) (pc' := 21) rfl (hb hby at_14) rfl (XT.i0_eq_t (by decide : ((0 : Int32) = (0 : Int32)))) (by decide) (by decide) ?_
      show Steps p.tables e below (T6.setTop (mkF m 21 #[.val (.int p0), .val (.int (0 : Int32)), .val (.ref s_NUM_Q), .unset] [])) t
      refine XS.iconst X6.here hx rfl (hb hby at_21) ?_
      show Steps p.tables e below (T6.setTop (mkF m 22 #[.val (.int p0), .val (.int (0 : Int32)), .val (.ref s_NUM_Q), .unset] [(.int (0 : Int32))])) t
      refine XS.istoreN X6.here hx rfl (hb hby at_22) rfl (l' := #[.val (.int p0), .val (.int (0 : Int32)), .val (.ref s_NUM_Q), .val (.int (0 : Int32))]) rfl ?_
      show Steps p.tables e below (T6.setTop (mkF m 23 #[.val (.int p0), .val (.int (0 : Int32)), .val (.ref s_NUM_Q), .val (.int (0 : Int32))] [])) t
      refine XS.aloadN X6.here hx rfl (hb hby at_23) rfl rfl ?_
      show Steps p.tables e below (T6.setTop (mkF m 24 #[.val (.int p0), .val (.int (0 : Int32)), .val (.ref s_NUM_Q), .val (.int (0 : Int32))] [(.ref s_NUM_Q)])) t
      exact k
    obtain ⟨cq9, kq9, q9a, q9b, q9c⟩ := isOf hZ e6 E_NUM_Q
    obtain ⟨_, _, ⟨T9, L9, k9, n9⟩, -, X9, ⟨Lc9, hQ9, l9, y9, z9⟩, st9⟩ := X6.virtualBack hx (y := (⟨"com/example/mirk/mirk/eval/Measure", "perQuery", "()Z"⟩ : MethodName)) (z := (⟨"com/example/mirk/mirk/eval/Measure", "perQuery", "()Z"⟩ : MethodName)) hown (mvT hZ (hw _ (List.mem_of_getElem? (i := 8) rfl))) (mvT hZ (hw _ (List.mem_of_getElem? (i := 9) rfl))) (notFace_of_selects (args := #[]) (mvT hZ (hw _ (List.mem_of_getElem? (i := 11) rfl)))) (mvT hZ (hw _ (List.mem_of_getElem? (i := 11) rfl))) (mvT hZ (hw _ (List.mem_of_getElem? (i := 10) rfl))) (by decide) (backOf (W := 0) (rm2 l Z aZ hw [] s_NUM_Q s_NUM_Q h0 n0 Z0 S_NUM_Q) hZ (hw _ (List.mem_of_getElem? (i := 12) rfl)) (hw _ (List.mem_of_getElem? (i := 6) rfl)) (by decide) (by decide)) q9a q9c (g := (mkF m 24 #[.val (.int p0), .val (.int (0 : Int32)), .val (.ref s_NUM_Q), .val (.int (0 : Int32))] [(.ref s_NUM_Q)])) rfl (by rw [hml]; rfl) (Steps.refl _) (argsL := []) (rest := []) (lenOf pd_83 rfl) rfl (by show 2 * 0 + _ ≤ _; exact Nat.le_of_eq rfl) (hb hby at_24) (fun _ _ => ⟨rfl, e6, (by decide : 0 + 0 ≤ _), (by decide : 0 + 0 ≤ _)⟩)
    dsimp only [Pt.U, Pt.locs, Pt.cells, Pt.slots] at X9 l9 y9 z9 st9 hQ9
    subst l9 y9 z9
    obtain ⟨rfl, N9q, e9⟩ := hQ9
    have N9 := Fr.app N6 N9q
    have go10 : ∀ t, Steps p.tables e below (T9.setTop (mkF m 27 #[.val (.int p0), .val (.int (0 : Int32)), .val (.ref s_NUM_Q), .val (.int (0 : Int32))] [(.int (f2 s_NUM_Q s_NUM_Q))])) t → Steps p.tables e below (s₁.setTop (entryFrame m #[(.int p0)] maxLocals)) t := fun t k => go8 _ (st9.trans k)
    have go12 : ∀ t, Steps p.tables e below (T9.setTop (mkF m 36 #[.val (.int p0), .val (.int (0 : Int32)), .val (.ref s_NUM_Q), .val (.int (0 : Int32))] [(.int (b0_13 s_NUM_Q))])) t → Steps p.tables e below (s₁.setTop (entryFrame m #[(.int p0)] maxLocals)) t := by
      intro t k
      refine go10 _ ?_
      refine XS.iloadN X9.here hx rfl (hb hby at_27) rfl ?_
      show Steps p.tables e below (T9.setTop (mkF m 28 #[.val (.int p0), .val (.int (0 : Int32)), .val (.ref s_NUM_Q), .val (.int (0 : Int32))] [(.int (0 : Int32)), (.int (f2 s_NUM_Q s_NUM_Q))])) t
      by_cases hc11 : (f2 s_NUM_Q s_NUM_Q) = (0 : Int32)
      · refine XS.icmpNo X9.here hx rfl (hb hby at_28) rfl (XT.ii_ne_f hc11) ?_
        show Steps p.tables e below (T9.setTop (mkF m 31 #[.val (.int p0), .val (.int (0 : Int32)), .val (.ref s_NUM_Q), .val (.int (0 : Int32))] [])) t
        refine XS.iconst X9.here hx rfl (hb hby at_31) ?_
        show Steps p.tables e below (T9.setTop (mkF m 32 #[.val (.int p0), .val (.int (0 : Int32)), .val (.ref s_NUM_Q), .val (.int (0 : Int32))] [(.int (1 : Int32))])) t
        refine XS.goto X9.here hx rfl (pc0 := 32) (pc' := 36) rfl (hb hby at_32) (by decide) (by decide) ?_
        show Steps p.tables e below (T9.setTop (mkF m 36 #[.val (.int p0), .val (.int (0 : Int32)), .val (.ref s_NUM_Q), .val (.int (0 : Int32))] [(.int (1 : Int32))])) t
        have hq14 : (b0_13 s_NUM_Q) = (1 : Int32) := by rw [b0_13, if_pos hc11]
        rw [hq14] at k
        exact k
      · refine XS.icmpYes X9.here hx rfl (pc0 := 28) (pc' := 35) rfl (hb hby at_28) rfl (XT.ii_ne_t hc11) (by decide) (by decide) ?_
        show Steps p.tables e below (T9.setTop (mkF m 35 #[.val (.int p0), .val (.int (0 : Int32)), .val (.ref s_NUM_Q), .val (.int (0 : Int32))] [])) t
        refine XS.iconst X9.here hx rfl (hb hby at_35) ?_
        show Steps p.tables e below (T9.setTop (mkF m 36 #[.val (.int p0), .val (.int (0 : Int32)), .val (.ref s_NUM_Q), .val (.int (0 : Int32))] [(.int (0 : Int32))])) t
        have hq15 : (b0_13 s_NUM_Q) = (0 : Int32) := by rw [b0_13, if_neg hc11]
        rw [hq15] at k
        exact k
    obtain ⟨fs, hr, hrun, hended, hW, hsame⟩ := X9.leave (v := some (.int (b0_13 s_NUM_Q))) (fun h => by rw [Bd.returns] at h; cases h)
    refine ⟨_, _, go12 _ (Jvm.RoadKit.retOut X9 hx Bd.returns (own_nz (by unfold b0_13; (repeat' split) <;> first | exact Or.inl rfl | exact Or.inr rfl)) (Or.inl ⟨rfl, Or.inr (Or.inl rfl), _, rfl⟩) (hb hby at_36) hr), hrun, hended, _, _, rfl, ?_, ⟨_, rfl⟩, hW, hsame.mono (by decide) (by decide)⟩
    show Q0 _ _ p0 s_NUM_Q s_NUM_REL_RET s_RPREC s_NDCG s_BPREF s_NDCG_CUT_10 s_RECIP_RANK s_NUM_REL s_RECALL_10 s_P_20 s_P_5 s_NUM_RET s_RECALL_100 s_MAP s_P_10 h0 _ (T9.setFrames fs).heap _
    have hE : (T9.setFrames fs).heap = h0 := e9
    rw [hE]
    exact ⟨congrArg (fun z => some (Value.int z)) ((by rw [f0, if_pos hs3] : (b0_13 s_NUM_Q) = (f0 p0 s_NUM_Q s_NUM_REL_RET s_RPREC s_NDCG s_BPREF s_NDCG_CUT_10 s_RECIP_RANK s_NUM_REL s_RECALL_10 s_P_20 s_P_5 s_NUM_RET s_RECALL_100 s_MAP s_P_10)).trans (f0_one p0 s_NUM_Q s_NUM_REL_RET s_RPREC s_NDCG s_BPREF s_NDCG_CUT_10 s_RECIP_RANK s_NUM_REL s_RECALL_10 s_P_20 s_P_5 s_NUM_RET s_RECALL_100 s_MAP s_P_10 ne_NUM_RET ne_NUM_REL ne_NUM_REL_RET ne_MAP ne_RPREC ne_BPREF ne_RECIP_RANK ne_P_5 ne_P_10 ne_P_20 ne_RECALL_10 ne_RECALL_100 ne_NDCG ne_NDCG_CUT_10)), N9⟩
  · by_cases hs16 : (v0_1 p0) = (1 : Int32)
    · have go17 : ∀ t, Steps p.tables e below (s₁.setTop (mkF m 8 #[.val (.int p0), .val (.int (1 : Int32)), .unset, .unset] [])) t → Steps p.tables e below (s₁.setTop (entryFrame m #[(.int p0)] maxLocals)) t := by
        have q := go2
        rw [hs16] at q
        exact q
      have go18 : ∀ t, Steps p.tables e below (s₁.setTop (mkF m 9 #[.val (.int p0), .val (.int (1 : Int32)), .unset, .unset] [(.int (1 : Int32))])) t → Steps p.tables e below (s₁.setTop (entryFrame m #[(.int p0)] maxLocals)) t := by
        intro t k
        refine go17 _ ?_
        refine XS.iloadN X0.here hx rfl (hb hby at_8) rfl ?_
        show Steps p.tables e below (s₁.setTop (mkF m 9 #[.val (.int p0), .val (.int (1 : Int32)), .unset, .unset] [(.int (1 : Int32))])) t
        exact k
      obtain ⟨_, _, ⟨T19, L19, k19, n19⟩, -, X19, ⟨Lc19, hQ19, l19, y19, z19⟩, st19⟩ := Jvm.LawKit.callS X0 hx (y := (⟨"com/example/mirk/mirk/eval/MeasurePerQueryPinLaw", "pick", "(I)Lcom/example/mirk/mirk/eval/Measure;"⟩ : MethodName)) hown (mvT hZ (hw _ (List.mem_of_getElem? (i := 1) rfl))) (mvT hZ (hw _ (List.mem_of_getElem? (i := 2) rfl))) (mvT hZ (hw _ (List.mem_of_getElem? (i := 3) rfl))) (mvT hZ (hw _ (List.mem_of_getElem? (i := 4) rfl))) (by decide) (backOf (W := 0) (rm1 l Z aZ hw [] (1 : Int32) s_NUM_Q s_NUM_RET s_NUM_REL s_NUM_REL_RET s_MAP s_RPREC s_BPREF s_RECIP_RANK s_P_5 s_P_10 s_P_20 s_RECALL_10 s_RECALL_100 s_NDCG s_NDCG_CUT_10 h0 n0 Z0 S_NUM_Q S_NUM_RET S_NUM_REL S_NUM_REL_RET S_MAP S_RPREC S_BPREF S_RECIP_RANK S_P_5 S_P_10 S_P_20 S_RECALL_10 S_RECALL_100 S_NDCG S_NDCG_CUT_10) hZ (hw _ (List.mem_of_getElem? (i := 4) rfl)) (hw _ (List.mem_of_getElem? (i := 3) rfl)) (by decide) (by decide)) (g := (mkF m 9 #[.val (.int p0), .val (.int (1 : Int32)), .unset, .unset] [(.int (1 : Int32))])) rfl (by rw [hml]; rfl) (argsL := [(.int (1 : Int32))]) (rest := []) (lenOf pd_82 rfl) rfl (by show 2 * 0 + _ ≤ _; exact Nat.le_of_eq rfl) (hb hby at_9) (fun _ _ => ⟨rfl, e0, (by decide : 0 + 0 ≤ _), (by decide : 0 + 0 ≤ _)⟩)
      dsimp only [Pt.U, Pt.locs, Pt.cells, Pt.slots] at X19 l19 y19 z19 st19 hQ19
      subst l19 y19 z19
      obtain ⟨rfl, N19q, e19⟩ := hQ19
      have N19 := Fr.app N0 N19q
      have go20 : ∀ t, Steps p.tables e below (T19.setTop (mkF m 12 #[.val (.int p0), .val (.int (1 : Int32)), .unset, .unset] [(.ref s_NUM_RET)])) t → Steps p.tables e below (s₁.setTop (entryFrame m #[(.int p0)] maxLocals)) t := fun t k => go18 _ (st19 _ k)
      have go21 : ∀ t, Steps p.tables e below (T19.setTop (mkF m 24 #[.val (.int p0), .val (.int (1 : Int32)), .val (.ref s_NUM_RET), .val (.int (1 : Int32))] [(.ref s_NUM_RET)])) t → Steps p.tables e below (s₁.setTop (entryFrame m #[(.int p0)] maxLocals)) t := by
        intro t k
        refine go20 _ ?_
        refine XS.astoreN X19.here hx rfl (hb hby at_12) rfl rfl (l' := #[.val (.int p0), .val (.int (1 : Int32)), .val (.ref s_NUM_RET), .unset]) rfl ?_
        show Steps p.tables e below (T19.setTop (mkF m 13 #[.val (.int p0), .val (.int (1 : Int32)), .val (.ref s_NUM_RET), .unset] [])) t
        refine XS.iloadN X19.here hx rfl (hb hby at_13) rfl ?_
        show Steps p.tables e below (T19.setTop (mkF m 14 #[.val (.int p0), .val (.int (1 : Int32)), .val (.ref s_NUM_RET), .unset] [(.int (1 : Int32))])) t
        refine XS.ifNo X19.here hx rfl (hb hby at_14) rfl (XT.i0_eq_f (by decide : ¬ ((1 : Int32) = (0 : Int32)))) ?_
        show Steps p.tables e below (T19.setTop (mkF m 17 #[.val (.int p0), .val (.int (1 : Int32)), .val (.ref s_NUM_RET), .unset] [])) t
        refine XS.iconst X19.here hx rfl (hb hby at_17) ?_
        show Steps p.tables e below (T19.setTop (mkF m 18 #[.val (.int p0), .val (.int (1 : Int32)), .val (.ref s_NUM_RET), .unset] [(.int (1 : Int32))])) t
        refine XS.goto X19.here hx rfl (pc0 := 18) (pc' := 22) rfl (hb hby at_18) (by decide) (by decide) ?_
        show Steps p.tables e below (T19.setTop (mkF m 22 #[.val (.int p0), .val (.int (1 : Int32)), .val (.ref s_NUM_RET), .unset] [(.int (1 : Int32))])) t
        refine XS.istoreN X19.here hx rfl (hb hby at_22) rfl (l' := #[.val (.int p0), .val (.int (1 : Int32)), .val (.ref s_NUM_RET), .val (.int (1 : Int32))]) rfl ?_
        show Steps p.tables e below (T19.setTop (mkF m 23 #[.val (.int p0), .val (.int (1 : Int32)), .val (.ref s_NUM_RET), .val (.int (1 : Int32))] [])) t
        refine XS.aloadN X19.here hx rfl (hb hby at_23) rfl rfl ?_
        show Steps p.tables e below (T19.setTop (mkF m 24 #[.val (.int p0), .val (.int (1 : Int32)), .val (.ref s_NUM_RET), .val (.int (1 : Int32))] [(.ref s_NUM_RET)])) t
        exact k
      obtain ⟨cq22, kq22, q22a, q22b, q22c⟩ := isOf hZ e19 E_NUM_RET
      obtain ⟨_, _, ⟨T22, L22, k22, n22⟩, -, X22, ⟨Lc22, hQ22, l22, y22, z22⟩, st22⟩ := X19.virtualBack hx (y := (⟨"com/example/mirk/mirk/eval/Measure", "perQuery", "()Z"⟩ : MethodName)) (z := (⟨"com/example/mirk/mirk/eval/Measure", "perQuery", "()Z"⟩ : MethodName)) hown (mvT hZ (hw _ (List.mem_of_getElem? (i := 8) rfl))) (mvT hZ (hw _ (List.mem_of_getElem? (i := 9) rfl))) (notFace_of_selects (args := #[]) (mvT hZ (hw _ (List.mem_of_getElem? (i := 11) rfl)))) (mvT hZ (hw _ (List.mem_of_getElem? (i := 11) rfl))) (mvT hZ (hw _ (List.mem_of_getElem? (i := 10) rfl))) (by decide) (backOf (W := 0) (rm2 l Z aZ hw [] s_NUM_RET s_NUM_Q h0 n0 Z0 S_NUM_Q) hZ (hw _ (List.mem_of_getElem? (i := 12) rfl)) (hw _ (List.mem_of_getElem? (i := 6) rfl)) (by decide) (by decide)) q22a q22c (g := (mkF m 24 #[.val (.int p0), .val (.int (1 : Int32)), .val (.ref s_NUM_RET), .val (.int (1 : Int32))] [(.ref s_NUM_RET)])) rfl (by rw [hml]; rfl) (Steps.refl _) (argsL := []) (rest := []) (lenOf pd_83 rfl) rfl (by show 2 * 0 + _ ≤ _; exact Nat.le_of_eq rfl) (hb hby at_24) (fun _ _ => ⟨rfl, e19, (by decide : 0 + 0 ≤ _), (by decide : 0 + 0 ≤ _)⟩)
      dsimp only [Pt.U, Pt.locs, Pt.cells, Pt.slots] at X22 l22 y22 z22 st22 hQ22
      subst l22 y22 z22
      obtain ⟨rfl, N22q, e22⟩ := hQ22
      have N22 := Fr.app N19 N22q
      have go23 : ∀ t, Steps p.tables e below (T22.setTop (mkF m 27 #[.val (.int p0), .val (.int (1 : Int32)), .val (.ref s_NUM_RET), .val (.int (1 : Int32))] [(.int (f2 s_NUM_RET s_NUM_Q))])) t → Steps p.tables e below (s₁.setTop (entryFrame m #[(.int p0)] maxLocals)) t := fun t k => go21 _ (st22.trans k)
      have go25 : ∀ t, Steps p.tables e below (T22.setTop (mkF m 36 #[.val (.int p0), .val (.int (1 : Int32)), .val (.ref s_NUM_RET), .val (.int (1 : Int32))] [(.int (b0_26 s_NUM_Q s_NUM_RET))])) t → Steps p.tables e below (s₁.setTop (entryFrame m #[(.int p0)] maxLocals)) t := by
        intro t k
        refine go23 _ ?_
        refine XS.iloadN X22.here hx rfl (hb hby at_27) rfl ?_
        show Steps p.tables e below (T22.setTop (mkF m 28 #[.val (.int p0), .val (.int (1 : Int32)), .val (.ref s_NUM_RET), .val (.int (1 : Int32))] [(.int (1 : Int32)), (.int (f2 s_NUM_RET s_NUM_Q))])) t
        by_cases hc24 : (f2 s_NUM_RET s_NUM_Q) = (1 : Int32)
        · refine XS.icmpNo X22.here hx rfl (hb hby at_28) rfl (XT.ii_ne_f hc24) ?_
          show Steps p.tables e below (T22.setTop (mkF m 31 #[.val (.int p0), .val (.int (1 : Int32)), .val (.ref s_NUM_RET), .val (.int (1 : Int32))] [])) t
          refine XS.iconst X22.here hx rfl (hb hby at_31) ?_
          show Steps p.tables e below (T22.setTop (mkF m 32 #[.val (.int p0), .val (.int (1 : Int32)), .val (.ref s_NUM_RET), .val (.int (1 : Int32))] [(.int (1 : Int32))])) t
          refine XS.goto X22.here hx rfl (pc0 := 32) (pc' := 36) rfl (hb hby at_32) (by decide) (by decide) ?_
          show Steps p.tables e below (T22.setTop (mkF m 36 #[.val (.int p0), .val (.int (1 : Int32)), .val (.ref s_NUM_RET), .val (.int (1 : Int32))] [(.int (1 : Int32))])) t
          have hq27 : (b0_26 s_NUM_Q s_NUM_RET) = (1 : Int32) := by rw [b0_26, if_pos hc24]
          rw [hq27] at k
          exact k
        · refine XS.icmpYes X22.here hx rfl (pc0 := 28) (pc' := 35) rfl (hb hby at_28) rfl (XT.ii_ne_t hc24) (by decide) (by decide) ?_
          show Steps p.tables e below (T22.setTop (mkF m 35 #[.val (.int p0), .val (.int (1 : Int32)), .val (.ref s_NUM_RET), .val (.int (1 : Int32))] [])) t
          refine XS.iconst X22.here hx rfl (hb hby at_35) ?_
          show Steps p.tables e below (T22.setTop (mkF m 36 #[.val (.int p0), .val (.int (1 : Int32)), .val (.ref s_NUM_RET), .val (.int (1 : Int32))] [(.int (0 : Int32))])) t
          have hq28 : (b0_26 s_NUM_Q s_NUM_RET) = (0 : Int32) := by rw [b0_26, if_neg hc24]
          rw [hq28] at k
          exact k
      obtain ⟨fs, hr, hrun, hended, hW, hsame⟩ := X22.leave (v := some (.int (b0_26 s_NUM_Q s_NUM_RET))) (fun h => by rw [Bd.returns] at h; cases h)
      refine ⟨_, _, go25 _ (Jvm.RoadKit.retOut X22 hx Bd.returns (own_nz (by unfold b0_26; (repeat' split) <;> first | exact Or.inl rfl | exact Or.inr rfl)) (Or.inl ⟨rfl, Or.inr (Or.inl rfl), _, rfl⟩) (hb hby at_36) hr), hrun, hended, _, _, rfl, ?_, ⟨_, rfl⟩, hW, hsame.mono (by decide) (by decide)⟩
      show Q0 _ _ p0 s_NUM_Q s_NUM_REL_RET s_RPREC s_NDCG s_BPREF s_NDCG_CUT_10 s_RECIP_RANK s_NUM_REL s_RECALL_10 s_P_20 s_P_5 s_NUM_RET s_RECALL_100 s_MAP s_P_10 h0 _ (T22.setFrames fs).heap _
      have hE : (T22.setFrames fs).heap = h0 := e22
      rw [hE]
      exact ⟨congrArg (fun z => some (Value.int z)) ((by rw [f0, if_neg hs3, if_pos hs16] : (b0_26 s_NUM_Q s_NUM_RET) = (f0 p0 s_NUM_Q s_NUM_REL_RET s_RPREC s_NDCG s_BPREF s_NDCG_CUT_10 s_RECIP_RANK s_NUM_REL s_RECALL_10 s_P_20 s_P_5 s_NUM_RET s_RECALL_100 s_MAP s_P_10)).trans (f0_one p0 s_NUM_Q s_NUM_REL_RET s_RPREC s_NDCG s_BPREF s_NDCG_CUT_10 s_RECIP_RANK s_NUM_REL s_RECALL_10 s_P_20 s_P_5 s_NUM_RET s_RECALL_100 s_MAP s_P_10 ne_NUM_RET ne_NUM_REL ne_NUM_REL_RET ne_MAP ne_RPREC ne_BPREF ne_RECIP_RANK ne_P_5 ne_P_10 ne_P_20 ne_RECALL_10 ne_RECALL_100 ne_NDCG ne_NDCG_CUT_10)), N22⟩
    · by_cases hs29 : (v0_1 p0) = (2 : Int32)
      · have go30 : ∀ t, Steps p.tables e below (s₁.setTop (mkF m 8 #[.val (.int p0), .val (.int (2 : Int32)), .unset, .unset] [])) t → Steps p.tables e below (s₁.setTop (entryFrame m #[(.int p0)] maxLocals)) t := by
          have q := go2
          rw [hs29] at q
          exact q
        have go31 : ∀ t, Steps p.tables e below (s₁.setTop (mkF m 9 #[.val (.int p0), .val (.int (2 : Int32)), .unset, .unset] [(.int (2 : Int32))])) t → Steps p.tables e below (s₁.setTop (entryFrame m #[(.int p0)] maxLocals)) t := by
          intro t k
          refine go30 _ ?_
          refine XS.iloadN X0.here hx rfl (hb hby at_8) rfl ?_
          show Steps p.tables e below (s₁.setTop (mkF m 9 #[.val (.int p0), .val (.int (2 : Int32)), .unset, .unset] [(.int (2 : Int32))])) t
          exact k
        obtain ⟨_, _, ⟨T32, L32, k32, n32⟩, -, X32, ⟨Lc32, hQ32, l32, y32, z32⟩, st32⟩ := Jvm.LawKit.callS X0 hx (y := (⟨"com/example/mirk/mirk/eval/MeasurePerQueryPinLaw", "pick", "(I)Lcom/example/mirk/mirk/eval/Measure;"⟩ : MethodName)) hown (mvT hZ (hw _ (List.mem_of_getElem? (i := 1) rfl))) (mvT hZ (hw _ (List.mem_of_getElem? (i := 2) rfl))) (mvT hZ (hw _ (List.mem_of_getElem? (i := 3) rfl))) (mvT hZ (hw _ (List.mem_of_getElem? (i := 4) rfl))) (by decide) (backOf (W := 0) (rm1 l Z aZ hw [] (2 : Int32) s_NUM_Q s_NUM_RET s_NUM_REL s_NUM_REL_RET s_MAP s_RPREC s_BPREF s_RECIP_RANK s_P_5 s_P_10 s_P_20 s_RECALL_10 s_RECALL_100 s_NDCG s_NDCG_CUT_10 h0 n0 Z0 S_NUM_Q S_NUM_RET S_NUM_REL S_NUM_REL_RET S_MAP S_RPREC S_BPREF S_RECIP_RANK S_P_5 S_P_10 S_P_20 S_RECALL_10 S_RECALL_100 S_NDCG S_NDCG_CUT_10) hZ (hw _ (List.mem_of_getElem? (i := 4) rfl)) (hw _ (List.mem_of_getElem? (i := 3) rfl)) (by decide) (by decide)) (g := (mkF m 9 #[.val (.int p0), .val (.int (2 : Int32)), .unset, .unset] [(.int (2 : Int32))])) rfl (by rw [hml]; rfl) (argsL := [(.int (2 : Int32))]) (rest := []) (lenOf pd_82 rfl) rfl (by show 2 * 0 + _ ≤ _; exact Nat.le_of_eq rfl) (hb hby at_9) (fun _ _ => ⟨rfl, e0, (by decide : 0 + 0 ≤ _), (by decide : 0 + 0 ≤ _)⟩)
        dsimp only [Pt.U, Pt.locs, Pt.cells, Pt.slots] at X32 l32 y32 z32 st32 hQ32
        subst l32 y32 z32
        obtain ⟨rfl, N32q, e32⟩ := hQ32
        have N32 := Fr.app N0 N32q
        have go33 : ∀ t, Steps p.tables e below (T32.setTop (mkF m 12 #[.val (.int p0), .val (.int (2 : Int32)), .unset, .unset] [(.ref s_NUM_REL)])) t → Steps p.tables e below (s₁.setTop (entryFrame m #[(.int p0)] maxLocals)) t := fun t k => go31 _ (st32 _ k)
        have go34 : ∀ t, Steps p.tables e below (T32.setTop (mkF m 24 #[.val (.int p0), .val (.int (2 : Int32)), .val (.ref s_NUM_REL), .val (.int (1 : Int32))] [(.ref s_NUM_REL)])) t → Steps p.tables e below (s₁.setTop (entryFrame m #[(.int p0)] maxLocals)) t := by
          intro t k
          refine go33 _ ?_
          refine XS.astoreN X32.here hx rfl (hb hby at_12) rfl rfl (l' := #[.val (.int p0), .val (.int (2 : Int32)), .val (.ref s_NUM_REL), .unset]) rfl ?_
          show Steps p.tables e below (T32.setTop (mkF m 13 #[.val (.int p0), .val (.int (2 : Int32)), .val (.ref s_NUM_REL), .unset] [])) t
          refine XS.iloadN X32.here hx rfl (hb hby at_13) rfl ?_
          show Steps p.tables e below (T32.setTop (mkF m 14 #[.val (.int p0), .val (.int (2 : Int32)), .val (.ref s_NUM_REL), .unset] [(.int (2 : Int32))])) t
          refine XS.ifNo X32.here hx rfl (hb hby at_14) rfl (XT.i0_eq_f (by decide : ¬ ((2 : Int32) = (0 : Int32)))) ?_
          show Steps p.tables e below (T32.setTop (mkF m 17 #[.val (.int p0), .val (.int (2 : Int32)), .val (.ref s_NUM_REL), .unset] [])) t
          refine XS.iconst X32.here hx rfl (hb hby at_17) ?_
          show Steps p.tables e below (T32.setTop (mkF m 18 #[.val (.int p0), .val (.int (2 : Int32)), .val (.ref s_NUM_REL), .unset] [(.int (1 : Int32))])) t
          refine XS.goto X32.here hx rfl (pc0 := 18) (pc' := 22) rfl (hb hby at_18) (by decide) (by decide) ?_
          show Steps p.tables e below (T32.setTop (mkF m 22 #[.val (.int p0), .val (.int (2 : Int32)), .val (.ref s_NUM_REL), .unset] [(.int (1 : Int32))])) t
          refine XS.istoreN X32.here hx rfl (hb hby at_22) rfl (l' := #[.val (.int p0), .val (.int (2 : Int32)), .val (.ref s_NUM_REL), .val (.int (1 : Int32))]) rfl ?_
          show Steps p.tables e below (T32.setTop (mkF m 23 #[.val (.int p0), .val (.int (2 : Int32)), .val (.ref s_NUM_REL), .val (.int (1 : Int32))] [])) t
          refine XS.aloadN X32.here hx rfl (hb hby at_23) rfl rfl ?_
          show Steps p.tables e below (T32.setTop (mkF m 24 #[.val (.int p0), .val (.int (2 : Int32)), .val (.ref s_NUM_REL), .val (.int (1 : Int32))] [(.ref s_NUM_REL)])) t
          exact k
        obtain ⟨cq35, kq35, q35a, q35b, q35c⟩ := isOf hZ e32 E_NUM_REL
        obtain ⟨_, _, ⟨T35, L35, k35, n35⟩, -, X35, ⟨Lc35, hQ35, l35, y35, z35⟩, st35⟩ := X32.virtualBack hx (y := (⟨"com/example/mirk/mirk/eval/Measure", "perQuery", "()Z"⟩ : MethodName)) (z := (⟨"com/example/mirk/mirk/eval/Measure", "perQuery", "()Z"⟩ : MethodName)) hown (mvT hZ (hw _ (List.mem_of_getElem? (i := 8) rfl))) (mvT hZ (hw _ (List.mem_of_getElem? (i := 9) rfl))) (notFace_of_selects (args := #[]) (mvT hZ (hw _ (List.mem_of_getElem? (i := 11) rfl)))) (mvT hZ (hw _ (List.mem_of_getElem? (i := 11) rfl))) (mvT hZ (hw _ (List.mem_of_getElem? (i := 10) rfl))) (by decide) (backOf (W := 0) (rm2 l Z aZ hw [] s_NUM_REL s_NUM_Q h0 n0 Z0 S_NUM_Q) hZ (hw _ (List.mem_of_getElem? (i := 12) rfl)) (hw _ (List.mem_of_getElem? (i := 6) rfl)) (by decide) (by decide)) q35a q35c (g := (mkF m 24 #[.val (.int p0), .val (.int (2 : Int32)), .val (.ref s_NUM_REL), .val (.int (1 : Int32))] [(.ref s_NUM_REL)])) rfl (by rw [hml]; rfl) (Steps.refl _) (argsL := []) (rest := []) (lenOf pd_83 rfl) rfl (by show 2 * 0 + _ ≤ _; exact Nat.le_of_eq rfl) (hb hby at_24) (fun _ _ => ⟨rfl, e32, (by decide : 0 + 0 ≤ _), (by decide : 0 + 0 ≤ _)⟩)
        dsimp only [Pt.U, Pt.locs, Pt.cells, Pt.slots] at X35 l35 y35 z35 st35 hQ35
        subst l35 y35 z35
        obtain ⟨rfl, N35q, e35⟩ := hQ35
        have N35 := Fr.app N32 N35q
        have go36 : ∀ t, Steps p.tables e below (T35.setTop (mkF m 27 #[.val (.int p0), .val (.int (2 : Int32)), .val (.ref s_NUM_REL), .val (.int (1 : Int32))] [(.int (f2 s_NUM_REL s_NUM_Q))])) t → Steps p.tables e below (s₁.setTop (entryFrame m #[(.int p0)] maxLocals)) t := fun t k => go34 _ (st35.trans k)
        have go38 : ∀ t, Steps p.tables e below (T35.setTop (mkF m 36 #[.val (.int p0), .val (.int (2 : Int32)), .val (.ref s_NUM_REL), .val (.int (1 : Int32))] [(.int (b0_39 s_NUM_Q s_NUM_REL))])) t → Steps p.tables e below (s₁.setTop (entryFrame m #[(.int p0)] maxLocals)) t := by
          intro t k
          refine go36 _ ?_
          refine XS.iloadN X35.here hx rfl (hb hby at_27) rfl ?_
          show Steps p.tables e below (T35.setTop (mkF m 28 #[.val (.int p0), .val (.int (2 : Int32)), .val (.ref s_NUM_REL), .val (.int (1 : Int32))] [(.int (1 : Int32)), (.int (f2 s_NUM_REL s_NUM_Q))])) t
          by_cases hc37 : (f2 s_NUM_REL s_NUM_Q) = (1 : Int32)
          · refine XS.icmpNo X35.here hx rfl (hb hby at_28) rfl (XT.ii_ne_f hc37) ?_
            show Steps p.tables e below (T35.setTop (mkF m 31 #[.val (.int p0), .val (.int (2 : Int32)), .val (.ref s_NUM_REL), .val (.int (1 : Int32))] [])) t
            refine XS.iconst X35.here hx rfl (hb hby at_31) ?_
            show Steps p.tables e below (T35.setTop (mkF m 32 #[.val (.int p0), .val (.int (2 : Int32)), .val (.ref s_NUM_REL), .val (.int (1 : Int32))] [(.int (1 : Int32))])) t
            refine XS.goto X35.here hx rfl (pc0 := 32) (pc' := 36) rfl (hb hby at_32) (by decide) (by decide) ?_
            show Steps p.tables e below (T35.setTop (mkF m 36 #[.val (.int p0), .val (.int (2 : Int32)), .val (.ref s_NUM_REL), .val (.int (1 : Int32))] [(.int (1 : Int32))])) t
            have hq40 : (b0_39 s_NUM_Q s_NUM_REL) = (1 : Int32) := by rw [b0_39, if_pos hc37]
            rw [hq40] at k
            exact k
          · refine XS.icmpYes X35.here hx rfl (pc0 := 28) (pc' := 35) rfl (hb hby at_28) rfl (XT.ii_ne_t hc37) (by decide) (by decide) ?_
            show Steps p.tables e below (T35.setTop (mkF m 35 #[.val (.int p0), .val (.int (2 : Int32)), .val (.ref s_NUM_REL), .val (.int (1 : Int32))] [])) t
            refine XS.iconst X35.here hx rfl (hb hby at_35) ?_
            show Steps p.tables e below (T35.setTop (mkF m 36 #[.val (.int p0), .val (.int (2 : Int32)), .val (.ref s_NUM_REL), .val (.int (1 : Int32))] [(.int (0 : Int32))])) t
            have hq41 : (b0_39 s_NUM_Q s_NUM_REL) = (0 : Int32) := by rw [b0_39, if_neg hc37]
            rw [hq41] at k
            exact k
        obtain ⟨fs, hr, hrun, hended, hW, hsame⟩ := X35.leave (v := some (.int (b0_39 s_NUM_Q s_NUM_REL))) (fun h => by rw [Bd.returns] at h; cases h)
        refine ⟨_, _, go38 _ (Jvm.RoadKit.retOut X35 hx Bd.returns (own_nz (by unfold b0_39; (repeat' split) <;> first | exact Or.inl rfl | exact Or.inr rfl)) (Or.inl ⟨rfl, Or.inr (Or.inl rfl), _, rfl⟩) (hb hby at_36) hr), hrun, hended, _, _, rfl, ?_, ⟨_, rfl⟩, hW, hsame.mono (by decide) (by decide)⟩
        show Q0 _ _ p0 s_NUM_Q s_NUM_REL_RET s_RPREC s_NDCG s_BPREF s_NDCG_CUT_10 s_RECIP_RANK s_NUM_REL s_RECALL_10 s_P_20 s_P_5 s_NUM_RET s_RECALL_100 s_MAP s_P_10 h0 _ (T35.setFrames fs).heap _
        have hE : (T35.setFrames fs).heap = h0 := e35
        rw [hE]
        exact ⟨congrArg (fun z => some (Value.int z)) ((by rw [f0, if_neg hs3, if_neg hs16, if_pos hs29] : (b0_39 s_NUM_Q s_NUM_REL) = (f0 p0 s_NUM_Q s_NUM_REL_RET s_RPREC s_NDCG s_BPREF s_NDCG_CUT_10 s_RECIP_RANK s_NUM_REL s_RECALL_10 s_P_20 s_P_5 s_NUM_RET s_RECALL_100 s_MAP s_P_10)).trans (f0_one p0 s_NUM_Q s_NUM_REL_RET s_RPREC s_NDCG s_BPREF s_NDCG_CUT_10 s_RECIP_RANK s_NUM_REL s_RECALL_10 s_P_20 s_P_5 s_NUM_RET s_RECALL_100 s_MAP s_P_10 ne_NUM_RET ne_NUM_REL ne_NUM_REL_RET ne_MAP ne_RPREC ne_BPREF ne_RECIP_RANK ne_P_5 ne_P_10 ne_P_20 ne_RECALL_10 ne_RECALL_100 ne_NDCG ne_NDCG_CUT_10)), N35⟩
      · by_cases hs42 : (v0_1 p0) = (3 : Int32)
        · have go43 : ∀ t, Steps p.tables e below (s₁.setTop (mkF m 8 #[.val (.int p0), .val (.int (3 : Int32)), .unset, .unset] [])) t → Steps p.tables e below (s₁.setTop (entryFrame m #[(.int p0)] maxLocals)) t := by
            have q := go2
            rw [hs42] at q
            exact q
          have go44 : ∀ t, Steps p.tables e below (s₁.setTop (mkF m 9 #[.val (.int p0), .val (.int (3 : Int32)), .unset, .unset] [(.int (3 : Int32))])) t → Steps p.tables e below (s₁.setTop (entryFrame m #[(.int p0)] maxLocals)) t := by
            intro t k
            refine go43 _ ?_
            refine XS.iloadN X0.here hx rfl (hb hby at_8) rfl ?_
            show Steps p.tables e below (s₁.setTop (mkF m 9 #[.val (.int p0), .val (.int (3 : Int32)), .unset, .unset] [(.int (3 : Int32))])) t
            exact k
          obtain ⟨_, _, ⟨T45, L45, k45, n45⟩, -, X45, ⟨Lc45, hQ45, l45, y45, z45⟩, st45⟩ := Jvm.LawKit.callS X0 hx (y := (⟨"com/example/mirk/mirk/eval/MeasurePerQueryPinLaw", "pick", "(I)Lcom/example/mirk/mirk/eval/Measure;"⟩ : MethodName)) hown (mvT hZ (hw _ (List.mem_of_getElem? (i := 1) rfl))) (mvT hZ (hw _ (List.mem_of_getElem? (i := 2) rfl))) (mvT hZ (hw _ (List.mem_of_getElem? (i := 3) rfl))) (mvT hZ (hw _ (List.mem_of_getElem? (i := 4) rfl))) (by decide) (backOf (W := 0) (rm1 l Z aZ hw [] (3 : Int32) s_NUM_Q s_NUM_RET s_NUM_REL s_NUM_REL_RET s_MAP s_RPREC s_BPREF s_RECIP_RANK s_P_5 s_P_10 s_P_20 s_RECALL_10 s_RECALL_100 s_NDCG s_NDCG_CUT_10 h0 n0 Z0 S_NUM_Q S_NUM_RET S_NUM_REL S_NUM_REL_RET S_MAP S_RPREC S_BPREF S_RECIP_RANK S_P_5 S_P_10 S_P_20 S_RECALL_10 S_RECALL_100 S_NDCG S_NDCG_CUT_10) hZ (hw _ (List.mem_of_getElem? (i := 4) rfl)) (hw _ (List.mem_of_getElem? (i := 3) rfl)) (by decide) (by decide)) (g := (mkF m 9 #[.val (.int p0), .val (.int (3 : Int32)), .unset, .unset] [(.int (3 : Int32))])) rfl (by rw [hml]; rfl) (argsL := [(.int (3 : Int32))]) (rest := []) (lenOf pd_82 rfl) rfl (by show 2 * 0 + _ ≤ _; exact Nat.le_of_eq rfl) (hb hby at_9) (fun _ _ => ⟨rfl, e0, (by decide : 0 + 0 ≤ _), (by decide : 0 + 0 ≤ _)⟩)
          dsimp only [Pt.U, Pt.locs, Pt.cells, Pt.slots] at X45 l45 y45 z45 st45 hQ45
          subst l45 y45 z45
          obtain ⟨rfl, N45q, e45⟩ := hQ45
          have N45 := Fr.app N0 N45q
          have go46 : ∀ t, Steps p.tables e below (T45.setTop (mkF m 12 #[.val (.int p0), .val (.int (3 : Int32)), .unset, .unset] [(.ref s_NUM_REL_RET)])) t → Steps p.tables e below (s₁.setTop (entryFrame m #[(.int p0)] maxLocals)) t := fun t k => go44 _ (st45 _ k)
          have go47 : ∀ t, Steps p.tables e below (T45.setTop (mkF m 24 #[.val (.int p0), .val (.int (3 : Int32)), .val (.ref s_NUM_REL_RET), .val (.int (1 : Int32))] [(.ref s_NUM_REL_RET)])) t → Steps p.tables e below (s₁.setTop (entryFrame m #[(.int p0)] maxLocals)) t := by
            intro t k
            refine go46 _ ?_
            refine XS.astoreN X45.here hx rfl (hb hby at_12) rfl rfl (l' := #[.val (.int p0), .val (.int (3 : Int32)), .val (.ref s_NUM_REL_RET), .unset]) rfl ?_
            show Steps p.tables e below (T45.setTop (mkF m 13 #[.val (.int p0), .val (.int (3 : Int32)), .val (.ref s_NUM_REL_RET), .unset] [])) t
            refine XS.iloadN X45.here hx rfl (hb hby at_13) rfl ?_
            show Steps p.tables e below (T45.setTop (mkF m 14 #[.val (.int p0), .val (.int (3 : Int32)), .val (.ref s_NUM_REL_RET), .unset] [(.int (3 : Int32))])) t
            refine XS.ifNo X45.here hx rfl (hb hby at_14) rfl (XT.i0_eq_f (by decide : ¬ ((3 : Int32) = (0 : Int32)))) ?_
            show Steps p.tables e below (T45.setTop (mkF m 17 #[.val (.int p0), .val (.int (3 : Int32)), .val (.ref s_NUM_REL_RET), .unset] [])) t
            refine XS.iconst X45.here hx rfl (hb hby at_17) ?_
            show Steps p.tables e below (T45.setTop (mkF m 18 #[.val (.int p0), .val (.int (3 : Int32)), .val (.ref s_NUM_REL_RET), .unset] [(.int (1 : Int32))])) t
            refine XS.goto X45.here hx rfl (pc0 := 18) (pc' := 22) rfl (hb hby at_18) (by decide) (by decide) ?_
            show Steps p.tables e below (T45.setTop (mkF m 22 #[.val (.int p0), .val (.int (3 : Int32)), .val (.ref s_NUM_REL_RET), .unset] [(.int (1 : Int32))])) t
            refine XS.istoreN X45.here hx rfl (hb hby at_22) rfl (l' := #[.val (.int p0), .val (.int (3 : Int32)), .val (.ref s_NUM_REL_RET), .val (.int (1 : Int32))]) rfl ?_
            show Steps p.tables e below (T45.setTop (mkF m 23 #[.val (.int p0), .val (.int (3 : Int32)), .val (.ref s_NUM_REL_RET), .val (.int (1 : Int32))] [])) t
            refine XS.aloadN X45.here hx rfl (hb hby at_23) rfl rfl ?_
            show Steps p.tables e below (T45.setTop (mkF m 24 #[.val (.int p0), .val (.int (3 : Int32)), .val (.ref s_NUM_REL_RET), .val (.int (1 : Int32))] [(.ref s_NUM_REL_RET)])) t
            exact k
          obtain ⟨cq48, kq48, q48a, q48b, q48c⟩ := isOf hZ e45 E_NUM_REL_RET
          obtain ⟨_, _, ⟨T48, L48, k48, n48⟩, -, X48, ⟨Lc48, hQ48, l48, y48, z48⟩, st48⟩ := X45.virtualBack hx (y := (⟨"com/example/mirk/mirk/eval/Measure", "perQuery", "()Z"⟩ : MethodName)) (z := (⟨"com/example/mirk/mirk/eval/Measure", "perQuery", "()Z"⟩ : MethodName)) hown (mvT hZ (hw _ (List.mem_of_getElem? (i := 8) rfl))) (mvT hZ (hw _ (List.mem_of_getElem? (i := 9) rfl))) (notFace_of_selects (args := #[]) (mvT hZ (hw _ (List.mem_of_getElem? (i := 11) rfl)))) (mvT hZ (hw _ (List.mem_of_getElem? (i := 11) rfl))) (mvT hZ (hw _ (List.mem_of_getElem? (i := 10) rfl))) (by decide) (backOf (W := 0) (rm2 l Z aZ hw [] s_NUM_REL_RET s_NUM_Q h0 n0 Z0 S_NUM_Q) hZ (hw _ (List.mem_of_getElem? (i := 12) rfl)) (hw _ (List.mem_of_getElem? (i := 6) rfl)) (by decide) (by decide)) q48a q48c (g := (mkF m 24 #[.val (.int p0), .val (.int (3 : Int32)), .val (.ref s_NUM_REL_RET), .val (.int (1 : Int32))] [(.ref s_NUM_REL_RET)])) rfl (by rw [hml]; rfl) (Steps.refl _) (argsL := []) (rest := []) (lenOf pd_83 rfl) rfl (by show 2 * 0 + _ ≤ _; exact Nat.le_of_eq rfl) (hb hby at_24) (fun _ _ => ⟨rfl, e45, (by decide : 0 + 0 ≤ _), (by decide : 0 + 0 ≤ _)⟩)
          dsimp only [Pt.U, Pt.locs, Pt.cells, Pt.slots] at X48 l48 y48 z48 st48 hQ48
          subst l48 y48 z48
          obtain ⟨rfl, N48q, e48⟩ := hQ48
          have N48 := Fr.app N45 N48q
          have go49 : ∀ t, Steps p.tables e below (T48.setTop (mkF m 27 #[.val (.int p0), .val (.int (3 : Int32)), .val (.ref s_NUM_REL_RET), .val (.int (1 : Int32))] [(.int (f2 s_NUM_REL_RET s_NUM_Q))])) t → Steps p.tables e below (s₁.setTop (entryFrame m #[(.int p0)] maxLocals)) t := fun t k => go47 _ (st48.trans k)
          have go51 : ∀ t, Steps p.tables e below (T48.setTop (mkF m 36 #[.val (.int p0), .val (.int (3 : Int32)), .val (.ref s_NUM_REL_RET), .val (.int (1 : Int32))] [(.int (b0_52 s_NUM_Q s_NUM_REL_RET))])) t → Steps p.tables e below (s₁.setTop (entryFrame m #[(.int p0)] maxLocals)) t := by
            intro t k
            refine go49 _ ?_
            refine XS.iloadN X48.here hx rfl (hb hby at_27) rfl ?_
            show Steps p.tables e below (T48.setTop (mkF m 28 #[.val (.int p0), .val (.int (3 : Int32)), .val (.ref s_NUM_REL_RET), .val (.int (1 : Int32))] [(.int (1 : Int32)), (.int (f2 s_NUM_REL_RET s_NUM_Q))])) t
            by_cases hc50 : (f2 s_NUM_REL_RET s_NUM_Q) = (1 : Int32)
            · refine XS.icmpNo X48.here hx rfl (hb hby at_28) rfl (XT.ii_ne_f hc50) ?_
              show Steps p.tables e below (T48.setTop (mkF m 31 #[.val (.int p0), .val (.int (3 : Int32)), .val (.ref s_NUM_REL_RET), .val (.int (1 : Int32))] [])) t
              refine XS.iconst X48.here hx rfl (hb hby at_31) ?_
              show Steps p.tables e below (T48.setTop (mkF m 32 #[.val (.int p0), .val (.int (3 : Int32)), .val (.ref s_NUM_REL_RET), .val (.int (1 : Int32))] [(.int (1 : Int32))])) t
              refine XS.goto X48.here hx rfl (pc0 := 32) (pc' := 36) rfl (hb hby at_32) (by decide) (by decide) ?_
              show Steps p.tables e below (T48.setTop (mkF m 36 #[.val (.int p0), .val (.int (3 : Int32)), .val (.ref s_NUM_REL_RET), .val (.int (1 : Int32))] [(.int (1 : Int32))])) t
              have hq53 : (b0_52 s_NUM_Q s_NUM_REL_RET) = (1 : Int32) := by rw [b0_52, if_pos hc50]
              rw [hq53] at k
              exact k
            · refine XS.icmpYes X48.here hx rfl (pc0 := 28) (pc' := 35) rfl (hb hby at_28) rfl (XT.ii_ne_t hc50) (by decide) (by decide) ?_
              show Steps p.tables e below (T48.setTop (mkF m 35 #[.val (.int p0), .val (.int (3 : Int32)), .val (.ref s_NUM_REL_RET), .val (.int (1 : Int32))] [])) t
              refine XS.iconst X48.here hx rfl (hb hby at_35) ?_
              show Steps p.tables e below (T48.setTop (mkF m 36 #[.val (.int p0), .val (.int (3 : Int32)), .val (.ref s_NUM_REL_RET), .val (.int (1 : Int32))] [(.int (0 : Int32))])) t
              have hq54 : (b0_52 s_NUM_Q s_NUM_REL_RET) = (0 : Int32) := by rw [b0_52, if_neg hc50]
              rw [hq54] at k
              exact k
          obtain ⟨fs, hr, hrun, hended, hW, hsame⟩ := X48.leave (v := some (.int (b0_52 s_NUM_Q s_NUM_REL_RET))) (fun h => by rw [Bd.returns] at h; cases h)
          refine ⟨_, _, go51 _ (Jvm.RoadKit.retOut X48 hx Bd.returns (own_nz (by unfold b0_52; (repeat' split) <;> first | exact Or.inl rfl | exact Or.inr rfl)) (Or.inl ⟨rfl, Or.inr (Or.inl rfl), _, rfl⟩) (hb hby at_36) hr), hrun, hended, _, _, rfl, ?_, ⟨_, rfl⟩, hW, hsame.mono (by decide) (by decide)⟩
          show Q0 _ _ p0 s_NUM_Q s_NUM_REL_RET s_RPREC s_NDCG s_BPREF s_NDCG_CUT_10 s_RECIP_RANK s_NUM_REL s_RECALL_10 s_P_20 s_P_5 s_NUM_RET s_RECALL_100 s_MAP s_P_10 h0 _ (T48.setFrames fs).heap _
          have hE : (T48.setFrames fs).heap = h0 := e48
          rw [hE]
          exact ⟨congrArg (fun z => some (Value.int z)) ((by rw [f0, if_neg hs3, if_neg hs16, if_neg hs29, if_pos hs42] : (b0_52 s_NUM_Q s_NUM_REL_RET) = (f0 p0 s_NUM_Q s_NUM_REL_RET s_RPREC s_NDCG s_BPREF s_NDCG_CUT_10 s_RECIP_RANK s_NUM_REL s_RECALL_10 s_P_20 s_P_5 s_NUM_RET s_RECALL_100 s_MAP s_P_10)).trans (f0_one p0 s_NUM_Q s_NUM_REL_RET s_RPREC s_NDCG s_BPREF s_NDCG_CUT_10 s_RECIP_RANK s_NUM_REL s_RECALL_10 s_P_20 s_P_5 s_NUM_RET s_RECALL_100 s_MAP s_P_10 ne_NUM_RET ne_NUM_REL ne_NUM_REL_RET ne_MAP ne_RPREC ne_BPREF ne_RECIP_RANK ne_P_5 ne_P_10 ne_P_20 ne_RECALL_10 ne_RECALL_100 ne_NDCG ne_NDCG_CUT_10)), N48⟩
        · by_cases hs55 : (v0_1 p0) = (4 : Int32)
          · have go56 : ∀ t, Steps p.tables e below (s₁.setTop (mkF m 8 #[.val (.int p0), .val (.int (4 : Int32)), .unset, .unset] [])) t → Steps p.tables e below (s₁.setTop (entryFrame m #[(.int p0)] maxLocals)) t := by
              have q := go2
              rw [hs55] at q
              exact q
            have go57 : ∀ t, Steps p.tables e below (s₁.setTop (mkF m 9 #[.val (.int p0), .val (.int (4 : Int32)), .unset, .unset] [(.int (4 : Int32))])) t → Steps p.tables e below (s₁.setTop (entryFrame m #[(.int p0)] maxLocals)) t := by
              intro t k
              refine go56 _ ?_
              refine XS.iloadN X0.here hx rfl (hb hby at_8) rfl ?_
              show Steps p.tables e below (s₁.setTop (mkF m 9 #[.val (.int p0), .val (.int (4 : Int32)), .unset, .unset] [(.int (4 : Int32))])) t
              exact k
            obtain ⟨_, _, ⟨T58, L58, k58, n58⟩, -, X58, ⟨Lc58, hQ58, l58, y58, z58⟩, st58⟩ := Jvm.LawKit.callS X0 hx (y := (⟨"com/example/mirk/mirk/eval/MeasurePerQueryPinLaw", "pick", "(I)Lcom/example/mirk/mirk/eval/Measure;"⟩ : MethodName)) hown (mvT hZ (hw _ (List.mem_of_getElem? (i := 1) rfl))) (mvT hZ (hw _ (List.mem_of_getElem? (i := 2) rfl))) (mvT hZ (hw _ (List.mem_of_getElem? (i := 3) rfl))) (mvT hZ (hw _ (List.mem_of_getElem? (i := 4) rfl))) (by decide) (backOf (W := 0) (rm1 l Z aZ hw [] (4 : Int32) s_NUM_Q s_NUM_RET s_NUM_REL s_NUM_REL_RET s_MAP s_RPREC s_BPREF s_RECIP_RANK s_P_5 s_P_10 s_P_20 s_RECALL_10 s_RECALL_100 s_NDCG s_NDCG_CUT_10 h0 n0 Z0 S_NUM_Q S_NUM_RET S_NUM_REL S_NUM_REL_RET S_MAP S_RPREC S_BPREF S_RECIP_RANK S_P_5 S_P_10 S_P_20 S_RECALL_10 S_RECALL_100 S_NDCG S_NDCG_CUT_10) hZ (hw _ (List.mem_of_getElem? (i := 4) rfl)) (hw _ (List.mem_of_getElem? (i := 3) rfl)) (by decide) (by decide)) (g := (mkF m 9 #[.val (.int p0), .val (.int (4 : Int32)), .unset, .unset] [(.int (4 : Int32))])) rfl (by rw [hml]; rfl) (argsL := [(.int (4 : Int32))]) (rest := []) (lenOf pd_82 rfl) rfl (by show 2 * 0 + _ ≤ _; exact Nat.le_of_eq rfl) (hb hby at_9) (fun _ _ => ⟨rfl, e0, (by decide : 0 + 0 ≤ _), (by decide : 0 + 0 ≤ _)⟩)
            dsimp only [Pt.U, Pt.locs, Pt.cells, Pt.slots] at X58 l58 y58 z58 st58 hQ58
            subst l58 y58 z58
            obtain ⟨rfl, N58q, e58⟩ := hQ58
            have N58 := Fr.app N0 N58q
            have go59 : ∀ t, Steps p.tables e below (T58.setTop (mkF m 12 #[.val (.int p0), .val (.int (4 : Int32)), .unset, .unset] [(.ref s_MAP)])) t → Steps p.tables e below (s₁.setTop (entryFrame m #[(.int p0)] maxLocals)) t := fun t k => go57 _ (st58 _ k)
            have go60 : ∀ t, Steps p.tables e below (T58.setTop (mkF m 24 #[.val (.int p0), .val (.int (4 : Int32)), .val (.ref s_MAP), .val (.int (1 : Int32))] [(.ref s_MAP)])) t → Steps p.tables e below (s₁.setTop (entryFrame m #[(.int p0)] maxLocals)) t := by
              intro t k
              refine go59 _ ?_
              refine XS.astoreN X58.here hx rfl (hb hby at_12) rfl rfl (l' := #[.val (.int p0), .val (.int (4 : Int32)), .val (.ref s_MAP), .unset]) rfl ?_
              show Steps p.tables e below (T58.setTop (mkF m 13 #[.val (.int p0), .val (.int (4 : Int32)), .val (.ref s_MAP), .unset] [])) t
              refine XS.iloadN X58.here hx rfl (hb hby at_13) rfl ?_
              show Steps p.tables e below (T58.setTop (mkF m 14 #[.val (.int p0), .val (.int (4 : Int32)), .val (.ref s_MAP), .unset] [(.int (4 : Int32))])) t
              refine XS.ifNo X58.here hx rfl (hb hby at_14) rfl (XT.i0_eq_f (by decide : ¬ ((4 : Int32) = (0 : Int32)))) ?_
              show Steps p.tables e below (T58.setTop (mkF m 17 #[.val (.int p0), .val (.int (4 : Int32)), .val (.ref s_MAP), .unset] [])) t
              refine XS.iconst X58.here hx rfl (hb hby at_17) ?_
              show Steps p.tables e below (T58.setTop (mkF m 18 #[.val (.int p0), .val (.int (4 : Int32)), .val (.ref s_MAP), .unset] [(.int (1 : Int32))])) t
              refine XS.goto X58.here hx rfl (pc0 := 18) (pc' := 22) rfl (hb hby at_18) (by decide) (by decide) ?_
              show Steps p.tables e below (T58.setTop (mkF m 22 #[.val (.int p0), .val (.int (4 : Int32)), .val (.ref s_MAP), .unset] [(.int (1 : Int32))])) t
              refine XS.istoreN X58.here hx rfl (hb hby at_22) rfl (l' := #[.val (.int p0), .val (.int (4 : Int32)), .val (.ref s_MAP), .val (.int (1 : Int32))]) rfl ?_
              show Steps p.tables e below (T58.setTop (mkF m 23 #[.val (.int p0), .val (.int (4 : Int32)), .val (.ref s_MAP), .val (.int (1 : Int32))] [])) t
              refine XS.aloadN X58.here hx rfl (hb hby at_23) rfl rfl ?_
              show Steps p.tables e below (T58.setTop (mkF m 24 #[.val (.int p0), .val (.int (4 : Int32)), .val (.ref s_MAP), .val (.int (1 : Int32))] [(.ref s_MAP)])) t
              exact k
            obtain ⟨cq61, kq61, q61a, q61b, q61c⟩ := isOf hZ e58 E_MAP
            obtain ⟨_, _, ⟨T61, L61, k61, n61⟩, -, X61, ⟨Lc61, hQ61, l61, y61, z61⟩, st61⟩ := X58.virtualBack hx (y := (⟨"com/example/mirk/mirk/eval/Measure", "perQuery", "()Z"⟩ : MethodName)) (z := (⟨"com/example/mirk/mirk/eval/Measure", "perQuery", "()Z"⟩ : MethodName)) hown (mvT hZ (hw _ (List.mem_of_getElem? (i := 8) rfl))) (mvT hZ (hw _ (List.mem_of_getElem? (i := 9) rfl))) (notFace_of_selects (args := #[]) (mvT hZ (hw _ (List.mem_of_getElem? (i := 11) rfl)))) (mvT hZ (hw _ (List.mem_of_getElem? (i := 11) rfl))) (mvT hZ (hw _ (List.mem_of_getElem? (i := 10) rfl))) (by decide) (backOf (W := 0) (rm2 l Z aZ hw [] s_MAP s_NUM_Q h0 n0 Z0 S_NUM_Q) hZ (hw _ (List.mem_of_getElem? (i := 12) rfl)) (hw _ (List.mem_of_getElem? (i := 6) rfl)) (by decide) (by decide)) q61a q61c (g := (mkF m 24 #[.val (.int p0), .val (.int (4 : Int32)), .val (.ref s_MAP), .val (.int (1 : Int32))] [(.ref s_MAP)])) rfl (by rw [hml]; rfl) (Steps.refl _) (argsL := []) (rest := []) (lenOf pd_83 rfl) rfl (by show 2 * 0 + _ ≤ _; exact Nat.le_of_eq rfl) (hb hby at_24) (fun _ _ => ⟨rfl, e58, (by decide : 0 + 0 ≤ _), (by decide : 0 + 0 ≤ _)⟩)
            dsimp only [Pt.U, Pt.locs, Pt.cells, Pt.slots] at X61 l61 y61 z61 st61 hQ61
            subst l61 y61 z61
            obtain ⟨rfl, N61q, e61⟩ := hQ61
            have N61 := Fr.app N58 N61q
            have go62 : ∀ t, Steps p.tables e below (T61.setTop (mkF m 27 #[.val (.int p0), .val (.int (4 : Int32)), .val (.ref s_MAP), .val (.int (1 : Int32))] [(.int (f2 s_MAP s_NUM_Q))])) t → Steps p.tables e below (s₁.setTop (entryFrame m #[(.int p0)] maxLocals)) t := fun t k => go60 _ (st61.trans k)
            have go64 : ∀ t, Steps p.tables e below (T61.setTop (mkF m 36 #[.val (.int p0), .val (.int (4 : Int32)), .val (.ref s_MAP), .val (.int (1 : Int32))] [(.int (b0_65 s_NUM_Q s_MAP))])) t → Steps p.tables e below (s₁.setTop (entryFrame m #[(.int p0)] maxLocals)) t := by
              intro t k
              refine go62 _ ?_
              refine XS.iloadN X61.here hx rfl (hb hby at_27) rfl ?_
              show Steps p.tables e below (T61.setTop (mkF m 28 #[.val (.int p0), .val (.int (4 : Int32)), .val (.ref s_MAP), .val (.int (1 : Int32))] [(.int (1 : Int32)), (.int (f2 s_MAP s_NUM_Q))])) t
              by_cases hc63 : (f2 s_MAP s_NUM_Q) = (1 : Int32)
              · refine XS.icmpNo X61.here hx rfl (hb hby at_28) rfl (XT.ii_ne_f hc63) ?_
                show Steps p.tables e below (T61.setTop (mkF m 31 #[.val (.int p0), .val (.int (4 : Int32)), .val (.ref s_MAP), .val (.int (1 : Int32))] [])) t
                refine XS.iconst X61.here hx rfl (hb hby at_31) ?_
                show Steps p.tables e below (T61.setTop (mkF m 32 #[.val (.int p0), .val (.int (4 : Int32)), .val (.ref s_MAP), .val (.int (1 : Int32))] [(.int (1 : Int32))])) t
                refine XS.goto X61.here hx rfl (pc0 := 32) (pc' := 36) rfl (hb hby at_32) (by decide) (by decide) ?_
                show Steps p.tables e below (T61.setTop (mkF m 36 #[.val (.int p0), .val (.int (4 : Int32)), .val (.ref s_MAP), .val (.int (1 : Int32))] [(.int (1 : Int32))])) t
                have hq66 : (b0_65 s_NUM_Q s_MAP) = (1 : Int32) := by rw [b0_65, if_pos hc63]
                rw [hq66] at k
                exact k
              · refine XS.icmpYes X61.here hx rfl (pc0 := 28) (pc' := 35) rfl (hb hby at_28) rfl (XT.ii_ne_t hc63) (by decide) (by decide) ?_
                show Steps p.tables e below (T61.setTop (mkF m 35 #[.val (.int p0), .val (.int (4 : Int32)), .val (.ref s_MAP), .val (.int (1 : Int32))] [])) t
                refine XS.iconst X61.here hx rfl (hb hby at_35) ?_
                show Steps p.tables e below (T61.setTop (mkF m 36 #[.val (.int p0), .val (.int (4 : Int32)), .val (.ref s_MAP), .val (.int (1 : Int32))] [(.int (0 : Int32))])) t
                have hq67 : (b0_65 s_NUM_Q s_MAP) = (0 : Int32) := by rw [b0_65, if_neg hc63]
                rw [hq67] at k
                exact k
            obtain ⟨fs, hr, hrun, hended, hW, hsame⟩ := X61.leave (v := some (.int (b0_65 s_NUM_Q s_MAP))) (fun h => by rw [Bd.returns] at h; cases h)
            refine ⟨_, _, go64 _ (Jvm.RoadKit.retOut X61 hx Bd.returns (own_nz (by unfold b0_65; (repeat' split) <;> first | exact Or.inl rfl | exact Or.inr rfl)) (Or.inl ⟨rfl, Or.inr (Or.inl rfl), _, rfl⟩) (hb hby at_36) hr), hrun, hended, _, _, rfl, ?_, ⟨_, rfl⟩, hW, hsame.mono (by decide) (by decide)⟩
            show Q0 _ _ p0 s_NUM_Q s_NUM_REL_RET s_RPREC s_NDCG s_BPREF s_NDCG_CUT_10 s_RECIP_RANK s_NUM_REL s_RECALL_10 s_P_20 s_P_5 s_NUM_RET s_RECALL_100 s_MAP s_P_10 h0 _ (T61.setFrames fs).heap _
            have hE : (T61.setFrames fs).heap = h0 := e61
            rw [hE]
            exact ⟨congrArg (fun z => some (Value.int z)) ((by rw [f0, if_neg hs3, if_neg hs16, if_neg hs29, if_neg hs42, if_pos hs55] : (b0_65 s_NUM_Q s_MAP) = (f0 p0 s_NUM_Q s_NUM_REL_RET s_RPREC s_NDCG s_BPREF s_NDCG_CUT_10 s_RECIP_RANK s_NUM_REL s_RECALL_10 s_P_20 s_P_5 s_NUM_RET s_RECALL_100 s_MAP s_P_10)).trans (f0_one p0 s_NUM_Q s_NUM_REL_RET s_RPREC s_NDCG s_BPREF s_NDCG_CUT_10 s_RECIP_RANK s_NUM_REL s_RECALL_10 s_P_20 s_P_5 s_NUM_RET s_RECALL_100 s_MAP s_P_10 ne_NUM_RET ne_NUM_REL ne_NUM_REL_RET ne_MAP ne_RPREC ne_BPREF ne_RECIP_RANK ne_P_5 ne_P_10 ne_P_20 ne_RECALL_10 ne_RECALL_100 ne_NDCG ne_NDCG_CUT_10)), N61⟩
          · by_cases hs68 : (v0_1 p0) = (5 : Int32)
            · have go69 : ∀ t, Steps p.tables e below (s₁.setTop (mkF m 8 #[.val (.int p0), .val (.int (5 : Int32)), .unset, .unset] [])) t → Steps p.tables e below (s₁.setTop (entryFrame m #[(.int p0)] maxLocals)) t := by
                have q := go2
                rw [hs68] at q
                exact q
              have go70 : ∀ t, Steps p.tables e below (s₁.setTop (mkF m 9 #[.val (.int p0), .val (.int (5 : Int32)), .unset, .unset] [(.int (5 : Int32))])) t → Steps p.tables e below (s₁.setTop (entryFrame m #[(.int p0)] maxLocals)) t := by
                intro t k
                refine go69 _ ?_
                refine XS.iloadN X0.here hx rfl (hb hby at_8) rfl ?_
                show Steps p.tables e below (s₁.setTop (mkF m 9 #[.val (.int p0), .val (.int (5 : Int32)), .unset, .unset] [(.int (5 : Int32))])) t
                exact k
              obtain ⟨_, _, ⟨T71, L71, k71, n71⟩, -, X71, ⟨Lc71, hQ71, l71, y71, z71⟩, st71⟩ := Jvm.LawKit.callS X0 hx (y := (⟨"com/example/mirk/mirk/eval/MeasurePerQueryPinLaw", "pick", "(I)Lcom/example/mirk/mirk/eval/Measure;"⟩ : MethodName)) hown (mvT hZ (hw _ (List.mem_of_getElem? (i := 1) rfl))) (mvT hZ (hw _ (List.mem_of_getElem? (i := 2) rfl))) (mvT hZ (hw _ (List.mem_of_getElem? (i := 3) rfl))) (mvT hZ (hw _ (List.mem_of_getElem? (i := 4) rfl))) (by decide) (backOf (W := 0) (rm1 l Z aZ hw [] (5 : Int32) s_NUM_Q s_NUM_RET s_NUM_REL s_NUM_REL_RET s_MAP s_RPREC s_BPREF s_RECIP_RANK s_P_5 s_P_10 s_P_20 s_RECALL_10 s_RECALL_100 s_NDCG s_NDCG_CUT_10 h0 n0 Z0 S_NUM_Q S_NUM_RET S_NUM_REL S_NUM_REL_RET S_MAP S_RPREC S_BPREF S_RECIP_RANK S_P_5 S_P_10 S_P_20 S_RECALL_10 S_RECALL_100 S_NDCG S_NDCG_CUT_10) hZ (hw _ (List.mem_of_getElem? (i := 4) rfl)) (hw _ (List.mem_of_getElem? (i := 3) rfl)) (by decide) (by decide)) (g := (mkF m 9 #[.val (.int p0), .val (.int (5 : Int32)), .unset, .unset] [(.int (5 : Int32))])) rfl (by rw [hml]; rfl) (argsL := [(.int (5 : Int32))]) (rest := []) (lenOf pd_82 rfl) rfl (by show 2 * 0 + _ ≤ _; exact Nat.le_of_eq rfl) (hb hby at_9) (fun _ _ => ⟨rfl, e0, (by decide : 0 + 0 ≤ _), (by decide : 0 + 0 ≤ _)⟩)
              dsimp only [Pt.U, Pt.locs, Pt.cells, Pt.slots] at X71 l71 y71 z71 st71 hQ71
              subst l71 y71 z71
              obtain ⟨rfl, N71q, e71⟩ := hQ71
              have N71 := Fr.app N0 N71q
              have go72 : ∀ t, Steps p.tables e below (T71.setTop (mkF m 12 #[.val (.int p0), .val (.int (5 : Int32)), .unset, .unset] [(.ref s_RPREC)])) t → Steps p.tables e below (s₁.setTop (entryFrame m #[(.int p0)] maxLocals)) t := fun t k => go70 _ (st71 _ k)
              have go73 : ∀ t, Steps p.tables e below (T71.setTop (mkF m 24 #[.val (.int p0), .val (.int (5 : Int32)), .val (.ref s_RPREC), .val (.int (1 : Int32))] [(.ref s_RPREC)])) t → Steps p.tables e below (s₁.setTop (entryFrame m #[(.int p0)] maxLocals)) t := by
                intro t k
                refine go72 _ ?_
                refine XS.astoreN X71.here hx rfl (hb hby at_12) rfl rfl (l' := #[.val (.int p0), .val (.int (5 : Int32)), .val (.ref s_RPREC), .unset]) rfl ?_
                show Steps p.tables e below (T71.setTop (mkF m 13 #[.val (.int p0), .val (.int (5 : Int32)), .val (.ref s_RPREC), .unset] [])) t
                refine XS.iloadN X71.here hx rfl (hb hby at_13) rfl ?_
                show Steps p.tables e below (T71.setTop (mkF m 14 #[.val (.int p0), .val (.int (5 : Int32)), .val (.ref s_RPREC), .unset] [(.int (5 : Int32))])) t
                refine XS.ifNo X71.here hx rfl (hb hby at_14) rfl (XT.i0_eq_f (by decide : ¬ ((5 : Int32) = (0 : Int32)))) ?_
                show Steps p.tables e below (T71.setTop (mkF m 17 #[.val (.int p0), .val (.int (5 : Int32)), .val (.ref s_RPREC), .unset] [])) t
                refine XS.iconst X71.here hx rfl (hb hby at_17) ?_
                show Steps p.tables e below (T71.setTop (mkF m 18 #[.val (.int p0), .val (.int (5 : Int32)), .val (.ref s_RPREC), .unset] [(.int (1 : Int32))])) t
                refine XS.goto X71.here hx rfl (pc0 := 18) (pc' := 22) rfl (hb hby at_18) (by decide) (by decide) ?_
                show Steps p.tables e below (T71.setTop (mkF m 22 #[.val (.int p0), .val (.int (5 : Int32)), .val (.ref s_RPREC), .unset] [(.int (1 : Int32))])) t
                refine XS.istoreN X71.here hx rfl (hb hby at_22) rfl (l' := #[.val (.int p0), .val (.int (5 : Int32)), .val (.ref s_RPREC), .val (.int (1 : Int32))]) rfl ?_
                show Steps p.tables e below (T71.setTop (mkF m 23 #[.val (.int p0), .val (.int (5 : Int32)), .val (.ref s_RPREC), .val (.int (1 : Int32))] [])) t
                refine XS.aloadN X71.here hx rfl (hb hby at_23) rfl rfl ?_
                show Steps p.tables e below (T71.setTop (mkF m 24 #[.val (.int p0), .val (.int (5 : Int32)), .val (.ref s_RPREC), .val (.int (1 : Int32))] [(.ref s_RPREC)])) t
                exact k
              obtain ⟨cq74, kq74, q74a, q74b, q74c⟩ := isOf hZ e71 E_RPREC
              obtain ⟨_, _, ⟨T74, L74, k74, n74⟩, -, X74, ⟨Lc74, hQ74, l74, y74, z74⟩, st74⟩ := X71.virtualBack hx (y := (⟨"com/example/mirk/mirk/eval/Measure", "perQuery", "()Z"⟩ : MethodName)) (z := (⟨"com/example/mirk/mirk/eval/Measure", "perQuery", "()Z"⟩ : MethodName)) hown (mvT hZ (hw _ (List.mem_of_getElem? (i := 8) rfl))) (mvT hZ (hw _ (List.mem_of_getElem? (i := 9) rfl))) (notFace_of_selects (args := #[]) (mvT hZ (hw _ (List.mem_of_getElem? (i := 11) rfl)))) (mvT hZ (hw _ (List.mem_of_getElem? (i := 11) rfl))) (mvT hZ (hw _ (List.mem_of_getElem? (i := 10) rfl))) (by decide) (backOf (W := 0) (rm2 l Z aZ hw [] s_RPREC s_NUM_Q h0 n0 Z0 S_NUM_Q) hZ (hw _ (List.mem_of_getElem? (i := 12) rfl)) (hw _ (List.mem_of_getElem? (i := 6) rfl)) (by decide) (by decide)) q74a q74c (g := (mkF m 24 #[.val (.int p0), .val (.int (5 : Int32)), .val (.ref s_RPREC), .val (.int (1 : Int32))] [(.ref s_RPREC)])) rfl (by rw [hml]; rfl) (Steps.refl _) (argsL := []) (rest := []) (lenOf pd_83 rfl) rfl (by show 2 * 0 + _ ≤ _; exact Nat.le_of_eq rfl) (hb hby at_24) (fun _ _ => ⟨rfl, e71, (by decide : 0 + 0 ≤ _), (by decide : 0 + 0 ≤ _)⟩)
              dsimp only [Pt.U, Pt.locs, Pt.cells, Pt.slots] at X74 l74 y74 z74 st74 hQ74
              subst l74 y74 z74
              obtain ⟨rfl, N74q, e74⟩ := hQ74
              have N74 := Fr.app N71 N74q
              have go75 : ∀ t, Steps p.tables e below (T74.setTop (mkF m 27 #[.val (.int p0), .val (.int (5 : Int32)), .val (.ref s_RPREC), .val (.int (1 : Int32))] [(.int (f2 s_RPREC s_NUM_Q))])) t → Steps p.tables e below (s₁.setTop (entryFrame m #[(.int p0)] maxLocals)) t := fun t k => go73 _ (st74.trans k)
              have go77 : ∀ t, Steps p.tables e below (T74.setTop (mkF m 36 #[.val (.int p0), .val (.int (5 : Int32)), .val (.ref s_RPREC), .val (.int (1 : Int32))] [(.int (b0_78 s_NUM_Q s_RPREC))])) t → Steps p.tables e below (s₁.setTop (entryFrame m #[(.int p0)] maxLocals)) t := by
                intro t k
                refine go75 _ ?_
                refine XS.iloadN X74.here hx rfl (hb hby at_27) rfl ?_
                show Steps p.tables e below (T74.setTop (mkF m 28 #[.val (.int p0), .val (.int (5 : Int32)), .val (.ref s_RPREC), .val (.int (1 : Int32))] [(.int (1 : Int32)), (.int (f2 s_RPREC s_NUM_Q))])) t
                by_cases hc76 : (f2 s_RPREC s_NUM_Q) = (1 : Int32)
                · refine XS.icmpNo X74.here hx rfl (hb hby at_28) rfl (XT.ii_ne_f hc76) ?_
                  show Steps p.tables e below (T74.setTop (mkF m 31 #[.val (.int p0), .val (.int (5 : Int32)), .val (.ref s_RPREC), .val (.int (1 : Int32))] [])) t
                  refine XS.iconst X74.here hx rfl (hb hby at_31) ?_
                  show Steps p.tables e below (T74.setTop (mkF m 32 #[.val (.int p0), .val (.int (5 : Int32)), .val (.ref s_RPREC), .val (.int (1 : Int32))] [(.int (1 : Int32))])) t
                  refine XS.goto X74.here hx rfl (pc0 := 32) (pc' := 36) rfl (hb hby at_32) (by decide) (by decide) ?_
                  show Steps p.tables e below (T74.setTop (mkF m 36 #[.val (.int p0), .val (.int (5 : Int32)), .val (.ref s_RPREC), .val (.int (1 : Int32))] [(.int (1 : Int32))])) t
                  have hq79 : (b0_78 s_NUM_Q s_RPREC) = (1 : Int32) := by rw [b0_78, if_pos hc76]
                  rw [hq79] at k
                  exact k
                · refine XS.icmpYes X74.here hx rfl (pc0 := 28) (pc' := 35) rfl (hb hby at_28) rfl (XT.ii_ne_t hc76) (by decide) (by decide) ?_
                  show Steps p.tables e below (T74.setTop (mkF m 35 #[.val (.int p0), .val (.int (5 : Int32)), .val (.ref s_RPREC), .val (.int (1 : Int32))] [])) t
                  refine XS.iconst X74.here hx rfl (hb hby at_35) ?_
                  show Steps p.tables e below (T74.setTop (mkF m 36 #[.val (.int p0), .val (.int (5 : Int32)), .val (.ref s_RPREC), .val (.int (1 : Int32))] [(.int (0 : Int32))])) t
                  have hq80 : (b0_78 s_NUM_Q s_RPREC) = (0 : Int32) := by rw [b0_78, if_neg hc76]
                  rw [hq80] at k
                  exact k
              obtain ⟨fs, hr, hrun, hended, hW, hsame⟩ := X74.leave (v := some (.int (b0_78 s_NUM_Q s_RPREC))) (fun h => by rw [Bd.returns] at h; cases h)
              refine ⟨_, _, go77 _ (Jvm.RoadKit.retOut X74 hx Bd.returns (own_nz (by unfold b0_78; (repeat' split) <;> first | exact Or.inl rfl | exact Or.inr rfl)) (Or.inl ⟨rfl, Or.inr (Or.inl rfl), _, rfl⟩) (hb hby at_36) hr), hrun, hended, _, _, rfl, ?_, ⟨_, rfl⟩, hW, hsame.mono (by decide) (by decide)⟩
              show Q0 _ _ p0 s_NUM_Q s_NUM_REL_RET s_RPREC s_NDCG s_BPREF s_NDCG_CUT_10 s_RECIP_RANK s_NUM_REL s_RECALL_10 s_P_20 s_P_5 s_NUM_RET s_RECALL_100 s_MAP s_P_10 h0 _ (T74.setFrames fs).heap _
              have hE : (T74.setFrames fs).heap = h0 := e74
              rw [hE]
              exact ⟨congrArg (fun z => some (Value.int z)) ((by rw [f0, if_neg hs3, if_neg hs16, if_neg hs29, if_neg hs42, if_neg hs55, if_pos hs68] : (b0_78 s_NUM_Q s_RPREC) = (f0 p0 s_NUM_Q s_NUM_REL_RET s_RPREC s_NDCG s_BPREF s_NDCG_CUT_10 s_RECIP_RANK s_NUM_REL s_RECALL_10 s_P_20 s_P_5 s_NUM_RET s_RECALL_100 s_MAP s_P_10)).trans (f0_one p0 s_NUM_Q s_NUM_REL_RET s_RPREC s_NDCG s_BPREF s_NDCG_CUT_10 s_RECIP_RANK s_NUM_REL s_RECALL_10 s_P_20 s_P_5 s_NUM_RET s_RECALL_100 s_MAP s_P_10 ne_NUM_RET ne_NUM_REL ne_NUM_REL_RET ne_MAP ne_RPREC ne_BPREF ne_RECIP_RANK ne_P_5 ne_P_10 ne_P_20 ne_RECALL_10 ne_RECALL_100 ne_NDCG ne_NDCG_CUT_10)), N74⟩
            · by_cases hs81 : (v0_1 p0) = (6 : Int32)
              · have go82 : ∀ t, Steps p.tables e below (s₁.setTop (mkF m 8 #[.val (.int p0), .val (.int (6 : Int32)), .unset, .unset] [])) t → Steps p.tables e below (s₁.setTop (entryFrame m #[(.int p0)] maxLocals)) t := by
                  have q := go2
                  rw [hs81] at q
                  exact q
                have go83 : ∀ t, Steps p.tables e below (s₁.setTop (mkF m 9 #[.val (.int p0), .val (.int (6 : Int32)), .unset, .unset] [(.int (6 : Int32))])) t → Steps p.tables e below (s₁.setTop (entryFrame m #[(.int p0)] maxLocals)) t := by
                  intro t k
                  refine go82 _ ?_
                  refine XS.iloadN X0.here hx rfl (hb hby at_8) rfl ?_
                  show Steps p.tables e below (s₁.setTop (mkF m 9 #[.val (.int p0), .val (.int (6 : Int32)), .unset, .unset] [(.int (6 : Int32))])) t
                  exact k
                obtain ⟨_, _, ⟨T84, L84, k84, n84⟩, -, X84, ⟨Lc84, hQ84, l84, y84, z84⟩, st84⟩ := Jvm.LawKit.callS X0 hx (y := (⟨"com/example/mirk/mirk/eval/MeasurePerQueryPinLaw", "pick", "(I)Lcom/example/mirk/mirk/eval/Measure;"⟩ : MethodName)) hown (mvT hZ (hw _ (List.mem_of_getElem? (i := 1) rfl))) (mvT hZ (hw _ (List.mem_of_getElem? (i := 2) rfl))) (mvT hZ (hw _ (List.mem_of_getElem? (i := 3) rfl))) (mvT hZ (hw _ (List.mem_of_getElem? (i := 4) rfl))) (by decide) (backOf (W := 0) (rm1 l Z aZ hw [] (6 : Int32) s_NUM_Q s_NUM_RET s_NUM_REL s_NUM_REL_RET s_MAP s_RPREC s_BPREF s_RECIP_RANK s_P_5 s_P_10 s_P_20 s_RECALL_10 s_RECALL_100 s_NDCG s_NDCG_CUT_10 h0 n0 Z0 S_NUM_Q S_NUM_RET S_NUM_REL S_NUM_REL_RET S_MAP S_RPREC S_BPREF S_RECIP_RANK S_P_5 S_P_10 S_P_20 S_RECALL_10 S_RECALL_100 S_NDCG S_NDCG_CUT_10) hZ (hw _ (List.mem_of_getElem? (i := 4) rfl)) (hw _ (List.mem_of_getElem? (i := 3) rfl)) (by decide) (by decide)) (g := (mkF m 9 #[.val (.int p0), .val (.int (6 : Int32)), .unset, .unset] [(.int (6 : Int32))])) rfl (by rw [hml]; rfl) (argsL := [(.int (6 : Int32))]) (rest := []) (lenOf pd_82 rfl) rfl (by show 2 * 0 + _ ≤ _; exact Nat.le_of_eq rfl) (hb hby at_9) (fun _ _ => ⟨rfl, e0, (by decide : 0 + 0 ≤ _), (by decide : 0 + 0 ≤ _)⟩)
                dsimp only [Pt.U, Pt.locs, Pt.cells, Pt.slots] at X84 l84 y84 z84 st84 hQ84
                subst l84 y84 z84
                obtain ⟨rfl, N84q, e84⟩ := hQ84
                have N84 := Fr.app N0 N84q
                have go85 : ∀ t, Steps p.tables e below (T84.setTop (mkF m 12 #[.val (.int p0), .val (.int (6 : Int32)), .unset, .unset] [(.ref s_BPREF)])) t → Steps p.tables e below (s₁.setTop (entryFrame m #[(.int p0)] maxLocals)) t := fun t k => go83 _ (st84 _ k)
                have go86 : ∀ t, Steps p.tables e below (T84.setTop (mkF m 24 #[.val (.int p0), .val (.int (6 : Int32)), .val (.ref s_BPREF), .val (.int (1 : Int32))] [(.ref s_BPREF)])) t → Steps p.tables e below (s₁.setTop (entryFrame m #[(.int p0)] maxLocals)) t := by
                  intro t k
                  refine go85 _ ?_
                  refine XS.astoreN X84.here hx rfl (hb hby at_12) rfl rfl (l' := #[.val (.int p0), .val (.int (6 : Int32)), .val (.ref s_BPREF), .unset]) rfl ?_
                  show Steps p.tables e below (T84.setTop (mkF m 13 #[.val (.int p0), .val (.int (6 : Int32)), .val (.ref s_BPREF), .unset] [])) t
                  refine XS.iloadN X84.here hx rfl (hb hby at_13) rfl ?_
                  show Steps p.tables e below (T84.setTop (mkF m 14 #[.val (.int p0), .val (.int (6 : Int32)), .val (.ref s_BPREF), .unset] [(.int (6 : Int32))])) t
                  refine XS.ifNo X84.here hx rfl (hb hby at_14) rfl (XT.i0_eq_f (by decide : ¬ ((6 : Int32) = (0 : Int32)))) ?_
                  show Steps p.tables e below (T84.setTop (mkF m 17 #[.val (.int p0), .val (.int (6 : Int32)), .val (.ref s_BPREF), .unset] [])) t
                  refine XS.iconst X84.here hx rfl (hb hby at_17) ?_
                  show Steps p.tables e below (T84.setTop (mkF m 18 #[.val (.int p0), .val (.int (6 : Int32)), .val (.ref s_BPREF), .unset] [(.int (1 : Int32))])) t
                  refine XS.goto X84.here hx rfl (pc0 := 18) (pc' := 22) rfl (hb hby at_18) (by decide) (by decide) ?_
                  show Steps p.tables e below (T84.setTop (mkF m 22 #[.val (.int p0), .val (.int (6 : Int32)), .val (.ref s_BPREF), .unset] [(.int (1 : Int32))])) t
                  refine XS.istoreN X84.here hx rfl (hb hby at_22) rfl (l' := #[.val (.int p0), .val (.int (6 : Int32)), .val (.ref s_BPREF), .val (.int (1 : Int32))]) rfl ?_
                  show Steps p.tables e below (T84.setTop (mkF m 23 #[.val (.int p0), .val (.int (6 : Int32)), .val (.ref s_BPREF), .val (.int (1 : Int32))] [])) t
                  refine XS.aloadN X84.here hx rfl (hb hby at_23) rfl rfl ?_
                  show Steps p.tables e below (T84.setTop (mkF m 24 #[.val (.int p0), .val (.int (6 : Int32)), .val (.ref s_BPREF), .val (.int (1 : Int32))] [(.ref s_BPREF)])) t
                  exact k
                obtain ⟨cq87, kq87, q87a, q87b, q87c⟩ := isOf hZ e84 E_BPREF
                obtain ⟨_, _, ⟨T87, L87, k87, n87⟩, -, X87, ⟨Lc87, hQ87, l87, y87, z87⟩, st87⟩ := X84.virtualBack hx (y := (⟨"com/example/mirk/mirk/eval/Measure", "perQuery", "()Z"⟩ : MethodName)) (z := (⟨"com/example/mirk/mirk/eval/Measure", "perQuery", "()Z"⟩ : MethodName)) hown (mvT hZ (hw _ (List.mem_of_getElem? (i := 8) rfl))) (mvT hZ (hw _ (List.mem_of_getElem? (i := 9) rfl))) (notFace_of_selects (args := #[]) (mvT hZ (hw _ (List.mem_of_getElem? (i := 11) rfl)))) (mvT hZ (hw _ (List.mem_of_getElem? (i := 11) rfl))) (mvT hZ (hw _ (List.mem_of_getElem? (i := 10) rfl))) (by decide) (backOf (W := 0) (rm2 l Z aZ hw [] s_BPREF s_NUM_Q h0 n0 Z0 S_NUM_Q) hZ (hw _ (List.mem_of_getElem? (i := 12) rfl)) (hw _ (List.mem_of_getElem? (i := 6) rfl)) (by decide) (by decide)) q87a q87c (g := (mkF m 24 #[.val (.int p0), .val (.int (6 : Int32)), .val (.ref s_BPREF), .val (.int (1 : Int32))] [(.ref s_BPREF)])) rfl (by rw [hml]; rfl) (Steps.refl _) (argsL := []) (rest := []) (lenOf pd_83 rfl) rfl (by show 2 * 0 + _ ≤ _; exact Nat.le_of_eq rfl) (hb hby at_24) (fun _ _ => ⟨rfl, e84, (by decide : 0 + 0 ≤ _), (by decide : 0 + 0 ≤ _)⟩)
                dsimp only [Pt.U, Pt.locs, Pt.cells, Pt.slots] at X87 l87 y87 z87 st87 hQ87
                subst l87 y87 z87
                obtain ⟨rfl, N87q, e87⟩ := hQ87
                have N87 := Fr.app N84 N87q
                have go88 : ∀ t, Steps p.tables e below (T87.setTop (mkF m 27 #[.val (.int p0), .val (.int (6 : Int32)), .val (.ref s_BPREF), .val (.int (1 : Int32))] [(.int (f2 s_BPREF s_NUM_Q))])) t → Steps p.tables e below (s₁.setTop (entryFrame m #[(.int p0)] maxLocals)) t := fun t k => go86 _ (st87.trans k)
                have go90 : ∀ t, Steps p.tables e below (T87.setTop (mkF m 36 #[.val (.int p0), .val (.int (6 : Int32)), .val (.ref s_BPREF), .val (.int (1 : Int32))] [(.int (b0_91 s_NUM_Q s_BPREF))])) t → Steps p.tables e below (s₁.setTop (entryFrame m #[(.int p0)] maxLocals)) t := by
                  intro t k
                  refine go88 _ ?_
                  refine XS.iloadN X87.here hx rfl (hb hby at_27) rfl ?_
                  show Steps p.tables e below (T87.setTop (mkF m 28 #[.val (.int p0), .val (.int (6 : Int32)), .val (.ref s_BPREF), .val (.int (1 : Int32))] [(.int (1 : Int32)), (.int (f2 s_BPREF s_NUM_Q))])) t
                  by_cases hc89 : (f2 s_BPREF s_NUM_Q) = (1 : Int32)
                  · refine XS.icmpNo X87.here hx rfl (hb hby at_28) rfl (XT.ii_ne_f hc89) ?_
                    show Steps p.tables e below (T87.setTop (mkF m 31 #[.val (.int p0), .val (.int (6 : Int32)), .val (.ref s_BPREF), .val (.int (1 : Int32))] [])) t
                    refine XS.iconst X87.here hx rfl (hb hby at_31) ?_
                    show Steps p.tables e below (T87.setTop (mkF m 32 #[.val (.int p0), .val (.int (6 : Int32)), .val (.ref s_BPREF), .val (.int (1 : Int32))] [(.int (1 : Int32))])) t
                    refine XS.goto X87.here hx rfl (pc0 := 32) (pc' := 36) rfl (hb hby at_32) (by decide) (by decide) ?_
                    show Steps p.tables e below (T87.setTop (mkF m 36 #[.val (.int p0), .val (.int (6 : Int32)), .val (.ref s_BPREF), .val (.int (1 : Int32))] [(.int (1 : Int32))])) t
                    have hq92 : (b0_91 s_NUM_Q s_BPREF) = (1 : Int32) := by rw [b0_91, if_pos hc89]
                    rw [hq92] at k
                    exact k
                  · refine XS.icmpYes X87.here hx rfl (pc0 := 28) (pc' := 35) rfl (hb hby at_28) rfl (XT.ii_ne_t hc89) (by decide) (by decide) ?_
                    show Steps p.tables e below (T87.setTop (mkF m 35 #[.val (.int p0), .val (.int (6 : Int32)), .val (.ref s_BPREF), .val (.int (1 : Int32))] [])) t
                    refine XS.iconst X87.here hx rfl (hb hby at_35) ?_
                    show Steps p.tables e below (T87.setTop (mkF m 36 #[.val (.int p0), .val (.int (6 : Int32)), .val (.ref s_BPREF), .val (.int (1 : Int32))] [(.int (0 : Int32))])) t
                    have hq93 : (b0_91 s_NUM_Q s_BPREF) = (0 : Int32) := by rw [b0_91, if_neg hc89]
                    rw [hq93] at k
                    exact k
                obtain ⟨fs, hr, hrun, hended, hW, hsame⟩ := X87.leave (v := some (.int (b0_91 s_NUM_Q s_BPREF))) (fun h => by rw [Bd.returns] at h; cases h)
                refine ⟨_, _, go90 _ (Jvm.RoadKit.retOut X87 hx Bd.returns (own_nz (by unfold b0_91; (repeat' split) <;> first | exact Or.inl rfl | exact Or.inr rfl)) (Or.inl ⟨rfl, Or.inr (Or.inl rfl), _, rfl⟩) (hb hby at_36) hr), hrun, hended, _, _, rfl, ?_, ⟨_, rfl⟩, hW, hsame.mono (by decide) (by decide)⟩
                show Q0 _ _ p0 s_NUM_Q s_NUM_REL_RET s_RPREC s_NDCG s_BPREF s_NDCG_CUT_10 s_RECIP_RANK s_NUM_REL s_RECALL_10 s_P_20 s_P_5 s_NUM_RET s_RECALL_100 s_MAP s_P_10 h0 _ (T87.setFrames fs).heap _
                have hE : (T87.setFrames fs).heap = h0 := e87
                rw [hE]
                exact ⟨congrArg (fun z => some (Value.int z)) ((by rw [f0, if_neg hs3, if_neg hs16, if_neg hs29, if_neg hs42, if_neg hs55, if_neg hs68, if_pos hs81] : (b0_91 s_NUM_Q s_BPREF) = (f0 p0 s_NUM_Q s_NUM_REL_RET s_RPREC s_NDCG s_BPREF s_NDCG_CUT_10 s_RECIP_RANK s_NUM_REL s_RECALL_10 s_P_20 s_P_5 s_NUM_RET s_RECALL_100 s_MAP s_P_10)).trans (f0_one p0 s_NUM_Q s_NUM_REL_RET s_RPREC s_NDCG s_BPREF s_NDCG_CUT_10 s_RECIP_RANK s_NUM_REL s_RECALL_10 s_P_20 s_P_5 s_NUM_RET s_RECALL_100 s_MAP s_P_10 ne_NUM_RET ne_NUM_REL ne_NUM_REL_RET ne_MAP ne_RPREC ne_BPREF ne_RECIP_RANK ne_P_5 ne_P_10 ne_P_20 ne_RECALL_10 ne_RECALL_100 ne_NDCG ne_NDCG_CUT_10)), N87⟩
              · by_cases hs94 : (v0_1 p0) = (7 : Int32)
                · have go95 : ∀ t, Steps p.tables e below (s₁.setTop (mkF m 8 #[.val (.int p0), .val (.int (7 : Int32)), .unset, .unset] [])) t → Steps p.tables e below (s₁.setTop (entryFrame m #[(.int p0)] maxLocals)) t := by
                    have q := go2
                    rw [hs94] at q
                    exact q
                  have go96 : ∀ t, Steps p.tables e below (s₁.setTop (mkF m 9 #[.val (.int p0), .val (.int (7 : Int32)), .unset, .unset] [(.int (7 : Int32))])) t → Steps p.tables e below (s₁.setTop (entryFrame m #[(.int p0)] maxLocals)) t := by
                    intro t k
                    refine go95 _ ?_
                    refine XS.iloadN X0.here hx rfl (hb hby at_8) rfl ?_
                    show Steps p.tables e below (s₁.setTop (mkF m 9 #[.val (.int p0), .val (.int (7 : Int32)), .unset, .unset] [(.int (7 : Int32))])) t
                    exact k
                  obtain ⟨_, _, ⟨T97, L97, k97, n97⟩, -, X97, ⟨Lc97, hQ97, l97, y97, z97⟩, st97⟩ := Jvm.LawKit.callS X0 hx (y := (⟨"com/example/mirk/mirk/eval/MeasurePerQueryPinLaw", "pick", "(I)Lcom/example/mirk/mirk/eval/Measure;"⟩ : MethodName)) hown (mvT hZ (hw _ (List.mem_of_getElem? (i := 1) rfl))) (mvT hZ (hw _ (List.mem_of_getElem? (i := 2) rfl))) (mvT hZ (hw _ (List.mem_of_getElem? (i := 3) rfl))) (mvT hZ (hw _ (List.mem_of_getElem? (i := 4) rfl))) (by decide) (backOf (W := 0) (rm1 l Z aZ hw [] (7 : Int32) s_NUM_Q s_NUM_RET s_NUM_REL s_NUM_REL_RET s_MAP s_RPREC s_BPREF s_RECIP_RANK s_P_5 s_P_10 s_P_20 s_RECALL_10 s_RECALL_100 s_NDCG s_NDCG_CUT_10 h0 n0 Z0 S_NUM_Q S_NUM_RET S_NUM_REL S_NUM_REL_RET S_MAP S_RPREC S_BPREF S_RECIP_RANK S_P_5 S_P_10 S_P_20 S_RECALL_10 S_RECALL_100 S_NDCG S_NDCG_CUT_10) hZ (hw _ (List.mem_of_getElem? (i := 4) rfl)) (hw _ (List.mem_of_getElem? (i := 3) rfl)) (by decide) (by decide)) (g := (mkF m 9 #[.val (.int p0), .val (.int (7 : Int32)), .unset, .unset] [(.int (7 : Int32))])) rfl (by rw [hml]; rfl) (argsL := [(.int (7 : Int32))]) (rest := []) (lenOf pd_82 rfl) rfl (by show 2 * 0 + _ ≤ _; exact Nat.le_of_eq rfl) (hb hby at_9) (fun _ _ => ⟨rfl, e0, (by decide : 0 + 0 ≤ _), (by decide : 0 + 0 ≤ _)⟩)
                  dsimp only [Pt.U, Pt.locs, Pt.cells, Pt.slots] at X97 l97 y97 z97 st97 hQ97
                  subst l97 y97 z97
                  obtain ⟨rfl, N97q, e97⟩ := hQ97
                  have N97 := Fr.app N0 N97q
                  have go98 : ∀ t, Steps p.tables e below (T97.setTop (mkF m 12 #[.val (.int p0), .val (.int (7 : Int32)), .unset, .unset] [(.ref s_RECIP_RANK)])) t → Steps p.tables e below (s₁.setTop (entryFrame m #[(.int p0)] maxLocals)) t := fun t k => go96 _ (st97 _ k)
                  have go99 : ∀ t, Steps p.tables e below (T97.setTop (mkF m 24 #[.val (.int p0), .val (.int (7 : Int32)), .val (.ref s_RECIP_RANK), .val (.int (1 : Int32))] [(.ref s_RECIP_RANK)])) t → Steps p.tables e below (s₁.setTop (entryFrame m #[(.int p0)] maxLocals)) t := by
                    intro t k
                    refine go98 _ ?_
                    refine XS.astoreN X97.here hx rfl (hb hby at_12) rfl rfl (l' := #[.val (.int p0), .val (.int (7 : Int32)), .val (.ref s_RECIP_RANK), .unset]) rfl ?_
                    show Steps p.tables e below (T97.setTop (mkF m 13 #[.val (.int p0), .val (.int (7 : Int32)), .val (.ref s_RECIP_RANK), .unset] [])) t
                    refine XS.iloadN X97.here hx rfl (hb hby at_13) rfl ?_
                    show Steps p.tables e below (T97.setTop (mkF m 14 #[.val (.int p0), .val (.int (7 : Int32)), .val (.ref s_RECIP_RANK), .unset] [(.int (7 : Int32))])) t
                    refine XS.ifNo X97.here hx rfl (hb hby at_14) rfl (XT.i0_eq_f (by decide : ¬ ((7 : Int32) = (0 : Int32)))) ?_
                    show Steps p.tables e below (T97.setTop (mkF m 17 #[.val (.int p0), .val (.int (7 : Int32)), .val (.ref s_RECIP_RANK), .unset] [])) t
                    refine XS.iconst X97.here hx rfl (hb hby at_17) ?_
                    show Steps p.tables e below (T97.setTop (mkF m 18 #[.val (.int p0), .val (.int (7 : Int32)), .val (.ref s_RECIP_RANK), .unset] [(.int (1 : Int32))])) t
                    refine XS.goto X97.here hx rfl (pc0 := 18) (pc' := 22) rfl (hb hby at_18) (by decide) (by decide) ?_
                    show Steps p.tables e below (T97.setTop (mkF m 22 #[.val (.int p0), .val (.int (7 : Int32)), .val (.ref s_RECIP_RANK), .unset] [(.int (1 : Int32))])) t
                    refine XS.istoreN X97.here hx rfl (hb hby at_22) rfl (l' := #[.val (.int p0), .val (.int (7 : Int32)), .val (.ref s_RECIP_RANK), .val (.int (1 : Int32))]) rfl ?_
                    show Steps p.tables e below (T97.setTop (mkF m 23 #[.val (.int p0), .val (.int (7 : Int32)), .val (.ref s_RECIP_RANK), .val (.int (1 : Int32))] [])) t
                    refine XS.aloadN X97.here hx rfl (hb hby at_23) rfl rfl ?_
                    show Steps p.tables e below (T97.setTop (mkF m 24 #[.val (.int p0), .val (.int (7 : Int32)), .val (.ref s_RECIP_RANK), .val (.int (1 : Int32))] [(.ref s_RECIP_RANK)])) t
                    exact k
                  obtain ⟨cq100, kq100, q100a, q100b, q100c⟩ := isOf hZ e97 E_RECIP_RANK
                  obtain ⟨_, _, ⟨T100, L100, k100, n100⟩, -, X100, ⟨Lc100, hQ100, l100, y100, z100⟩, st100⟩ := X97.virtualBack hx (y := (⟨"com/example/mirk/mirk/eval/Measure", "perQuery", "()Z"⟩ : MethodName)) (z := (⟨"com/example/mirk/mirk/eval/Measure", "perQuery", "()Z"⟩ : MethodName)) hown (mvT hZ (hw _ (List.mem_of_getElem? (i := 8) rfl))) (mvT hZ (hw _ (List.mem_of_getElem? (i := 9) rfl))) (notFace_of_selects (args := #[]) (mvT hZ (hw _ (List.mem_of_getElem? (i := 11) rfl)))) (mvT hZ (hw _ (List.mem_of_getElem? (i := 11) rfl))) (mvT hZ (hw _ (List.mem_of_getElem? (i := 10) rfl))) (by decide) (backOf (W := 0) (rm2 l Z aZ hw [] s_RECIP_RANK s_NUM_Q h0 n0 Z0 S_NUM_Q) hZ (hw _ (List.mem_of_getElem? (i := 12) rfl)) (hw _ (List.mem_of_getElem? (i := 6) rfl)) (by decide) (by decide)) q100a q100c (g := (mkF m 24 #[.val (.int p0), .val (.int (7 : Int32)), .val (.ref s_RECIP_RANK), .val (.int (1 : Int32))] [(.ref s_RECIP_RANK)])) rfl (by rw [hml]; rfl) (Steps.refl _) (argsL := []) (rest := []) (lenOf pd_83 rfl) rfl (by show 2 * 0 + _ ≤ _; exact Nat.le_of_eq rfl) (hb hby at_24) (fun _ _ => ⟨rfl, e97, (by decide : 0 + 0 ≤ _), (by decide : 0 + 0 ≤ _)⟩)
                  dsimp only [Pt.U, Pt.locs, Pt.cells, Pt.slots] at X100 l100 y100 z100 st100 hQ100
                  subst l100 y100 z100
                  obtain ⟨rfl, N100q, e100⟩ := hQ100
                  have N100 := Fr.app N97 N100q
                  have go101 : ∀ t, Steps p.tables e below (T100.setTop (mkF m 27 #[.val (.int p0), .val (.int (7 : Int32)), .val (.ref s_RECIP_RANK), .val (.int (1 : Int32))] [(.int (f2 s_RECIP_RANK s_NUM_Q))])) t → Steps p.tables e below (s₁.setTop (entryFrame m #[(.int p0)] maxLocals)) t := fun t k => go99 _ (st100.trans k)
                  have go103 : ∀ t, Steps p.tables e below (T100.setTop (mkF m 36 #[.val (.int p0), .val (.int (7 : Int32)), .val (.ref s_RECIP_RANK), .val (.int (1 : Int32))] [(.int (b0_104 s_NUM_Q s_RECIP_RANK))])) t → Steps p.tables e below (s₁.setTop (entryFrame m #[(.int p0)] maxLocals)) t := by
                    intro t k
                    refine go101 _ ?_
                    refine XS.iloadN X100.here hx rfl (hb hby at_27) rfl ?_
                    show Steps p.tables e below (T100.setTop (mkF m 28 #[.val (.int p0), .val (.int (7 : Int32)), .val (.ref s_RECIP_RANK), .val (.int (1 : Int32))] [(.int (1 : Int32)), (.int (f2 s_RECIP_RANK s_NUM_Q))])) t
                    by_cases hc102 : (f2 s_RECIP_RANK s_NUM_Q) = (1 : Int32)
                    · refine XS.icmpNo X100.here hx rfl (hb hby at_28) rfl (XT.ii_ne_f hc102) ?_
                      show Steps p.tables e below (T100.setTop (mkF m 31 #[.val (.int p0), .val (.int (7 : Int32)), .val (.ref s_RECIP_RANK), .val (.int (1 : Int32))] [])) t
                      refine XS.iconst X100.here hx rfl (hb hby at_31) ?_
                      show Steps p.tables e below (T100.setTop (mkF m 32 #[.val (.int p0), .val (.int (7 : Int32)), .val (.ref s_RECIP_RANK), .val (.int (1 : Int32))] [(.int (1 : Int32))])) t
                      refine XS.goto X100.here hx rfl (pc0 := 32) (pc' := 36) rfl (hb hby at_32) (by decide) (by decide) ?_
                      show Steps p.tables e below (T100.setTop (mkF m 36 #[.val (.int p0), .val (.int (7 : Int32)), .val (.ref s_RECIP_RANK), .val (.int (1 : Int32))] [(.int (1 : Int32))])) t
                      have hq105 : (b0_104 s_NUM_Q s_RECIP_RANK) = (1 : Int32) := by rw [b0_104, if_pos hc102]
                      rw [hq105] at k
                      exact k
                    · refine XS.icmpYes X100.here hx rfl (pc0 := 28) (pc' := 35) rfl (hb hby at_28) rfl (XT.ii_ne_t hc102) (by decide) (by decide) ?_
                      show Steps p.tables e below (T100.setTop (mkF m 35 #[.val (.int p0), .val (.int (7 : Int32)), .val (.ref s_RECIP_RANK), .val (.int (1 : Int32))] [])) t
                      refine XS.iconst X100.here hx rfl (hb hby at_35) ?_
                      show Steps p.tables e below (T100.setTop (mkF m 36 #[.val (.int p0), .val (.int (7 : Int32)), .val (.ref s_RECIP_RANK), .val (.int (1 : Int32))] [(.int (0 : Int32))])) t
                      have hq106 : (b0_104 s_NUM_Q s_RECIP_RANK) = (0 : Int32) := by rw [b0_104, if_neg hc102]
                      rw [hq106] at k
                      exact k
                  obtain ⟨fs, hr, hrun, hended, hW, hsame⟩ := X100.leave (v := some (.int (b0_104 s_NUM_Q s_RECIP_RANK))) (fun h => by rw [Bd.returns] at h; cases h)
                  refine ⟨_, _, go103 _ (Jvm.RoadKit.retOut X100 hx Bd.returns (own_nz (by unfold b0_104; (repeat' split) <;> first | exact Or.inl rfl | exact Or.inr rfl)) (Or.inl ⟨rfl, Or.inr (Or.inl rfl), _, rfl⟩) (hb hby at_36) hr), hrun, hended, _, _, rfl, ?_, ⟨_, rfl⟩, hW, hsame.mono (by decide) (by decide)⟩
                  show Q0 _ _ p0 s_NUM_Q s_NUM_REL_RET s_RPREC s_NDCG s_BPREF s_NDCG_CUT_10 s_RECIP_RANK s_NUM_REL s_RECALL_10 s_P_20 s_P_5 s_NUM_RET s_RECALL_100 s_MAP s_P_10 h0 _ (T100.setFrames fs).heap _
                  have hE : (T100.setFrames fs).heap = h0 := e100
                  rw [hE]
                  exact ⟨congrArg (fun z => some (Value.int z)) ((by rw [f0, if_neg hs3, if_neg hs16, if_neg hs29, if_neg hs42, if_neg hs55, if_neg hs68, if_neg hs81, if_pos hs94] : (b0_104 s_NUM_Q s_RECIP_RANK) = (f0 p0 s_NUM_Q s_NUM_REL_RET s_RPREC s_NDCG s_BPREF s_NDCG_CUT_10 s_RECIP_RANK s_NUM_REL s_RECALL_10 s_P_20 s_P_5 s_NUM_RET s_RECALL_100 s_MAP s_P_10)).trans (f0_one p0 s_NUM_Q s_NUM_REL_RET s_RPREC s_NDCG s_BPREF s_NDCG_CUT_10 s_RECIP_RANK s_NUM_REL s_RECALL_10 s_P_20 s_P_5 s_NUM_RET s_RECALL_100 s_MAP s_P_10 ne_NUM_RET ne_NUM_REL ne_NUM_REL_RET ne_MAP ne_RPREC ne_BPREF ne_RECIP_RANK ne_P_5 ne_P_10 ne_P_20 ne_RECALL_10 ne_RECALL_100 ne_NDCG ne_NDCG_CUT_10)), N100⟩
                · by_cases hs107 : (v0_1 p0) = (8 : Int32)
                  · have go108 : ∀ t, Steps p.tables e below (s₁.setTop (mkF m 8 #[.val (.int p0), .val (.int (8 : Int32)), .unset, .unset] [])) t → Steps p.tables e below (s₁.setTop (entryFrame m #[(.int p0)] maxLocals)) t := by
                      have q := go2
                      rw [hs107] at q
                      exact q
                    have go109 : ∀ t, Steps p.tables e below (s₁.setTop (mkF m 9 #[.val (.int p0), .val (.int (8 : Int32)), .unset, .unset] [(.int (8 : Int32))])) t → Steps p.tables e below (s₁.setTop (entryFrame m #[(.int p0)] maxLocals)) t := by
                      intro t k
                      refine go108 _ ?_
                      refine XS.iloadN X0.here hx rfl (hb hby at_8) rfl ?_
                      show Steps p.tables e below (s₁.setTop (mkF m 9 #[.val (.int p0), .val (.int (8 : Int32)), .unset, .unset] [(.int (8 : Int32))])) t
                      exact k
                    obtain ⟨_, _, ⟨T110, L110, k110, n110⟩, -, X110, ⟨Lc110, hQ110, l110, y110, z110⟩, st110⟩ := Jvm.LawKit.callS X0 hx (y := (⟨"com/example/mirk/mirk/eval/MeasurePerQueryPinLaw", "pick", "(I)Lcom/example/mirk/mirk/eval/Measure;"⟩ : MethodName)) hown (mvT hZ (hw _ (List.mem_of_getElem? (i := 1) rfl))) (mvT hZ (hw _ (List.mem_of_getElem? (i := 2) rfl))) (mvT hZ (hw _ (List.mem_of_getElem? (i := 3) rfl))) (mvT hZ (hw _ (List.mem_of_getElem? (i := 4) rfl))) (by decide) (backOf (W := 0) (rm1 l Z aZ hw [] (8 : Int32) s_NUM_Q s_NUM_RET s_NUM_REL s_NUM_REL_RET s_MAP s_RPREC s_BPREF s_RECIP_RANK s_P_5 s_P_10 s_P_20 s_RECALL_10 s_RECALL_100 s_NDCG s_NDCG_CUT_10 h0 n0 Z0 S_NUM_Q S_NUM_RET S_NUM_REL S_NUM_REL_RET S_MAP S_RPREC S_BPREF S_RECIP_RANK S_P_5 S_P_10 S_P_20 S_RECALL_10 S_RECALL_100 S_NDCG S_NDCG_CUT_10) hZ (hw _ (List.mem_of_getElem? (i := 4) rfl)) (hw _ (List.mem_of_getElem? (i := 3) rfl)) (by decide) (by decide)) (g := (mkF m 9 #[.val (.int p0), .val (.int (8 : Int32)), .unset, .unset] [(.int (8 : Int32))])) rfl (by rw [hml]; rfl) (argsL := [(.int (8 : Int32))]) (rest := []) (lenOf pd_82 rfl) rfl (by show 2 * 0 + _ ≤ _; exact Nat.le_of_eq rfl) (hb hby at_9) (fun _ _ => ⟨rfl, e0, (by decide : 0 + 0 ≤ _), (by decide : 0 + 0 ≤ _)⟩)
                    dsimp only [Pt.U, Pt.locs, Pt.cells, Pt.slots] at X110 l110 y110 z110 st110 hQ110
                    subst l110 y110 z110
                    obtain ⟨rfl, N110q, e110⟩ := hQ110
                    have N110 := Fr.app N0 N110q
                    have go111 : ∀ t, Steps p.tables e below (T110.setTop (mkF m 12 #[.val (.int p0), .val (.int (8 : Int32)), .unset, .unset] [(.ref s_P_5)])) t → Steps p.tables e below (s₁.setTop (entryFrame m #[(.int p0)] maxLocals)) t := fun t k => go109 _ (st110 _ k)
                    have go112 : ∀ t, Steps p.tables e below (T110.setTop (mkF m 24 #[.val (.int p0), .val (.int (8 : Int32)), .val (.ref s_P_5), .val (.int (1 : Int32))] [(.ref s_P_5)])) t → Steps p.tables e below (s₁.setTop (entryFrame m #[(.int p0)] maxLocals)) t := by
                      intro t k
                      refine go111 _ ?_
                      refine XS.astoreN X110.here hx rfl (hb hby at_12) rfl rfl (l' := #[.val (.int p0), .val (.int (8 : Int32)), .val (.ref s_P_5), .unset]) rfl ?_
                      show Steps p.tables e below (T110.setTop (mkF m 13 #[.val (.int p0), .val (.int (8 : Int32)), .val (.ref s_P_5), .unset] [])) t
                      refine XS.iloadN X110.here hx rfl (hb hby at_13) rfl ?_
                      show Steps p.tables e below (T110.setTop (mkF m 14 #[.val (.int p0), .val (.int (8 : Int32)), .val (.ref s_P_5), .unset] [(.int (8 : Int32))])) t
                      refine XS.ifNo X110.here hx rfl (hb hby at_14) rfl (XT.i0_eq_f (by decide : ¬ ((8 : Int32) = (0 : Int32)))) ?_
                      show Steps p.tables e below (T110.setTop (mkF m 17 #[.val (.int p0), .val (.int (8 : Int32)), .val (.ref s_P_5), .unset] [])) t
                      refine XS.iconst X110.here hx rfl (hb hby at_17) ?_
                      show Steps p.tables e below (T110.setTop (mkF m 18 #[.val (.int p0), .val (.int (8 : Int32)), .val (.ref s_P_5), .unset] [(.int (1 : Int32))])) t
                      refine XS.goto X110.here hx rfl (pc0 := 18) (pc' := 22) rfl (hb hby at_18) (by decide) (by decide) ?_
                      show Steps p.tables e below (T110.setTop (mkF m 22 #[.val (.int p0), .val (.int (8 : Int32)), .val (.ref s_P_5), .unset] [(.int (1 : Int32))])) t
                      refine XS.istoreN X110.here hx rfl (hb hby at_22) rfl (l' := #[.val (.int p0), .val (.int (8 : Int32)), .val (.ref s_P_5), .val (.int (1 : Int32))]) rfl ?_
                      show Steps p.tables e below (T110.setTop (mkF m 23 #[.val (.int p0), .val (.int (8 : Int32)), .val (.ref s_P_5), .val (.int (1 : Int32))] [])) t
                      refine XS.aloadN X110.here hx rfl (hb hby at_23) rfl rfl ?_
                      show Steps p.tables e below (T110.setTop (mkF m 24 #[.val (.int p0), .val (.int (8 : Int32)), .val (.ref s_P_5), .val (.int (1 : Int32))] [(.ref s_P_5)])) t
                      exact k
                    obtain ⟨cq113, kq113, q113a, q113b, q113c⟩ := isOf hZ e110 E_P_5
                    obtain ⟨_, _, ⟨T113, L113, k113, n113⟩, -, X113, ⟨Lc113, hQ113, l113, y113, z113⟩, st113⟩ := X110.virtualBack hx (y := (⟨"com/example/mirk/mirk/eval/Measure", "perQuery", "()Z"⟩ : MethodName)) (z := (⟨"com/example/mirk/mirk/eval/Measure", "perQuery", "()Z"⟩ : MethodName)) hown (mvT hZ (hw _ (List.mem_of_getElem? (i := 8) rfl))) (mvT hZ (hw _ (List.mem_of_getElem? (i := 9) rfl))) (notFace_of_selects (args := #[]) (mvT hZ (hw _ (List.mem_of_getElem? (i := 11) rfl)))) (mvT hZ (hw _ (List.mem_of_getElem? (i := 11) rfl))) (mvT hZ (hw _ (List.mem_of_getElem? (i := 10) rfl))) (by decide) (backOf (W := 0) (rm2 l Z aZ hw [] s_P_5 s_NUM_Q h0 n0 Z0 S_NUM_Q) hZ (hw _ (List.mem_of_getElem? (i := 12) rfl)) (hw _ (List.mem_of_getElem? (i := 6) rfl)) (by decide) (by decide)) q113a q113c (g := (mkF m 24 #[.val (.int p0), .val (.int (8 : Int32)), .val (.ref s_P_5), .val (.int (1 : Int32))] [(.ref s_P_5)])) rfl (by rw [hml]; rfl) (Steps.refl _) (argsL := []) (rest := []) (lenOf pd_83 rfl) rfl (by show 2 * 0 + _ ≤ _; exact Nat.le_of_eq rfl) (hb hby at_24) (fun _ _ => ⟨rfl, e110, (by decide : 0 + 0 ≤ _), (by decide : 0 + 0 ≤ _)⟩)
                    dsimp only [Pt.U, Pt.locs, Pt.cells, Pt.slots] at X113 l113 y113 z113 st113 hQ113
                    subst l113 y113 z113
                    obtain ⟨rfl, N113q, e113⟩ := hQ113
                    have N113 := Fr.app N110 N113q
                    have go114 : ∀ t, Steps p.tables e below (T113.setTop (mkF m 27 #[.val (.int p0), .val (.int (8 : Int32)), .val (.ref s_P_5), .val (.int (1 : Int32))] [(.int (f2 s_P_5 s_NUM_Q))])) t → Steps p.tables e below (s₁.setTop (entryFrame m #[(.int p0)] maxLocals)) t := fun t k => go112 _ (st113.trans k)
                    have go116 : ∀ t, Steps p.tables e below (T113.setTop (mkF m 36 #[.val (.int p0), .val (.int (8 : Int32)), .val (.ref s_P_5), .val (.int (1 : Int32))] [(.int (b0_117 s_NUM_Q s_P_5))])) t → Steps p.tables e below (s₁.setTop (entryFrame m #[(.int p0)] maxLocals)) t := by
                      intro t k
                      refine go114 _ ?_
                      refine XS.iloadN X113.here hx rfl (hb hby at_27) rfl ?_
                      show Steps p.tables e below (T113.setTop (mkF m 28 #[.val (.int p0), .val (.int (8 : Int32)), .val (.ref s_P_5), .val (.int (1 : Int32))] [(.int (1 : Int32)), (.int (f2 s_P_5 s_NUM_Q))])) t
                      by_cases hc115 : (f2 s_P_5 s_NUM_Q) = (1 : Int32)
                      · refine XS.icmpNo X113.here hx rfl (hb hby at_28) rfl (XT.ii_ne_f hc115) ?_
                        show Steps p.tables e below (T113.setTop (mkF m 31 #[.val (.int p0), .val (.int (8 : Int32)), .val (.ref s_P_5), .val (.int (1 : Int32))] [])) t
                        refine XS.iconst X113.here hx rfl (hb hby at_31) ?_
                        show Steps p.tables e below (T113.setTop (mkF m 32 #[.val (.int p0), .val (.int (8 : Int32)), .val (.ref s_P_5), .val (.int (1 : Int32))] [(.int (1 : Int32))])) t
                        refine XS.goto X113.here hx rfl (pc0 := 32) (pc' := 36) rfl (hb hby at_32) (by decide) (by decide) ?_
                        show Steps p.tables e below (T113.setTop (mkF m 36 #[.val (.int p0), .val (.int (8 : Int32)), .val (.ref s_P_5), .val (.int (1 : Int32))] [(.int (1 : Int32))])) t
                        have hq118 : (b0_117 s_NUM_Q s_P_5) = (1 : Int32) := by rw [b0_117, if_pos hc115]
                        rw [hq118] at k
                        exact k
                      · refine XS.icmpYes X113.here hx rfl (pc0 := 28) (pc' := 35) rfl (hb hby at_28) rfl (XT.ii_ne_t hc115) (by decide) (by decide) ?_
                        show Steps p.tables e below (T113.setTop (mkF m 35 #[.val (.int p0), .val (.int (8 : Int32)), .val (.ref s_P_5), .val (.int (1 : Int32))] [])) t
                        refine XS.iconst X113.here hx rfl (hb hby at_35) ?_
                        show Steps p.tables e below (T113.setTop (mkF m 36 #[.val (.int p0), .val (.int (8 : Int32)), .val (.ref s_P_5), .val (.int (1 : Int32))] [(.int (0 : Int32))])) t
                        have hq119 : (b0_117 s_NUM_Q s_P_5) = (0 : Int32) := by rw [b0_117, if_neg hc115]
                        rw [hq119] at k
                        exact k
                    obtain ⟨fs, hr, hrun, hended, hW, hsame⟩ := X113.leave (v := some (.int (b0_117 s_NUM_Q s_P_5))) (fun h => by rw [Bd.returns] at h; cases h)
                    refine ⟨_, _, go116 _ (Jvm.RoadKit.retOut X113 hx Bd.returns (own_nz (by unfold b0_117; (repeat' split) <;> first | exact Or.inl rfl | exact Or.inr rfl)) (Or.inl ⟨rfl, Or.inr (Or.inl rfl), _, rfl⟩) (hb hby at_36) hr), hrun, hended, _, _, rfl, ?_, ⟨_, rfl⟩, hW, hsame.mono (by decide) (by decide)⟩
                    show Q0 _ _ p0 s_NUM_Q s_NUM_REL_RET s_RPREC s_NDCG s_BPREF s_NDCG_CUT_10 s_RECIP_RANK s_NUM_REL s_RECALL_10 s_P_20 s_P_5 s_NUM_RET s_RECALL_100 s_MAP s_P_10 h0 _ (T113.setFrames fs).heap _
                    have hE : (T113.setFrames fs).heap = h0 := e113
                    rw [hE]
                    exact ⟨congrArg (fun z => some (Value.int z)) ((by rw [f0, if_neg hs3, if_neg hs16, if_neg hs29, if_neg hs42, if_neg hs55, if_neg hs68, if_neg hs81, if_neg hs94, if_pos hs107] : (b0_117 s_NUM_Q s_P_5) = (f0 p0 s_NUM_Q s_NUM_REL_RET s_RPREC s_NDCG s_BPREF s_NDCG_CUT_10 s_RECIP_RANK s_NUM_REL s_RECALL_10 s_P_20 s_P_5 s_NUM_RET s_RECALL_100 s_MAP s_P_10)).trans (f0_one p0 s_NUM_Q s_NUM_REL_RET s_RPREC s_NDCG s_BPREF s_NDCG_CUT_10 s_RECIP_RANK s_NUM_REL s_RECALL_10 s_P_20 s_P_5 s_NUM_RET s_RECALL_100 s_MAP s_P_10 ne_NUM_RET ne_NUM_REL ne_NUM_REL_RET ne_MAP ne_RPREC ne_BPREF ne_RECIP_RANK ne_P_5 ne_P_10 ne_P_20 ne_RECALL_10 ne_RECALL_100 ne_NDCG ne_NDCG_CUT_10)), N113⟩
                  · by_cases hs120 : (v0_1 p0) = (9 : Int32)
                    · have go121 : ∀ t, Steps p.tables e below (s₁.setTop (mkF m 8 #[.val (.int p0), .val (.int (9 : Int32)), .unset, .unset] [])) t → Steps p.tables e below (s₁.setTop (entryFrame m #[(.int p0)] maxLocals)) t := by
                        have q := go2
                        rw [hs120] at q
                        exact q
                      have go122 : ∀ t, Steps p.tables e below (s₁.setTop (mkF m 9 #[.val (.int p0), .val (.int (9 : Int32)), .unset, .unset] [(.int (9 : Int32))])) t → Steps p.tables e below (s₁.setTop (entryFrame m #[(.int p0)] maxLocals)) t := by
                        intro t k
                        refine go121 _ ?_
                        refine XS.iloadN X0.here hx rfl (hb hby at_8) rfl ?_
                        show Steps p.tables e below (s₁.setTop (mkF m 9 #[.val (.int p0), .val (.int (9 : Int32)), .unset, .unset] [(.int (9 : Int32))])) t
                        exact k
                      obtain ⟨_, _, ⟨T123, L123, k123, n123⟩, -, X123, ⟨Lc123, hQ123, l123, y123, z123⟩, st123⟩ := Jvm.LawKit.callS X0 hx (y := (⟨"com/example/mirk/mirk/eval/MeasurePerQueryPinLaw", "pick", "(I)Lcom/example/mirk/mirk/eval/Measure;"⟩ : MethodName)) hown (mvT hZ (hw _ (List.mem_of_getElem? (i := 1) rfl))) (mvT hZ (hw _ (List.mem_of_getElem? (i := 2) rfl))) (mvT hZ (hw _ (List.mem_of_getElem? (i := 3) rfl))) (mvT hZ (hw _ (List.mem_of_getElem? (i := 4) rfl))) (by decide) (backOf (W := 0) (rm1 l Z aZ hw [] (9 : Int32) s_NUM_Q s_NUM_RET s_NUM_REL s_NUM_REL_RET s_MAP s_RPREC s_BPREF s_RECIP_RANK s_P_5 s_P_10 s_P_20 s_RECALL_10 s_RECALL_100 s_NDCG s_NDCG_CUT_10 h0 n0 Z0 S_NUM_Q S_NUM_RET S_NUM_REL S_NUM_REL_RET S_MAP S_RPREC S_BPREF S_RECIP_RANK S_P_5 S_P_10 S_P_20 S_RECALL_10 S_RECALL_100 S_NDCG S_NDCG_CUT_10) hZ (hw _ (List.mem_of_getElem? (i := 4) rfl)) (hw _ (List.mem_of_getElem? (i := 3) rfl)) (by decide) (by decide)) (g := (mkF m 9 #[.val (.int p0), .val (.int (9 : Int32)), .unset, .unset] [(.int (9 : Int32))])) rfl (by rw [hml]; rfl) (argsL := [(.int (9 : Int32))]) (rest := []) (lenOf pd_82 rfl) rfl (by show 2 * 0 + _ ≤ _; exact Nat.le_of_eq rfl) (hb hby at_9) (fun _ _ => ⟨rfl, e0, (by decide : 0 + 0 ≤ _), (by decide : 0 + 0 ≤ _)⟩)
                      dsimp only [Pt.U, Pt.locs, Pt.cells, Pt.slots] at X123 l123 y123 z123 st123 hQ123
                      subst l123 y123 z123
                      obtain ⟨rfl, N123q, e123⟩ := hQ123
                      have N123 := Fr.app N0 N123q
                      have go124 : ∀ t, Steps p.tables e below (T123.setTop (mkF m 12 #[.val (.int p0), .val (.int (9 : Int32)), .unset, .unset] [(.ref s_P_10)])) t → Steps p.tables e below (s₁.setTop (entryFrame m #[(.int p0)] maxLocals)) t := fun t k => go122 _ (st123 _ k)
                      have go125 : ∀ t, Steps p.tables e below (T123.setTop (mkF m 24 #[.val (.int p0), .val (.int (9 : Int32)), .val (.ref s_P_10), .val (.int (1 : Int32))] [(.ref s_P_10)])) t → Steps p.tables e below (s₁.setTop (entryFrame m #[(.int p0)] maxLocals)) t := by
                        intro t k
                        refine go124 _ ?_
                        refine XS.astoreN X123.here hx rfl (hb hby at_12) rfl rfl (l' := #[.val (.int p0), .val (.int (9 : Int32)), .val (.ref s_P_10), .unset]) rfl ?_
                        show Steps p.tables e below (T123.setTop (mkF m 13 #[.val (.int p0), .val (.int (9 : Int32)), .val (.ref s_P_10), .unset] [])) t
                        refine XS.iloadN X123.here hx rfl (hb hby at_13) rfl ?_
                        show Steps p.tables e below (T123.setTop (mkF m 14 #[.val (.int p0), .val (.int (9 : Int32)), .val (.ref s_P_10), .unset] [(.int (9 : Int32))])) t
                        refine XS.ifNo X123.here hx rfl (hb hby at_14) rfl (XT.i0_eq_f (by decide : ¬ ((9 : Int32) = (0 : Int32)))) ?_
                        show Steps p.tables e below (T123.setTop (mkF m 17 #[.val (.int p0), .val (.int (9 : Int32)), .val (.ref s_P_10), .unset] [])) t
                        refine XS.iconst X123.here hx rfl (hb hby at_17) ?_
                        show Steps p.tables e below (T123.setTop (mkF m 18 #[.val (.int p0), .val (.int (9 : Int32)), .val (.ref s_P_10), .unset] [(.int (1 : Int32))])) t
                        refine XS.goto X123.here hx rfl (pc0 := 18) (pc' := 22) rfl (hb hby at_18) (by decide) (by decide) ?_
                        show Steps p.tables e below (T123.setTop (mkF m 22 #[.val (.int p0), .val (.int (9 : Int32)), .val (.ref s_P_10), .unset] [(.int (1 : Int32))])) t
                        refine XS.istoreN X123.here hx rfl (hb hby at_22) rfl (l' := #[.val (.int p0), .val (.int (9 : Int32)), .val (.ref s_P_10), .val (.int (1 : Int32))]) rfl ?_
                        show Steps p.tables e below (T123.setTop (mkF m 23 #[.val (.int p0), .val (.int (9 : Int32)), .val (.ref s_P_10), .val (.int (1 : Int32))] [])) t
                        refine XS.aloadN X123.here hx rfl (hb hby at_23) rfl rfl ?_
                        show Steps p.tables e below (T123.setTop (mkF m 24 #[.val (.int p0), .val (.int (9 : Int32)), .val (.ref s_P_10), .val (.int (1 : Int32))] [(.ref s_P_10)])) t
                        exact k
                      obtain ⟨cq126, kq126, q126a, q126b, q126c⟩ := isOf hZ e123 E_P_10
                      obtain ⟨_, _, ⟨T126, L126, k126, n126⟩, -, X126, ⟨Lc126, hQ126, l126, y126, z126⟩, st126⟩ := X123.virtualBack hx (y := (⟨"com/example/mirk/mirk/eval/Measure", "perQuery", "()Z"⟩ : MethodName)) (z := (⟨"com/example/mirk/mirk/eval/Measure", "perQuery", "()Z"⟩ : MethodName)) hown (mvT hZ (hw _ (List.mem_of_getElem? (i := 8) rfl))) (mvT hZ (hw _ (List.mem_of_getElem? (i := 9) rfl))) (notFace_of_selects (args := #[]) (mvT hZ (hw _ (List.mem_of_getElem? (i := 11) rfl)))) (mvT hZ (hw _ (List.mem_of_getElem? (i := 11) rfl))) (mvT hZ (hw _ (List.mem_of_getElem? (i := 10) rfl))) (by decide) (backOf (W := 0) (rm2 l Z aZ hw [] s_P_10 s_NUM_Q h0 n0 Z0 S_NUM_Q) hZ (hw _ (List.mem_of_getElem? (i := 12) rfl)) (hw _ (List.mem_of_getElem? (i := 6) rfl)) (by decide) (by decide)) q126a q126c (g := (mkF m 24 #[.val (.int p0), .val (.int (9 : Int32)), .val (.ref s_P_10), .val (.int (1 : Int32))] [(.ref s_P_10)])) rfl (by rw [hml]; rfl) (Steps.refl _) (argsL := []) (rest := []) (lenOf pd_83 rfl) rfl (by show 2 * 0 + _ ≤ _; exact Nat.le_of_eq rfl) (hb hby at_24) (fun _ _ => ⟨rfl, e123, (by decide : 0 + 0 ≤ _), (by decide : 0 + 0 ≤ _)⟩)
                      dsimp only [Pt.U, Pt.locs, Pt.cells, Pt.slots] at X126 l126 y126 z126 st126 hQ126
                      subst l126 y126 z126
                      obtain ⟨rfl, N126q, e126⟩ := hQ126
                      have N126 := Fr.app N123 N126q
                      have go127 : ∀ t, Steps p.tables e below (T126.setTop (mkF m 27 #[.val (.int p0), .val (.int (9 : Int32)), .val (.ref s_P_10), .val (.int (1 : Int32))] [(.int (f2 s_P_10 s_NUM_Q))])) t → Steps p.tables e below (s₁.setTop (entryFrame m #[(.int p0)] maxLocals)) t := fun t k => go125 _ (st126.trans k)
                      have go129 : ∀ t, Steps p.tables e below (T126.setTop (mkF m 36 #[.val (.int p0), .val (.int (9 : Int32)), .val (.ref s_P_10), .val (.int (1 : Int32))] [(.int (b0_130 s_NUM_Q s_P_10))])) t → Steps p.tables e below (s₁.setTop (entryFrame m #[(.int p0)] maxLocals)) t := by
                        intro t k
                        refine go127 _ ?_
                        refine XS.iloadN X126.here hx rfl (hb hby at_27) rfl ?_
                        show Steps p.tables e below (T126.setTop (mkF m 28 #[.val (.int p0), .val (.int (9 : Int32)), .val (.ref s_P_10), .val (.int (1 : Int32))] [(.int (1 : Int32)), (.int (f2 s_P_10 s_NUM_Q))])) t
                        by_cases hc128 : (f2 s_P_10 s_NUM_Q) = (1 : Int32)
                        · refine XS.icmpNo X126.here hx rfl (hb hby at_28) rfl (XT.ii_ne_f hc128) ?_
                          show Steps p.tables e below (T126.setTop (mkF m 31 #[.val (.int p0), .val (.int (9 : Int32)), .val (.ref s_P_10), .val (.int (1 : Int32))] [])) t
                          refine XS.iconst X126.here hx rfl (hb hby at_31) ?_
                          show Steps p.tables e below (T126.setTop (mkF m 32 #[.val (.int p0), .val (.int (9 : Int32)), .val (.ref s_P_10), .val (.int (1 : Int32))] [(.int (1 : Int32))])) t
                          refine XS.goto X126.here hx rfl (pc0 := 32) (pc' := 36) rfl (hb hby at_32) (by decide) (by decide) ?_
                          show Steps p.tables e below (T126.setTop (mkF m 36 #[.val (.int p0), .val (.int (9 : Int32)), .val (.ref s_P_10), .val (.int (1 : Int32))] [(.int (1 : Int32))])) t
                          have hq131 : (b0_130 s_NUM_Q s_P_10) = (1 : Int32) := by rw [b0_130, if_pos hc128]
                          rw [hq131] at k
                          exact k
                        · refine XS.icmpYes X126.here hx rfl (pc0 := 28) (pc' := 35) rfl (hb hby at_28) rfl (XT.ii_ne_t hc128) (by decide) (by decide) ?_
                          show Steps p.tables e below (T126.setTop (mkF m 35 #[.val (.int p0), .val (.int (9 : Int32)), .val (.ref s_P_10), .val (.int (1 : Int32))] [])) t
                          refine XS.iconst X126.here hx rfl (hb hby at_35) ?_
                          show Steps p.tables e below (T126.setTop (mkF m 36 #[.val (.int p0), .val (.int (9 : Int32)), .val (.ref s_P_10), .val (.int (1 : Int32))] [(.int (0 : Int32))])) t
                          have hq132 : (b0_130 s_NUM_Q s_P_10) = (0 : Int32) := by rw [b0_130, if_neg hc128]
                          rw [hq132] at k
                          exact k
                      obtain ⟨fs, hr, hrun, hended, hW, hsame⟩ := X126.leave (v := some (.int (b0_130 s_NUM_Q s_P_10))) (fun h => by rw [Bd.returns] at h; cases h)
                      refine ⟨_, _, go129 _ (Jvm.RoadKit.retOut X126 hx Bd.returns (own_nz (by unfold b0_130; (repeat' split) <;> first | exact Or.inl rfl | exact Or.inr rfl)) (Or.inl ⟨rfl, Or.inr (Or.inl rfl), _, rfl⟩) (hb hby at_36) hr), hrun, hended, _, _, rfl, ?_, ⟨_, rfl⟩, hW, hsame.mono (by decide) (by decide)⟩
                      show Q0 _ _ p0 s_NUM_Q s_NUM_REL_RET s_RPREC s_NDCG s_BPREF s_NDCG_CUT_10 s_RECIP_RANK s_NUM_REL s_RECALL_10 s_P_20 s_P_5 s_NUM_RET s_RECALL_100 s_MAP s_P_10 h0 _ (T126.setFrames fs).heap _
                      have hE : (T126.setFrames fs).heap = h0 := e126
                      rw [hE]
                      exact ⟨congrArg (fun z => some (Value.int z)) ((by rw [f0, if_neg hs3, if_neg hs16, if_neg hs29, if_neg hs42, if_neg hs55, if_neg hs68, if_neg hs81, if_neg hs94, if_neg hs107, if_pos hs120] : (b0_130 s_NUM_Q s_P_10) = (f0 p0 s_NUM_Q s_NUM_REL_RET s_RPREC s_NDCG s_BPREF s_NDCG_CUT_10 s_RECIP_RANK s_NUM_REL s_RECALL_10 s_P_20 s_P_5 s_NUM_RET s_RECALL_100 s_MAP s_P_10)).trans (f0_one p0 s_NUM_Q s_NUM_REL_RET s_RPREC s_NDCG s_BPREF s_NDCG_CUT_10 s_RECIP_RANK s_NUM_REL s_RECALL_10 s_P_20 s_P_5 s_NUM_RET s_RECALL_100 s_MAP s_P_10 ne_NUM_RET ne_NUM_REL ne_NUM_REL_RET ne_MAP ne_RPREC ne_BPREF ne_RECIP_RANK ne_P_5 ne_P_10 ne_P_20 ne_RECALL_10 ne_RECALL_100 ne_NDCG ne_NDCG_CUT_10)), N126⟩
                    · by_cases hs133 : (v0_1 p0) = (10 : Int32)
                      · have go134 : ∀ t, Steps p.tables e below (s₁.setTop (mkF m 8 #[.val (.int p0), .val (.int (10 : Int32)), .unset, .unset] [])) t → Steps p.tables e below (s₁.setTop (entryFrame m #[(.int p0)] maxLocals)) t := by
                          have q := go2
                          rw [hs133] at q
                          exact q
                        have go135 : ∀ t, Steps p.tables e below (s₁.setTop (mkF m 9 #[.val (.int p0), .val (.int (10 : Int32)), .unset, .unset] [(.int (10 : Int32))])) t → Steps p.tables e below (s₁.setTop (entryFrame m #[(.int p0)] maxLocals)) t := by
                          intro t k
                          refine go134 _ ?_
                          refine XS.iloadN X0.here hx rfl (hb hby at_8) rfl ?_
                          show Steps p.tables e below (s₁.setTop (mkF m 9 #[.val (.int p0), .val (.int (10 : Int32)), .unset, .unset] [(.int (10 : Int32))])) t
                          exact k
                        obtain ⟨_, _, ⟨T136, L136, k136, n136⟩, -, X136, ⟨Lc136, hQ136, l136, y136, z136⟩, st136⟩ := Jvm.LawKit.callS X0 hx (y := (⟨"com/example/mirk/mirk/eval/MeasurePerQueryPinLaw", "pick", "(I)Lcom/example/mirk/mirk/eval/Measure;"⟩ : MethodName)) hown (mvT hZ (hw _ (List.mem_of_getElem? (i := 1) rfl))) (mvT hZ (hw _ (List.mem_of_getElem? (i := 2) rfl))) (mvT hZ (hw _ (List.mem_of_getElem? (i := 3) rfl))) (mvT hZ (hw _ (List.mem_of_getElem? (i := 4) rfl))) (by decide) (backOf (W := 0) (rm1 l Z aZ hw [] (10 : Int32) s_NUM_Q s_NUM_RET s_NUM_REL s_NUM_REL_RET s_MAP s_RPREC s_BPREF s_RECIP_RANK s_P_5 s_P_10 s_P_20 s_RECALL_10 s_RECALL_100 s_NDCG s_NDCG_CUT_10 h0 n0 Z0 S_NUM_Q S_NUM_RET S_NUM_REL S_NUM_REL_RET S_MAP S_RPREC S_BPREF S_RECIP_RANK S_P_5 S_P_10 S_P_20 S_RECALL_10 S_RECALL_100 S_NDCG S_NDCG_CUT_10) hZ (hw _ (List.mem_of_getElem? (i := 4) rfl)) (hw _ (List.mem_of_getElem? (i := 3) rfl)) (by decide) (by decide)) (g := (mkF m 9 #[.val (.int p0), .val (.int (10 : Int32)), .unset, .unset] [(.int (10 : Int32))])) rfl (by rw [hml]; rfl) (argsL := [(.int (10 : Int32))]) (rest := []) (lenOf pd_82 rfl) rfl (by show 2 * 0 + _ ≤ _; exact Nat.le_of_eq rfl) (hb hby at_9) (fun _ _ => ⟨rfl, e0, (by decide : 0 + 0 ≤ _), (by decide : 0 + 0 ≤ _)⟩)
                        dsimp only [Pt.U, Pt.locs, Pt.cells, Pt.slots] at X136 l136 y136 z136 st136 hQ136
                        subst l136 y136 z136
                        obtain ⟨rfl, N136q, e136⟩ := hQ136
                        have N136 := Fr.app N0 N136q
                        have go137 : ∀ t, Steps p.tables e below (T136.setTop (mkF m 12 #[.val (.int p0), .val (.int (10 : Int32)), .unset, .unset] [(.ref s_P_20)])) t → Steps p.tables e below (s₁.setTop (entryFrame m #[(.int p0)] maxLocals)) t := fun t k => go135 _ (st136 _ k)
                        have go138 : ∀ t, Steps p.tables e below (T136.setTop (mkF m 24 #[.val (.int p0), .val (.int (10 : Int32)), .val (.ref s_P_20), .val (.int (1 : Int32))] [(.ref s_P_20)])) t → Steps p.tables e below (s₁.setTop (entryFrame m #[(.int p0)] maxLocals)) t := by
                          intro t k
                          refine go137 _ ?_
                          refine XS.astoreN X136.here hx rfl (hb hby at_12) rfl rfl (l' := #[.val (.int p0), .val (.int (10 : Int32)), .val (.ref s_P_20), .unset]) rfl ?_
                          show Steps p.tables e below (T136.setTop (mkF m 13 #[.val (.int p0), .val (.int (10 : Int32)), .val (.ref s_P_20), .unset] [])) t
                          refine XS.iloadN X136.here hx rfl (hb hby at_13) rfl ?_
                          show Steps p.tables e below (T136.setTop (mkF m 14 #[.val (.int p0), .val (.int (10 : Int32)), .val (.ref s_P_20), .unset] [(.int (10 : Int32))])) t
                          refine XS.ifNo X136.here hx rfl (hb hby at_14) rfl (XT.i0_eq_f (by decide : ¬ ((10 : Int32) = (0 : Int32)))) ?_
                          show Steps p.tables e below (T136.setTop (mkF m 17 #[.val (.int p0), .val (.int (10 : Int32)), .val (.ref s_P_20), .unset] [])) t
                          refine XS.iconst X136.here hx rfl (hb hby at_17) ?_
                          show Steps p.tables e below (T136.setTop (mkF m 18 #[.val (.int p0), .val (.int (10 : Int32)), .val (.ref s_P_20), .unset] [(.int (1 : Int32))])) t
                          refine XS.goto X136.here hx rfl (pc0 := 18) (pc' := 22) rfl (hb hby at_18) (by decide) (by decide) ?_
                          show Steps p.tables e below (T136.setTop (mkF m 22 #[.val (.int p0), .val (.int (10 : Int32)), .val (.ref s_P_20), .unset] [(.int (1 : Int32))])) t
                          refine XS.istoreN X136.here hx rfl (hb hby at_22) rfl (l' := #[.val (.int p0), .val (.int (10 : Int32)), .val (.ref s_P_20), .val (.int (1 : Int32))]) rfl ?_
                          show Steps p.tables e below (T136.setTop (mkF m 23 #[.val (.int p0), .val (.int (10 : Int32)), .val (.ref s_P_20), .val (.int (1 : Int32))] [])) t
                          refine XS.aloadN X136.here hx rfl (hb hby at_23) rfl rfl ?_
                          show Steps p.tables e below (T136.setTop (mkF m 24 #[.val (.int p0), .val (.int (10 : Int32)), .val (.ref s_P_20), .val (.int (1 : Int32))] [(.ref s_P_20)])) t
                          exact k
                        obtain ⟨cq139, kq139, q139a, q139b, q139c⟩ := isOf hZ e136 E_P_20
                        obtain ⟨_, _, ⟨T139, L139, k139, n139⟩, -, X139, ⟨Lc139, hQ139, l139, y139, z139⟩, st139⟩ := X136.virtualBack hx (y := (⟨"com/example/mirk/mirk/eval/Measure", "perQuery", "()Z"⟩ : MethodName)) (z := (⟨"com/example/mirk/mirk/eval/Measure", "perQuery", "()Z"⟩ : MethodName)) hown (mvT hZ (hw _ (List.mem_of_getElem? (i := 8) rfl))) (mvT hZ (hw _ (List.mem_of_getElem? (i := 9) rfl))) (notFace_of_selects (args := #[]) (mvT hZ (hw _ (List.mem_of_getElem? (i := 11) rfl)))) (mvT hZ (hw _ (List.mem_of_getElem? (i := 11) rfl))) (mvT hZ (hw _ (List.mem_of_getElem? (i := 10) rfl))) (by decide) (backOf (W := 0) (rm2 l Z aZ hw [] s_P_20 s_NUM_Q h0 n0 Z0 S_NUM_Q) hZ (hw _ (List.mem_of_getElem? (i := 12) rfl)) (hw _ (List.mem_of_getElem? (i := 6) rfl)) (by decide) (by decide)) q139a q139c (g := (mkF m 24 #[.val (.int p0), .val (.int (10 : Int32)), .val (.ref s_P_20), .val (.int (1 : Int32))] [(.ref s_P_20)])) rfl (by rw [hml]; rfl) (Steps.refl _) (argsL := []) (rest := []) (lenOf pd_83 rfl) rfl (by show 2 * 0 + _ ≤ _; exact Nat.le_of_eq rfl) (hb hby at_24) (fun _ _ => ⟨rfl, e136, (by decide : 0 + 0 ≤ _), (by decide : 0 + 0 ≤ _)⟩)
                        dsimp only [Pt.U, Pt.locs, Pt.cells, Pt.slots] at X139 l139 y139 z139 st139 hQ139
                        subst l139 y139 z139
                        obtain ⟨rfl, N139q, e139⟩ := hQ139
                        have N139 := Fr.app N136 N139q
                        have go140 : ∀ t, Steps p.tables e below (T139.setTop (mkF m 27 #[.val (.int p0), .val (.int (10 : Int32)), .val (.ref s_P_20), .val (.int (1 : Int32))] [(.int (f2 s_P_20 s_NUM_Q))])) t → Steps p.tables e below (s₁.setTop (entryFrame m #[(.int p0)] maxLocals)) t := fun t k => go138 _ (st139.trans k)
                        have go142 : ∀ t, Steps p.tables e below (T139.setTop (mkF m 36 #[.val (.int p0), .val (.int (10 : Int32)), .val (.ref s_P_20), .val (.int (1 : Int32))] [(.int (b0_143 s_NUM_Q s_P_20))])) t → Steps p.tables e below (s₁.setTop (entryFrame m #[(.int p0)] maxLocals)) t := by
                          intro t k
                          refine go140 _ ?_
                          refine XS.iloadN X139.here hx rfl (hb hby at_27) rfl ?_
                          show Steps p.tables e below (T139.setTop (mkF m 28 #[.val (.int p0), .val (.int (10 : Int32)), .val (.ref s_P_20), .val (.int (1 : Int32))] [(.int (1 : Int32)), (.int (f2 s_P_20 s_NUM_Q))])) t
                          by_cases hc141 : (f2 s_P_20 s_NUM_Q) = (1 : Int32)
                          · refine XS.icmpNo X139.here hx rfl (hb hby at_28) rfl (XT.ii_ne_f hc141) ?_
                            show Steps p.tables e below (T139.setTop (mkF m 31 #[.val (.int p0), .val (.int (10 : Int32)), .val (.ref s_P_20), .val (.int (1 : Int32))] [])) t
                            refine XS.iconst X139.here hx rfl (hb hby at_31) ?_
                            show Steps p.tables e below (T139.setTop (mkF m 32 #[.val (.int p0), .val (.int (10 : Int32)), .val (.ref s_P_20), .val (.int (1 : Int32))] [(.int (1 : Int32))])) t
                            refine XS.goto X139.here hx rfl (pc0 := 32) (pc' := 36) rfl (hb hby at_32) (by decide) (by decide) ?_
                            show Steps p.tables e below (T139.setTop (mkF m 36 #[.val (.int p0), .val (.int (10 : Int32)), .val (.ref s_P_20), .val (.int (1 : Int32))] [(.int (1 : Int32))])) t
                            have hq144 : (b0_143 s_NUM_Q s_P_20) = (1 : Int32) := by rw [b0_143, if_pos hc141]
                            rw [hq144] at k
                            exact k
                          · refine XS.icmpYes X139.here hx rfl (pc0 := 28) (pc' := 35) rfl (hb hby at_28) rfl (XT.ii_ne_t hc141) (by decide) (by decide) ?_
                            show Steps p.tables e below (T139.setTop (mkF m 35 #[.val (.int p0), .val (.int (10 : Int32)), .val (.ref s_P_20), .val (.int (1 : Int32))] [])) t
                            refine XS.iconst X139.here hx rfl (hb hby at_35) ?_
                            show Steps p.tables e below (T139.setTop (mkF m 36 #[.val (.int p0), .val (.int (10 : Int32)), .val (.ref s_P_20), .val (.int (1 : Int32))] [(.int (0 : Int32))])) t
                            have hq145 : (b0_143 s_NUM_Q s_P_20) = (0 : Int32) := by rw [b0_143, if_neg hc141]
                            rw [hq145] at k
                            exact k
                        obtain ⟨fs, hr, hrun, hended, hW, hsame⟩ := X139.leave (v := some (.int (b0_143 s_NUM_Q s_P_20))) (fun h => by rw [Bd.returns] at h; cases h)
                        refine ⟨_, _, go142 _ (Jvm.RoadKit.retOut X139 hx Bd.returns (own_nz (by unfold b0_143; (repeat' split) <;> first | exact Or.inl rfl | exact Or.inr rfl)) (Or.inl ⟨rfl, Or.inr (Or.inl rfl), _, rfl⟩) (hb hby at_36) hr), hrun, hended, _, _, rfl, ?_, ⟨_, rfl⟩, hW, hsame.mono (by decide) (by decide)⟩
                        show Q0 _ _ p0 s_NUM_Q s_NUM_REL_RET s_RPREC s_NDCG s_BPREF s_NDCG_CUT_10 s_RECIP_RANK s_NUM_REL s_RECALL_10 s_P_20 s_P_5 s_NUM_RET s_RECALL_100 s_MAP s_P_10 h0 _ (T139.setFrames fs).heap _
                        have hE : (T139.setFrames fs).heap = h0 := e139
                        rw [hE]
                        exact ⟨congrArg (fun z => some (Value.int z)) ((by rw [f0, if_neg hs3, if_neg hs16, if_neg hs29, if_neg hs42, if_neg hs55, if_neg hs68, if_neg hs81, if_neg hs94, if_neg hs107, if_neg hs120, if_pos hs133] : (b0_143 s_NUM_Q s_P_20) = (f0 p0 s_NUM_Q s_NUM_REL_RET s_RPREC s_NDCG s_BPREF s_NDCG_CUT_10 s_RECIP_RANK s_NUM_REL s_RECALL_10 s_P_20 s_P_5 s_NUM_RET s_RECALL_100 s_MAP s_P_10)).trans (f0_one p0 s_NUM_Q s_NUM_REL_RET s_RPREC s_NDCG s_BPREF s_NDCG_CUT_10 s_RECIP_RANK s_NUM_REL s_RECALL_10 s_P_20 s_P_5 s_NUM_RET s_RECALL_100 s_MAP s_P_10 ne_NUM_RET ne_NUM_REL ne_NUM_REL_RET ne_MAP ne_RPREC ne_BPREF ne_RECIP_RANK ne_P_5 ne_P_10 ne_P_20 ne_RECALL_10 ne_RECALL_100 ne_NDCG ne_NDCG_CUT_10)), N139⟩
                      · by_cases hs146 : (v0_1 p0) = (11 : Int32)
                        · have go147 : ∀ t, Steps p.tables e below (s₁.setTop (mkF m 8 #[.val (.int p0), .val (.int (11 : Int32)), .unset, .unset] [])) t → Steps p.tables e below (s₁.setTop (entryFrame m #[(.int p0)] maxLocals)) t := by
                            have q := go2
                            rw [hs146] at q
                            exact q
                          have go148 : ∀ t, Steps p.tables e below (s₁.setTop (mkF m 9 #[.val (.int p0), .val (.int (11 : Int32)), .unset, .unset] [(.int (11 : Int32))])) t → Steps p.tables e below (s₁.setTop (entryFrame m #[(.int p0)] maxLocals)) t := by
                            intro t k
                            refine go147 _ ?_
                            refine XS.iloadN X0.here hx rfl (hb hby at_8) rfl ?_
                            show Steps p.tables e below (s₁.setTop (mkF m 9 #[.val (.int p0), .val (.int (11 : Int32)), .unset, .unset] [(.int (11 : Int32))])) t
                            exact k
                          obtain ⟨_, _, ⟨T149, L149, k149, n149⟩, -, X149, ⟨Lc149, hQ149, l149, y149, z149⟩, st149⟩ := Jvm.LawKit.callS X0 hx (y := (⟨"com/example/mirk/mirk/eval/MeasurePerQueryPinLaw", "pick", "(I)Lcom/example/mirk/mirk/eval/Measure;"⟩ : MethodName)) hown (mvT hZ (hw _ (List.mem_of_getElem? (i := 1) rfl))) (mvT hZ (hw _ (List.mem_of_getElem? (i := 2) rfl))) (mvT hZ (hw _ (List.mem_of_getElem? (i := 3) rfl))) (mvT hZ (hw _ (List.mem_of_getElem? (i := 4) rfl))) (by decide) (backOf (W := 0) (rm1 l Z aZ hw [] (11 : Int32) s_NUM_Q s_NUM_RET s_NUM_REL s_NUM_REL_RET s_MAP s_RPREC s_BPREF s_RECIP_RANK s_P_5 s_P_10 s_P_20 s_RECALL_10 s_RECALL_100 s_NDCG s_NDCG_CUT_10 h0 n0 Z0 S_NUM_Q S_NUM_RET S_NUM_REL S_NUM_REL_RET S_MAP S_RPREC S_BPREF S_RECIP_RANK S_P_5 S_P_10 S_P_20 S_RECALL_10 S_RECALL_100 S_NDCG S_NDCG_CUT_10) hZ (hw _ (List.mem_of_getElem? (i := 4) rfl)) (hw _ (List.mem_of_getElem? (i := 3) rfl)) (by decide) (by decide)) (g := (mkF m 9 #[.val (.int p0), .val (.int (11 : Int32)), .unset, .unset] [(.int (11 : Int32))])) rfl (by rw [hml]; rfl) (argsL := [(.int (11 : Int32))]) (rest := []) (lenOf pd_82 rfl) rfl (by show 2 * 0 + _ ≤ _; exact Nat.le_of_eq rfl) (hb hby at_9) (fun _ _ => ⟨rfl, e0, (by decide : 0 + 0 ≤ _), (by decide : 0 + 0 ≤ _)⟩)
                          dsimp only [Pt.U, Pt.locs, Pt.cells, Pt.slots] at X149 l149 y149 z149 st149 hQ149
                          subst l149 y149 z149
                          obtain ⟨rfl, N149q, e149⟩ := hQ149
                          have N149 := Fr.app N0 N149q
                          have go150 : ∀ t, Steps p.tables e below (T149.setTop (mkF m 12 #[.val (.int p0), .val (.int (11 : Int32)), .unset, .unset] [(.ref s_RECALL_10)])) t → Steps p.tables e below (s₁.setTop (entryFrame m #[(.int p0)] maxLocals)) t := fun t k => go148 _ (st149 _ k)
                          have go151 : ∀ t, Steps p.tables e below (T149.setTop (mkF m 24 #[.val (.int p0), .val (.int (11 : Int32)), .val (.ref s_RECALL_10), .val (.int (1 : Int32))] [(.ref s_RECALL_10)])) t → Steps p.tables e below (s₁.setTop (entryFrame m #[(.int p0)] maxLocals)) t := by
                            intro t k
                            refine go150 _ ?_
                            refine XS.astoreN X149.here hx rfl (hb hby at_12) rfl rfl (l' := #[.val (.int p0), .val (.int (11 : Int32)), .val (.ref s_RECALL_10), .unset]) rfl ?_
                            show Steps p.tables e below (T149.setTop (mkF m 13 #[.val (.int p0), .val (.int (11 : Int32)), .val (.ref s_RECALL_10), .unset] [])) t
                            refine XS.iloadN X149.here hx rfl (hb hby at_13) rfl ?_
                            show Steps p.tables e below (T149.setTop (mkF m 14 #[.val (.int p0), .val (.int (11 : Int32)), .val (.ref s_RECALL_10), .unset] [(.int (11 : Int32))])) t
                            refine XS.ifNo X149.here hx rfl (hb hby at_14) rfl (XT.i0_eq_f (by decide : ¬ ((11 : Int32) = (0 : Int32)))) ?_
                            show Steps p.tables e below (T149.setTop (mkF m 17 #[.val (.int p0), .val (.int (11 : Int32)), .val (.ref s_RECALL_10), .unset] [])) t
                            refine XS.iconst X149.here hx rfl (hb hby at_17) ?_
                            show Steps p.tables e below (T149.setTop (mkF m 18 #[.val (.int p0), .val (.int (11 : Int32)), .val (.ref s_RECALL_10), .unset] [(.int (1 : Int32))])) t
                            refine XS.goto X149.here hx rfl (pc0 := 18) (pc' := 22) rfl (hb hby at_18) (by decide) (by decide) ?_
                            show Steps p.tables e below (T149.setTop (mkF m 22 #[.val (.int p0), .val (.int (11 : Int32)), .val (.ref s_RECALL_10), .unset] [(.int (1 : Int32))])) t
                            refine XS.istoreN X149.here hx rfl (hb hby at_22) rfl (l' := #[.val (.int p0), .val (.int (11 : Int32)), .val (.ref s_RECALL_10), .val (.int (1 : Int32))]) rfl ?_
                            show Steps p.tables e below (T149.setTop (mkF m 23 #[.val (.int p0), .val (.int (11 : Int32)), .val (.ref s_RECALL_10), .val (.int (1 : Int32))] [])) t
                            refine XS.aloadN X149.here hx rfl (hb hby at_23) rfl rfl ?_
                            show Steps p.tables e below (T149.setTop (mkF m 24 #[.val (.int p0), .val (.int (11 : Int32)), .val (.ref s_RECALL_10), .val (.int (1 : Int32))] [(.ref s_RECALL_10)])) t
                            exact k
                          obtain ⟨cq152, kq152, q152a, q152b, q152c⟩ := isOf hZ e149 E_RECALL_10
                          obtain ⟨_, _, ⟨T152, L152, k152, n152⟩, -, X152, ⟨Lc152, hQ152, l152, y152, z152⟩, st152⟩ := X149.virtualBack hx (y := (⟨"com/example/mirk/mirk/eval/Measure", "perQuery", "()Z"⟩ : MethodName)) (z := (⟨"com/example/mirk/mirk/eval/Measure", "perQuery", "()Z"⟩ : MethodName)) hown (mvT hZ (hw _ (List.mem_of_getElem? (i := 8) rfl))) (mvT hZ (hw _ (List.mem_of_getElem? (i := 9) rfl))) (notFace_of_selects (args := #[]) (mvT hZ (hw _ (List.mem_of_getElem? (i := 11) rfl)))) (mvT hZ (hw _ (List.mem_of_getElem? (i := 11) rfl))) (mvT hZ (hw _ (List.mem_of_getElem? (i := 10) rfl))) (by decide) (backOf (W := 0) (rm2 l Z aZ hw [] s_RECALL_10 s_NUM_Q h0 n0 Z0 S_NUM_Q) hZ (hw _ (List.mem_of_getElem? (i := 12) rfl)) (hw _ (List.mem_of_getElem? (i := 6) rfl)) (by decide) (by decide)) q152a q152c (g := (mkF m 24 #[.val (.int p0), .val (.int (11 : Int32)), .val (.ref s_RECALL_10), .val (.int (1 : Int32))] [(.ref s_RECALL_10)])) rfl (by rw [hml]; rfl) (Steps.refl _) (argsL := []) (rest := []) (lenOf pd_83 rfl) rfl (by show 2 * 0 + _ ≤ _; exact Nat.le_of_eq rfl) (hb hby at_24) (fun _ _ => ⟨rfl, e149, (by decide : 0 + 0 ≤ _), (by decide : 0 + 0 ≤ _)⟩)
                          dsimp only [Pt.U, Pt.locs, Pt.cells, Pt.slots] at X152 l152 y152 z152 st152 hQ152
                          subst l152 y152 z152
                          obtain ⟨rfl, N152q, e152⟩ := hQ152
                          have N152 := Fr.app N149 N152q
                          have go153 : ∀ t, Steps p.tables e below (T152.setTop (mkF m 27 #[.val (.int p0), .val (.int (11 : Int32)), .val (.ref s_RECALL_10), .val (.int (1 : Int32))] [(.int (f2 s_RECALL_10 s_NUM_Q))])) t → Steps p.tables e below (s₁.setTop (entryFrame m #[(.int p0)] maxLocals)) t := fun t k => go151 _ (st152.trans k)
                          have go155 : ∀ t, Steps p.tables e below (T152.setTop (mkF m 36 #[.val (.int p0), .val (.int (11 : Int32)), .val (.ref s_RECALL_10), .val (.int (1 : Int32))] [(.int (b0_156 s_NUM_Q s_RECALL_10))])) t → Steps p.tables e below (s₁.setTop (entryFrame m #[(.int p0)] maxLocals)) t := by
                            intro t k
                            refine go153 _ ?_
                            refine XS.iloadN X152.here hx rfl (hb hby at_27) rfl ?_
                            show Steps p.tables e below (T152.setTop (mkF m 28 #[.val (.int p0), .val (.int (11 : Int32)), .val (.ref s_RECALL_10), .val (.int (1 : Int32))] [(.int (1 : Int32)), (.int (f2 s_RECALL_10 s_NUM_Q))])) t
                            by_cases hc154 : (f2 s_RECALL_10 s_NUM_Q) = (1 : Int32)
                            · refine XS.icmpNo X152.here hx rfl (hb hby at_28) rfl (XT.ii_ne_f hc154) ?_
                              show Steps p.tables e below (T152.setTop (mkF m 31 #[.val (.int p0), .val (.int (11 : Int32)), .val (.ref s_RECALL_10), .val (.int (1 : Int32))] [])) t
                              refine XS.iconst X152.here hx rfl (hb hby at_31) ?_
                              show Steps p.tables e below (T152.setTop (mkF m 32 #[.val (.int p0), .val (.int (11 : Int32)), .val (.ref s_RECALL_10), .val (.int (1 : Int32))] [(.int (1 : Int32))])) t
                              refine XS.goto X152.here hx rfl (pc0 := 32) (pc' := 36) rfl (hb hby at_32) (by decide) (by decide) ?_
                              show Steps p.tables e below (T152.setTop (mkF m 36 #[.val (.int p0), .val (.int (11 : Int32)), .val (.ref s_RECALL_10), .val (.int (1 : Int32))] [(.int (1 : Int32))])) t
                              have hq157 : (b0_156 s_NUM_Q s_RECALL_10) = (1 : Int32) := by rw [b0_156, if_pos hc154]
                              rw [hq157] at k
                              exact k
                            · refine XS.icmpYes X152.here hx rfl (pc0 := 28) (pc' := 35) rfl (hb hby at_28) rfl (XT.ii_ne_t hc154) (by decide) (by decide) ?_
                              show Steps p.tables e below (T152.setTop (mkF m 35 #[.val (.int p0), .val (.int (11 : Int32)), .val (.ref s_RECALL_10), .val (.int (1 : Int32))] [])) t
                              refine XS.iconst X152.here hx rfl (hb hby at_35) ?_
                              show Steps p.tables e below (T152.setTop (mkF m 36 #[.val (.int p0), .val (.int (11 : Int32)), .val (.ref s_RECALL_10), .val (.int (1 : Int32))] [(.int (0 : Int32))])) t
                              have hq158 : (b0_156 s_NUM_Q s_RECALL_10) = (0 : Int32) := by rw [b0_156, if_neg hc154]
                              rw [hq158] at k
                              exact k
                          obtain ⟨fs, hr, hrun, hended, hW, hsame⟩ := X152.leave (v := some (.int (b0_156 s_NUM_Q s_RECALL_10))) (fun h => by rw [Bd.returns] at h; cases h)
                          refine ⟨_, _, go155 _ (Jvm.RoadKit.retOut X152 hx Bd.returns (own_nz (by unfold b0_156; (repeat' split) <;> first | exact Or.inl rfl | exact Or.inr rfl)) (Or.inl ⟨rfl, Or.inr (Or.inl rfl), _, rfl⟩) (hb hby at_36) hr), hrun, hended, _, _, rfl, ?_, ⟨_, rfl⟩, hW, hsame.mono (by decide) (by decide)⟩
                          show Q0 _ _ p0 s_NUM_Q s_NUM_REL_RET s_RPREC s_NDCG s_BPREF s_NDCG_CUT_10 s_RECIP_RANK s_NUM_REL s_RECALL_10 s_P_20 s_P_5 s_NUM_RET s_RECALL_100 s_MAP s_P_10 h0 _ (T152.setFrames fs).heap _
                          have hE : (T152.setFrames fs).heap = h0 := e152
                          rw [hE]
                          exact ⟨congrArg (fun z => some (Value.int z)) ((by rw [f0, if_neg hs3, if_neg hs16, if_neg hs29, if_neg hs42, if_neg hs55, if_neg hs68, if_neg hs81, if_neg hs94, if_neg hs107, if_neg hs120, if_neg hs133, if_pos hs146] : (b0_156 s_NUM_Q s_RECALL_10) = (f0 p0 s_NUM_Q s_NUM_REL_RET s_RPREC s_NDCG s_BPREF s_NDCG_CUT_10 s_RECIP_RANK s_NUM_REL s_RECALL_10 s_P_20 s_P_5 s_NUM_RET s_RECALL_100 s_MAP s_P_10)).trans (f0_one p0 s_NUM_Q s_NUM_REL_RET s_RPREC s_NDCG s_BPREF s_NDCG_CUT_10 s_RECIP_RANK s_NUM_REL s_RECALL_10 s_P_20 s_P_5 s_NUM_RET s_RECALL_100 s_MAP s_P_10 ne_NUM_RET ne_NUM_REL ne_NUM_REL_RET ne_MAP ne_RPREC ne_BPREF ne_RECIP_RANK ne_P_5 ne_P_10 ne_P_20 ne_RECALL_10 ne_RECALL_100 ne_NDCG ne_NDCG_CUT_10)), N152⟩
                        · by_cases hs159 : (v0_1 p0) = (12 : Int32)
                          · have go160 : ∀ t, Steps p.tables e below (s₁.setTop (mkF m 8 #[.val (.int p0), .val (.int (12 : Int32)), .unset, .unset] [])) t → Steps p.tables e below (s₁.setTop (entryFrame m #[(.int p0)] maxLocals)) t := by
                              have q := go2
                              rw [hs159] at q
                              exact q
                            have go161 : ∀ t, Steps p.tables e below (s₁.setTop (mkF m 9 #[.val (.int p0), .val (.int (12 : Int32)), .unset, .unset] [(.int (12 : Int32))])) t → Steps p.tables e below (s₁.setTop (entryFrame m #[(.int p0)] maxLocals)) t := by
                              intro t k
                              refine go160 _ ?_
                              refine XS.iloadN X0.here hx rfl (hb hby at_8) rfl ?_
                              show Steps p.tables e below (s₁.setTop (mkF m 9 #[.val (.int p0), .val (.int (12 : Int32)), .unset, .unset] [(.int (12 : Int32))])) t
                              exact k
                            obtain ⟨_, _, ⟨T162, L162, k162, n162⟩, -, X162, ⟨Lc162, hQ162, l162, y162, z162⟩, st162⟩ := Jvm.LawKit.callS X0 hx (y := (⟨"com/example/mirk/mirk/eval/MeasurePerQueryPinLaw", "pick", "(I)Lcom/example/mirk/mirk/eval/Measure;"⟩ : MethodName)) hown (mvT hZ (hw _ (List.mem_of_getElem? (i := 1) rfl))) (mvT hZ (hw _ (List.mem_of_getElem? (i := 2) rfl))) (mvT hZ (hw _ (List.mem_of_getElem? (i := 3) rfl))) (mvT hZ (hw _ (List.mem_of_getElem? (i := 4) rfl))) (by decide) (backOf (W := 0) (rm1 l Z aZ hw [] (12 : Int32) s_NUM_Q s_NUM_RET s_NUM_REL s_NUM_REL_RET s_MAP s_RPREC s_BPREF s_RECIP_RANK s_P_5 s_P_10 s_P_20 s_RECALL_10 s_RECALL_100 s_NDCG s_NDCG_CUT_10 h0 n0 Z0 S_NUM_Q S_NUM_RET S_NUM_REL S_NUM_REL_RET S_MAP S_RPREC S_BPREF S_RECIP_RANK S_P_5 S_P_10 S_P_20 S_RECALL_10 S_RECALL_100 S_NDCG S_NDCG_CUT_10) hZ (hw _ (List.mem_of_getElem? (i := 4) rfl)) (hw _ (List.mem_of_getElem? (i := 3) rfl)) (by decide) (by decide)) (g := (mkF m 9 #[.val (.int p0), .val (.int (12 : Int32)), .unset, .unset] [(.int (12 : Int32))])) rfl (by rw [hml]; rfl) (argsL := [(.int (12 : Int32))]) (rest := []) (lenOf pd_82 rfl) rfl (by show 2 * 0 + _ ≤ _; exact Nat.le_of_eq rfl) (hb hby at_9) (fun _ _ => ⟨rfl, e0, (by decide : 0 + 0 ≤ _), (by decide : 0 + 0 ≤ _)⟩)
                            dsimp only [Pt.U, Pt.locs, Pt.cells, Pt.slots] at X162 l162 y162 z162 st162 hQ162
                            subst l162 y162 z162
                            obtain ⟨rfl, N162q, e162⟩ := hQ162
                            have N162 := Fr.app N0 N162q
                            have go163 : ∀ t, Steps p.tables e below (T162.setTop (mkF m 12 #[.val (.int p0), .val (.int (12 : Int32)), .unset, .unset] [(.ref s_RECALL_100)])) t → Steps p.tables e below (s₁.setTop (entryFrame m #[(.int p0)] maxLocals)) t := fun t k => go161 _ (st162 _ k)
                            have go164 : ∀ t, Steps p.tables e below (T162.setTop (mkF m 24 #[.val (.int p0), .val (.int (12 : Int32)), .val (.ref s_RECALL_100), .val (.int (1 : Int32))] [(.ref s_RECALL_100)])) t → Steps p.tables e below (s₁.setTop (entryFrame m #[(.int p0)] maxLocals)) t := by
                              intro t k
                              refine go163 _ ?_
                              refine XS.astoreN X162.here hx rfl (hb hby at_12) rfl rfl (l' := #[.val (.int p0), .val (.int (12 : Int32)), .val (.ref s_RECALL_100), .unset]) rfl ?_
                              show Steps p.tables e below (T162.setTop (mkF m 13 #[.val (.int p0), .val (.int (12 : Int32)), .val (.ref s_RECALL_100), .unset] [])) t
                              refine XS.iloadN X162.here hx rfl (hb hby at_13) rfl ?_
                              show Steps p.tables e below (T162.setTop (mkF m 14 #[.val (.int p0), .val (.int (12 : Int32)), .val (.ref s_RECALL_100), .unset] [(.int (12 : Int32))])) t
                              refine XS.ifNo X162.here hx rfl (hb hby at_14) rfl (XT.i0_eq_f (by decide : ¬ ((12 : Int32) = (0 : Int32)))) ?_
                              show Steps p.tables e below (T162.setTop (mkF m 17 #[.val (.int p0), .val (.int (12 : Int32)), .val (.ref s_RECALL_100), .unset] [])) t
                              refine XS.iconst X162.here hx rfl (hb hby at_17) ?_
                              show Steps p.tables e below (T162.setTop (mkF m 18 #[.val (.int p0), .val (.int (12 : Int32)), .val (.ref s_RECALL_100), .unset] [(.int (1 : Int32))])) t
                              refine XS.goto X162.here hx rfl (pc0 := 18) (pc' := 22) rfl (hb hby at_18) (by decide) (by decide) ?_
                              show Steps p.tables e below (T162.setTop (mkF m 22 #[.val (.int p0), .val (.int (12 : Int32)), .val (.ref s_RECALL_100), .unset] [(.int (1 : Int32))])) t
                              refine XS.istoreN X162.here hx rfl (hb hby at_22) rfl (l' := #[.val (.int p0), .val (.int (12 : Int32)), .val (.ref s_RECALL_100), .val (.int (1 : Int32))]) rfl ?_
                              show Steps p.tables e below (T162.setTop (mkF m 23 #[.val (.int p0), .val (.int (12 : Int32)), .val (.ref s_RECALL_100), .val (.int (1 : Int32))] [])) t
                              refine XS.aloadN X162.here hx rfl (hb hby at_23) rfl rfl ?_
                              show Steps p.tables e below (T162.setTop (mkF m 24 #[.val (.int p0), .val (.int (12 : Int32)), .val (.ref s_RECALL_100), .val (.int (1 : Int32))] [(.ref s_RECALL_100)])) t
                              exact k
                            obtain ⟨cq165, kq165, q165a, q165b, q165c⟩ := isOf hZ e162 E_RECALL_100
                            obtain ⟨_, _, ⟨T165, L165, k165, n165⟩, -, X165, ⟨Lc165, hQ165, l165, y165, z165⟩, st165⟩ := X162.virtualBack hx (y := (⟨"com/example/mirk/mirk/eval/Measure", "perQuery", "()Z"⟩ : MethodName)) (z := (⟨"com/example/mirk/mirk/eval/Measure", "perQuery", "()Z"⟩ : MethodName)) hown (mvT hZ (hw _ (List.mem_of_getElem? (i := 8) rfl))) (mvT hZ (hw _ (List.mem_of_getElem? (i := 9) rfl))) (notFace_of_selects (args := #[]) (mvT hZ (hw _ (List.mem_of_getElem? (i := 11) rfl)))) (mvT hZ (hw _ (List.mem_of_getElem? (i := 11) rfl))) (mvT hZ (hw _ (List.mem_of_getElem? (i := 10) rfl))) (by decide) (backOf (W := 0) (rm2 l Z aZ hw [] s_RECALL_100 s_NUM_Q h0 n0 Z0 S_NUM_Q) hZ (hw _ (List.mem_of_getElem? (i := 12) rfl)) (hw _ (List.mem_of_getElem? (i := 6) rfl)) (by decide) (by decide)) q165a q165c (g := (mkF m 24 #[.val (.int p0), .val (.int (12 : Int32)), .val (.ref s_RECALL_100), .val (.int (1 : Int32))] [(.ref s_RECALL_100)])) rfl (by rw [hml]; rfl) (Steps.refl _) (argsL := []) (rest := []) (lenOf pd_83 rfl) rfl (by show 2 * 0 + _ ≤ _; exact Nat.le_of_eq rfl) (hb hby at_24) (fun _ _ => ⟨rfl, e162, (by decide : 0 + 0 ≤ _), (by decide : 0 + 0 ≤ _)⟩)
                            dsimp only [Pt.U, Pt.locs, Pt.cells, Pt.slots] at X165 l165 y165 z165 st165 hQ165
                            subst l165 y165 z165
                            obtain ⟨rfl, N165q, e165⟩ := hQ165
                            have N165 := Fr.app N162 N165q
                            have go166 : ∀ t, Steps p.tables e below (T165.setTop (mkF m 27 #[.val (.int p0), .val (.int (12 : Int32)), .val (.ref s_RECALL_100), .val (.int (1 : Int32))] [(.int (f2 s_RECALL_100 s_NUM_Q))])) t → Steps p.tables e below (s₁.setTop (entryFrame m #[(.int p0)] maxLocals)) t := fun t k => go164 _ (st165.trans k)
                            have go168 : ∀ t, Steps p.tables e below (T165.setTop (mkF m 36 #[.val (.int p0), .val (.int (12 : Int32)), .val (.ref s_RECALL_100), .val (.int (1 : Int32))] [(.int (b0_169 s_NUM_Q s_RECALL_100))])) t → Steps p.tables e below (s₁.setTop (entryFrame m #[(.int p0)] maxLocals)) t := by
                              intro t k
                              refine go166 _ ?_
                              refine XS.iloadN X165.here hx rfl (hb hby at_27) rfl ?_
                              show Steps p.tables e below (T165.setTop (mkF m 28 #[.val (.int p0), .val (.int (12 : Int32)), .val (.ref s_RECALL_100), .val (.int (1 : Int32))] [(.int (1 : Int32)), (.int (f2 s_RECALL_100 s_NUM_Q))])) t
                              by_cases hc167 : (f2 s_RECALL_100 s_NUM_Q) = (1 : Int32)
                              · refine XS.icmpNo X165.here hx rfl (hb hby at_28) rfl (XT.ii_ne_f hc167) ?_
                                show Steps p.tables e below (T165.setTop (mkF m 31 #[.val (.int p0), .val (.int (12 : Int32)), .val (.ref s_RECALL_100), .val (.int (1 : Int32))] [])) t
                                refine XS.iconst X165.here hx rfl (hb hby at_31) ?_
                                show Steps p.tables e below (T165.setTop (mkF m 32 #[.val (.int p0), .val (.int (12 : Int32)), .val (.ref s_RECALL_100), .val (.int (1 : Int32))] [(.int (1 : Int32))])) t
                                refine XS.goto X165.here hx rfl (pc0 := 32) (pc' := 36) rfl (hb hby at_32) (by decide) (by decide) ?_
                                show Steps p.tables e below (T165.setTop (mkF m 36 #[.val (.int p0), .val (.int (12 : Int32)), .val (.ref s_RECALL_100), .val (.int (1 : Int32))] [(.int (1 : Int32))])) t
                                have hq170 : (b0_169 s_NUM_Q s_RECALL_100) = (1 : Int32) := by rw [b0_169, if_pos hc167]
                                rw [hq170] at k
                                exact k
                              · refine XS.icmpYes X165.here hx rfl (pc0 := 28) (pc' := 35) rfl (hb hby at_28) rfl (XT.ii_ne_t hc167) (by decide) (by decide) ?_
                                show Steps p.tables e below (T165.setTop (mkF m 35 #[.val (.int p0), .val (.int (12 : Int32)), .val (.ref s_RECALL_100), .val (.int (1 : Int32))] [])) t
                                refine XS.iconst X165.here hx rfl (hb hby at_35) ?_
                                show Steps p.tables e below (T165.setTop (mkF m 36 #[.val (.int p0), .val (.int (12 : Int32)), .val (.ref s_RECALL_100), .val (.int (1 : Int32))] [(.int (0 : Int32))])) t
                                have hq171 : (b0_169 s_NUM_Q s_RECALL_100) = (0 : Int32) := by rw [b0_169, if_neg hc167]
                                rw [hq171] at k
                                exact k
                            obtain ⟨fs, hr, hrun, hended, hW, hsame⟩ := X165.leave (v := some (.int (b0_169 s_NUM_Q s_RECALL_100))) (fun h => by rw [Bd.returns] at h; cases h)
                            refine ⟨_, _, go168 _ (Jvm.RoadKit.retOut X165 hx Bd.returns (own_nz (by unfold b0_169; (repeat' split) <;> first | exact Or.inl rfl | exact Or.inr rfl)) (Or.inl ⟨rfl, Or.inr (Or.inl rfl), _, rfl⟩) (hb hby at_36) hr), hrun, hended, _, _, rfl, ?_, ⟨_, rfl⟩, hW, hsame.mono (by decide) (by decide)⟩
                            show Q0 _ _ p0 s_NUM_Q s_NUM_REL_RET s_RPREC s_NDCG s_BPREF s_NDCG_CUT_10 s_RECIP_RANK s_NUM_REL s_RECALL_10 s_P_20 s_P_5 s_NUM_RET s_RECALL_100 s_MAP s_P_10 h0 _ (T165.setFrames fs).heap _
                            have hE : (T165.setFrames fs).heap = h0 := e165
                            rw [hE]
                            exact ⟨congrArg (fun z => some (Value.int z)) ((by rw [f0, if_neg hs3, if_neg hs16, if_neg hs29, if_neg hs42, if_neg hs55, if_neg hs68, if_neg hs81, if_neg hs94, if_neg hs107, if_neg hs120, if_neg hs133, if_neg hs146, if_pos hs159] : (b0_169 s_NUM_Q s_RECALL_100) = (f0 p0 s_NUM_Q s_NUM_REL_RET s_RPREC s_NDCG s_BPREF s_NDCG_CUT_10 s_RECIP_RANK s_NUM_REL s_RECALL_10 s_P_20 s_P_5 s_NUM_RET s_RECALL_100 s_MAP s_P_10)).trans (f0_one p0 s_NUM_Q s_NUM_REL_RET s_RPREC s_NDCG s_BPREF s_NDCG_CUT_10 s_RECIP_RANK s_NUM_REL s_RECALL_10 s_P_20 s_P_5 s_NUM_RET s_RECALL_100 s_MAP s_P_10 ne_NUM_RET ne_NUM_REL ne_NUM_REL_RET ne_MAP ne_RPREC ne_BPREF ne_RECIP_RANK ne_P_5 ne_P_10 ne_P_20 ne_RECALL_10 ne_RECALL_100 ne_NDCG ne_NDCG_CUT_10)), N165⟩
                          · by_cases hs172 : (v0_1 p0) = (13 : Int32)
                            · have go173 : ∀ t, Steps p.tables e below (s₁.setTop (mkF m 8 #[.val (.int p0), .val (.int (13 : Int32)), .unset, .unset] [])) t → Steps p.tables e below (s₁.setTop (entryFrame m #[(.int p0)] maxLocals)) t := by
                                have q := go2
                                rw [hs172] at q
                                exact q
                              have go174 : ∀ t, Steps p.tables e below (s₁.setTop (mkF m 9 #[.val (.int p0), .val (.int (13 : Int32)), .unset, .unset] [(.int (13 : Int32))])) t → Steps p.tables e below (s₁.setTop (entryFrame m #[(.int p0)] maxLocals)) t := by
                                intro t k
                                refine go173 _ ?_
                                refine XS.iloadN X0.here hx rfl (hb hby at_8) rfl ?_
                                show Steps p.tables e below (s₁.setTop (mkF m 9 #[.val (.int p0), .val (.int (13 : Int32)), .unset, .unset] [(.int (13 : Int32))])) t
                                exact k
                              obtain ⟨_, _, ⟨T175, L175, k175, n175⟩, -, X175, ⟨Lc175, hQ175, l175, y175, z175⟩, st175⟩ := Jvm.LawKit.callS X0 hx (y := (⟨"com/example/mirk/mirk/eval/MeasurePerQueryPinLaw", "pick", "(I)Lcom/example/mirk/mirk/eval/Measure;"⟩ : MethodName)) hown (mvT hZ (hw _ (List.mem_of_getElem? (i := 1) rfl))) (mvT hZ (hw _ (List.mem_of_getElem? (i := 2) rfl))) (mvT hZ (hw _ (List.mem_of_getElem? (i := 3) rfl))) (mvT hZ (hw _ (List.mem_of_getElem? (i := 4) rfl))) (by decide) (backOf (W := 0) (rm1 l Z aZ hw [] (13 : Int32) s_NUM_Q s_NUM_RET s_NUM_REL s_NUM_REL_RET s_MAP s_RPREC s_BPREF s_RECIP_RANK s_P_5 s_P_10 s_P_20 s_RECALL_10 s_RECALL_100 s_NDCG s_NDCG_CUT_10 h0 n0 Z0 S_NUM_Q S_NUM_RET S_NUM_REL S_NUM_REL_RET S_MAP S_RPREC S_BPREF S_RECIP_RANK S_P_5 S_P_10 S_P_20 S_RECALL_10 S_RECALL_100 S_NDCG S_NDCG_CUT_10) hZ (hw _ (List.mem_of_getElem? (i := 4) rfl)) (hw _ (List.mem_of_getElem? (i := 3) rfl)) (by decide) (by decide)) (g := (mkF m 9 #[.val (.int p0), .val (.int (13 : Int32)), .unset, .unset] [(.int (13 : Int32))])) rfl (by rw [hml]; rfl) (argsL := [(.int (13 : Int32))]) (rest := []) (lenOf pd_82 rfl) rfl (by show 2 * 0 + _ ≤ _; exact Nat.le_of_eq rfl) (hb hby at_9) (fun _ _ => ⟨rfl, e0, (by decide : 0 + 0 ≤ _), (by decide : 0 + 0 ≤ _)⟩)
                              dsimp only [Pt.U, Pt.locs, Pt.cells, Pt.slots] at X175 l175 y175 z175 st175 hQ175
                              subst l175 y175 z175
                              obtain ⟨rfl, N175q, e175⟩ := hQ175
                              have N175 := Fr.app N0 N175q
                              have go176 : ∀ t, Steps p.tables e below (T175.setTop (mkF m 12 #[.val (.int p0), .val (.int (13 : Int32)), .unset, .unset] [(.ref s_NDCG)])) t → Steps p.tables e below (s₁.setTop (entryFrame m #[(.int p0)] maxLocals)) t := fun t k => go174 _ (st175 _ k)
                              have go177 : ∀ t, Steps p.tables e below (T175.setTop (mkF m 24 #[.val (.int p0), .val (.int (13 : Int32)), .val (.ref s_NDCG), .val (.int (1 : Int32))] [(.ref s_NDCG)])) t → Steps p.tables e below (s₁.setTop (entryFrame m #[(.int p0)] maxLocals)) t := by
                                intro t k
                                refine go176 _ ?_
                                refine XS.astoreN X175.here hx rfl (hb hby at_12) rfl rfl (l' := #[.val (.int p0), .val (.int (13 : Int32)), .val (.ref s_NDCG), .unset]) rfl ?_
                                show Steps p.tables e below (T175.setTop (mkF m 13 #[.val (.int p0), .val (.int (13 : Int32)), .val (.ref s_NDCG), .unset] [])) t
                                refine XS.iloadN X175.here hx rfl (hb hby at_13) rfl ?_
                                show Steps p.tables e below (T175.setTop (mkF m 14 #[.val (.int p0), .val (.int (13 : Int32)), .val (.ref s_NDCG), .unset] [(.int (13 : Int32))])) t
                                refine XS.ifNo X175.here hx rfl (hb hby at_14) rfl (XT.i0_eq_f (by decide : ¬ ((13 : Int32) = (0 : Int32)))) ?_
                                show Steps p.tables e below (T175.setTop (mkF m 17 #[.val (.int p0), .val (.int (13 : Int32)), .val (.ref s_NDCG), .unset] [])) t
                                refine XS.iconst X175.here hx rfl (hb hby at_17) ?_
                                show Steps p.tables e below (T175.setTop (mkF m 18 #[.val (.int p0), .val (.int (13 : Int32)), .val (.ref s_NDCG), .unset] [(.int (1 : Int32))])) t
                                refine XS.goto X175.here hx rfl (pc0 := 18) (pc' := 22) rfl (hb hby at_18) (by decide) (by decide) ?_
                                show Steps p.tables e below (T175.setTop (mkF m 22 #[.val (.int p0), .val (.int (13 : Int32)), .val (.ref s_NDCG), .unset] [(.int (1 : Int32))])) t
                                refine XS.istoreN X175.here hx rfl (hb hby at_22) rfl (l' := #[.val (.int p0), .val (.int (13 : Int32)), .val (.ref s_NDCG), .val (.int (1 : Int32))]) rfl ?_
                                show Steps p.tables e below (T175.setTop (mkF m 23 #[.val (.int p0), .val (.int (13 : Int32)), .val (.ref s_NDCG), .val (.int (1 : Int32))] [])) t
                                refine XS.aloadN X175.here hx rfl (hb hby at_23) rfl rfl ?_
                                show Steps p.tables e below (T175.setTop (mkF m 24 #[.val (.int p0), .val (.int (13 : Int32)), .val (.ref s_NDCG), .val (.int (1 : Int32))] [(.ref s_NDCG)])) t
                                exact k
                              obtain ⟨cq178, kq178, q178a, q178b, q178c⟩ := isOf hZ e175 E_NDCG
                              obtain ⟨_, _, ⟨T178, L178, k178, n178⟩, -, X178, ⟨Lc178, hQ178, l178, y178, z178⟩, st178⟩ := X175.virtualBack hx (y := (⟨"com/example/mirk/mirk/eval/Measure", "perQuery", "()Z"⟩ : MethodName)) (z := (⟨"com/example/mirk/mirk/eval/Measure", "perQuery", "()Z"⟩ : MethodName)) hown (mvT hZ (hw _ (List.mem_of_getElem? (i := 8) rfl))) (mvT hZ (hw _ (List.mem_of_getElem? (i := 9) rfl))) (notFace_of_selects (args := #[]) (mvT hZ (hw _ (List.mem_of_getElem? (i := 11) rfl)))) (mvT hZ (hw _ (List.mem_of_getElem? (i := 11) rfl))) (mvT hZ (hw _ (List.mem_of_getElem? (i := 10) rfl))) (by decide) (backOf (W := 0) (rm2 l Z aZ hw [] s_NDCG s_NUM_Q h0 n0 Z0 S_NUM_Q) hZ (hw _ (List.mem_of_getElem? (i := 12) rfl)) (hw _ (List.mem_of_getElem? (i := 6) rfl)) (by decide) (by decide)) q178a q178c (g := (mkF m 24 #[.val (.int p0), .val (.int (13 : Int32)), .val (.ref s_NDCG), .val (.int (1 : Int32))] [(.ref s_NDCG)])) rfl (by rw [hml]; rfl) (Steps.refl _) (argsL := []) (rest := []) (lenOf pd_83 rfl) rfl (by show 2 * 0 + _ ≤ _; exact Nat.le_of_eq rfl) (hb hby at_24) (fun _ _ => ⟨rfl, e175, (by decide : 0 + 0 ≤ _), (by decide : 0 + 0 ≤ _)⟩)
                              dsimp only [Pt.U, Pt.locs, Pt.cells, Pt.slots] at X178 l178 y178 z178 st178 hQ178
                              subst l178 y178 z178
                              obtain ⟨rfl, N178q, e178⟩ := hQ178
                              have N178 := Fr.app N175 N178q
                              have go179 : ∀ t, Steps p.tables e below (T178.setTop (mkF m 27 #[.val (.int p0), .val (.int (13 : Int32)), .val (.ref s_NDCG), .val (.int (1 : Int32))] [(.int (f2 s_NDCG s_NUM_Q))])) t → Steps p.tables e below (s₁.setTop (entryFrame m #[(.int p0)] maxLocals)) t := fun t k => go177 _ (st178.trans k)
                              have go181 : ∀ t, Steps p.tables e below (T178.setTop (mkF m 36 #[.val (.int p0), .val (.int (13 : Int32)), .val (.ref s_NDCG), .val (.int (1 : Int32))] [(.int (b0_182 s_NUM_Q s_NDCG))])) t → Steps p.tables e below (s₁.setTop (entryFrame m #[(.int p0)] maxLocals)) t := by
                                intro t k
                                refine go179 _ ?_
                                refine XS.iloadN X178.here hx rfl (hb hby at_27) rfl ?_
                                show Steps p.tables e below (T178.setTop (mkF m 28 #[.val (.int p0), .val (.int (13 : Int32)), .val (.ref s_NDCG), .val (.int (1 : Int32))] [(.int (1 : Int32)), (.int (f2 s_NDCG s_NUM_Q))])) t
                                by_cases hc180 : (f2 s_NDCG s_NUM_Q) = (1 : Int32)
                                · refine XS.icmpNo X178.here hx rfl (hb hby at_28) rfl (XT.ii_ne_f hc180) ?_
                                  show Steps p.tables e below (T178.setTop (mkF m 31 #[.val (.int p0), .val (.int (13 : Int32)), .val (.ref s_NDCG), .val (.int (1 : Int32))] [])) t
                                  refine XS.iconst X178.here hx rfl (hb hby at_31) ?_
                                  show Steps p.tables e below (T178.setTop (mkF m 32 #[.val (.int p0), .val (.int (13 : Int32)), .val (.ref s_NDCG), .val (.int (1 : Int32))] [(.int (1 : Int32))])) t
                                  refine XS.goto X178.here hx rfl (pc0 := 32) (pc' := 36) rfl (hb hby at_32) (by decide) (by decide) ?_
                                  show Steps p.tables e below (T178.setTop (mkF m 36 #[.val (.int p0), .val (.int (13 : Int32)), .val (.ref s_NDCG), .val (.int (1 : Int32))] [(.int (1 : Int32))])) t
                                  have hq183 : (b0_182 s_NUM_Q s_NDCG) = (1 : Int32) := by rw [b0_182, if_pos hc180]
                                  rw [hq183] at k
                                  exact k
                                · refine XS.icmpYes X178.here hx rfl (pc0 := 28) (pc' := 35) rfl (hb hby at_28) rfl (XT.ii_ne_t hc180) (by decide) (by decide) ?_
                                  show Steps p.tables e below (T178.setTop (mkF m 35 #[.val (.int p0), .val (.int (13 : Int32)), .val (.ref s_NDCG), .val (.int (1 : Int32))] [])) t
                                  refine XS.iconst X178.here hx rfl (hb hby at_35) ?_
                                  show Steps p.tables e below (T178.setTop (mkF m 36 #[.val (.int p0), .val (.int (13 : Int32)), .val (.ref s_NDCG), .val (.int (1 : Int32))] [(.int (0 : Int32))])) t
                                  have hq184 : (b0_182 s_NUM_Q s_NDCG) = (0 : Int32) := by rw [b0_182, if_neg hc180]
                                  rw [hq184] at k
                                  exact k
                              obtain ⟨fs, hr, hrun, hended, hW, hsame⟩ := X178.leave (v := some (.int (b0_182 s_NUM_Q s_NDCG))) (fun h => by rw [Bd.returns] at h; cases h)
                              refine ⟨_, _, go181 _ (Jvm.RoadKit.retOut X178 hx Bd.returns (own_nz (by unfold b0_182; (repeat' split) <;> first | exact Or.inl rfl | exact Or.inr rfl)) (Or.inl ⟨rfl, Or.inr (Or.inl rfl), _, rfl⟩) (hb hby at_36) hr), hrun, hended, _, _, rfl, ?_, ⟨_, rfl⟩, hW, hsame.mono (by decide) (by decide)⟩
                              show Q0 _ _ p0 s_NUM_Q s_NUM_REL_RET s_RPREC s_NDCG s_BPREF s_NDCG_CUT_10 s_RECIP_RANK s_NUM_REL s_RECALL_10 s_P_20 s_P_5 s_NUM_RET s_RECALL_100 s_MAP s_P_10 h0 _ (T178.setFrames fs).heap _
                              have hE : (T178.setFrames fs).heap = h0 := e178
                              rw [hE]
                              exact ⟨congrArg (fun z => some (Value.int z)) ((by rw [f0, if_neg hs3, if_neg hs16, if_neg hs29, if_neg hs42, if_neg hs55, if_neg hs68, if_neg hs81, if_neg hs94, if_neg hs107, if_neg hs120, if_neg hs133, if_neg hs146, if_neg hs159, if_pos hs172] : (b0_182 s_NUM_Q s_NDCG) = (f0 p0 s_NUM_Q s_NUM_REL_RET s_RPREC s_NDCG s_BPREF s_NDCG_CUT_10 s_RECIP_RANK s_NUM_REL s_RECALL_10 s_P_20 s_P_5 s_NUM_RET s_RECALL_100 s_MAP s_P_10)).trans (f0_one p0 s_NUM_Q s_NUM_REL_RET s_RPREC s_NDCG s_BPREF s_NDCG_CUT_10 s_RECIP_RANK s_NUM_REL s_RECALL_10 s_P_20 s_P_5 s_NUM_RET s_RECALL_100 s_MAP s_P_10 ne_NUM_RET ne_NUM_REL ne_NUM_REL_RET ne_MAP ne_RPREC ne_BPREF ne_RECIP_RANK ne_P_5 ne_P_10 ne_P_20 ne_RECALL_10 ne_RECALL_100 ne_NDCG ne_NDCG_CUT_10)), N178⟩
                            · by_cases hs185 : (v0_1 p0) = (14 : Int32)
                              · have go186 : ∀ t, Steps p.tables e below (s₁.setTop (mkF m 8 #[.val (.int p0), .val (.int (14 : Int32)), .unset, .unset] [])) t → Steps p.tables e below (s₁.setTop (entryFrame m #[(.int p0)] maxLocals)) t := by
                                  have q := go2
                                  rw [hs185] at q
                                  exact q
                                have go187 : ∀ t, Steps p.tables e below (s₁.setTop (mkF m 9 #[.val (.int p0), .val (.int (14 : Int32)), .unset, .unset] [(.int (14 : Int32))])) t → Steps p.tables e below (s₁.setTop (entryFrame m #[(.int p0)] maxLocals)) t := by
                                  intro t k
                                  refine go186 _ ?_
                                  refine XS.iloadN X0.here hx rfl (hb hby at_8) rfl ?_
                                  show Steps p.tables e below (s₁.setTop (mkF m 9 #[.val (.int p0), .val (.int (14 : Int32)), .unset, .unset] [(.int (14 : Int32))])) t
                                  exact k
                                obtain ⟨_, _, ⟨T188, L188, k188, n188⟩, -, X188, ⟨Lc188, hQ188, l188, y188, z188⟩, st188⟩ := Jvm.LawKit.callS X0 hx (y := (⟨"com/example/mirk/mirk/eval/MeasurePerQueryPinLaw", "pick", "(I)Lcom/example/mirk/mirk/eval/Measure;"⟩ : MethodName)) hown (mvT hZ (hw _ (List.mem_of_getElem? (i := 1) rfl))) (mvT hZ (hw _ (List.mem_of_getElem? (i := 2) rfl))) (mvT hZ (hw _ (List.mem_of_getElem? (i := 3) rfl))) (mvT hZ (hw _ (List.mem_of_getElem? (i := 4) rfl))) (by decide) (backOf (W := 0) (rm1 l Z aZ hw [] (14 : Int32) s_NUM_Q s_NUM_RET s_NUM_REL s_NUM_REL_RET s_MAP s_RPREC s_BPREF s_RECIP_RANK s_P_5 s_P_10 s_P_20 s_RECALL_10 s_RECALL_100 s_NDCG s_NDCG_CUT_10 h0 n0 Z0 S_NUM_Q S_NUM_RET S_NUM_REL S_NUM_REL_RET S_MAP S_RPREC S_BPREF S_RECIP_RANK S_P_5 S_P_10 S_P_20 S_RECALL_10 S_RECALL_100 S_NDCG S_NDCG_CUT_10) hZ (hw _ (List.mem_of_getElem? (i := 4) rfl)) (hw _ (List.mem_of_getElem? (i := 3) rfl)) (by decide) (by decide)) (g := (mkF m 9 #[.val (.int p0), .val (.int (14 : Int32)), .unset, .unset] [(.int (14 : Int32))])) rfl (by rw [hml]; rfl) (argsL := [(.int (14 : Int32))]) (rest := []) (lenOf pd_82 rfl) rfl (by show 2 * 0 + _ ≤ _; exact Nat.le_of_eq rfl) (hb hby at_9) (fun _ _ => ⟨rfl, e0, (by decide : 0 + 0 ≤ _), (by decide : 0 + 0 ≤ _)⟩)
                                dsimp only [Pt.U, Pt.locs, Pt.cells, Pt.slots] at X188 l188 y188 z188 st188 hQ188
                                subst l188 y188 z188
                                obtain ⟨rfl, N188q, e188⟩ := hQ188
                                have N188 := Fr.app N0 N188q
                                have go189 : ∀ t, Steps p.tables e below (T188.setTop (mkF m 12 #[.val (.int p0), .val (.int (14 : Int32)), .unset, .unset] [(.ref s_NDCG_CUT_10)])) t → Steps p.tables e below (s₁.setTop (entryFrame m #[(.int p0)] maxLocals)) t := fun t k => go187 _ (st188 _ k)
                                have go190 : ∀ t, Steps p.tables e below (T188.setTop (mkF m 24 #[.val (.int p0), .val (.int (14 : Int32)), .val (.ref s_NDCG_CUT_10), .val (.int (1 : Int32))] [(.ref s_NDCG_CUT_10)])) t → Steps p.tables e below (s₁.setTop (entryFrame m #[(.int p0)] maxLocals)) t := by
                                  intro t k
                                  refine go189 _ ?_
                                  refine XS.astoreN X188.here hx rfl (hb hby at_12) rfl rfl (l' := #[.val (.int p0), .val (.int (14 : Int32)), .val (.ref s_NDCG_CUT_10), .unset]) rfl ?_
                                  show Steps p.tables e below (T188.setTop (mkF m 13 #[.val (.int p0), .val (.int (14 : Int32)), .val (.ref s_NDCG_CUT_10), .unset] [])) t
                                  refine XS.iloadN X188.here hx rfl (hb hby at_13) rfl ?_
                                  show Steps p.tables e below (T188.setTop (mkF m 14 #[.val (.int p0), .val (.int (14 : Int32)), .val (.ref s_NDCG_CUT_10), .unset] [(.int (14 : Int32))])) t
                                  refine XS.ifNo X188.here hx rfl (hb hby at_14) rfl (XT.i0_eq_f (by decide : ¬ ((14 : Int32) = (0 : Int32)))) ?_
                                  show Steps p.tables e below (T188.setTop (mkF m 17 #[.val (.int p0), .val (.int (14 : Int32)), .val (.ref s_NDCG_CUT_10), .unset] [])) t
                                  refine XS.iconst X188.here hx rfl (hb hby at_17) ?_
                                  show Steps p.tables e below (T188.setTop (mkF m 18 #[.val (.int p0), .val (.int (14 : Int32)), .val (.ref s_NDCG_CUT_10), .unset] [(.int (1 : Int32))])) t
                                  refine XS.goto X188.here hx rfl (pc0 := 18) (pc' := 22) rfl (hb hby at_18) (by decide) (by decide) ?_
                                  show Steps p.tables e below (T188.setTop (mkF m 22 #[.val (.int p0), .val (.int (14 : Int32)), .val (.ref s_NDCG_CUT_10), .unset] [(.int (1 : Int32))])) t
                                  refine XS.istoreN X188.here hx rfl (hb hby at_22) rfl (l' := #[.val (.int p0), .val (.int (14 : Int32)), .val (.ref s_NDCG_CUT_10), .val (.int (1 : Int32))]) rfl ?_
                                  show Steps p.tables e below (T188.setTop (mkF m 23 #[.val (.int p0), .val (.int (14 : Int32)), .val (.ref s_NDCG_CUT_10), .val (.int (1 : Int32))] [])) t
                                  refine XS.aloadN X188.here hx rfl (hb hby at_23) rfl rfl ?_
                                  show Steps p.tables e below (T188.setTop (mkF m 24 #[.val (.int p0), .val (.int (14 : Int32)), .val (.ref s_NDCG_CUT_10), .val (.int (1 : Int32))] [(.ref s_NDCG_CUT_10)])) t
                                  exact k
                                obtain ⟨cq191, kq191, q191a, q191b, q191c⟩ := isOf hZ e188 E_NDCG_CUT_10
                                obtain ⟨_, _, ⟨T191, L191, k191, n191⟩, -, X191, ⟨Lc191, hQ191, l191, y191, z191⟩, st191⟩ := X188.virtualBack hx (y := (⟨"com/example/mirk/mirk/eval/Measure", "perQuery", "()Z"⟩ : MethodName)) (z := (⟨"com/example/mirk/mirk/eval/Measure", "perQuery", "()Z"⟩ : MethodName)) hown (mvT hZ (hw _ (List.mem_of_getElem? (i := 8) rfl))) (mvT hZ (hw _ (List.mem_of_getElem? (i := 9) rfl))) (notFace_of_selects (args := #[]) (mvT hZ (hw _ (List.mem_of_getElem? (i := 11) rfl)))) (mvT hZ (hw _ (List.mem_of_getElem? (i := 11) rfl))) (mvT hZ (hw _ (List.mem_of_getElem? (i := 10) rfl))) (by decide) (backOf (W := 0) (rm2 l Z aZ hw [] s_NDCG_CUT_10 s_NUM_Q h0 n0 Z0 S_NUM_Q) hZ (hw _ (List.mem_of_getElem? (i := 12) rfl)) (hw _ (List.mem_of_getElem? (i := 6) rfl)) (by decide) (by decide)) q191a q191c (g := (mkF m 24 #[.val (.int p0), .val (.int (14 : Int32)), .val (.ref s_NDCG_CUT_10), .val (.int (1 : Int32))] [(.ref s_NDCG_CUT_10)])) rfl (by rw [hml]; rfl) (Steps.refl _) (argsL := []) (rest := []) (lenOf pd_83 rfl) rfl (by show 2 * 0 + _ ≤ _; exact Nat.le_of_eq rfl) (hb hby at_24) (fun _ _ => ⟨rfl, e188, (by decide : 0 + 0 ≤ _), (by decide : 0 + 0 ≤ _)⟩)
                                dsimp only [Pt.U, Pt.locs, Pt.cells, Pt.slots] at X191 l191 y191 z191 st191 hQ191
                                subst l191 y191 z191
                                obtain ⟨rfl, N191q, e191⟩ := hQ191
                                have N191 := Fr.app N188 N191q
                                have go192 : ∀ t, Steps p.tables e below (T191.setTop (mkF m 27 #[.val (.int p0), .val (.int (14 : Int32)), .val (.ref s_NDCG_CUT_10), .val (.int (1 : Int32))] [(.int (f2 s_NDCG_CUT_10 s_NUM_Q))])) t → Steps p.tables e below (s₁.setTop (entryFrame m #[(.int p0)] maxLocals)) t := fun t k => go190 _ (st191.trans k)
                                have go194 : ∀ t, Steps p.tables e below (T191.setTop (mkF m 36 #[.val (.int p0), .val (.int (14 : Int32)), .val (.ref s_NDCG_CUT_10), .val (.int (1 : Int32))] [(.int (b0_195 s_NUM_Q s_NDCG_CUT_10))])) t → Steps p.tables e below (s₁.setTop (entryFrame m #[(.int p0)] maxLocals)) t := by
                                  intro t k
                                  refine go192 _ ?_
                                  refine XS.iloadN X191.here hx rfl (hb hby at_27) rfl ?_
                                  show Steps p.tables e below (T191.setTop (mkF m 28 #[.val (.int p0), .val (.int (14 : Int32)), .val (.ref s_NDCG_CUT_10), .val (.int (1 : Int32))] [(.int (1 : Int32)), (.int (f2 s_NDCG_CUT_10 s_NUM_Q))])) t
                                  by_cases hc193 : (f2 s_NDCG_CUT_10 s_NUM_Q) = (1 : Int32)
                                  · refine XS.icmpNo X191.here hx rfl (hb hby at_28) rfl (XT.ii_ne_f hc193) ?_
                                    show Steps p.tables e below (T191.setTop (mkF m 31 #[.val (.int p0), .val (.int (14 : Int32)), .val (.ref s_NDCG_CUT_10), .val (.int (1 : Int32))] [])) t
                                    refine XS.iconst X191.here hx rfl (hb hby at_31) ?_
                                    show Steps p.tables e below (T191.setTop (mkF m 32 #[.val (.int p0), .val (.int (14 : Int32)), .val (.ref s_NDCG_CUT_10), .val (.int (1 : Int32))] [(.int (1 : Int32))])) t
                                    refine XS.goto X191.here hx rfl (pc0 := 32) (pc' := 36) rfl (hb hby at_32) (by decide) (by decide) ?_
                                    show Steps p.tables e below (T191.setTop (mkF m 36 #[.val (.int p0), .val (.int (14 : Int32)), .val (.ref s_NDCG_CUT_10), .val (.int (1 : Int32))] [(.int (1 : Int32))])) t
                                    have hq196 : (b0_195 s_NUM_Q s_NDCG_CUT_10) = (1 : Int32) := by rw [b0_195, if_pos hc193]
                                    rw [hq196] at k
                                    exact k
                                  · refine XS.icmpYes X191.here hx rfl (pc0 := 28) (pc' := 35) rfl (hb hby at_28) rfl (XT.ii_ne_t hc193) (by decide) (by decide) ?_
                                    show Steps p.tables e below (T191.setTop (mkF m 35 #[.val (.int p0), .val (.int (14 : Int32)), .val (.ref s_NDCG_CUT_10), .val (.int (1 : Int32))] [])) t
                                    refine XS.iconst X191.here hx rfl (hb hby at_35) ?_
                                    show Steps p.tables e below (T191.setTop (mkF m 36 #[.val (.int p0), .val (.int (14 : Int32)), .val (.ref s_NDCG_CUT_10), .val (.int (1 : Int32))] [(.int (0 : Int32))])) t
                                    have hq197 : (b0_195 s_NUM_Q s_NDCG_CUT_10) = (0 : Int32) := by rw [b0_195, if_neg hc193]
                                    rw [hq197] at k
                                    exact k
                                obtain ⟨fs, hr, hrun, hended, hW, hsame⟩ := X191.leave (v := some (.int (b0_195 s_NUM_Q s_NDCG_CUT_10))) (fun h => by rw [Bd.returns] at h; cases h)
                                refine ⟨_, _, go194 _ (Jvm.RoadKit.retOut X191 hx Bd.returns (own_nz (by unfold b0_195; (repeat' split) <;> first | exact Or.inl rfl | exact Or.inr rfl)) (Or.inl ⟨rfl, Or.inr (Or.inl rfl), _, rfl⟩) (hb hby at_36) hr), hrun, hended, _, _, rfl, ?_, ⟨_, rfl⟩, hW, hsame.mono (by decide) (by decide)⟩
                                show Q0 _ _ p0 s_NUM_Q s_NUM_REL_RET s_RPREC s_NDCG s_BPREF s_NDCG_CUT_10 s_RECIP_RANK s_NUM_REL s_RECALL_10 s_P_20 s_P_5 s_NUM_RET s_RECALL_100 s_MAP s_P_10 h0 _ (T191.setFrames fs).heap _
                                have hE : (T191.setFrames fs).heap = h0 := e191
                                rw [hE]
                                exact ⟨congrArg (fun z => some (Value.int z)) ((by rw [f0, if_neg hs3, if_neg hs16, if_neg hs29, if_neg hs42, if_neg hs55, if_neg hs68, if_neg hs81, if_neg hs94, if_neg hs107, if_neg hs120, if_neg hs133, if_neg hs146, if_neg hs159, if_neg hs172, if_pos hs185] : (b0_195 s_NUM_Q s_NDCG_CUT_10) = (f0 p0 s_NUM_Q s_NUM_REL_RET s_RPREC s_NDCG s_BPREF s_NDCG_CUT_10 s_RECIP_RANK s_NUM_REL s_RECALL_10 s_P_20 s_P_5 s_NUM_RET s_RECALL_100 s_MAP s_P_10)).trans (f0_one p0 s_NUM_Q s_NUM_REL_RET s_RPREC s_NDCG s_BPREF s_NDCG_CUT_10 s_RECIP_RANK s_NUM_REL s_RECALL_10 s_P_20 s_P_5 s_NUM_RET s_RECALL_100 s_MAP s_P_10 ne_NUM_RET ne_NUM_REL ne_NUM_REL_RET ne_MAP ne_RPREC ne_BPREF ne_RECIP_RANK ne_P_5 ne_P_10 ne_P_20 ne_RECALL_10 ne_RECALL_100 ne_NDCG ne_NDCG_CUT_10)), N191⟩
                              · exact (own_dead15 p0 hs3 hs16 hs29 hs42 hs55 hs68 hs81 hs94 hs107 hs120 hs133 hs146 hs159 hs172 hs185).elim
set_option maxRecDepth 65536 in
set_option maxHeartbeats 40000000 in
theorem comes_1 {Post : Tables → Env → Array Value → State → Outcome → State → Prop} (hpost : ∀ tb e args s v u, (limb_1_1.after args s (.returned v) u = true ∧ limb_1_2.after args s (.returned v) u = true ∧ True) → FrameEnd s (.returned v) u (Jvm.fieldLocs frame_1_writes args s ++ Jvm.arrayLocs frame_1_arrays args s ++ Jvm.staticLocs frame_1_statics s) 0 0 → Post tb e args s (.returned v) u) :
    ArmFor flags0 classFile x code maxLocals ret World_1 tables_1 room_1 Calls_1 rest_1 Pre_1 Post := by
  intro l hfl _ _ p e ha hc hk s m args below hf hA hF happ hP
  obtain ⟨hcalls, hrest, hpre⟩ := hP
  obtain ⟨-, -, -, hnamed, -, -, -, hat⟩ := (Spec.applies_iff hf).mp happ
  obtain ⟨hg, hn⟩ := and_e (Cond.before_iff.mp (show (Jvm.Cond.and given_1 narrow_1).before args s = true from hpre))
  obtain ⟨hcount, hg1⟩ := and_e hg
  obtain ⟨w0, rfl⟩ : ∃ w0 : Value, args = #[w0] := by
    have hs : args.size = 1 := by simpa [Cond.value, given_1] using hcount
    obtain ⟨L⟩ := args
    match L, hs with
    | [w0], _ => exact ⟨w0, rfl⟩
  have hw := fun d (hd : d ∈ tables_1) => atoms_spec (ws := Jvm.Cond.code x code maxLocals ret :: tables_1) hat d (List.mem_cons_of_mem _ hd)
  have hfit : Fit s := fun {y c} hc i hi => by
    obtain ⟨ha, rfl⟩ := Array.getElem?_eq_some_iff.mp hc
    have q := List.all_eq_true.mp ((Array.all_eq_true_iff_forall_mem.mp hF) _ (Array.getElem_mem ha)) i (List.mem_range.mpr hi)
    simpa [Array.getElem?_eq_getElem hi] using q
  obtain ⟨i0, ei0⟩ := is_v hg1
  obtain rfl : w0 = (.int i0) := Option.some.inj ei0
  obtain ⟨na0, nb0⟩ := and_e hn
  obtain ⟨na1, nb1⟩ := and_e nb0
  obtain ⟨na2, nb2⟩ := and_e nb1
  obtain ⟨na3, nb3⟩ := and_e nb2
  obtain ⟨na4, nb4⟩ := and_e nb3
  obtain ⟨na5, nb5⟩ := and_e nb4
  obtain ⟨na6, nb6⟩ := and_e nb5
  obtain ⟨na7, nb7⟩ := and_e nb6
  obtain ⟨na8, nb8⟩ := and_e nb7
  obtain ⟨na9, nb9⟩ := and_e nb8
  obtain ⟨na10, nb10⟩ := and_e nb9
  obtain ⟨na11, nb11⟩ := and_e nb10
  obtain ⟨na12, nb12⟩ := and_e nb11
  obtain ⟨na13, nb13⟩ := and_e nb12
  obtain ⟨na14, nb14⟩ := and_e nb13
  obtain ⟨na15, nb15⟩ := and_e nb14
  obtain ⟨na16, nb16⟩ := and_e nb15
  obtain ⟨na17, nb17⟩ := and_e nb16
  obtain ⟨na18, nb18⟩ := and_e nb17
  obtain ⟨na19, nb19⟩ := and_e nb18
  obtain ⟨na20, nb20⟩ := and_e nb19
  obtain ⟨na21, nb21⟩ := and_e nb20
  obtain ⟨na22, nb22⟩ := and_e nb21
  obtain ⟨na23, nb23⟩ := and_e nb22
  obtain ⟨na24, nb24⟩ := and_e nb23
  obtain ⟨na25, nb25⟩ := and_e nb24
  obtain ⟨na26, nb26⟩ := and_e nb25
  obtain ⟨na27, nb27⟩ := and_e nb26
  obtain ⟨na28, nb28⟩ := and_e nb27
  obtain ⟨s_NUM_Q, ev_s_NUM_Q⟩ := exa_v na0
  have S_NUM_Q : Sta s s.heap "com/example/mirk/mirk/eval/Measure" "NUM_Q" "Lcom/example/mirk/mirk/eval/Measure;" (.ref s_NUM_Q) := Sta.start ev_s_NUM_Q (Or.inr ⟨(hw _ (List.mem_of_getElem? (i := 6) rfl)), (hw _ (List.mem_of_getElem? (i := 7) rfl))⟩)
  have E_NUM_Q : Exa s s.heap s_NUM_Q "com/example/mirk/mirk/eval/Measure" := Exa.start ev_s_NUM_Q na0
  obtain ⟨s_NUM_REL_RET, ev_s_NUM_REL_RET⟩ := exa_v na1
  have S_NUM_REL_RET : Sta s s.heap "com/example/mirk/mirk/eval/Measure" "NUM_REL_RET" "Lcom/example/mirk/mirk/eval/Measure;" (.ref s_NUM_REL_RET) := Sta.start ev_s_NUM_REL_RET (Or.inr ⟨(hw _ (List.mem_of_getElem? (i := 6) rfl)), (hw _ (List.mem_of_getElem? (i := 15) rfl))⟩)
  have E_NUM_REL_RET : Exa s s.heap s_NUM_REL_RET "com/example/mirk/mirk/eval/Measure" := Exa.start ev_s_NUM_REL_RET na1
  have F_NUM_REL_RET_ordinal : Fld s s.heap s_NUM_REL_RET "java/lang/Enum" "ordinal" "I" (.int (3 : Int32)) := Fld.start ((fld_at ev_s_NUM_REL_RET).symm.trans (own_eqi na2))
  have F_NUM_Q_ordinal : Fld s s.heap s_NUM_Q "java/lang/Enum" "ordinal" "I" (.int (0 : Int32)) := Fld.start ((fld_at ev_s_NUM_Q).symm.trans (own_eqi na3))
  obtain ⟨s_RPREC, ev_s_RPREC⟩ := exa_v na4
  have S_RPREC : Sta s s.heap "com/example/mirk/mirk/eval/Measure" "RPREC" "Lcom/example/mirk/mirk/eval/Measure;" (.ref s_RPREC) := Sta.start ev_s_RPREC (Or.inr ⟨(hw _ (List.mem_of_getElem? (i := 6) rfl)), (hw _ (List.mem_of_getElem? (i := 17) rfl))⟩)
  have E_RPREC : Exa s s.heap s_RPREC "com/example/mirk/mirk/eval/Measure" := Exa.start ev_s_RPREC na4
  have F_RPREC_ordinal : Fld s s.heap s_RPREC "java/lang/Enum" "ordinal" "I" (.int (5 : Int32)) := Fld.start ((fld_at ev_s_RPREC).symm.trans (own_eqi na5))
  obtain ⟨s_NDCG, ev_s_NDCG⟩ := exa_v na6
  have S_NDCG : Sta s s.heap "com/example/mirk/mirk/eval/Measure" "NDCG" "Lcom/example/mirk/mirk/eval/Measure;" (.ref s_NDCG) := Sta.start ev_s_NDCG (Or.inr ⟨(hw _ (List.mem_of_getElem? (i := 6) rfl)), (hw _ (List.mem_of_getElem? (i := 19) rfl))⟩)
  have E_NDCG : Exa s s.heap s_NDCG "com/example/mirk/mirk/eval/Measure" := Exa.start ev_s_NDCG na6
  have F_NDCG_ordinal : Fld s s.heap s_NDCG "java/lang/Enum" "ordinal" "I" (.int (13 : Int32)) := Fld.start ((fld_at ev_s_NDCG).symm.trans (own_eqi na7))
  obtain ⟨s_BPREF, ev_s_BPREF⟩ := exa_v na8
  have S_BPREF : Sta s s.heap "com/example/mirk/mirk/eval/Measure" "BPREF" "Lcom/example/mirk/mirk/eval/Measure;" (.ref s_BPREF) := Sta.start ev_s_BPREF (Or.inr ⟨(hw _ (List.mem_of_getElem? (i := 6) rfl)), (hw _ (List.mem_of_getElem? (i := 21) rfl))⟩)
  have E_BPREF : Exa s s.heap s_BPREF "com/example/mirk/mirk/eval/Measure" := Exa.start ev_s_BPREF na8
  have F_BPREF_ordinal : Fld s s.heap s_BPREF "java/lang/Enum" "ordinal" "I" (.int (6 : Int32)) := Fld.start ((fld_at ev_s_BPREF).symm.trans (own_eqi na9))
  obtain ⟨s_NDCG_CUT_10, ev_s_NDCG_CUT_10⟩ := exa_v na10
  have S_NDCG_CUT_10 : Sta s s.heap "com/example/mirk/mirk/eval/Measure" "NDCG_CUT_10" "Lcom/example/mirk/mirk/eval/Measure;" (.ref s_NDCG_CUT_10) := Sta.start ev_s_NDCG_CUT_10 (Or.inr ⟨(hw _ (List.mem_of_getElem? (i := 6) rfl)), (hw _ (List.mem_of_getElem? (i := 23) rfl))⟩)
  have E_NDCG_CUT_10 : Exa s s.heap s_NDCG_CUT_10 "com/example/mirk/mirk/eval/Measure" := Exa.start ev_s_NDCG_CUT_10 na10
  have F_NDCG_CUT_10_ordinal : Fld s s.heap s_NDCG_CUT_10 "java/lang/Enum" "ordinal" "I" (.int (14 : Int32)) := Fld.start ((fld_at ev_s_NDCG_CUT_10).symm.trans (own_eqi na11))
  obtain ⟨s_RECIP_RANK, ev_s_RECIP_RANK⟩ := exa_v na12
  have S_RECIP_RANK : Sta s s.heap "com/example/mirk/mirk/eval/Measure" "RECIP_RANK" "Lcom/example/mirk/mirk/eval/Measure;" (.ref s_RECIP_RANK) := Sta.start ev_s_RECIP_RANK (Or.inr ⟨(hw _ (List.mem_of_getElem? (i := 6) rfl)), (hw _ (List.mem_of_getElem? (i := 25) rfl))⟩)
  have E_RECIP_RANK : Exa s s.heap s_RECIP_RANK "com/example/mirk/mirk/eval/Measure" := Exa.start ev_s_RECIP_RANK na12
  have F_RECIP_RANK_ordinal : Fld s s.heap s_RECIP_RANK "java/lang/Enum" "ordinal" "I" (.int (7 : Int32)) := Fld.start ((fld_at ev_s_RECIP_RANK).symm.trans (own_eqi na13))
  obtain ⟨s_NUM_REL, ev_s_NUM_REL⟩ := exa_v na14
  have S_NUM_REL : Sta s s.heap "com/example/mirk/mirk/eval/Measure" "NUM_REL" "Lcom/example/mirk/mirk/eval/Measure;" (.ref s_NUM_REL) := Sta.start ev_s_NUM_REL (Or.inr ⟨(hw _ (List.mem_of_getElem? (i := 6) rfl)), (hw _ (List.mem_of_getElem? (i := 27) rfl))⟩)
  have E_NUM_REL : Exa s s.heap s_NUM_REL "com/example/mirk/mirk/eval/Measure" := Exa.start ev_s_NUM_REL na14
  have F_NUM_REL_ordinal : Fld s s.heap s_NUM_REL "java/lang/Enum" "ordinal" "I" (.int (2 : Int32)) := Fld.start ((fld_at ev_s_NUM_REL).symm.trans (own_eqi na15))
  obtain ⟨s_RECALL_10, ev_s_RECALL_10⟩ := exa_v na16
  have S_RECALL_10 : Sta s s.heap "com/example/mirk/mirk/eval/Measure" "RECALL_10" "Lcom/example/mirk/mirk/eval/Measure;" (.ref s_RECALL_10) := Sta.start ev_s_RECALL_10 (Or.inr ⟨(hw _ (List.mem_of_getElem? (i := 6) rfl)), (hw _ (List.mem_of_getElem? (i := 29) rfl))⟩)
  have E_RECALL_10 : Exa s s.heap s_RECALL_10 "com/example/mirk/mirk/eval/Measure" := Exa.start ev_s_RECALL_10 na16
  have F_RECALL_10_ordinal : Fld s s.heap s_RECALL_10 "java/lang/Enum" "ordinal" "I" (.int (11 : Int32)) := Fld.start ((fld_at ev_s_RECALL_10).symm.trans (own_eqi na17))
  obtain ⟨s_P_20, ev_s_P_20⟩ := exa_v na18
  have S_P_20 : Sta s s.heap "com/example/mirk/mirk/eval/Measure" "P_20" "Lcom/example/mirk/mirk/eval/Measure;" (.ref s_P_20) := Sta.start ev_s_P_20 (Or.inr ⟨(hw _ (List.mem_of_getElem? (i := 6) rfl)), (hw _ (List.mem_of_getElem? (i := 31) rfl))⟩)
  have E_P_20 : Exa s s.heap s_P_20 "com/example/mirk/mirk/eval/Measure" := Exa.start ev_s_P_20 na18
  have F_P_20_ordinal : Fld s s.heap s_P_20 "java/lang/Enum" "ordinal" "I" (.int (10 : Int32)) := Fld.start ((fld_at ev_s_P_20).symm.trans (own_eqi na19))
  obtain ⟨s_P_5, ev_s_P_5⟩ := exa_v na20
  have S_P_5 : Sta s s.heap "com/example/mirk/mirk/eval/Measure" "P_5" "Lcom/example/mirk/mirk/eval/Measure;" (.ref s_P_5) := Sta.start ev_s_P_5 (Or.inr ⟨(hw _ (List.mem_of_getElem? (i := 6) rfl)), (hw _ (List.mem_of_getElem? (i := 33) rfl))⟩)
  have E_P_5 : Exa s s.heap s_P_5 "com/example/mirk/mirk/eval/Measure" := Exa.start ev_s_P_5 na20
  have F_P_5_ordinal : Fld s s.heap s_P_5 "java/lang/Enum" "ordinal" "I" (.int (8 : Int32)) := Fld.start ((fld_at ev_s_P_5).symm.trans (own_eqi na21))
  obtain ⟨s_NUM_RET, ev_s_NUM_RET⟩ := exa_v na22
  have S_NUM_RET : Sta s s.heap "com/example/mirk/mirk/eval/Measure" "NUM_RET" "Lcom/example/mirk/mirk/eval/Measure;" (.ref s_NUM_RET) := Sta.start ev_s_NUM_RET (Or.inr ⟨(hw _ (List.mem_of_getElem? (i := 6) rfl)), (hw _ (List.mem_of_getElem? (i := 35) rfl))⟩)
  have E_NUM_RET : Exa s s.heap s_NUM_RET "com/example/mirk/mirk/eval/Measure" := Exa.start ev_s_NUM_RET na22
  have F_NUM_RET_ordinal : Fld s s.heap s_NUM_RET "java/lang/Enum" "ordinal" "I" (.int (1 : Int32)) := Fld.start ((fld_at ev_s_NUM_RET).symm.trans (own_eqi na23))
  obtain ⟨s_RECALL_100, ev_s_RECALL_100⟩ := exa_v na24
  have S_RECALL_100 : Sta s s.heap "com/example/mirk/mirk/eval/Measure" "RECALL_100" "Lcom/example/mirk/mirk/eval/Measure;" (.ref s_RECALL_100) := Sta.start ev_s_RECALL_100 (Or.inr ⟨(hw _ (List.mem_of_getElem? (i := 6) rfl)), (hw _ (List.mem_of_getElem? (i := 37) rfl))⟩)
  have E_RECALL_100 : Exa s s.heap s_RECALL_100 "com/example/mirk/mirk/eval/Measure" := Exa.start ev_s_RECALL_100 na24
  have F_RECALL_100_ordinal : Fld s s.heap s_RECALL_100 "java/lang/Enum" "ordinal" "I" (.int (12 : Int32)) := Fld.start ((fld_at ev_s_RECALL_100).symm.trans (own_eqi na25))
  obtain ⟨s_MAP, ev_s_MAP⟩ := exa_v na26
  have S_MAP : Sta s s.heap "com/example/mirk/mirk/eval/Measure" "MAP" "Lcom/example/mirk/mirk/eval/Measure;" (.ref s_MAP) := Sta.start ev_s_MAP (Or.inr ⟨(hw _ (List.mem_of_getElem? (i := 6) rfl)), (hw _ (List.mem_of_getElem? (i := 39) rfl))⟩)
  have E_MAP : Exa s s.heap s_MAP "com/example/mirk/mirk/eval/Measure" := Exa.start ev_s_MAP na26
  have F_MAP_ordinal : Fld s s.heap s_MAP "java/lang/Enum" "ordinal" "I" (.int (4 : Int32)) := Fld.start ((fld_at ev_s_MAP).symm.trans (own_eqi na27))
  obtain ⟨s_P_10, ev_s_P_10⟩ := exa_v na28
  have S_P_10 : Sta s s.heap "com/example/mirk/mirk/eval/Measure" "P_10" "Lcom/example/mirk/mirk/eval/Measure;" (.ref s_P_10) := Sta.start ev_s_P_10 (Or.inr ⟨(hw _ (List.mem_of_getElem? (i := 6) rfl)), (hw _ (List.mem_of_getElem? (i := 41) rfl))⟩)
  have E_P_10 : Exa s s.heap s_P_10 "com/example/mirk/mirk/eval/Measure" := Exa.start ev_s_P_10 na28
  have F_P_10_ordinal : Fld s s.heap s_P_10 "java/lang/Enum" "ordinal" "I" (.int (9 : Int32)) := Fld.start ((fld_at ev_s_P_10).symm.trans (own_eqi nb28))
  obtain ⟨n, o, h1, h2, h3, _, L, rfl, ⟨rfl, N⟩, hq⟩ := rm0 l s _ hw tables_1 i0 s_NUM_Q s_NUM_REL_RET s_RPREC s_NDCG s_BPREF s_NDCG_CUT_10 s_RECIP_RANK s_NUM_REL s_RECALL_10 s_P_20 s_P_5 s_NUM_RET s_RECALL_100 s_MAP s_P_10 s.heap s.heap.size (Nat.le_refl _) S_NUM_Q E_NUM_Q S_NUM_REL_RET E_NUM_REL_RET F_NUM_REL_RET_ordinal F_NUM_Q_ordinal S_RPREC E_RPREC F_RPREC_ordinal S_NDCG E_NDCG F_NDCG_ordinal S_BPREF E_BPREF F_BPREF_ordinal S_NDCG_CUT_10 E_NDCG_CUT_10 F_NDCG_CUT_10_ordinal S_RECIP_RANK E_RECIP_RANK F_RECIP_RANK_ordinal S_NUM_REL E_NUM_REL F_NUM_REL_ordinal S_RECALL_10 E_RECALL_10 F_RECALL_10_ordinal S_P_20 E_P_20 F_P_20_ordinal S_P_5 E_P_5 F_P_5_ordinal S_NUM_RET E_NUM_RET F_NUM_RET_ordinal S_RECALL_100 E_RECALL_100 F_RECALL_100_ordinal S_MAP E_MAP F_MAP_ordinal S_P_10 E_P_10 F_P_10_ordinal p e ha hc hk s m _ below hf ((Spec.applies_iff_loose hf).mp happ).1 ⟨rfl, State.Warmed39.refl s, rfl⟩ trivial
  refine ⟨n, _, h1, h2, h3, hpost _ _ _ _ _ _ ⟨Cond.after_iff.mpr rfl, Cond.after_iff.mpr (eq_i res_at (Term.int_eval (1)) rfl), trivial⟩ ⟨hq.1, hq.2.1, (hq.2.2.sift fun y hy => Or.inr (N y hy)).mono (by decide) (by decide)⟩⟩
theorem main_1_1 : Claimed_1_1 := comes_1 fun _ _ _ _ _ _ h hF => ⟨h.1, hF⟩
theorem main_1_2 : Claimed_1_2 := comes_1 fun _ _ _ _ _ _ h hF => ⟨h.2.1, hF⟩
end Jvm.Pilot.@@N@@
namespace Jvm.Pilot.@@N@@
open Jvm Jvm.ClassFile Sem Op Lib Jvm.Free Jvm.Stand Jvm.Pilot.@@N@@.Jvm.D
/-! MADE BY PROGRAM (witnessworld.py) out of the Statement's table words and the real class files: 12 classes; the members and pool entries that the words name. The judged class is class 1, her method 2. -/
namespace start1
open Jvm.ClassFile
def u (s : String) : CpInfo := .utf8 (stringToUtf16 s)
/-- a pool by its gaps: so many unusable entries, then the entry; so many at the end -/
def gap : Nat → List CpInfo → List CpInfo
  | 0, r => r
  | n + 1, r => .unusable :: gap n r
def poolList (es : List (Nat × CpInfo)) (last : Nat) : List CpInfo := es.foldr (fun e r => gap e.1 (e.2 :: r)) (gap last [])
def pool (es : List (Nat × CpInfo)) (last : Nat) : Array CpInfo := ⟨poolList es last⟩
def fileOf (pool : Array CpInfo) (this : Nat) (attrs : Array Attribute := #[]) (ms : Array MethodInfo := #[]) (fl : Nat := 33) (sup : Nat := 0) (ifs : Array Nat := #[]) (fds : Array FieldInfo := #[]) : ClassFile where
  minorVersion := 0
  majorVersion := 65
  constantPool := pool
  accessFlags := fl
  thisClass := this
  superClass := sup
  interfaces := ifs
  fields := fds
  methods := ms
  attributes := attrs
def plain (name : String) (sup : Option ClassId) : Class where
  name := name
  kind := .ordinary
  loader := none
  accessFlags := 33
  super := sup
  interfaces := #[]
  cf := none
  fields := #[]
  methods := #[]
  instanceTypes := #[]
  staticTypes := #[]
  resolved := #[]
  callSites := []
  init := .initialized
  statics := none
  mirror := none

def pool0 : Array CpInfo := pool [(5, u "<init>"), (0, u "()V"), (1, .class_ 10), (1, u "java/lang/Object")] 113

def k0m0 : Method := { name := "<init>", desc := "()V", sig := { parameters := [], returnType := none }, accessFlags := 1, code := none }
/-- java/lang/Object -/
def k0 : Class := { plain "java/lang/Object" none with
  accessFlags := 33
  interfaces := #[]
  cf := some (fileOf pool0 8 #[] #[{ accessFlags := 1, nameIndex := 5, descriptorIndex := 6, attributes := #[] }] 33 0 #[] #[])
  fields := #[]
  methods := #[k0m0]
  instanceTypes := #[]
  staticTypes := #[]
  resolved := Array.replicate 124 none
  statics := none }

def pool1 : Array CpInfo := pool [(2, .class_ 4), (1, u "java/lang/Object"), (0, u "<init>"), (0, u "()V"), (0, .fieldref 8 9), (0, .class_ 10), (0, .nameAndType 11 12), (0, u "com/example/mirk/mirk/eval/Measure"), (0, u "NUM_Q"), (0, u "Lcom/example/mirk/mirk/eval/Measure;"), (0, .fieldref 8 14), (0, .nameAndType 15 12), (0, u "NUM_RET"), (0, .fieldref 8 17), (0, .nameAndType 18 12), (0, u "NUM_REL"), (0, .fieldref 8 20), (0, .nameAndType 21 12), (0, u "NUM_REL_RET"), (0, .fieldref 8 23), (0, .nameAndType 24 12), (0, u "MAP"), (0, .fieldref 8 26), (0, .nameAndType 27 12), (0, u "RPREC"), (0, .fieldref 8 29), (0, .nameAndType 30 12), (0, u "BPREF"), (0, .fieldref 8 32), (0, .nameAndType 33 12), (0, u "RECIP_RANK"), (0, .fieldref 8 35), (0, .nameAndType 36 12), (0, u "P_5"), (0, .fieldref 8 38), (0, .nameAndType 39 12), (0, u "P_10"), (0, .fieldref 8 41), (0, .nameAndType 42 12), (0, u "P_20"), (0, .fieldref 8 44), (0, .nameAndType 45 12), (0, u "RECALL_10"), (0, .fieldref 8 47), (0, .nameAndType 48 12), (0, u "RECALL_100"), (0, .fieldref 8 50), (0, .nameAndType 51 12), (0, u "NDCG"), (0, .fieldref 8 53), (0, .nameAndType 54 12), (0, u "NDCG_CUT_10"), (0, .integer 2147483647), (0, .methodref 57 58), (0, .class_ 59), (0, .nameAndType 60 61), (0, u "com/example/mirk/mirk/eval/MeasurePerQueryPinLaw"), (0, u "pick"), (0, u "(I)Lcom/example/mirk/mirk/eval/Measure;"), (0, .methodref 8 63), (0, .nameAndType 64 65), (0, u "perQuery"), (0, u "()Z"), (3, u "law"), (0, u "(I)Z")] 2

def k1m0 : Method := { name := "<init>", desc := "()V", sig := { parameters := [], returnType := none }, accessFlags := 2, code := none }
def k1c1 : Code := { maxStack := 2, maxLocals := 1, code := method_2_code, exceptionTable := #[], attributes := #[] }
def k1m1 : Method := { name := "pick", desc := "(I)Lcom/example/mirk/mirk/eval/Measure;", sig := { parameters := [.int], returnType := some (.object "com/example/mirk/mirk/eval/Measure") }, accessFlags := 10, code := some k1c1 }
def k1c2 : Code := { maxStack := 2, maxLocals := 4, code := code, exceptionTable := #[], attributes := #[] }
def k1m2 : Method := { name := "law", desc := "(I)Z", sig := { parameters := [.int], returnType := some .boolean }, accessFlags := 9, code := some k1c2 }
/-- com/example/mirk/mirk/eval/MeasurePerQueryPinLaw -/
def k1 : Class := { plain "com/example/mirk/mirk/eval/MeasurePerQueryPinLaw" (some 0) with
  accessFlags := 49
  interfaces := #[]
  cf := some (fileOf pool1 57 #[] #[{ accessFlags := 2, nameIndex := 5, descriptorIndex := 6, attributes := #[] }, { accessFlags := 10, nameIndex := 60, descriptorIndex := 61, attributes := #[] }, { accessFlags := 9, nameIndex := 69, descriptorIndex := 70, attributes := #[] }] 49 2 #[] #[])
  fields := #[]
  methods := #[k1m0, k1m1, k1m2]
  instanceTypes := #[]
  staticTypes := #[]
  resolved := Array.replicate 73 none
  statics := none }

def pool2 : Array CpInfo := pool [(1, .class_ 2), (0, u "java/lang/constant/Constable"), (0, .class_ 4), (0, u "java/lang/Object")] 6

/-- java/lang/constant/Constable -/
def k2 : Class := { plain "java/lang/constant/Constable" (some 0) with
  accessFlags := 1537
  interfaces := #[]
  cf := some (fileOf pool2 1 #[] #[] 1537 3 #[] #[])
  fields := #[]
  methods := #[]
  instanceTypes := #[]
  staticTypes := #[]
  resolved := Array.replicate 11 none
  statics := none }

def pool3 : Array CpInfo := pool [(1, .class_ 2), (0, u "java/lang/Comparable"), (0, .class_ 4), (0, u "java/lang/Object")] 7

/-- java/lang/Comparable -/
def k3 : Class := { plain "java/lang/Comparable" (some 0) with
  accessFlags := 1537
  interfaces := #[]
  cf := some (fileOf pool3 1 #[] #[] 1537 3 #[] #[])
  fields := #[]
  methods := #[]
  instanceTypes := #[]
  staticTypes := #[]
  resolved := Array.replicate 12 none
  statics := none }

def pool4 : Array CpInfo := pool [(1, .class_ 2), (0, u "java/io/Serializable"), (0, .class_ 4), (0, u "java/lang/Object")] 2

/-- java/io/Serializable -/
def k4 : Class := { plain "java/io/Serializable" (some 0) with
  accessFlags := 1537
  interfaces := #[]
  cf := some (fileOf pool4 1 #[] #[] 1537 3 #[] #[])
  fields := #[]
  methods := #[]
  instanceTypes := #[]
  staticTypes := #[]
  resolved := Array.replicate 7 none
  statics := none }

def pool5 : Array CpInfo := pool [(2, .class_ 4), (1, u "java/lang/Enum"), (0, u "name"), (0, u "Ljava/lang/String;"), (2, u "ordinal"), (0, u "I"), (1, .class_ 14), (1, u "java/lang/Object"), (4, u "hash"), (86, .class_ 108), (1, u "java/lang/Enum$EnumDesc"), (2, .class_ 112), (0, u "java/lang/constant/Constable"), (0, .class_ 114), (0, u "java/lang/Comparable"), (0, .class_ 116), (0, u "java/io/Serializable")] 87

/-- java/lang/Enum -/
def k5 : Class := { plain "java/lang/Enum" (some 0) with
  accessFlags := 1057
  interfaces := #[2, 3, 4]
  cf := some (fileOf pool5 2 #[.nestMembers #[106]] #[] 1057 12 #[111, 113, 115] #[{ accessFlags := 18, nameIndex := 5, descriptorIndex := 6, attributes := #[] }, { accessFlags := 18, nameIndex := 9, descriptorIndex := 10, attributes := #[] }, { accessFlags := 2, nameIndex := 19, descriptorIndex := 10, attributes := #[] }])
  fields := #[{ name := "name", type := (.object "java/lang/String"), accessFlags := 18, slot := 0, constantValue := 0 }, { name := "ordinal", type := .int, accessFlags := 18, slot := 1, constantValue := 0 }, { name := "hash", type := .int, accessFlags := 2, slot := 2, constantValue := 0 }]
  methods := #[]
  instanceTypes := #[(.object "java/lang/String"), .int, .int]
  staticTypes := #[]
  resolved := Array.replicate 204 none
  statics := none }

def pool6 : Array CpInfo := pool [(1, .class_ 2), (0, u "com/example/mirk/mirk/eval/Measure"), (0, .fieldref 1 4), (0, .nameAndType 5 6), (0, u "NUM_Q"), (0, u "Lcom/example/mirk/mirk/eval/Measure;"), (2, u "NUM_RET"), (2, u "NUM_REL"), (2, u "NUM_REL_RET"), (2, u "MAP"), (2, u "RPREC"), (2, u "BPREF"), (2, u "RECIP_RANK"), (2, u "P_5"), (2, u "P_10"), (2, u "P_20"), (2, u "RECALL_10"), (2, u "RECALL_100"), (2, u "NDCG"), (2, u "NDCG_CUT_10"), (2, u "$VALUES"), (0, u "[Lcom/example/mirk/mirk/eval/Measure;"), (6, .class_ 61), (1, u "java/lang/Enum"), (8, u "label"), (0, u "Ljava/lang/String;"), (2, u "count"), (0, u "Z"), (2, u "value"), (0, u "Ljava/util/function/ToDoubleFunction;"), (117, u "()Z"), (0, u "perQuery")] 89

def k6c0 : Code := { maxStack := 2, maxLocals := 1, code := prog_10_method_6_code, exceptionTable := #[], attributes := #[] }
def k6m0 : Method := { name := "perQuery", desc := "()Z", sig := { parameters := [], returnType := some .boolean }, accessFlags := 1, code := some k6c0 }
/-- com/example/mirk/mirk/eval/Measure -/
def k6 : Class := { plain "com/example/mirk/mirk/eval/Measure" (some 5) with
  accessFlags := 16433
  interfaces := #[]
  cf := some (fileOf pool6 1 #[] #[{ accessFlags := 1, nameIndex := 198, descriptorIndex := 197, attributes := #[] }] 16433 59 #[] #[{ accessFlags := 16409, nameIndex := 5, descriptorIndex := 6, attributes := #[] }, { accessFlags := 16409, nameIndex := 9, descriptorIndex := 6, attributes := #[] }, { accessFlags := 16409, nameIndex := 12, descriptorIndex := 6, attributes := #[] }, { accessFlags := 16409, nameIndex := 15, descriptorIndex := 6, attributes := #[] }, { accessFlags := 16409, nameIndex := 18, descriptorIndex := 6, attributes := #[] }, { accessFlags := 16409, nameIndex := 21, descriptorIndex := 6, attributes := #[] }, { accessFlags := 16409, nameIndex := 24, descriptorIndex := 6, attributes := #[] }, { accessFlags := 16409, nameIndex := 27, descriptorIndex := 6, attributes := #[] }, { accessFlags := 16409, nameIndex := 30, descriptorIndex := 6, attributes := #[] }, { accessFlags := 16409, nameIndex := 33, descriptorIndex := 6, attributes := #[] }, { accessFlags := 16409, nameIndex := 36, descriptorIndex := 6, attributes := #[] }, { accessFlags := 16409, nameIndex := 39, descriptorIndex := 6, attributes := #[] }, { accessFlags := 16409, nameIndex := 42, descriptorIndex := 6, attributes := #[] }, { accessFlags := 16409, nameIndex := 45, descriptorIndex := 6, attributes := #[] }, { accessFlags := 16409, nameIndex := 48, descriptorIndex := 6, attributes := #[] }, { accessFlags := 18, nameIndex := 70, descriptorIndex := 71, attributes := #[] }, { accessFlags := 18, nameIndex := 74, descriptorIndex := 75, attributes := #[] }, { accessFlags := 18, nameIndex := 78, descriptorIndex := 79, attributes := #[] }, { accessFlags := 4122, nameIndex := 51, descriptorIndex := 52, attributes := #[] }])
  fields := #[{ name := "NUM_Q", type := (.object "com/example/mirk/mirk/eval/Measure"), accessFlags := 16409, slot := 0, constantValue := 0 }, { name := "NUM_RET", type := (.object "com/example/mirk/mirk/eval/Measure"), accessFlags := 16409, slot := 1, constantValue := 0 }, { name := "NUM_REL", type := (.object "com/example/mirk/mirk/eval/Measure"), accessFlags := 16409, slot := 2, constantValue := 0 }, { name := "NUM_REL_RET", type := (.object "com/example/mirk/mirk/eval/Measure"), accessFlags := 16409, slot := 3, constantValue := 0 }, { name := "MAP", type := (.object "com/example/mirk/mirk/eval/Measure"), accessFlags := 16409, slot := 4, constantValue := 0 }, { name := "RPREC", type := (.object "com/example/mirk/mirk/eval/Measure"), accessFlags := 16409, slot := 5, constantValue := 0 }, { name := "BPREF", type := (.object "com/example/mirk/mirk/eval/Measure"), accessFlags := 16409, slot := 6, constantValue := 0 }, { name := "RECIP_RANK", type := (.object "com/example/mirk/mirk/eval/Measure"), accessFlags := 16409, slot := 7, constantValue := 0 }, { name := "P_5", type := (.object "com/example/mirk/mirk/eval/Measure"), accessFlags := 16409, slot := 8, constantValue := 0 }, { name := "P_10", type := (.object "com/example/mirk/mirk/eval/Measure"), accessFlags := 16409, slot := 9, constantValue := 0 }, { name := "P_20", type := (.object "com/example/mirk/mirk/eval/Measure"), accessFlags := 16409, slot := 10, constantValue := 0 }, { name := "RECALL_10", type := (.object "com/example/mirk/mirk/eval/Measure"), accessFlags := 16409, slot := 11, constantValue := 0 }, { name := "RECALL_100", type := (.object "com/example/mirk/mirk/eval/Measure"), accessFlags := 16409, slot := 12, constantValue := 0 }, { name := "NDCG", type := (.object "com/example/mirk/mirk/eval/Measure"), accessFlags := 16409, slot := 13, constantValue := 0 }, { name := "NDCG_CUT_10", type := (.object "com/example/mirk/mirk/eval/Measure"), accessFlags := 16409, slot := 14, constantValue := 0 }, { name := "label", type := (.object "java/lang/String"), accessFlags := 18, slot := 3, constantValue := 0 }, { name := "count", type := .boolean, accessFlags := 18, slot := 4, constantValue := 0 }, { name := "value", type := (.object "java/util/function/ToDoubleFunction"), accessFlags := 18, slot := 5, constantValue := 0 }, { name := "$VALUES", type := (.array (.object "com/example/mirk/mirk/eval/Measure")), accessFlags := 4122, slot := 15, constantValue := 0 }]
  methods := #[k6m0]
  instanceTypes := #[(.object "java/lang/String"), .int, .int, (.object "java/lang/String"), .boolean, (.object "java/util/function/ToDoubleFunction")]
  staticTypes := #[(.object "com/example/mirk/mirk/eval/Measure"), (.object "com/example/mirk/mirk/eval/Measure"), (.object "com/example/mirk/mirk/eval/Measure"), (.object "com/example/mirk/mirk/eval/Measure"), (.object "com/example/mirk/mirk/eval/Measure"), (.object "com/example/mirk/mirk/eval/Measure"), (.object "com/example/mirk/mirk/eval/Measure"), (.object "com/example/mirk/mirk/eval/Measure"), (.object "com/example/mirk/mirk/eval/Measure"), (.object "com/example/mirk/mirk/eval/Measure"), (.object "com/example/mirk/mirk/eval/Measure"), (.object "com/example/mirk/mirk/eval/Measure"), (.object "com/example/mirk/mirk/eval/Measure"), (.object "com/example/mirk/mirk/eval/Measure"), (.object "com/example/mirk/mirk/eval/Measure"), (.array (.object "com/example/mirk/mirk/eval/Measure"))]
  resolved := Array.replicate 288 none
  statics := some 0 }

def pool7 : Array CpInfo := pool [(1, u "java/lang/Cloneable"), (0, .class_ 1), (0, u "java/lang/Object"), (0, .class_ 3)] 3

/-- java/lang/Cloneable -/
def k7 : Class := { plain "java/lang/Cloneable" (some 0) with
  accessFlags := 1537
  interfaces := #[]
  cf := some (fileOf pool7 2 #[] #[] 1537 4 #[] #[])
  fields := #[]
  methods := #[]
  instanceTypes := #[]
  staticTypes := #[]
  resolved := Array.replicate 8 none
  statics := none }

/-- the primitive byte -/
def k8 : Class := { plain "byte" none with kind := .primitive 'B', accessFlags := 0x411 }
/-- [B -/
def k9 : Class := { plain "[B" (some 0) with kind := .array 8 .byte, interfaces := #[7, 4], accessFlags := 1041 }

/-- the primitive int -/
def k10 : Class := { plain "int" none with kind := .primitive 'I', accessFlags := 0x411 }
/-- [I -/
def k11 : Class := { plain "[I" (some 0) with kind := .array 10 .int, interfaces := #[7, 4], accessFlags := 1041 }

def heap : Heap := #[{ cls := 6, slots := #[.ref 1, .ref 12, .ref 8, .ref 2, .ref 14, .ref 3, .ref 5, .ref 7, .ref 11, .ref 15, .ref 10, .ref 9, .ref 13, .ref 4, .ref 6, .null], vm := .statics 6 },
  { cls := 6, slots := #[.null, .int (0), .int 0, .null, .int 0, .null], vm := .none },
  { cls := 6, slots := #[.null, .int (3), .int 0, .null, .int 0, .null], vm := .none },
  { cls := 6, slots := #[.null, .int (5), .int 0, .null, .int 0, .null], vm := .none },
  { cls := 6, slots := #[.null, .int (13), .int 0, .null, .int 0, .null], vm := .none },
  { cls := 6, slots := #[.null, .int (6), .int 0, .null, .int 0, .null], vm := .none },
  { cls := 6, slots := #[.null, .int (14), .int 0, .null, .int 0, .null], vm := .none },
  { cls := 6, slots := #[.null, .int (7), .int 0, .null, .int 0, .null], vm := .none },
  { cls := 6, slots := #[.null, .int (2), .int 0, .null, .int 0, .null], vm := .none },
  { cls := 6, slots := #[.null, .int (11), .int 0, .null, .int 0, .null], vm := .none },
  { cls := 6, slots := #[.null, .int (10), .int 0, .null, .int 0, .null], vm := .none },
  { cls := 6, slots := #[.null, .int (8), .int 0, .null, .int 0, .null], vm := .none },
  { cls := 6, slots := #[.null, .int (1), .int 0, .null, .int 0, .null], vm := .none },
  { cls := 6, slots := #[.null, .int (12), .int 0, .null, .int 0, .null], vm := .none },
  { cls := 6, slots := #[.null, .int (4), .int 0, .null, .int 0, .null], vm := .none },
  { cls := 6, slots := #[.null, .int (9), .int 0, .null, .int 0, .null], vm := .none }]
def classes : Array Class := #[k0, k1, k2, k3, k4, k5, k6, k7, k8, k9, k10, k11]
def interned : List (Array UInt16 × Addr) := []
def slotsUsed : Nat := 106
def theMethod : MethodId := ⟨1, 2⟩
def args0 : Array Value := #[.int 5]
def aboutOver (below : List Frame) : State where
  vm := { classes := classes, interned := interned.toArray }
  heap := heap
  slotsUsed := slotsUsed
  threads := #[{ frames := .invoking theMethod args0 :: below }]
def below0 : List Frame := [.native { method := ⟨0, 0⟩, args := #[] }]
def about1 : State := aboutOver below0
def p0 : Program := .bare "" "" ""
def e0 : Env := launch0.env 0 0 0
theorem w_frames : about1.frames = Frame.invoking theMethod args0 :: below0 := rfl
set_option maxRecDepth 65536 in
theorem w_args : argsFit about1.vm theMethod args0 = true := by decide +kernel
set_option maxRecDepth 65536 in
theorem w_heap : heapFits about1 = true := by decide +kernel
set_option maxRecDepth 65536 in
theorem w_runnable : about1.curStatus? = some .runnable := by decide +kernel
set_option maxRecDepth 65536 in
theorem w_alone : about1.alone = true := by decide +kernel
set_option maxRecDepth 65536 in
theorem w_named : about1.methodNamed? x = some theMethod := by decide +kernel
set_option maxRecDepth 65536 in
theorem w_hears : about1.hears theMethod below0 = true := by decide +kernel
set_option maxRecDepth 65536 in
theorem w_ripe : about1.ripe theMethod args0 below0 = true := by decide +kernel
theorem w_running : about1.status = .running := rfl
set_option maxRecDepth 65536 in
theorem w_room : about1.hasRoom e0.platform room_1 = true :=
  launch0.hasRoom_least _ room_1 (by decide +kernel) (by decide +kernel) (by decide +kernel) (by decide +kernel) (by decide +kernel) (by decide +kernel)
theorem allAtoms_all (ts : List Jvm.Cond) (a : Array Jvm.Value) (st : Jvm.State) : (allAtoms ts).before a st = ts.all (fun c => c.before a st) := by
  induction ts with
  | nil => rfl
  | cons c t ih =>
    show (Jvm.Cond.and c (allAtoms t)).before a st = _
    rw [Jvm.Cond.before_and, ih, List.all_cons]
def words1 : List Jvm.Cond := Jvm.Cond.code x code maxLocals ret :: tables_1
/-- a 'code' word, met by the world's own term for the bytes: nothing is compared byte by byte -/
theorem code_word {y : MethodName} {bytes : ByteArray} {mx : Nat} {rt : Option FieldType} {a : Array Value} {s : State} {m : MethodId} {meth : Method} {c : Code} (h1 : s.methodNamed? y = some m) (h2 : s.vm.method? m = some meth) (h3 : meth.code = some c) (h4 : c.code = bytes)
    (h5 : (c.maxLocals == mx && c.exceptionTable.isEmpty && decide (c.maxStack ≤ mostOperands) && decide (meth.sig.returnType = rt) && !meth.locks && decide (parseMethodDescriptor y.desc = some meth.sig)) = true) : (Jvm.Cond.code y bytes mx rt).before a s = true := by
  simp only [Bool.and_eq_true, beq_iff_eq, Bool.not_eq_true', decide_eq_true_eq] at h5
  obtain ⟨⟨⟨⟨⟨g1, g2⟩, g3⟩, g4⟩, g5⟩, g6⟩ := h5
  simp [Cond.before, Cond.holds, Cond.value, h1, h2, h3, h4, g1, g2, g3, g4, g5, g6]
def isCode : Jvm.Cond → Bool
  | .code _ _ _ _ => true
  | _ => false
theorem all_split {L : List Jvm.Cond} {P : Jvm.Cond → Bool} (h1 : L.all (fun c => isCode c || P c) = true) (h2 : ∀ c ∈ L.filter isCode, P c = true) : L.all P = true := by
  refine List.all_eq_true.mpr fun c hc => ?_
  have h := List.all_eq_true.mp h1 c hc
  rcases Bool.eq_false_or_eq_true (isCode c) with hi | hi
  · exact h2 c (List.mem_filter.mpr ⟨hc, hi⟩)
  · simpa [hi] using h
set_option maxRecDepth 65536 in
theorem w_c0 : (Jvm.Cond.code x code maxLocals ret).before args0 about1 = true := code_word (m := ⟨1, 2⟩) (meth := k1m2) (c := k1c2) (by decide +kernel) rfl rfl rfl (by decide +kernel)
set_option maxRecDepth 65536 in
theorem w_c1 : (Jvm.Cond.code ({ cls := "com/example/mirk/mirk/eval/MeasurePerQueryPinLaw", name := "pick", desc := "(I)Lcom/example/mirk/mirk/eval/Measure;" } : Jvm.MethodName) method_2_code (1 : Nat) (Option.some (Jvm.ClassFile.FieldType.object "com/example/mirk/mirk/eval/Measure"))).before args0 about1 = true := code_word (m := ⟨1, 1⟩) (meth := k1m1) (c := k1c1) (by decide +kernel) rfl rfl rfl (by decide +kernel)
set_option maxRecDepth 65536 in
theorem w_c2 : (Jvm.Cond.code ({ cls := "com/example/mirk/mirk/eval/Measure", name := "perQuery", desc := "()Z" } : Jvm.MethodName) prog_10_method_6_code (1 : Nat) (Option.some Jvm.ClassFile.FieldType.boolean)).before args0 about1 = true := code_word (m := ⟨6, 0⟩) (meth := k6m0) (c := k6c0) (by decide +kernel) rfl rfl rfl (by decide +kernel)
def codes1 : List Jvm.Cond := [Jvm.Cond.code x code maxLocals ret, Jvm.Cond.code ({ cls := "com/example/mirk/mirk/eval/MeasurePerQueryPinLaw", name := "pick", desc := "(I)Lcom/example/mirk/mirk/eval/Measure;" } : Jvm.MethodName) method_2_code (1 : Nat) (Option.some (Jvm.ClassFile.FieldType.object "com/example/mirk/mirk/eval/Measure")), Jvm.Cond.code ({ cls := "com/example/mirk/mirk/eval/Measure", name := "perQuery", desc := "()Z" } : Jvm.MethodName) prog_10_method_6_code (1 : Nat) (Option.some Jvm.ClassFile.FieldType.boolean)]
set_option maxRecDepth 65536 in
theorem codes_eq : words1.filter isCode = codes1 := rfl
theorem w_codes : ∀ c ∈ words1.filter isCode, c.before args0 about1 = true := by
  rw [codes_eq]
  intro c hc
  simp only [codes1, List.mem_cons, List.not_mem_nil, or_false] at hc
  rcases hc with rfl | rfl | rfl
  · exact w_c0
  · exact w_c1
  · exact w_c2
set_option maxRecDepth 65536 in
theorem w_t1 : (words1.take 24).all (fun c => isCode c || c.before args0 about1) = true := by decide +kernel
set_option maxRecDepth 65536 in
theorem w_t2 : (words1.drop 24).all (fun c => isCode c || c.before args0 about1) = true := by decide +kernel
theorem w_tables : (allAtoms (Jvm.Cond.code x code maxLocals ret :: tables_1)).before args0 about1 = true := by
  rw [allAtoms_all]
  show words1.all (fun c => c.before args0 about1) = true
  refine all_split ?_ w_codes
  rw [← List.take_append_drop 24 words1, List.all_append, w_t1, w_t2]
  rfl
set_option maxRecDepth 65536 in
theorem w_case : (Jvm.Cond.and given_1 narrow_1).before args0 about1 = true := by decide +kernel
theorem w_applies : (headSpec (Jvm.Cond.code x code maxLocals ret :: tables_1) room_1).applies x e0.platform about1 = true :=
  (Spec.applies_iff w_frames).mpr ⟨w_running, w_runnable, w_alone, w_named, w_hears, w_ripe, w_room, w_tables⟩
theorem atStart : AtStart classFile x code maxLocals ret World_1 tables_1 room_1 Calls_1 rest_1 Pre_1 launch0 p0 e0 about1 theMethod args0 below0 :=
  ⟨lists_1, trivial, launch0.admits_env _ _ _, launch0.least_env, fairChoices_fair.cas, fairChoices_fair.clock, w_frames, w_args, w_heap, w_applies, trivial, trivial, w_case⟩
end start1
theorem witness_1 : WitnessClaimed_1 := ⟨start1.p0, start1.e0, start1.about1, start1.theMethod, start1.args0, start1.below0, start1.atStart⟩
end Jvm.Pilot.@@N@@
