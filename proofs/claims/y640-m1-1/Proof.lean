import JvmDerived
import JvmDerived.Pilot.@@N@@Statement
import JvmDerived.Pilot.@@N@@Code
set_option linter.unusedVariables false
set_option linter.unusedSimpArgs false
namespace Jvm.Pilot.@@N@@
open Jvm Jvm.ClassFile Sem Op Lib Jvm.Free Jvm.Stand Jvm.LawKit Jvm.RoadKit Bundle Jvm.Pilot.@@N@@.Jvm.D
theorem own_exa_ns {Z : State} {h : Heap} {a : Addr} {C : String} (E : Exa Z h a C) : ∀ c : Cell, h[a]? = some c → c.vm.isStatics = false := fun c hc => by
  obtain ⟨cell, k, h1, -, -, h4, -⟩ := E
  rw [h1] at hc; cases hc; exact h4
theorem own_sta_keep {Z : State} {h h' : Heap} {C n d : String} {v : Value} {ws : List Addr} (F : Sta Z h C n d v) (K : Keep h h' ws) (q : ∀ x ∈ ws, ∀ c : Cell, h[x]? = some c → c.vm.isStatics = false) : Sta Z h' C n d v := by
  obtain ⟨cf, i, k, f, st, cell, h1, h2, h3, h4, h5, h6, h7⟩ := F
  exact ⟨cf, i, k, f, st, cell, h1, h2, h3, h4, K.2.1 st cell h5 (fun hm => by have := q st hm cell h5; rw [h6] at this; cases this), h6, h7⟩
theorem own_ins_keep {Z : State} {h h' : Heap} {a : Addr} {C : String} {b : Bool} {ws : List Addr} (F : Ins Z h a C b) (K : Keep h h' ws) : Ins Z h' a C b := by
  obtain ⟨cell, cT, h1, h2, h3⟩ := F
  obtain ⟨c', q1, q2, q3, -⟩ := K.2.2 a cell h1
  exact ⟨c', cT, q1, h2, by rw [q3, q2]; exact h3⟩
theorem own_ne {r c : Int32} (k : Int) (hc : c.toInt = k) (h : ¬ r = c) : ¬ r.toInt = k := fun e => h (Int32.toInt_inj.mp (e.trans hc.symm))
theorem own_cat1 {v : Value} (h : v.isRef = true) : 2 * 0 + ([v].map fun v => v.category).sum ≤ 1 := by simp [XT.cat1 h]
theorem own_nz {z : Int32} (h : z = 0 ∨ z = 1) : narrow .boolean (.int z) = .int z := by rcases h with rfl | rfl <;> rfl
theorem own_nz64 {x : Int32} (h : ¬ x = 0) : Jvm.Free.Fl.Nz64 (FP.i2d x) := Jvm.Free.Fl.i2d_nz h
theorem own_qfin : Jvm.Free.Fl.Fin64 (4598175219545276416 : UInt64) := by unfold Jvm.Free.Fl.Fin64; decide
theorem own_sum (x : Int32) : Jvm.Free.Fl.NoNaN64 (FP.dmul (FP.i2d x) (4598175219545276416 : UInt64)) := Jvm.Free.Fl.dmul_out (Jvm.Free.Fl.i2d_fin x) own_qfin
theorem own_quo {a : UInt64} {x : Int32} (ha : Jvm.Free.Fl.NoNaN64 a) (h : ¬ x = 0) : Jvm.Free.Fl.NoNaN64 (FP.ddiv a (FP.i2d x)) := Jvm.Free.Fl.ddiv_out ha (Jvm.Free.Fl.i2d_fin x) (own_nz64 h)
theorem own_eqi {a : Term} {args : Array Value} {s : State} {k : Int32} (h : (Jvm.Cond.eq a (Term.int k)).value args s none s [] = some true) : a.eval args s none [] s = some (.int k) := by
  cases ha : a.eval args s none [] s with
  | none => simp [Cond.value, ha] at h
  | some x => cases x <;> simp [Cond.value, ha, Term.eval] at h ⊢; exact h
theorem own_eqr {a b : Term} {args : Array Value} {s : State} {y : Addr} (hb : b.eval args s none [] s = some (.ref y)) (h : (Jvm.Cond.eq a b).value args s none s [] = some true) : a.eval args s none [] s = some (.ref y) := by
  cases ha : a.eval args s none [] s with
  | none => simp [Cond.value, ha] at h
  | some x => cases x <;> simp [Cond.value, ha, hb] at h ⊢; exact h
theorem own_len {t : Term} {args : Array Value} {s : State} {n : Int32} {x : Addr} {c : Cell} {ty : FieldType} (h : (Term.length t).eval args s none [] s = some (.int n)) (ht : t.eval args s none [] s = some (.ref x)) (A : Arr s s.heap x c ty) : c.slots.size < 2 ^ 31 ∧ c.slots.size.toInt32 = n := by
  have ha : s.arrayAt? x = some c := Arr.fin (Vm.Alike.refl _) A
  simp only [Term.eval, ht, ha, Option.bind_eq_bind, Option.bind_some] at h
  split at h
  · rename_i hl; simp at h; exact ⟨hl, h⟩
  · cases h
theorem d1_0 : decode method_2_code 0 = .ok (.iload_n 0, 1) := by decide +kernel
theorem d1_1 : decode method_2_code 1 = .ok (.ifCond .ne 7, 3) := by decide +kernel
theorem d1_4 : decode method_2_code 4 = .ok (.getstatic 7, 3) := by decide +kernel
theorem d1_7 : decode method_2_code 7 = .ok (.areturn, 1) := by decide +kernel
theorem d1_8 : decode method_2_code 8 = .ok (.iload_n 0, 1) := by decide +kernel
theorem d1_9 : decode method_2_code 9 = .ok (.iconst 1, 1) := by decide +kernel
theorem d1_10 : decode method_2_code 10 = .ok (.if_icmp .ne 7, 3) := by decide +kernel
theorem d1_13 : decode method_2_code 13 = .ok (.getstatic 13, 3) := by decide +kernel
theorem d1_16 : decode method_2_code 16 = .ok (.areturn, 1) := by decide +kernel
theorem d1_17 : decode method_2_code 17 = .ok (.iload_n 0, 1) := by decide +kernel
theorem d1_18 : decode method_2_code 18 = .ok (.iconst 2, 1) := by decide +kernel
theorem d1_19 : decode method_2_code 19 = .ok (.if_icmp .ne 7, 3) := by decide +kernel
theorem d1_22 : decode method_2_code 22 = .ok (.getstatic 16, 3) := by decide +kernel
theorem d1_25 : decode method_2_code 25 = .ok (.areturn, 1) := by decide +kernel
theorem d1_26 : decode method_2_code 26 = .ok (.iload_n 0, 1) := by decide +kernel
theorem d1_27 : decode method_2_code 27 = .ok (.iconst 3, 1) := by decide +kernel
theorem d1_28 : decode method_2_code 28 = .ok (.if_icmp .ne 7, 3) := by decide +kernel
theorem d1_31 : decode method_2_code 31 = .ok (.getstatic 19, 3) := by decide +kernel
theorem d1_34 : decode method_2_code 34 = .ok (.areturn, 1) := by decide +kernel
theorem d1_35 : decode method_2_code 35 = .ok (.iload_n 0, 1) := by decide +kernel
theorem d1_36 : decode method_2_code 36 = .ok (.iconst 4, 1) := by decide +kernel
theorem d1_37 : decode method_2_code 37 = .ok (.if_icmp .ne 7, 3) := by decide +kernel
theorem d1_40 : decode method_2_code 40 = .ok (.getstatic 22, 3) := by decide +kernel
theorem d1_43 : decode method_2_code 43 = .ok (.areturn, 1) := by decide +kernel
theorem d1_44 : decode method_2_code 44 = .ok (.iload_n 0, 1) := by decide +kernel
theorem d1_45 : decode method_2_code 45 = .ok (.iconst 5, 1) := by decide +kernel
theorem d1_46 : decode method_2_code 46 = .ok (.if_icmp .ne 7, 3) := by decide +kernel
theorem d1_49 : decode method_2_code 49 = .ok (.getstatic 25, 3) := by decide +kernel
theorem d1_52 : decode method_2_code 52 = .ok (.areturn, 1) := by decide +kernel
theorem d1_53 : decode method_2_code 53 = .ok (.iload_n 0, 1) := by decide +kernel
theorem d1_54 : decode method_2_code 54 = .ok (.bipush 6, 2) := by decide +kernel
theorem d1_56 : decode method_2_code 56 = .ok (.if_icmp .ne 7, 3) := by decide +kernel
theorem d1_59 : decode method_2_code 59 = .ok (.getstatic 28, 3) := by decide +kernel
theorem d1_62 : decode method_2_code 62 = .ok (.areturn, 1) := by decide +kernel
theorem d1_63 : decode method_2_code 63 = .ok (.iload_n 0, 1) := by decide +kernel
theorem d1_64 : decode method_2_code 64 = .ok (.bipush 7, 2) := by decide +kernel
theorem d1_66 : decode method_2_code 66 = .ok (.if_icmp .ne 7, 3) := by decide +kernel
theorem d1_69 : decode method_2_code 69 = .ok (.getstatic 31, 3) := by decide +kernel
theorem d1_72 : decode method_2_code 72 = .ok (.areturn, 1) := by decide +kernel
theorem d1_73 : decode method_2_code 73 = .ok (.iload_n 0, 1) := by decide +kernel
theorem d1_74 : decode method_2_code 74 = .ok (.bipush 8, 2) := by decide +kernel
theorem d1_76 : decode method_2_code 76 = .ok (.if_icmp .ne 7, 3) := by decide +kernel
theorem d1_79 : decode method_2_code 79 = .ok (.getstatic 34, 3) := by decide +kernel
theorem d1_82 : decode method_2_code 82 = .ok (.areturn, 1) := by decide +kernel
theorem d1_83 : decode method_2_code 83 = .ok (.iload_n 0, 1) := by decide +kernel
theorem d1_84 : decode method_2_code 84 = .ok (.bipush 9, 2) := by decide +kernel
theorem d1_86 : decode method_2_code 86 = .ok (.if_icmp .ne 7, 3) := by decide +kernel
theorem d1_89 : decode method_2_code 89 = .ok (.getstatic 37, 3) := by decide +kernel
theorem d1_92 : decode method_2_code 92 = .ok (.areturn, 1) := by decide +kernel
theorem d1_93 : decode method_2_code 93 = .ok (.iload_n 0, 1) := by decide +kernel
theorem d1_94 : decode method_2_code 94 = .ok (.bipush 10, 2) := by decide +kernel
theorem d1_96 : decode method_2_code 96 = .ok (.if_icmp .ne 7, 3) := by decide +kernel
theorem d1_99 : decode method_2_code 99 = .ok (.getstatic 40, 3) := by decide +kernel
theorem d1_102 : decode method_2_code 102 = .ok (.areturn, 1) := by decide +kernel
theorem d1_103 : decode method_2_code 103 = .ok (.iload_n 0, 1) := by decide +kernel
theorem d1_104 : decode method_2_code 104 = .ok (.bipush 11, 2) := by decide +kernel
theorem d1_106 : decode method_2_code 106 = .ok (.if_icmp .ne 7, 3) := by decide +kernel
theorem d1_109 : decode method_2_code 109 = .ok (.getstatic 43, 3) := by decide +kernel
theorem d1_112 : decode method_2_code 112 = .ok (.areturn, 1) := by decide +kernel
theorem d1_113 : decode method_2_code 113 = .ok (.iload_n 0, 1) := by decide +kernel
theorem d1_114 : decode method_2_code 114 = .ok (.bipush 12, 2) := by decide +kernel
theorem d1_116 : decode method_2_code 116 = .ok (.if_icmp .ne 7, 3) := by decide +kernel
theorem d1_119 : decode method_2_code 119 = .ok (.getstatic 46, 3) := by decide +kernel
theorem d1_122 : decode method_2_code 122 = .ok (.areturn, 1) := by decide +kernel
theorem d1_123 : decode method_2_code 123 = .ok (.iload_n 0, 1) := by decide +kernel
theorem d1_124 : decode method_2_code 124 = .ok (.bipush 13, 2) := by decide +kernel
theorem d1_126 : decode method_2_code 126 = .ok (.if_icmp .ne 7, 3) := by decide +kernel
theorem d1_129 : decode method_2_code 129 = .ok (.getstatic 49, 3) := by decide +kernel
theorem d1_132 : decode method_2_code 132 = .ok (.areturn, 1) := by decide +kernel
theorem d1_133 : decode method_2_code 133 = .ok (.getstatic 52, 3) := by decide +kernel
theorem d1_136 : decode method_2_code 136 = .ok (.areturn, 1) := by decide +kernel
theorem pn_71 : plainName "com/example/mirk/mirk/eval/MeasureOverAllPinLaw" = true := by first | (simp [plainName, overriddenIn]; done) | decide +kernel
def f1 (p0 : Int32) (s_NUM_Q : Addr) (s_NUM_RET : Addr) (s_NUM_REL : Addr) (s_NUM_REL_RET : Addr) (s_MAP : Addr) (s_RPREC : Addr) (s_BPREF : Addr) (s_RECIP_RANK : Addr) (s_P_5 : Addr) (s_P_10 : Addr) (s_P_20 : Addr) (s_RECALL_10 : Addr) (s_RECALL_100 : Addr) (s_NDCG : Addr) (s_NDCG_CUT_10 : Addr) : Addr := (if p0 = (0 : Int32) then s_NUM_Q else (if p0 = (1 : Int32) then s_NUM_RET else (if p0 = (2 : Int32) then s_NUM_REL else (if p0 = (3 : Int32) then s_NUM_REL_RET else (if p0 = (4 : Int32) then s_MAP else (if p0 = (5 : Int32) then s_RPREC else (if p0 = (6 : Int32) then s_BPREF else (if p0 = (7 : Int32) then s_RECIP_RANK else (if p0 = (8 : Int32) then s_P_5 else (if p0 = (9 : Int32) then s_P_10 else (if p0 = (10 : Int32) then s_P_20 else (if p0 = (11 : Int32) then s_RECALL_10 else (if p0 = (12 : Int32) then s_RECALL_100 else (if p0 = (13 : Int32) then s_NDCG else s_NDCG_CUT_10))))))))))))))
def Q1 (Z : State) (n0 : Nat) (p0 : Int32) (s_NUM_Q : Addr) (s_NUM_RET : Addr) (s_NUM_REL : Addr) (s_NUM_REL_RET : Addr) (s_MAP : Addr) (s_RPREC : Addr) (s_BPREF : Addr) (s_RECIP_RANK : Addr) (s_P_5 : Addr) (s_P_10 : Addr) (s_P_20 : Addr) (s_RECALL_10 : Addr) (s_RECALL_100 : Addr) (s_NDCG : Addr) (s_NDCG_CUT_10 : Addr) (h0 : Heap) (v : Option Value) (h : Heap) (L : List Loc) : Prop := v = some (.ref (f1 p0 s_NUM_Q s_NUM_RET s_NUM_REL s_NUM_REL_RET s_MAP s_RPREC s_BPREF s_RECIP_RANK s_P_5 s_P_10 s_P_20 s_RECALL_10 s_RECALL_100 s_NDCG s_NDCG_CUT_10)) ∧ Fr n0 L ∧ h = h0
theorem ef1 (m : MethodId) (p0 : Int32) : entryFrame m #[(.int p0)] 1 = mkF m 0 #[.val (.int p0)] [] := by first | (simp [entryFrame, mkF, argsToLocals, Value.category]; done) | rfl
set_option maxRecDepth 65536 in
set_option maxHeartbeats 40000000 in
theorem rm1 (l : Launch) (Z : State) (aZ : Array Value) (hw : ∀ d ∈ tables_1, d.before aZ Z = true) (ws : List Jvm.Cond) (p0 : Int32) (s_NUM_Q : Addr) (s_NUM_RET : Addr) (s_NUM_REL : Addr) (s_NUM_REL_RET : Addr) (s_MAP : Addr) (s_RPREC : Addr) (s_BPREF : Addr) (s_RECIP_RANK : Addr) (s_P_5 : Addr) (s_P_10 : Addr) (s_P_20 : Addr) (s_RECALL_10 : Addr) (s_RECALL_100 : Addr) (s_NDCG : Addr) (s_NDCG_CUT_10 : Addr) (h0 : Heap) (n0 : Nat) (Z0 : n0 ≤ h0.size) (S_NUM_Q : Sta Z h0 "com/example/mirk/mirk/eval/Measure" "NUM_Q" "Lcom/example/mirk/mirk/eval/Measure;" (.ref s_NUM_Q)) (S_NUM_RET : Sta Z h0 "com/example/mirk/mirk/eval/Measure" "NUM_RET" "Lcom/example/mirk/mirk/eval/Measure;" (.ref s_NUM_RET)) (S_NUM_REL : Sta Z h0 "com/example/mirk/mirk/eval/Measure" "NUM_REL" "Lcom/example/mirk/mirk/eval/Measure;" (.ref s_NUM_REL)) (S_NUM_REL_RET : Sta Z h0 "com/example/mirk/mirk/eval/Measure" "NUM_REL_RET" "Lcom/example/mirk/mirk/eval/Measure;" (.ref s_NUM_REL_RET)) (S_MAP : Sta Z h0 "com/example/mirk/mirk/eval/Measure" "MAP" "Lcom/example/mirk/mirk/eval/Measure;" (.ref s_MAP)) (S_RPREC : Sta Z h0 "com/example/mirk/mirk/eval/Measure" "RPREC" "Lcom/example/mirk/mirk/eval/Measure;" (.ref s_RPREC)) (S_BPREF : Sta Z h0 "com/example/mirk/mirk/eval/Measure" "BPREF" "Lcom/example/mirk/mirk/eval/Measure;" (.ref s_BPREF)) (S_RECIP_RANK : Sta Z h0 "com/example/mirk/mirk/eval/Measure" "RECIP_RANK" "Lcom/example/mirk/mirk/eval/Measure;" (.ref s_RECIP_RANK)) (S_P_5 : Sta Z h0 "com/example/mirk/mirk/eval/Measure" "P_5" "Lcom/example/mirk/mirk/eval/Measure;" (.ref s_P_5)) (S_P_10 : Sta Z h0 "com/example/mirk/mirk/eval/Measure" "P_10" "Lcom/example/mirk/mirk/eval/Measure;" (.ref s_P_10)) (S_P_20 : Sta Z h0 "com/example/mirk/mirk/eval/Measure" "P_20" "Lcom/example/mirk/mirk/eval/Measure;" (.ref s_P_20)) (S_RECALL_10 : Sta Z h0 "com/example/mirk/mirk/eval/Measure" "RECALL_10" "Lcom/example/mirk/mirk/eval/Measure;" (.ref s_RECALL_10)) (S_RECALL_100 : Sta Z h0 "com/example/mirk/mirk/eval/Measure" "RECALL_100" "Lcom/example/mirk/mirk/eval/Measure;" (.ref s_RECALL_100)) (S_NDCG : Sta Z h0 "com/example/mirk/mirk/eval/Measure" "NDCG" "Lcom/example/mirk/mirk/eval/Measure;" (.ref s_NDCG)) (S_NDCG_CUT_10 : Sta Z h0 "com/example/mirk/mirk/eval/Measure" "NDCG_CUT_10" "Lcom/example/mirk/mirk/eval/Measure;" (.ref s_NDCG_CUT_10)) :
    MetFree l (⟨"com/example/mirk/mirk/eval/MeasureOverAllPinLaw", "pick", "(I)Lcom/example/mirk/mirk/eval/Measure;"⟩ : MethodName) (head1 (Jvm.Cond.code (⟨"com/example/mirk/mirk/eval/MeasureOverAllPinLaw", "pick", "(I)Lcom/example/mirk/mirk/eval/Measure;"⟩ : MethodName) method_2_code 1 (some (.object "com/example/mirk/mirk/eval/Measure")) :: ws) ({ frames := 0, cells := 0, slots := 0, locals := 0 } : Room)) (fun a U => a = #[(.int p0)] ∧ Z.Warmed39 U.vm ∧ U.heap = h0) (fun _ _ _ _ _ => True) (fun _ U o U' => ∃ v L, o = .returned v ∧ Q1 Z n0 p0 s_NUM_Q s_NUM_RET s_NUM_REL s_NUM_REL_RET s_MAP s_RPREC s_BPREF s_RECIP_RANK s_P_5 s_P_10 s_P_20 s_RECALL_10 s_RECALL_100 s_NDCG s_NDCG_CUT_10 h0 v U'.heap L ∧ FrameEnd U o U' L ({ frames := 0, cells := 0, slots := 0, locals := 0 } : Room).cells ({ frames := 0, cells := 0, slots := 0, locals := 0 } : Room).slots) := by
  refine MetFree.of_bodySF (plainFor_of_name pn_71) hisR ?_
  intro p e s m args below meth c s₁ Bd hml0 hP hK
  obtain ⟨rfl, hZ, hh⟩ := hP
  have hx := Bd.exec
  have hby := Bd.bytes
  have hml : c.maxLocals = 1 := hml0
  have hown : s.vm.findClass "com/example/mirk/mirk/eval/MeasureOverAllPinLaw" = some m.cls := findClass_of_methodNamed Bd.named
  have hnm := (name_of_methodNamed Bd.named Bd.method).1
  have X0 : Stand p l e ({ frames := 0, cells := 0, slots := 0, locals := 0 } : Room) s m #[(.int p0)] below meth c s₁ [] 0 0 := Stand.of_body Bd
  have e0 : s₁.heap = h0 := by rw [← hh, Bd.state]; rfl
  have N0 := Fr.nil n0
  have K0 : Keep h0 h0 [] := Keep.refl _ _
  have go0 : ∀ t, Steps p.tables e below (s₁.setTop (mkF m 0 #[.val (.int p0)] [])) t → Steps p.tables e below (s₁.setTop (entryFrame m #[(.int p0)] 1)) t := fun t k => castTop (ef1 m p0) k
  have go1 : ∀ t, Steps p.tables e below (s₁.setTop (mkF m 1 #[.val (.int p0)] [(.int p0)])) t → Steps p.tables e below (s₁.setTop (entryFrame m #[(.int p0)] 1)) t := by
    intro t k
    refine go0 _ ?_
    refine XS.iloadN X0.here hx rfl (hb hby d1_0) rfl ?_
    show Steps p.tables e below (s₁.setTop (mkF m 1 #[.val (.int p0)] [(.int p0)])) t
    exact k
  by_cases hs2 : p0 = (0 : Int32)
  · have go3 : ∀ t, Steps p.tables e below (s₁.setTop (mkF m 4 #[.val (.int p0)] [])) t → Steps p.tables e below (s₁.setTop (entryFrame m #[(.int p0)] 1)) t := by
      intro t k
      refine go1 _ ?_
      refine XS.ifNo X0.here hx rfl (hb hby d1_1) rfl (XT.i0_ne_f hs2) ?_
      show Steps p.tables e below (s₁.setTop (mkF m 4 #[.val (.int p0)] [])) t
      exact k
    obtain ⟨T4, X4, e4, st4⟩ := getS2 X0 hx hZ hown (host := "") (Or.inl (hw _ (List.mem_of_getElem? (i := 5) rfl))) Via.refl e0 S_NUM_Q (g := (mkF m 4 #[.val (.int p0)] [])) rfl (hb hby d1_4)
    have go5 : ∀ t, Steps p.tables e below (T4.setTop (mkF m 7 #[.val (.int p0)] [(.ref s_NUM_Q)])) t → Steps p.tables e below (s₁.setTop (entryFrame m #[(.int p0)] 1)) t := fun t k => go3 _ (st4 _ k)
    obtain ⟨fs, hr, hrun, hended, hW, hsame⟩ := X4.leave (v := some (.ref s_NUM_Q)) (fun h => by rw [Bd.returns] at h; cases h)
    refine ⟨_, _, go5 _ (Jvm.RoadKit.retOut X4 hx Bd.returns rfl (Or.inr (Or.inr (Or.inr (Or.inr ⟨rfl, rfl, rfl⟩)))) (hb hby d1_7) hr), hrun, hended, _, _, rfl, ?_, ⟨_, rfl⟩, hW, hsame.mono (by decide) (by decide)⟩
    show Q1 _ _ p0 s_NUM_Q s_NUM_RET s_NUM_REL s_NUM_REL_RET s_MAP s_RPREC s_BPREF s_RECIP_RANK s_P_5 s_P_10 s_P_20 s_RECALL_10 s_RECALL_100 s_NDCG s_NDCG_CUT_10 h0 _ (T4.setFrames fs).heap _
    have hE : (T4.setFrames fs).heap = h0 := e4
    rw [hE]
    exact ⟨by rw [f1, if_pos hs2], N0, rfl⟩
  · have go6 : ∀ t, Steps p.tables e below (s₁.setTop (mkF m 10 #[.val (.int p0)] [(.int (1 : Int32)), (.int p0)])) t → Steps p.tables e below (s₁.setTop (entryFrame m #[(.int p0)] 1)) t := by
      intro t k
      refine go1 _ ?_
      refine XS.ifYes X0.here hx rfl (pc0 := 1) (pc' := 8) rfl (hb hby d1_1) rfl (XT.i0_ne_t hs2) (by decide) (by decide) ?_
      show Steps p.tables e below (s₁.setTop (mkF m 8 #[.val (.int p0)] [])) t
      refine XS.iloadN X0.here hx rfl (hb hby d1_8) rfl ?_
      show Steps p.tables e below (s₁.setTop (mkF m 9 #[.val (.int p0)] [(.int p0)])) t
      refine XS.iconst X0.here hx rfl (hb hby d1_9) ?_
      show Steps p.tables e below (s₁.setTop (mkF m 10 #[.val (.int p0)] [(.int (1 : Int32)), (.int p0)])) t
      exact k
    by_cases hs7 : p0 = (1 : Int32)
    · have go8 : ∀ t, Steps p.tables e below (s₁.setTop (mkF m 13 #[.val (.int p0)] [])) t → Steps p.tables e below (s₁.setTop (entryFrame m #[(.int p0)] 1)) t := by
        intro t k
        refine go6 _ ?_
        refine XS.icmpNo X0.here hx rfl (hb hby d1_10) rfl (XT.ii_ne_f hs7) ?_
        show Steps p.tables e below (s₁.setTop (mkF m 13 #[.val (.int p0)] [])) t
        exact k
      obtain ⟨T9, X9, e9, st9⟩ := getS2 X0 hx hZ hown (host := "") (Or.inl (hw _ (List.mem_of_getElem? (i := 16) rfl))) Via.refl e0 S_NUM_RET (g := (mkF m 13 #[.val (.int p0)] [])) rfl (hb hby d1_13)
      have go10 : ∀ t, Steps p.tables e below (T9.setTop (mkF m 16 #[.val (.int p0)] [(.ref s_NUM_RET)])) t → Steps p.tables e below (s₁.setTop (entryFrame m #[(.int p0)] 1)) t := fun t k => go8 _ (st9 _ k)
      obtain ⟨fs, hr, hrun, hended, hW, hsame⟩ := X9.leave (v := some (.ref s_NUM_RET)) (fun h => by rw [Bd.returns] at h; cases h)
      refine ⟨_, _, go10 _ (Jvm.RoadKit.retOut X9 hx Bd.returns rfl (Or.inr (Or.inr (Or.inr (Or.inr ⟨rfl, rfl, rfl⟩)))) (hb hby d1_16) hr), hrun, hended, _, _, rfl, ?_, ⟨_, rfl⟩, hW, hsame.mono (by decide) (by decide)⟩
      show Q1 _ _ p0 s_NUM_Q s_NUM_RET s_NUM_REL s_NUM_REL_RET s_MAP s_RPREC s_BPREF s_RECIP_RANK s_P_5 s_P_10 s_P_20 s_RECALL_10 s_RECALL_100 s_NDCG s_NDCG_CUT_10 h0 _ (T9.setFrames fs).heap _
      have hE : (T9.setFrames fs).heap = h0 := e9
      rw [hE]
      exact ⟨by rw [f1, if_neg hs2, if_pos hs7], N0, rfl⟩
    · have go11 : ∀ t, Steps p.tables e below (s₁.setTop (mkF m 19 #[.val (.int p0)] [(.int (2 : Int32)), (.int p0)])) t → Steps p.tables e below (s₁.setTop (entryFrame m #[(.int p0)] 1)) t := by
        intro t k
        refine go6 _ ?_
        refine XS.icmpYes X0.here hx rfl (pc0 := 10) (pc' := 17) rfl (hb hby d1_10) rfl (XT.ii_ne_t hs7) (by decide) (by decide) ?_
        show Steps p.tables e below (s₁.setTop (mkF m 17 #[.val (.int p0)] [])) t
        refine XS.iloadN X0.here hx rfl (hb hby d1_17) rfl ?_
        show Steps p.tables e below (s₁.setTop (mkF m 18 #[.val (.int p0)] [(.int p0)])) t
        refine XS.iconst X0.here hx rfl (hb hby d1_18) ?_
        show Steps p.tables e below (s₁.setTop (mkF m 19 #[.val (.int p0)] [(.int (2 : Int32)), (.int p0)])) t
        exact k
      by_cases hs12 : p0 = (2 : Int32)
      · have go13 : ∀ t, Steps p.tables e below (s₁.setTop (mkF m 22 #[.val (.int p0)] [])) t → Steps p.tables e below (s₁.setTop (entryFrame m #[(.int p0)] 1)) t := by
          intro t k
          refine go11 _ ?_
          refine XS.icmpNo X0.here hx rfl (hb hby d1_19) rfl (XT.ii_ne_f hs12) ?_
          show Steps p.tables e below (s₁.setTop (mkF m 22 #[.val (.int p0)] [])) t
          exact k
        obtain ⟨T14, X14, e14, st14⟩ := getS2 X0 hx hZ hown (host := "") (Or.inl (hw _ (List.mem_of_getElem? (i := 32) rfl))) Via.refl e0 S_NUM_REL (g := (mkF m 22 #[.val (.int p0)] [])) rfl (hb hby d1_22)
        have go15 : ∀ t, Steps p.tables e below (T14.setTop (mkF m 25 #[.val (.int p0)] [(.ref s_NUM_REL)])) t → Steps p.tables e below (s₁.setTop (entryFrame m #[(.int p0)] 1)) t := fun t k => go13 _ (st14 _ k)
        obtain ⟨fs, hr, hrun, hended, hW, hsame⟩ := X14.leave (v := some (.ref s_NUM_REL)) (fun h => by rw [Bd.returns] at h; cases h)
        refine ⟨_, _, go15 _ (Jvm.RoadKit.retOut X14 hx Bd.returns rfl (Or.inr (Or.inr (Or.inr (Or.inr ⟨rfl, rfl, rfl⟩)))) (hb hby d1_25) hr), hrun, hended, _, _, rfl, ?_, ⟨_, rfl⟩, hW, hsame.mono (by decide) (by decide)⟩
        show Q1 _ _ p0 s_NUM_Q s_NUM_RET s_NUM_REL s_NUM_REL_RET s_MAP s_RPREC s_BPREF s_RECIP_RANK s_P_5 s_P_10 s_P_20 s_RECALL_10 s_RECALL_100 s_NDCG s_NDCG_CUT_10 h0 _ (T14.setFrames fs).heap _
        have hE : (T14.setFrames fs).heap = h0 := e14
        rw [hE]
        exact ⟨by rw [f1, if_neg hs2, if_neg hs7, if_pos hs12], N0, rfl⟩
      · have go16 : ∀ t, Steps p.tables e below (s₁.setTop (mkF m 28 #[.val (.int p0)] [(.int (3 : Int32)), (.int p0)])) t → Steps p.tables e below (s₁.setTop (entryFrame m #[(.int p0)] 1)) t := by
          intro t k
          refine go11 _ ?_
          refine XS.icmpYes X0.here hx rfl (pc0 := 19) (pc' := 26) rfl (hb hby d1_19) rfl (XT.ii_ne_t hs12) (by decide) (by decide) ?_
          show Steps p.tables e below (s₁.setTop (mkF m 26 #[.val (.int p0)] [])) t
          refine XS.iloadN X0.here hx rfl (hb hby d1_26) rfl ?_
          show Steps p.tables e below (s₁.setTop (mkF m 27 #[.val (.int p0)] [(.int p0)])) t
          refine XS.iconst X0.here hx rfl (hb hby d1_27) ?_
          show Steps p.tables e below (s₁.setTop (mkF m 28 #[.val (.int p0)] [(.int (3 : Int32)), (.int p0)])) t
          exact k
        by_cases hs17 : p0 = (3 : Int32)
        · have go18 : ∀ t, Steps p.tables e below (s₁.setTop (mkF m 31 #[.val (.int p0)] [])) t → Steps p.tables e below (s₁.setTop (entryFrame m #[(.int p0)] 1)) t := by
            intro t k
            refine go16 _ ?_
            refine XS.icmpNo X0.here hx rfl (hb hby d1_28) rfl (XT.ii_ne_f hs17) ?_
            show Steps p.tables e below (s₁.setTop (mkF m 31 #[.val (.int p0)] [])) t
            exact k
          obtain ⟨T19, X19, e19, st19⟩ := getS2 X0 hx hZ hown (host := "") (Or.inl (hw _ (List.mem_of_getElem? (i := 28) rfl))) Via.refl e0 S_NUM_REL_RET (g := (mkF m 31 #[.val (.int p0)] [])) rfl (hb hby d1_31)
          have go20 : ∀ t, Steps p.tables e below (T19.setTop (mkF m 34 #[.val (.int p0)] [(.ref s_NUM_REL_RET)])) t → Steps p.tables e below (s₁.setTop (entryFrame m #[(.int p0)] 1)) t := fun t k => go18 _ (st19 _ k)
          obtain ⟨fs, hr, hrun, hended, hW, hsame⟩ := X19.leave (v := some (.ref s_NUM_REL_RET)) (fun h => by rw [Bd.returns] at h; cases h)
          refine ⟨_, _, go20 _ (Jvm.RoadKit.retOut X19 hx Bd.returns rfl (Or.inr (Or.inr (Or.inr (Or.inr ⟨rfl, rfl, rfl⟩)))) (hb hby d1_34) hr), hrun, hended, _, _, rfl, ?_, ⟨_, rfl⟩, hW, hsame.mono (by decide) (by decide)⟩
          show Q1 _ _ p0 s_NUM_Q s_NUM_RET s_NUM_REL s_NUM_REL_RET s_MAP s_RPREC s_BPREF s_RECIP_RANK s_P_5 s_P_10 s_P_20 s_RECALL_10 s_RECALL_100 s_NDCG s_NDCG_CUT_10 h0 _ (T19.setFrames fs).heap _
          have hE : (T19.setFrames fs).heap = h0 := e19
          rw [hE]
          exact ⟨by rw [f1, if_neg hs2, if_neg hs7, if_neg hs12, if_pos hs17], N0, rfl⟩
        · have go21 : ∀ t, Steps p.tables e below (s₁.setTop (mkF m 37 #[.val (.int p0)] [(.int (4 : Int32)), (.int p0)])) t → Steps p.tables e below (s₁.setTop (entryFrame m #[(.int p0)] 1)) t := by
            intro t k
            refine go16 _ ?_
            refine XS.icmpYes X0.here hx rfl (pc0 := 28) (pc' := 35) rfl (hb hby d1_28) rfl (XT.ii_ne_t hs17) (by decide) (by decide) ?_
            show Steps p.tables e below (s₁.setTop (mkF m 35 #[.val (.int p0)] [])) t
            refine XS.iloadN X0.here hx rfl (hb hby d1_35) rfl ?_
            show Steps p.tables e below (s₁.setTop (mkF m 36 #[.val (.int p0)] [(.int p0)])) t
            refine XS.iconst X0.here hx rfl (hb hby d1_36) ?_
            show Steps p.tables e below (s₁.setTop (mkF m 37 #[.val (.int p0)] [(.int (4 : Int32)), (.int p0)])) t
            exact k
          by_cases hs22 : p0 = (4 : Int32)
          · have go23 : ∀ t, Steps p.tables e below (s₁.setTop (mkF m 40 #[.val (.int p0)] [])) t → Steps p.tables e below (s₁.setTop (entryFrame m #[(.int p0)] 1)) t := by
              intro t k
              refine go21 _ ?_
              refine XS.icmpNo X0.here hx rfl (hb hby d1_37) rfl (XT.ii_ne_f hs22) ?_
              show Steps p.tables e below (s₁.setTop (mkF m 40 #[.val (.int p0)] [])) t
              exact k
            obtain ⟨T24, X24, e24, st24⟩ := getS2 X0 hx hZ hown (host := "") (Or.inl (hw _ (List.mem_of_getElem? (i := 34) rfl))) Via.refl e0 S_MAP (g := (mkF m 40 #[.val (.int p0)] [])) rfl (hb hby d1_40)
            have go25 : ∀ t, Steps p.tables e below (T24.setTop (mkF m 43 #[.val (.int p0)] [(.ref s_MAP)])) t → Steps p.tables e below (s₁.setTop (entryFrame m #[(.int p0)] 1)) t := fun t k => go23 _ (st24 _ k)
            obtain ⟨fs, hr, hrun, hended, hW, hsame⟩ := X24.leave (v := some (.ref s_MAP)) (fun h => by rw [Bd.returns] at h; cases h)
            refine ⟨_, _, go25 _ (Jvm.RoadKit.retOut X24 hx Bd.returns rfl (Or.inr (Or.inr (Or.inr (Or.inr ⟨rfl, rfl, rfl⟩)))) (hb hby d1_43) hr), hrun, hended, _, _, rfl, ?_, ⟨_, rfl⟩, hW, hsame.mono (by decide) (by decide)⟩
            show Q1 _ _ p0 s_NUM_Q s_NUM_RET s_NUM_REL s_NUM_REL_RET s_MAP s_RPREC s_BPREF s_RECIP_RANK s_P_5 s_P_10 s_P_20 s_RECALL_10 s_RECALL_100 s_NDCG s_NDCG_CUT_10 h0 _ (T24.setFrames fs).heap _
            have hE : (T24.setFrames fs).heap = h0 := e24
            rw [hE]
            exact ⟨by rw [f1, if_neg hs2, if_neg hs7, if_neg hs12, if_neg hs17, if_pos hs22], N0, rfl⟩
          · have go26 : ∀ t, Steps p.tables e below (s₁.setTop (mkF m 46 #[.val (.int p0)] [(.int (5 : Int32)), (.int p0)])) t → Steps p.tables e below (s₁.setTop (entryFrame m #[(.int p0)] 1)) t := by
              intro t k
              refine go21 _ ?_
              refine XS.icmpYes X0.here hx rfl (pc0 := 37) (pc' := 44) rfl (hb hby d1_37) rfl (XT.ii_ne_t hs22) (by decide) (by decide) ?_
              show Steps p.tables e below (s₁.setTop (mkF m 44 #[.val (.int p0)] [])) t
              refine XS.iloadN X0.here hx rfl (hb hby d1_44) rfl ?_
              show Steps p.tables e below (s₁.setTop (mkF m 45 #[.val (.int p0)] [(.int p0)])) t
              refine XS.iconst X0.here hx rfl (hb hby d1_45) ?_
              show Steps p.tables e below (s₁.setTop (mkF m 46 #[.val (.int p0)] [(.int (5 : Int32)), (.int p0)])) t
              exact k
            by_cases hs27 : p0 = (5 : Int32)
            · have go28 : ∀ t, Steps p.tables e below (s₁.setTop (mkF m 49 #[.val (.int p0)] [])) t → Steps p.tables e below (s₁.setTop (entryFrame m #[(.int p0)] 1)) t := by
                intro t k
                refine go26 _ ?_
                refine XS.icmpNo X0.here hx rfl (hb hby d1_46) rfl (XT.ii_ne_f hs27) ?_
                show Steps p.tables e below (s₁.setTop (mkF m 49 #[.val (.int p0)] [])) t
                exact k
              obtain ⟨T29, X29, e29, st29⟩ := getS2 X0 hx hZ hown (host := "") (Or.inl (hw _ (List.mem_of_getElem? (i := 20) rfl))) Via.refl e0 S_RPREC (g := (mkF m 49 #[.val (.int p0)] [])) rfl (hb hby d1_49)
              have go30 : ∀ t, Steps p.tables e below (T29.setTop (mkF m 52 #[.val (.int p0)] [(.ref s_RPREC)])) t → Steps p.tables e below (s₁.setTop (entryFrame m #[(.int p0)] 1)) t := fun t k => go28 _ (st29 _ k)
              obtain ⟨fs, hr, hrun, hended, hW, hsame⟩ := X29.leave (v := some (.ref s_RPREC)) (fun h => by rw [Bd.returns] at h; cases h)
              refine ⟨_, _, go30 _ (Jvm.RoadKit.retOut X29 hx Bd.returns rfl (Or.inr (Or.inr (Or.inr (Or.inr ⟨rfl, rfl, rfl⟩)))) (hb hby d1_52) hr), hrun, hended, _, _, rfl, ?_, ⟨_, rfl⟩, hW, hsame.mono (by decide) (by decide)⟩
              show Q1 _ _ p0 s_NUM_Q s_NUM_RET s_NUM_REL s_NUM_REL_RET s_MAP s_RPREC s_BPREF s_RECIP_RANK s_P_5 s_P_10 s_P_20 s_RECALL_10 s_RECALL_100 s_NDCG s_NDCG_CUT_10 h0 _ (T29.setFrames fs).heap _
              have hE : (T29.setFrames fs).heap = h0 := e29
              rw [hE]
              exact ⟨by rw [f1, if_neg hs2, if_neg hs7, if_neg hs12, if_neg hs17, if_neg hs22, if_pos hs27], N0, rfl⟩
            · have go31 : ∀ t, Steps p.tables e below (s₁.setTop (mkF m 56 #[.val (.int p0)] [(.int (6 : Int32)), (.int p0)])) t → Steps p.tables e below (s₁.setTop (entryFrame m #[(.int p0)] 1)) t := by
                intro t k
                refine go26 _ ?_
                refine XS.icmpYes X0.here hx rfl (pc0 := 46) (pc' := 53) rfl (hb hby d1_46) rfl (XT.ii_ne_t hs27) (by decide) (by decide) ?_
                show Steps p.tables e below (s₁.setTop (mkF m 53 #[.val (.int p0)] [])) t
                refine XS.iloadN X0.here hx rfl (hb hby d1_53) rfl ?_
                show Steps p.tables e below (s₁.setTop (mkF m 54 #[.val (.int p0)] [(.int p0)])) t
                refine XS.bipush X0.here hx rfl (hb hby d1_54) ?_
                show Steps p.tables e below (s₁.setTop (mkF m 56 #[.val (.int p0)] [(.int (6 : Int32)), (.int p0)])) t
                exact k
              by_cases hs32 : p0 = (6 : Int32)
              · have go33 : ∀ t, Steps p.tables e below (s₁.setTop (mkF m 59 #[.val (.int p0)] [])) t → Steps p.tables e below (s₁.setTop (entryFrame m #[(.int p0)] 1)) t := by
                  intro t k
                  refine go31 _ ?_
                  refine XS.icmpNo X0.here hx rfl (hb hby d1_56) rfl (XT.ii_ne_f hs32) ?_
                  show Steps p.tables e below (s₁.setTop (mkF m 59 #[.val (.int p0)] [])) t
                  exact k
                obtain ⟨T34, X34, e34, st34⟩ := getS2 X0 hx hZ hown (host := "") (Or.inl (hw _ (List.mem_of_getElem? (i := 38) rfl))) Via.refl e0 S_BPREF (g := (mkF m 59 #[.val (.int p0)] [])) rfl (hb hby d1_59)
                have go35 : ∀ t, Steps p.tables e below (T34.setTop (mkF m 62 #[.val (.int p0)] [(.ref s_BPREF)])) t → Steps p.tables e below (s₁.setTop (entryFrame m #[(.int p0)] 1)) t := fun t k => go33 _ (st34 _ k)
                obtain ⟨fs, hr, hrun, hended, hW, hsame⟩ := X34.leave (v := some (.ref s_BPREF)) (fun h => by rw [Bd.returns] at h; cases h)
                refine ⟨_, _, go35 _ (Jvm.RoadKit.retOut X34 hx Bd.returns rfl (Or.inr (Or.inr (Or.inr (Or.inr ⟨rfl, rfl, rfl⟩)))) (hb hby d1_62) hr), hrun, hended, _, _, rfl, ?_, ⟨_, rfl⟩, hW, hsame.mono (by decide) (by decide)⟩
                show Q1 _ _ p0 s_NUM_Q s_NUM_RET s_NUM_REL s_NUM_REL_RET s_MAP s_RPREC s_BPREF s_RECIP_RANK s_P_5 s_P_10 s_P_20 s_RECALL_10 s_RECALL_100 s_NDCG s_NDCG_CUT_10 h0 _ (T34.setFrames fs).heap _
                have hE : (T34.setFrames fs).heap = h0 := e34
                rw [hE]
                exact ⟨by rw [f1, if_neg hs2, if_neg hs7, if_neg hs12, if_neg hs17, if_neg hs22, if_neg hs27, if_pos hs32], N0, rfl⟩
              · have go36 : ∀ t, Steps p.tables e below (s₁.setTop (mkF m 66 #[.val (.int p0)] [(.int (7 : Int32)), (.int p0)])) t → Steps p.tables e below (s₁.setTop (entryFrame m #[(.int p0)] 1)) t := by
                  intro t k
                  refine go31 _ ?_
                  refine XS.icmpYes X0.here hx rfl (pc0 := 56) (pc' := 63) rfl (hb hby d1_56) rfl (XT.ii_ne_t hs32) (by decide) (by decide) ?_
                  show Steps p.tables e below (s₁.setTop (mkF m 63 #[.val (.int p0)] [])) t
                  refine XS.iloadN X0.here hx rfl (hb hby d1_63) rfl ?_
                  show Steps p.tables e below (s₁.setTop (mkF m 64 #[.val (.int p0)] [(.int p0)])) t
                  refine XS.bipush X0.here hx rfl (hb hby d1_64) ?_
                  show Steps p.tables e below (s₁.setTop (mkF m 66 #[.val (.int p0)] [(.int (7 : Int32)), (.int p0)])) t
                  exact k
                by_cases hs37 : p0 = (7 : Int32)
                · have go38 : ∀ t, Steps p.tables e below (s₁.setTop (mkF m 69 #[.val (.int p0)] [])) t → Steps p.tables e below (s₁.setTop (entryFrame m #[(.int p0)] 1)) t := by
                    intro t k
                    refine go36 _ ?_
                    refine XS.icmpNo X0.here hx rfl (hb hby d1_66) rfl (XT.ii_ne_f hs37) ?_
                    show Steps p.tables e below (s₁.setTop (mkF m 69 #[.val (.int p0)] [])) t
                    exact k
                  obtain ⟨T39, X39, e39, st39⟩ := getS2 X0 hx hZ hown (host := "") (Or.inl (hw _ (List.mem_of_getElem? (i := 36) rfl))) Via.refl e0 S_RECIP_RANK (g := (mkF m 69 #[.val (.int p0)] [])) rfl (hb hby d1_69)
                  have go40 : ∀ t, Steps p.tables e below (T39.setTop (mkF m 72 #[.val (.int p0)] [(.ref s_RECIP_RANK)])) t → Steps p.tables e below (s₁.setTop (entryFrame m #[(.int p0)] 1)) t := fun t k => go38 _ (st39 _ k)
                  obtain ⟨fs, hr, hrun, hended, hW, hsame⟩ := X39.leave (v := some (.ref s_RECIP_RANK)) (fun h => by rw [Bd.returns] at h; cases h)
                  refine ⟨_, _, go40 _ (Jvm.RoadKit.retOut X39 hx Bd.returns rfl (Or.inr (Or.inr (Or.inr (Or.inr ⟨rfl, rfl, rfl⟩)))) (hb hby d1_72) hr), hrun, hended, _, _, rfl, ?_, ⟨_, rfl⟩, hW, hsame.mono (by decide) (by decide)⟩
                  show Q1 _ _ p0 s_NUM_Q s_NUM_RET s_NUM_REL s_NUM_REL_RET s_MAP s_RPREC s_BPREF s_RECIP_RANK s_P_5 s_P_10 s_P_20 s_RECALL_10 s_RECALL_100 s_NDCG s_NDCG_CUT_10 h0 _ (T39.setFrames fs).heap _
                  have hE : (T39.setFrames fs).heap = h0 := e39
                  rw [hE]
                  exact ⟨by rw [f1, if_neg hs2, if_neg hs7, if_neg hs12, if_neg hs17, if_neg hs22, if_neg hs27, if_neg hs32, if_pos hs37], N0, rfl⟩
                · have go41 : ∀ t, Steps p.tables e below (s₁.setTop (mkF m 76 #[.val (.int p0)] [(.int (8 : Int32)), (.int p0)])) t → Steps p.tables e below (s₁.setTop (entryFrame m #[(.int p0)] 1)) t := by
                    intro t k
                    refine go36 _ ?_
                    refine XS.icmpYes X0.here hx rfl (pc0 := 66) (pc' := 73) rfl (hb hby d1_66) rfl (XT.ii_ne_t hs37) (by decide) (by decide) ?_
                    show Steps p.tables e below (s₁.setTop (mkF m 73 #[.val (.int p0)] [])) t
                    refine XS.iloadN X0.here hx rfl (hb hby d1_73) rfl ?_
                    show Steps p.tables e below (s₁.setTop (mkF m 74 #[.val (.int p0)] [(.int p0)])) t
                    refine XS.bipush X0.here hx rfl (hb hby d1_74) ?_
                    show Steps p.tables e below (s₁.setTop (mkF m 76 #[.val (.int p0)] [(.int (8 : Int32)), (.int p0)])) t
                    exact k
                  by_cases hs42 : p0 = (8 : Int32)
                  · have go43 : ∀ t, Steps p.tables e below (s₁.setTop (mkF m 79 #[.val (.int p0)] [])) t → Steps p.tables e below (s₁.setTop (entryFrame m #[(.int p0)] 1)) t := by
                      intro t k
                      refine go41 _ ?_
                      refine XS.icmpNo X0.here hx rfl (hb hby d1_76) rfl (XT.ii_ne_f hs42) ?_
                      show Steps p.tables e below (s₁.setTop (mkF m 79 #[.val (.int p0)] [])) t
                      exact k
                    obtain ⟨T44, X44, e44, st44⟩ := getS2 X0 hx hZ hown (host := "") (Or.inl (hw _ (List.mem_of_getElem? (i := 22) rfl))) Via.refl e0 S_P_5 (g := (mkF m 79 #[.val (.int p0)] [])) rfl (hb hby d1_79)
                    have go45 : ∀ t, Steps p.tables e below (T44.setTop (mkF m 82 #[.val (.int p0)] [(.ref s_P_5)])) t → Steps p.tables e below (s₁.setTop (entryFrame m #[(.int p0)] 1)) t := fun t k => go43 _ (st44 _ k)
                    obtain ⟨fs, hr, hrun, hended, hW, hsame⟩ := X44.leave (v := some (.ref s_P_5)) (fun h => by rw [Bd.returns] at h; cases h)
                    refine ⟨_, _, go45 _ (Jvm.RoadKit.retOut X44 hx Bd.returns rfl (Or.inr (Or.inr (Or.inr (Or.inr ⟨rfl, rfl, rfl⟩)))) (hb hby d1_82) hr), hrun, hended, _, _, rfl, ?_, ⟨_, rfl⟩, hW, hsame.mono (by decide) (by decide)⟩
                    show Q1 _ _ p0 s_NUM_Q s_NUM_RET s_NUM_REL s_NUM_REL_RET s_MAP s_RPREC s_BPREF s_RECIP_RANK s_P_5 s_P_10 s_P_20 s_RECALL_10 s_RECALL_100 s_NDCG s_NDCG_CUT_10 h0 _ (T44.setFrames fs).heap _
                    have hE : (T44.setFrames fs).heap = h0 := e44
                    rw [hE]
                    exact ⟨by rw [f1, if_neg hs2, if_neg hs7, if_neg hs12, if_neg hs17, if_neg hs22, if_neg hs27, if_neg hs32, if_neg hs37, if_pos hs42], N0, rfl⟩
                  · have go46 : ∀ t, Steps p.tables e below (s₁.setTop (mkF m 86 #[.val (.int p0)] [(.int (9 : Int32)), (.int p0)])) t → Steps p.tables e below (s₁.setTop (entryFrame m #[(.int p0)] 1)) t := by
                      intro t k
                      refine go41 _ ?_
                      refine XS.icmpYes X0.here hx rfl (pc0 := 76) (pc' := 83) rfl (hb hby d1_76) rfl (XT.ii_ne_t hs42) (by decide) (by decide) ?_
                      show Steps p.tables e below (s₁.setTop (mkF m 83 #[.val (.int p0)] [])) t
                      refine XS.iloadN X0.here hx rfl (hb hby d1_83) rfl ?_
                      show Steps p.tables e below (s₁.setTop (mkF m 84 #[.val (.int p0)] [(.int p0)])) t
                      refine XS.bipush X0.here hx rfl (hb hby d1_84) ?_
                      show Steps p.tables e below (s₁.setTop (mkF m 86 #[.val (.int p0)] [(.int (9 : Int32)), (.int p0)])) t
                      exact k
                    by_cases hs47 : p0 = (9 : Int32)
                    · have go48 : ∀ t, Steps p.tables e below (s₁.setTop (mkF m 89 #[.val (.int p0)] [])) t → Steps p.tables e below (s₁.setTop (entryFrame m #[(.int p0)] 1)) t := by
                        intro t k
                        refine go46 _ ?_
                        refine XS.icmpNo X0.here hx rfl (hb hby d1_86) rfl (XT.ii_ne_f hs47) ?_
                        show Steps p.tables e below (s₁.setTop (mkF m 89 #[.val (.int p0)] [])) t
                        exact k
                      obtain ⟨T49, X49, e49, st49⟩ := getS2 X0 hx hZ hown (host := "") (Or.inl (hw _ (List.mem_of_getElem? (i := 24) rfl))) Via.refl e0 S_P_10 (g := (mkF m 89 #[.val (.int p0)] [])) rfl (hb hby d1_89)
                      have go50 : ∀ t, Steps p.tables e below (T49.setTop (mkF m 92 #[.val (.int p0)] [(.ref s_P_10)])) t → Steps p.tables e below (s₁.setTop (entryFrame m #[(.int p0)] 1)) t := fun t k => go48 _ (st49 _ k)
                      obtain ⟨fs, hr, hrun, hended, hW, hsame⟩ := X49.leave (v := some (.ref s_P_10)) (fun h => by rw [Bd.returns] at h; cases h)
                      refine ⟨_, _, go50 _ (Jvm.RoadKit.retOut X49 hx Bd.returns rfl (Or.inr (Or.inr (Or.inr (Or.inr ⟨rfl, rfl, rfl⟩)))) (hb hby d1_92) hr), hrun, hended, _, _, rfl, ?_, ⟨_, rfl⟩, hW, hsame.mono (by decide) (by decide)⟩
                      show Q1 _ _ p0 s_NUM_Q s_NUM_RET s_NUM_REL s_NUM_REL_RET s_MAP s_RPREC s_BPREF s_RECIP_RANK s_P_5 s_P_10 s_P_20 s_RECALL_10 s_RECALL_100 s_NDCG s_NDCG_CUT_10 h0 _ (T49.setFrames fs).heap _
                      have hE : (T49.setFrames fs).heap = h0 := e49
                      rw [hE]
                      exact ⟨by rw [f1, if_neg hs2, if_neg hs7, if_neg hs12, if_neg hs17, if_neg hs22, if_neg hs27, if_neg hs32, if_neg hs37, if_neg hs42, if_pos hs47], N0, rfl⟩
                    · have go51 : ∀ t, Steps p.tables e below (s₁.setTop (mkF m 96 #[.val (.int p0)] [(.int (10 : Int32)), (.int p0)])) t → Steps p.tables e below (s₁.setTop (entryFrame m #[(.int p0)] 1)) t := by
                        intro t k
                        refine go46 _ ?_
                        refine XS.icmpYes X0.here hx rfl (pc0 := 86) (pc' := 93) rfl (hb hby d1_86) rfl (XT.ii_ne_t hs47) (by decide) (by decide) ?_
                        show Steps p.tables e below (s₁.setTop (mkF m 93 #[.val (.int p0)] [])) t
                        refine XS.iloadN X0.here hx rfl (hb hby d1_93) rfl ?_
                        show Steps p.tables e below (s₁.setTop (mkF m 94 #[.val (.int p0)] [(.int p0)])) t
                        refine XS.bipush X0.here hx rfl (hb hby d1_94) ?_
                        show Steps p.tables e below (s₁.setTop (mkF m 96 #[.val (.int p0)] [(.int (10 : Int32)), (.int p0)])) t
                        exact k
                      by_cases hs52 : p0 = (10 : Int32)
                      · have go53 : ∀ t, Steps p.tables e below (s₁.setTop (mkF m 99 #[.val (.int p0)] [])) t → Steps p.tables e below (s₁.setTop (entryFrame m #[(.int p0)] 1)) t := by
                          intro t k
                          refine go51 _ ?_
                          refine XS.icmpNo X0.here hx rfl (hb hby d1_96) rfl (XT.ii_ne_f hs52) ?_
                          show Steps p.tables e below (s₁.setTop (mkF m 99 #[.val (.int p0)] [])) t
                          exact k
                        obtain ⟨T54, X54, e54, st54⟩ := getS2 X0 hx hZ hown (host := "") (Or.inl (hw _ (List.mem_of_getElem? (i := 26) rfl))) Via.refl e0 S_P_20 (g := (mkF m 99 #[.val (.int p0)] [])) rfl (hb hby d1_99)
                        have go55 : ∀ t, Steps p.tables e below (T54.setTop (mkF m 102 #[.val (.int p0)] [(.ref s_P_20)])) t → Steps p.tables e below (s₁.setTop (entryFrame m #[(.int p0)] 1)) t := fun t k => go53 _ (st54 _ k)
                        obtain ⟨fs, hr, hrun, hended, hW, hsame⟩ := X54.leave (v := some (.ref s_P_20)) (fun h => by rw [Bd.returns] at h; cases h)
                        refine ⟨_, _, go55 _ (Jvm.RoadKit.retOut X54 hx Bd.returns rfl (Or.inr (Or.inr (Or.inr (Or.inr ⟨rfl, rfl, rfl⟩)))) (hb hby d1_102) hr), hrun, hended, _, _, rfl, ?_, ⟨_, rfl⟩, hW, hsame.mono (by decide) (by decide)⟩
                        show Q1 _ _ p0 s_NUM_Q s_NUM_RET s_NUM_REL s_NUM_REL_RET s_MAP s_RPREC s_BPREF s_RECIP_RANK s_P_5 s_P_10 s_P_20 s_RECALL_10 s_RECALL_100 s_NDCG s_NDCG_CUT_10 h0 _ (T54.setFrames fs).heap _
                        have hE : (T54.setFrames fs).heap = h0 := e54
                        rw [hE]
                        exact ⟨by rw [f1, if_neg hs2, if_neg hs7, if_neg hs12, if_neg hs17, if_neg hs22, if_neg hs27, if_neg hs32, if_neg hs37, if_neg hs42, if_neg hs47, if_pos hs52], N0, rfl⟩
                      · have go56 : ∀ t, Steps p.tables e below (s₁.setTop (mkF m 106 #[.val (.int p0)] [(.int (11 : Int32)), (.int p0)])) t → Steps p.tables e below (s₁.setTop (entryFrame m #[(.int p0)] 1)) t := by
                          intro t k
                          refine go51 _ ?_
                          refine XS.icmpYes X0.here hx rfl (pc0 := 96) (pc' := 103) rfl (hb hby d1_96) rfl (XT.ii_ne_t hs52) (by decide) (by decide) ?_
                          show Steps p.tables e below (s₁.setTop (mkF m 103 #[.val (.int p0)] [])) t
                          refine XS.iloadN X0.here hx rfl (hb hby d1_103) rfl ?_
                          show Steps p.tables e below (s₁.setTop (mkF m 104 #[.val (.int p0)] [(.int p0)])) t
                          refine XS.bipush X0.here hx rfl (hb hby d1_104) ?_
                          show Steps p.tables e below (s₁.setTop (mkF m 106 #[.val (.int p0)] [(.int (11 : Int32)), (.int p0)])) t
                          exact k
                        by_cases hs57 : p0 = (11 : Int32)
                        · have go58 : ∀ t, Steps p.tables e below (s₁.setTop (mkF m 109 #[.val (.int p0)] [])) t → Steps p.tables e below (s₁.setTop (entryFrame m #[(.int p0)] 1)) t := by
                            intro t k
                            refine go56 _ ?_
                            refine XS.icmpNo X0.here hx rfl (hb hby d1_106) rfl (XT.ii_ne_f hs57) ?_
                            show Steps p.tables e below (s₁.setTop (mkF m 109 #[.val (.int p0)] [])) t
                            exact k
                          obtain ⟨T59, X59, e59, st59⟩ := getS2 X0 hx hZ hown (host := "") (Or.inl (hw _ (List.mem_of_getElem? (i := 30) rfl))) Via.refl e0 S_RECALL_10 (g := (mkF m 109 #[.val (.int p0)] [])) rfl (hb hby d1_109)
                          have go60 : ∀ t, Steps p.tables e below (T59.setTop (mkF m 112 #[.val (.int p0)] [(.ref s_RECALL_10)])) t → Steps p.tables e below (s₁.setTop (entryFrame m #[(.int p0)] 1)) t := fun t k => go58 _ (st59 _ k)
                          obtain ⟨fs, hr, hrun, hended, hW, hsame⟩ := X59.leave (v := some (.ref s_RECALL_10)) (fun h => by rw [Bd.returns] at h; cases h)
                          refine ⟨_, _, go60 _ (Jvm.RoadKit.retOut X59 hx Bd.returns rfl (Or.inr (Or.inr (Or.inr (Or.inr ⟨rfl, rfl, rfl⟩)))) (hb hby d1_112) hr), hrun, hended, _, _, rfl, ?_, ⟨_, rfl⟩, hW, hsame.mono (by decide) (by decide)⟩
                          show Q1 _ _ p0 s_NUM_Q s_NUM_RET s_NUM_REL s_NUM_REL_RET s_MAP s_RPREC s_BPREF s_RECIP_RANK s_P_5 s_P_10 s_P_20 s_RECALL_10 s_RECALL_100 s_NDCG s_NDCG_CUT_10 h0 _ (T59.setFrames fs).heap _
                          have hE : (T59.setFrames fs).heap = h0 := e59
                          rw [hE]
                          exact ⟨by rw [f1, if_neg hs2, if_neg hs7, if_neg hs12, if_neg hs17, if_neg hs22, if_neg hs27, if_neg hs32, if_neg hs37, if_neg hs42, if_neg hs47, if_neg hs52, if_pos hs57], N0, rfl⟩
                        · have go61 : ∀ t, Steps p.tables e below (s₁.setTop (mkF m 116 #[.val (.int p0)] [(.int (12 : Int32)), (.int p0)])) t → Steps p.tables e below (s₁.setTop (entryFrame m #[(.int p0)] 1)) t := by
                            intro t k
                            refine go56 _ ?_
                            refine XS.icmpYes X0.here hx rfl (pc0 := 106) (pc' := 113) rfl (hb hby d1_106) rfl (XT.ii_ne_t hs57) (by decide) (by decide) ?_
                            show Steps p.tables e below (s₁.setTop (mkF m 113 #[.val (.int p0)] [])) t
                            refine XS.iloadN X0.here hx rfl (hb hby d1_113) rfl ?_
                            show Steps p.tables e below (s₁.setTop (mkF m 114 #[.val (.int p0)] [(.int p0)])) t
                            refine XS.bipush X0.here hx rfl (hb hby d1_114) ?_
                            show Steps p.tables e below (s₁.setTop (mkF m 116 #[.val (.int p0)] [(.int (12 : Int32)), (.int p0)])) t
                            exact k
                          by_cases hs62 : p0 = (12 : Int32)
                          · have go63 : ∀ t, Steps p.tables e below (s₁.setTop (mkF m 119 #[.val (.int p0)] [])) t → Steps p.tables e below (s₁.setTop (entryFrame m #[(.int p0)] 1)) t := by
                              intro t k
                              refine go61 _ ?_
                              refine XS.icmpNo X0.here hx rfl (hb hby d1_116) rfl (XT.ii_ne_f hs62) ?_
                              show Steps p.tables e below (s₁.setTop (mkF m 119 #[.val (.int p0)] [])) t
                              exact k
                            obtain ⟨T64, X64, e64, st64⟩ := getS2 X0 hx hZ hown (host := "") (Or.inl (hw _ (List.mem_of_getElem? (i := 42) rfl))) Via.refl e0 S_RECALL_100 (g := (mkF m 119 #[.val (.int p0)] [])) rfl (hb hby d1_119)
                            have go65 : ∀ t, Steps p.tables e below (T64.setTop (mkF m 122 #[.val (.int p0)] [(.ref s_RECALL_100)])) t → Steps p.tables e below (s₁.setTop (entryFrame m #[(.int p0)] 1)) t := fun t k => go63 _ (st64 _ k)
                            obtain ⟨fs, hr, hrun, hended, hW, hsame⟩ := X64.leave (v := some (.ref s_RECALL_100)) (fun h => by rw [Bd.returns] at h; cases h)
                            refine ⟨_, _, go65 _ (Jvm.RoadKit.retOut X64 hx Bd.returns rfl (Or.inr (Or.inr (Or.inr (Or.inr ⟨rfl, rfl, rfl⟩)))) (hb hby d1_122) hr), hrun, hended, _, _, rfl, ?_, ⟨_, rfl⟩, hW, hsame.mono (by decide) (by decide)⟩
                            show Q1 _ _ p0 s_NUM_Q s_NUM_RET s_NUM_REL s_NUM_REL_RET s_MAP s_RPREC s_BPREF s_RECIP_RANK s_P_5 s_P_10 s_P_20 s_RECALL_10 s_RECALL_100 s_NDCG s_NDCG_CUT_10 h0 _ (T64.setFrames fs).heap _
                            have hE : (T64.setFrames fs).heap = h0 := e64
                            rw [hE]
                            exact ⟨by rw [f1, if_neg hs2, if_neg hs7, if_neg hs12, if_neg hs17, if_neg hs22, if_neg hs27, if_neg hs32, if_neg hs37, if_neg hs42, if_neg hs47, if_neg hs52, if_neg hs57, if_pos hs62], N0, rfl⟩
                          · have go66 : ∀ t, Steps p.tables e below (s₁.setTop (mkF m 126 #[.val (.int p0)] [(.int (13 : Int32)), (.int p0)])) t → Steps p.tables e below (s₁.setTop (entryFrame m #[(.int p0)] 1)) t := by
                              intro t k
                              refine go61 _ ?_
                              refine XS.icmpYes X0.here hx rfl (pc0 := 116) (pc' := 123) rfl (hb hby d1_116) rfl (XT.ii_ne_t hs62) (by decide) (by decide) ?_
                              show Steps p.tables e below (s₁.setTop (mkF m 123 #[.val (.int p0)] [])) t
                              refine XS.iloadN X0.here hx rfl (hb hby d1_123) rfl ?_
                              show Steps p.tables e below (s₁.setTop (mkF m 124 #[.val (.int p0)] [(.int p0)])) t
                              refine XS.bipush X0.here hx rfl (hb hby d1_124) ?_
                              show Steps p.tables e below (s₁.setTop (mkF m 126 #[.val (.int p0)] [(.int (13 : Int32)), (.int p0)])) t
                              exact k
                            by_cases hs67 : p0 = (13 : Int32)
                            · have go68 : ∀ t, Steps p.tables e below (s₁.setTop (mkF m 129 #[.val (.int p0)] [])) t → Steps p.tables e below (s₁.setTop (entryFrame m #[(.int p0)] 1)) t := by
                                intro t k
                                refine go66 _ ?_
                                refine XS.icmpNo X0.here hx rfl (hb hby d1_126) rfl (XT.ii_ne_f hs67) ?_
                                show Steps p.tables e below (s₁.setTop (mkF m 129 #[.val (.int p0)] [])) t
                                exact k
                              obtain ⟨T69, X69, e69, st69⟩ := getS2 X0 hx hZ hown (host := "") (Or.inl (hw _ (List.mem_of_getElem? (i := 40) rfl))) Via.refl e0 S_NDCG (g := (mkF m 129 #[.val (.int p0)] [])) rfl (hb hby d1_129)
                              have go70 : ∀ t, Steps p.tables e below (T69.setTop (mkF m 132 #[.val (.int p0)] [(.ref s_NDCG)])) t → Steps p.tables e below (s₁.setTop (entryFrame m #[(.int p0)] 1)) t := fun t k => go68 _ (st69 _ k)
                              obtain ⟨fs, hr, hrun, hended, hW, hsame⟩ := X69.leave (v := some (.ref s_NDCG)) (fun h => by rw [Bd.returns] at h; cases h)
                              refine ⟨_, _, go70 _ (Jvm.RoadKit.retOut X69 hx Bd.returns rfl (Or.inr (Or.inr (Or.inr (Or.inr ⟨rfl, rfl, rfl⟩)))) (hb hby d1_132) hr), hrun, hended, _, _, rfl, ?_, ⟨_, rfl⟩, hW, hsame.mono (by decide) (by decide)⟩
                              show Q1 _ _ p0 s_NUM_Q s_NUM_RET s_NUM_REL s_NUM_REL_RET s_MAP s_RPREC s_BPREF s_RECIP_RANK s_P_5 s_P_10 s_P_20 s_RECALL_10 s_RECALL_100 s_NDCG s_NDCG_CUT_10 h0 _ (T69.setFrames fs).heap _
                              have hE : (T69.setFrames fs).heap = h0 := e69
                              rw [hE]
                              exact ⟨by rw [f1, if_neg hs2, if_neg hs7, if_neg hs12, if_neg hs17, if_neg hs22, if_neg hs27, if_neg hs32, if_neg hs37, if_neg hs42, if_neg hs47, if_neg hs52, if_neg hs57, if_neg hs62, if_pos hs67], N0, rfl⟩
                            · have go71 : ∀ t, Steps p.tables e below (s₁.setTop (mkF m 133 #[.val (.int p0)] [])) t → Steps p.tables e below (s₁.setTop (entryFrame m #[(.int p0)] 1)) t := by
                                intro t k
                                refine go66 _ ?_
                                refine XS.icmpYes X0.here hx rfl (pc0 := 126) (pc' := 133) rfl (hb hby d1_126) rfl (XT.ii_ne_t hs67) (by decide) (by decide) ?_
                                show Steps p.tables e below (s₁.setTop (mkF m 133 #[.val (.int p0)] [])) t
                                exact k
                              obtain ⟨T72, X72, e72, st72⟩ := getS2 X0 hx hZ hown (host := "") (Or.inl (hw _ (List.mem_of_getElem? (i := 18) rfl))) Via.refl e0 S_NDCG_CUT_10 (g := (mkF m 133 #[.val (.int p0)] [])) rfl (hb hby d1_133)
                              have go73 : ∀ t, Steps p.tables e below (T72.setTop (mkF m 136 #[.val (.int p0)] [(.ref s_NDCG_CUT_10)])) t → Steps p.tables e below (s₁.setTop (entryFrame m #[(.int p0)] 1)) t := fun t k => go71 _ (st72 _ k)
                              obtain ⟨fs, hr, hrun, hended, hW, hsame⟩ := X72.leave (v := some (.ref s_NDCG_CUT_10)) (fun h => by rw [Bd.returns] at h; cases h)
                              refine ⟨_, _, go73 _ (Jvm.RoadKit.retOut X72 hx Bd.returns rfl (Or.inr (Or.inr (Or.inr (Or.inr ⟨rfl, rfl, rfl⟩)))) (hb hby d1_136) hr), hrun, hended, _, _, rfl, ?_, ⟨_, rfl⟩, hW, hsame.mono (by decide) (by decide)⟩
                              show Q1 _ _ p0 s_NUM_Q s_NUM_RET s_NUM_REL s_NUM_REL_RET s_MAP s_RPREC s_BPREF s_RECIP_RANK s_P_5 s_P_10 s_P_20 s_RECALL_10 s_RECALL_100 s_NDCG s_NDCG_CUT_10 h0 _ (T72.setFrames fs).heap _
                              have hE : (T72.setFrames fs).heap = h0 := e72
                              rw [hE]
                              exact ⟨by rw [f1, if_neg hs2, if_neg hs7, if_neg hs12, if_neg hs17, if_neg hs22, if_neg hs27, if_neg hs32, if_neg hs37, if_neg hs42, if_neg hs47, if_neg hs52, if_neg hs57, if_neg hs62, if_neg hs67], N0, rfl⟩
theorem d2_0 : decode prog_10_method_9_code 0 = .ok (.aload_n 0, 1) := by decide +kernel
theorem d2_1 : decode prog_10_method_9_code 1 = .ok (.getfield 72, 3) := by decide +kernel
theorem d2_4 : decode prog_10_method_9_code 4 = .ok (.ifCond .eq 5, 3) := by decide +kernel
theorem d2_9 : decode prog_10_method_9_code 9 = .ok (.iload_n 3, 1) := by decide +kernel
theorem d2_10 : decode prog_10_method_9_code 10 = .ok (.ifCond .ne 7, 3) := by decide +kernel
theorem d2_13 : decode prog_10_method_9_code 13 = .ok (.dconst 0, 1) := by decide +kernel
theorem d2_14 : decode prog_10_method_9_code 14 = .ok (.goto 7, 3) := by decide +kernel
theorem d2_17 : decode prog_10_method_9_code 17 = .ok (.dload_n 1, 1) := by decide +kernel
theorem d2_18 : decode prog_10_method_9_code 18 = .ok (.iload_n 3, 1) := by decide +kernel
theorem d2_19 : decode prog_10_method_9_code 19 = .ok (.i2d, 1) := by decide +kernel
theorem d2_20 : decode prog_10_method_9_code 20 = .ok (.ddiv, 1) := by decide +kernel
theorem d2_21 : decode prog_10_method_9_code 21 = .ok (.dreturn, 1) := by decide +kernel
theorem d2_7 : decode prog_10_method_9_code 7 = .ok (.dload_n 1, 1) := by decide +kernel
theorem d2_8 : decode prog_10_method_9_code 8 = .ok (.dreturn, 1) := by decide +kernel
theorem pn_87 : plainName "com/example/mirk/mirk/eval/Measure" = true := by first | (simp [plainName, overriddenIn]; done) | decide +kernel
def b2_7 (d1 : UInt64) (p2 : Int32) : UInt64 := (if p2 = (0 : Int32) then FP.dconst0 else (FP.ddiv d1 (FP.i2d p2)))
def f2 (d1 : UInt64) (p2 : Int32) (w_a0_count : Int32) : UInt64 := (if w_a0_count = (0 : Int32) then (b2_7 d1 p2) else d1)
def Q2 (Z : State) (n0 : Nat) (a0 : Addr) (d1 : UInt64) (p2 : Int32) (w_a0_count : Int32) (h0 : Heap) (v : Option Value) (h : Heap) (L : List Loc) : Prop := v = some (.double (f2 d1 p2 w_a0_count)) ∧ Fr n0 L ∧ h = h0
theorem ef2 (m : MethodId) (a0 : Addr) (d1 : UInt64) (p2 : Int32) : entryFrame m #[(.ref a0), (.double d1), (.int p2)] 4 = mkF m 0 #[.val (.ref a0), .val (.double d1), .second, .val (.int p2)] [] := by first | (simp [entryFrame, mkF, argsToLocals, Value.category]; done) | rfl
set_option maxRecDepth 65536 in
set_option maxHeartbeats 40000000 in
theorem rm2 (l : Launch) (Z : State) (aZ : Array Value) (hw : ∀ d ∈ tables_1, d.before aZ Z = true) (ws : List Jvm.Cond) (a0 : Addr) (d1 : UInt64) (p2 : Int32) (w_a0_count : Int32) (h0 : Heap) (n0 : Nat) (Z0 : n0 ≤ h0.size) (F_a0_count : Fld Z h0 a0 "com/example/mirk/mirk/eval/Measure" "count" "Z" (.int w_a0_count)) (hnn : Jvm.Free.Fl.NoNaN64 d1) :
    MetFree l (⟨"com/example/mirk/mirk/eval/Measure", "overAll", "(DI)D"⟩ : MethodName) (head1 (Jvm.Cond.code (⟨"com/example/mirk/mirk/eval/Measure", "overAll", "(DI)D"⟩ : MethodName) prog_10_method_9_code 4 (some .double) :: ws) ({ frames := 0, cells := 0, slots := 0, locals := 0 } : Room)) (fun a U => a = #[(.ref a0), (.double d1), (.int p2)] ∧ Z.Warmed39 U.vm ∧ U.heap = h0) (fun _ _ _ _ _ => True) (fun _ U o U' => ∃ v L, o = .returned v ∧ Q2 Z n0 a0 d1 p2 w_a0_count h0 v U'.heap L ∧ FrameEnd U o U' L ({ frames := 0, cells := 0, slots := 0, locals := 0 } : Room).cells ({ frames := 0, cells := 0, slots := 0, locals := 0 } : Room).slots) := by
  refine MetFree.of_bodySF (plainFor_of_name pn_87) hisR ?_
  intro p e s m args below meth c s₁ Bd hml0 hP hK
  obtain ⟨rfl, hZ, hh⟩ := hP
  have hx := Bd.exec
  have hby := Bd.bytes
  have hml : c.maxLocals = 4 := hml0
  have hown : s.vm.findClass "com/example/mirk/mirk/eval/Measure" = some m.cls := findClass_of_methodNamed Bd.named
  have hnm := (name_of_methodNamed Bd.named Bd.method).1
  have X0 : Stand p l e ({ frames := 0, cells := 0, slots := 0, locals := 0 } : Room) s m #[(.ref a0), (.double d1), (.int p2)] below meth c s₁ [] 0 0 := Stand.of_body Bd
  have e0 : s₁.heap = h0 := by rw [← hh, Bd.state]; rfl
  have N0 := Fr.nil n0
  have K0 : Keep h0 h0 [] := Keep.refl _ _
  have go0 : ∀ t, Steps p.tables e below (s₁.setTop (mkF m 0 #[.val (.ref a0), .val (.double d1), .second, .val (.int p2)] [])) t → Steps p.tables e below (s₁.setTop (entryFrame m #[(.ref a0), (.double d1), (.int p2)] 4)) t := fun t k => castTop (ef2 m a0 d1 p2) k
  have go1 : ∀ t, Steps p.tables e below (s₁.setTop (mkF m 1 #[.val (.ref a0), .val (.double d1), .second, .val (.int p2)] [(.ref a0)])) t → Steps p.tables e below (s₁.setTop (entryFrame m #[(.ref a0), (.double d1), (.int p2)] 4)) t := by
    intro t k
    refine go0 _ ?_
    refine XS.aloadN X0.here hx rfl (hb hby d2_0) rfl rfl ?_
    show Steps p.tables e below (s₁.setTop (mkF m 1 #[.val (.ref a0), .val (.double d1), .second, .val (.int p2)] [(.ref a0)])) t
    exact k
  obtain ⟨T2, X2, e2, st2⟩ := getF X0 hx hZ hown (host := "") (Or.inl (hw _ (List.mem_of_getElem? (i := 14) rfl))) Via.refl e0 F_a0_count (g := (mkF m 1 #[.val (.ref a0), .val (.double d1), .second, .val (.int p2)] [(.ref a0)])) rfl rfl (hb hby d2_1)
  have go3 : ∀ t, Steps p.tables e below (T2.setTop (mkF m 4 #[.val (.ref a0), .val (.double d1), .second, .val (.int p2)] [(.int w_a0_count)])) t → Steps p.tables e below (s₁.setTop (entryFrame m #[(.ref a0), (.double d1), (.int p2)] 4)) t := fun t k => go1 _ (st2 _ k)
  by_cases hs4 : w_a0_count = (0 : Int32)
  · have go6 : ∀ t, Steps p.tables e below (T2.setTop (mkF m 21 #[.val (.ref a0), .val (.double d1), .second, .val (.int p2)] [(.double (b2_7 d1 p2))])) t → Steps p.tables e below (s₁.setTop (entryFrame m #[(.ref a0), (.double d1), (.int p2)] 4)) t := by
      intro t k
      refine go3 _ ?_
      refine XS.ifYes X2.here hx rfl (pc0 := 4) (pc' := 9) rfl (hb hby d2_4) rfl (XT.i0_eq_t hs4) (by decide) (by decide) ?_
      show Steps p.tables e below (T2.setTop (mkF m 9 #[.val (.ref a0), .val (.double d1), .second, .val (.int p2)] [])) t
      refine XS.iloadN X2.here hx rfl (hb hby d2_9) rfl ?_
      show Steps p.tables e below (T2.setTop (mkF m 10 #[.val (.ref a0), .val (.double d1), .second, .val (.int p2)] [(.int p2)])) t
      by_cases hc5 : p2 = (0 : Int32)
      · refine XS.ifNo X2.here hx rfl (hb hby d2_10) rfl (XT.i0_ne_f hc5) ?_
        show Steps p.tables e below (T2.setTop (mkF m 13 #[.val (.ref a0), .val (.double d1), .second, .val (.int p2)] [])) t
        refine XS.dconst0 X2.here hx rfl (hb hby d2_13) (v := FP.dconst0) rfl ?_
        show Steps p.tables e below (T2.setTop (mkF m 14 #[.val (.ref a0), .val (.double d1), .second, .val (.int p2)] [(.double FP.dconst0)])) t
        refine XS.goto X2.here hx rfl (pc0 := 14) (pc' := 21) rfl (hb hby d2_14) (by decide) (by decide) ?_
        show Steps p.tables e below (T2.setTop (mkF m 21 #[.val (.ref a0), .val (.double d1), .second, .val (.int p2)] [(.double FP.dconst0)])) t
        have hq8 : (b2_7 d1 p2) = FP.dconst0 := by rw [b2_7, if_pos hc5]
        rw [hq8] at k
        exact k
      · refine XS.ifYes X2.here hx rfl (pc0 := 10) (pc' := 17) rfl (hb hby d2_10) rfl (XT.i0_ne_t hc5) (by decide) (by decide) ?_
        show Steps p.tables e below (T2.setTop (mkF m 17 #[.val (.ref a0), .val (.double d1), .second, .val (.int p2)] [])) t
        refine XS.dloadN X2.here hx rfl (hb hby d2_17) rfl ?_
        show Steps p.tables e below (T2.setTop (mkF m 18 #[.val (.ref a0), .val (.double d1), .second, .val (.int p2)] [(.double d1)])) t
        refine XS.iloadN X2.here hx rfl (hb hby d2_18) rfl ?_
        show Steps p.tables e below (T2.setTop (mkF m 19 #[.val (.ref a0), .val (.double d1), .second, .val (.int p2)] [(.int p2), (.double d1)])) t
        refine XS.i2dS X2.here hx rfl (hb hby d2_19) rfl (v := (FP.i2d p2)) rfl ?_
        show Steps p.tables e below (T2.setTop (mkF m 20 #[.val (.ref a0), .val (.double d1), .second, .val (.int p2)] [(.double (FP.i2d p2)), (.double d1)])) t
        refine XS.ddivS X2.here hx rfl (hb hby d2_20) rfl (own_quo hnn hc5) (v := (FP.ddiv d1 (FP.i2d p2))) rfl ?_
        show Steps p.tables e below (T2.setTop (mkF m 21 #[.val (.ref a0), .val (.double d1), .second, .val (.int p2)] [(.double (FP.ddiv d1 (FP.i2d p2)))])) t
        have hq9 : (b2_7 d1 p2) = (FP.ddiv d1 (FP.i2d p2)) := by rw [b2_7, if_neg hc5]
        rw [hq9] at k
        exact k
    obtain ⟨fs, hr, hrun, hended, hW, hsame⟩ := X2.leave (v := some (.double (b2_7 d1 p2))) (fun h => by rw [Bd.returns] at h; cases h)
    refine ⟨_, _, go6 _ (Jvm.RoadKit.retOut X2 hx Bd.returns rfl (Or.inr (Or.inr (Or.inl ⟨rfl, rfl, _, rfl⟩))) (hb hby d2_21) hr), hrun, hended, _, _, rfl, ?_, ⟨_, rfl⟩, hW, hsame.mono (by decide) (by decide)⟩
    show Q2 _ _ a0 d1 p2 w_a0_count h0 _ (T2.setFrames fs).heap _
    have hE : (T2.setFrames fs).heap = h0 := e2
    rw [hE]
    exact ⟨by rw [f2, if_pos hs4], N0, rfl⟩
  · have go10 : ∀ t, Steps p.tables e below (T2.setTop (mkF m 8 #[.val (.ref a0), .val (.double d1), .second, .val (.int p2)] [(.double d1)])) t → Steps p.tables e below (s₁.setTop (entryFrame m #[(.ref a0), (.double d1), (.int p2)] 4)) t := by
      intro t k
      refine go3 _ ?_
      refine XS.ifNo X2.here hx rfl (hb hby d2_4) rfl (XT.i0_eq_f hs4) ?_
      show Steps p.tables e below (T2.setTop (mkF m 7 #[.val (.ref a0), .val (.double d1), .second, .val (.int p2)] [])) t
      refine XS.dloadN X2.here hx rfl (hb hby d2_7) rfl ?_
      show Steps p.tables e below (T2.setTop (mkF m 8 #[.val (.ref a0), .val (.double d1), .second, .val (.int p2)] [(.double d1)])) t
      exact k
    obtain ⟨fs, hr, hrun, hended, hW, hsame⟩ := X2.leave (v := some (.double d1)) (fun h => by rw [Bd.returns] at h; cases h)
    refine ⟨_, _, go10 _ (Jvm.RoadKit.retOut X2 hx Bd.returns rfl (Or.inr (Or.inr (Or.inl ⟨rfl, rfl, _, rfl⟩))) (hb hby d2_8) hr), hrun, hended, _, _, rfl, ?_, ⟨_, rfl⟩, hW, hsame.mono (by decide) (by decide)⟩
    show Q2 _ _ a0 d1 p2 w_a0_count h0 _ (T2.setFrames fs).heap _
    have hE : (T2.setFrames fs).heap = h0 := e2
    rw [hE]
    exact ⟨by rw [f2, if_neg hs4], N0, rfl⟩
theorem own_dead15 (x : Int32) (h0 : ¬ (x &&& 2147483647) % 15 = 0) (h1 : ¬ (x &&& 2147483647) % 15 = 1) (h2 : ¬ (x &&& 2147483647) % 15 = 2) (h3 : ¬ (x &&& 2147483647) % 15 = 3) (h4 : ¬ (x &&& 2147483647) % 15 = 4) (h5 : ¬ (x &&& 2147483647) % 15 = 5) (h6 : ¬ (x &&& 2147483647) % 15 = 6) (h7 : ¬ (x &&& 2147483647) % 15 = 7) (h8 : ¬ (x &&& 2147483647) % 15 = 8) (h9 : ¬ (x &&& 2147483647) % 15 = 9) (h10 : ¬ (x &&& 2147483647) % 15 = 10) (h11 : ¬ (x &&& 2147483647) % 15 = 11) (h12 : ¬ (x &&& 2147483647) % 15 = 12) (h13 : ¬ (x &&& 2147483647) % 15 = 13) (h14 : ¬ (x &&& 2147483647) % 15 = 14) : False := by
  have hm := c_mask x 2147483647 31 (by decide) (by decide)
  have hr := (c_irem (x &&& 2147483647) 15 15 (by decide)).1 (by omega)
  have g0 := own_ne 0 rfl h0
  have g1 := own_ne 1 rfl h1
  have g2 := own_ne 2 rfl h2
  have g3 := own_ne 3 rfl h3
  have g4 := own_ne 4 rfl h4
  have g5 := own_ne 5 rfl h5
  have g6 := own_ne 6 rfl h6
  have g7 := own_ne 7 rfl h7
  have g8 := own_ne 8 rfl h8
  have g9 := own_ne 9 rfl h9
  have g10 := own_ne 10 rfl h10
  have g11 := own_ne 11 rfl h11
  have g12 := own_ne 12 rfl h12
  have g13 := own_ne 13 rfl h13
  have g14 := own_ne 14 rfl h14
  omega
theorem pd_89 : parseMethodDescriptor "(I)Lcom/example/mirk/mirk/eval/Measure;" = some ⟨[.int], some (.object "com/example/mirk/mirk/eval/Measure")⟩ := by decide +kernel
theorem pd_91 : parseMethodDescriptor "(DI)D" = some ⟨[.double, .int], some .double⟩ := by decide +kernel
def v0_1 (p0 : Int32) : Int32 := ((p0 &&& (2147483647 : Int32)) % (15 : Int32))
def v0_8 (p1 : Int32) : UInt64 := (FP.dmul (FP.i2d p1) (4598175219545276416 : UInt64))
def b0_14 (p1 : Int32) : Int32 := (if (cmpValue (FP.dcmp (v0_8 p1) (v0_8 p1)) .l) = (0 : Int32) then (1 : Int32) else (0 : Int32))
def v0_62 (p1 : Int32) (p2 : Int32) : UInt64 := (FP.ddiv (v0_8 p1) (FP.i2d p2))
def b0_64 (p1 : Int32) (p2 : Int32) : UInt64 := (if p2 = (0 : Int32) then FP.dconst0 else (v0_62 p1 p2))
def b0_69 (p1 : Int32) (p2 : Int32) : Int32 := (if (cmpValue (FP.dcmp (b2_7 (v0_8 p1) p2) (b0_64 p1 p2)) .l) = (0 : Int32) then (1 : Int32) else (0 : Int32))
def f0 (p0 : Int32) (p1 : Int32) (p2 : Int32) : Int32 := (if (v0_1 p0) = (0 : Int32) then (b0_14 p1) else (if (v0_1 p0) = (1 : Int32) then (b0_14 p1) else (if (v0_1 p0) = (2 : Int32) then (b0_14 p1) else (if (v0_1 p0) = (3 : Int32) then (b0_14 p1) else (if (v0_1 p0) = (4 : Int32) then (b0_69 p1 p2) else (if (v0_1 p0) = (5 : Int32) then (b0_69 p1 p2) else (if (v0_1 p0) = (6 : Int32) then (b0_69 p1 p2) else (if (v0_1 p0) = (7 : Int32) then (b0_69 p1 p2) else (if (v0_1 p0) = (8 : Int32) then (b0_69 p1 p2) else (if (v0_1 p0) = (9 : Int32) then (b0_69 p1 p2) else (if (v0_1 p0) = (10 : Int32) then (b0_69 p1 p2) else (if (v0_1 p0) = (11 : Int32) then (b0_69 p1 p2) else (if (v0_1 p0) = (12 : Int32) then (b0_69 p1 p2) else (if (v0_1 p0) = (13 : Int32) then (b0_69 p1 p2) else (if (v0_1 p0) = (14 : Int32) then (b0_69 p1 p2) else (1 : Int32))))))))))))))))
theorem own_A (p1 : Int32) : b0_14 p1 = 1 := by
  unfold b0_14; exact if_pos (dcmpV_self (own_sum p1) .l)
theorem own_B2 (p1 p2 : Int32) : b0_69 p1 p2 = 1 := by
  unfold b0_69
  have e : b2_7 (v0_8 p1) p2 = b0_64 p1 p2 := rfl
  rw [e]
  refine if_pos (dcmpV_self ?_ .l)
  unfold b0_64 v0_62
  split
  · decide
  · exact own_quo (own_sum p1) (by assumption)
theorem f0_one (p0 : Int32) (p1 : Int32) (p2 : Int32) : f0 p0 p1 p2 = 1 := by
  unfold f0
  by_cases h0 : v0_1 p0 = (0 : Int32)
  · rw [if_pos h0]; exact own_A p1
  rw [if_neg h0]
  by_cases h1 : v0_1 p0 = (1 : Int32)
  · rw [if_pos h1]; exact own_A p1
  rw [if_neg h1]
  by_cases h2 : v0_1 p0 = (2 : Int32)
  · rw [if_pos h2]; exact own_A p1
  rw [if_neg h2]
  by_cases h3 : v0_1 p0 = (3 : Int32)
  · rw [if_pos h3]; exact own_A p1
  rw [if_neg h3]
  by_cases h4 : v0_1 p0 = (4 : Int32)
  · rw [if_pos h4]; exact own_B2 p1 p2
  rw [if_neg h4]
  by_cases h5 : v0_1 p0 = (5 : Int32)
  · rw [if_pos h5]; exact own_B2 p1 p2
  rw [if_neg h5]
  by_cases h6 : v0_1 p0 = (6 : Int32)
  · rw [if_pos h6]; exact own_B2 p1 p2
  rw [if_neg h6]
  by_cases h7 : v0_1 p0 = (7 : Int32)
  · rw [if_pos h7]; exact own_B2 p1 p2
  rw [if_neg h7]
  by_cases h8 : v0_1 p0 = (8 : Int32)
  · rw [if_pos h8]; exact own_B2 p1 p2
  rw [if_neg h8]
  by_cases h9 : v0_1 p0 = (9 : Int32)
  · rw [if_pos h9]; exact own_B2 p1 p2
  rw [if_neg h9]
  by_cases h10 : v0_1 p0 = (10 : Int32)
  · rw [if_pos h10]; exact own_B2 p1 p2
  rw [if_neg h10]
  by_cases h11 : v0_1 p0 = (11 : Int32)
  · rw [if_pos h11]; exact own_B2 p1 p2
  rw [if_neg h11]
  by_cases h12 : v0_1 p0 = (12 : Int32)
  · rw [if_pos h12]; exact own_B2 p1 p2
  rw [if_neg h12]
  by_cases h13 : v0_1 p0 = (13 : Int32)
  · rw [if_pos h13]; exact own_B2 p1 p2
  rw [if_neg h13]
  by_cases h14 : v0_1 p0 = (14 : Int32)
  · rw [if_pos h14]; exact own_B2 p1 p2
  rw [if_neg h14]

def Q0 (Z : State) (n0 : Nat) (p0 : Int32) (p1 : Int32) (p2 : Int32) (s_NUM_Q : Addr) (s_NUM_RET : Addr) (s_NDCG_CUT_10 : Addr) (s_RPREC : Addr) (s_P_5 : Addr) (s_P_10 : Addr) (s_P_20 : Addr) (s_NUM_REL_RET : Addr) (s_RECALL_10 : Addr) (s_NUM_REL : Addr) (s_MAP : Addr) (s_RECIP_RANK : Addr) (s_BPREF : Addr) (s_NDCG : Addr) (s_RECALL_100 : Addr) (h0 : Heap) (v : Option Value) (h : Heap) (L : List Loc) : Prop := v = some (.int 1) ∧ Fr n0 L
theorem ef0 (m : MethodId) (p0 : Int32) (p1 : Int32) (p2 : Int32) : entryFrame m #[(.int p0), (.int p1), (.int p2)] maxLocals = mkF m 0 #[.val (.int p0), .val (.int p1), .val (.int p2), .unset, .unset, .unset, .unset, .unset, .unset, .unset, .unset] [] := by first | (simp [entryFrame, mkF, argsToLocals, Value.category, maxLocals]; done) | rfl
set_option maxRecDepth 65536 in
set_option maxHeartbeats 40000000 in
theorem rm0 (l : Launch) (Z : State) (aZ : Array Value) (hw : ∀ d ∈ tables_1, d.before aZ Z = true) (ws : List Jvm.Cond) (p0 : Int32) (p1 : Int32) (p2 : Int32) (s_NUM_Q : Addr) (s_NUM_RET : Addr) (s_NDCG_CUT_10 : Addr) (s_RPREC : Addr) (s_P_5 : Addr) (s_P_10 : Addr) (s_P_20 : Addr) (s_NUM_REL_RET : Addr) (s_RECALL_10 : Addr) (s_NUM_REL : Addr) (s_MAP : Addr) (s_RECIP_RANK : Addr) (s_BPREF : Addr) (s_NDCG : Addr) (s_RECALL_100 : Addr) (h0 : Heap) (n0 : Nat) (Z0 : n0 ≤ h0.size) (S_NUM_Q : Sta Z h0 "com/example/mirk/mirk/eval/Measure" "NUM_Q" "Lcom/example/mirk/mirk/eval/Measure;" (.ref s_NUM_Q)) (E_NUM_Q : Exa Z h0 s_NUM_Q "com/example/mirk/mirk/eval/Measure") (F_NUM_Q_count : Fld Z h0 s_NUM_Q "com/example/mirk/mirk/eval/Measure" "count" "Z" (.int (1 : Int32))) (S_NUM_RET : Sta Z h0 "com/example/mirk/mirk/eval/Measure" "NUM_RET" "Lcom/example/mirk/mirk/eval/Measure;" (.ref s_NUM_RET)) (E_NUM_RET : Exa Z h0 s_NUM_RET "com/example/mirk/mirk/eval/Measure") (F_NUM_RET_count : Fld Z h0 s_NUM_RET "com/example/mirk/mirk/eval/Measure" "count" "Z" (.int (1 : Int32))) (S_NDCG_CUT_10 : Sta Z h0 "com/example/mirk/mirk/eval/Measure" "NDCG_CUT_10" "Lcom/example/mirk/mirk/eval/Measure;" (.ref s_NDCG_CUT_10)) (E_NDCG_CUT_10 : Exa Z h0 s_NDCG_CUT_10 "com/example/mirk/mirk/eval/Measure") (F_NDCG_CUT_10_count : Fld Z h0 s_NDCG_CUT_10 "com/example/mirk/mirk/eval/Measure" "count" "Z" (.int (0 : Int32))) (S_RPREC : Sta Z h0 "com/example/mirk/mirk/eval/Measure" "RPREC" "Lcom/example/mirk/mirk/eval/Measure;" (.ref s_RPREC)) (E_RPREC : Exa Z h0 s_RPREC "com/example/mirk/mirk/eval/Measure") (F_RPREC_count : Fld Z h0 s_RPREC "com/example/mirk/mirk/eval/Measure" "count" "Z" (.int (0 : Int32))) (S_P_5 : Sta Z h0 "com/example/mirk/mirk/eval/Measure" "P_5" "Lcom/example/mirk/mirk/eval/Measure;" (.ref s_P_5)) (E_P_5 : Exa Z h0 s_P_5 "com/example/mirk/mirk/eval/Measure") (F_P_5_count : Fld Z h0 s_P_5 "com/example/mirk/mirk/eval/Measure" "count" "Z" (.int (0 : Int32))) (S_P_10 : Sta Z h0 "com/example/mirk/mirk/eval/Measure" "P_10" "Lcom/example/mirk/mirk/eval/Measure;" (.ref s_P_10)) (E_P_10 : Exa Z h0 s_P_10 "com/example/mirk/mirk/eval/Measure") (F_P_10_count : Fld Z h0 s_P_10 "com/example/mirk/mirk/eval/Measure" "count" "Z" (.int (0 : Int32))) (S_P_20 : Sta Z h0 "com/example/mirk/mirk/eval/Measure" "P_20" "Lcom/example/mirk/mirk/eval/Measure;" (.ref s_P_20)) (E_P_20 : Exa Z h0 s_P_20 "com/example/mirk/mirk/eval/Measure") (F_P_20_count : Fld Z h0 s_P_20 "com/example/mirk/mirk/eval/Measure" "count" "Z" (.int (0 : Int32))) (S_NUM_REL_RET : Sta Z h0 "com/example/mirk/mirk/eval/Measure" "NUM_REL_RET" "Lcom/example/mirk/mirk/eval/Measure;" (.ref s_NUM_REL_RET)) (E_NUM_REL_RET : Exa Z h0 s_NUM_REL_RET "com/example/mirk/mirk/eval/Measure") (F_NUM_REL_RET_count : Fld Z h0 s_NUM_REL_RET "com/example/mirk/mirk/eval/Measure" "count" "Z" (.int (1 : Int32))) (S_RECALL_10 : Sta Z h0 "com/example/mirk/mirk/eval/Measure" "RECALL_10" "Lcom/example/mirk/mirk/eval/Measure;" (.ref s_RECALL_10)) (E_RECALL_10 : Exa Z h0 s_RECALL_10 "com/example/mirk/mirk/eval/Measure") (F_RECALL_10_count : Fld Z h0 s_RECALL_10 "com/example/mirk/mirk/eval/Measure" "count" "Z" (.int (0 : Int32))) (S_NUM_REL : Sta Z h0 "com/example/mirk/mirk/eval/Measure" "NUM_REL" "Lcom/example/mirk/mirk/eval/Measure;" (.ref s_NUM_REL)) (E_NUM_REL : Exa Z h0 s_NUM_REL "com/example/mirk/mirk/eval/Measure") (F_NUM_REL_count : Fld Z h0 s_NUM_REL "com/example/mirk/mirk/eval/Measure" "count" "Z" (.int (1 : Int32))) (S_MAP : Sta Z h0 "com/example/mirk/mirk/eval/Measure" "MAP" "Lcom/example/mirk/mirk/eval/Measure;" (.ref s_MAP)) (E_MAP : Exa Z h0 s_MAP "com/example/mirk/mirk/eval/Measure") (F_MAP_count : Fld Z h0 s_MAP "com/example/mirk/mirk/eval/Measure" "count" "Z" (.int (0 : Int32))) (S_RECIP_RANK : Sta Z h0 "com/example/mirk/mirk/eval/Measure" "RECIP_RANK" "Lcom/example/mirk/mirk/eval/Measure;" (.ref s_RECIP_RANK)) (E_RECIP_RANK : Exa Z h0 s_RECIP_RANK "com/example/mirk/mirk/eval/Measure") (F_RECIP_RANK_count : Fld Z h0 s_RECIP_RANK "com/example/mirk/mirk/eval/Measure" "count" "Z" (.int (0 : Int32))) (S_BPREF : Sta Z h0 "com/example/mirk/mirk/eval/Measure" "BPREF" "Lcom/example/mirk/mirk/eval/Measure;" (.ref s_BPREF)) (E_BPREF : Exa Z h0 s_BPREF "com/example/mirk/mirk/eval/Measure") (F_BPREF_count : Fld Z h0 s_BPREF "com/example/mirk/mirk/eval/Measure" "count" "Z" (.int (0 : Int32))) (S_NDCG : Sta Z h0 "com/example/mirk/mirk/eval/Measure" "NDCG" "Lcom/example/mirk/mirk/eval/Measure;" (.ref s_NDCG)) (E_NDCG : Exa Z h0 s_NDCG "com/example/mirk/mirk/eval/Measure") (F_NDCG_count : Fld Z h0 s_NDCG "com/example/mirk/mirk/eval/Measure" "count" "Z" (.int (0 : Int32))) (S_RECALL_100 : Sta Z h0 "com/example/mirk/mirk/eval/Measure" "RECALL_100" "Lcom/example/mirk/mirk/eval/Measure;" (.ref s_RECALL_100)) (E_RECALL_100 : Exa Z h0 s_RECALL_100 "com/example/mirk/mirk/eval/Measure") (F_RECALL_100_count : Fld Z h0 s_RECALL_100 "com/example/mirk/mirk/eval/Measure" "count" "Z" (.int (0 : Int32))) :
    MetFree l x (head1 (Jvm.Cond.code x code maxLocals ret :: ws) room_1) (fun a U => a = #[(.int p0), (.int p1), (.int p2)] ∧ Z.Warmed39 U.vm ∧ U.heap = h0) (fun _ _ _ _ _ => True) (fun _ U o U' => ∃ v L, o = .returned v ∧ Q0 Z n0 p0 p1 p2 s_NUM_Q s_NUM_RET s_NDCG_CUT_10 s_RPREC s_P_5 s_P_10 s_P_20 s_NUM_REL_RET s_RECALL_10 s_NUM_REL s_MAP s_RECIP_RANK s_BPREF s_NDCG s_RECALL_100 h0 v U'.heap L ∧ FrameEnd U o U' L room_1.cells room_1.slots) := by
  refine MetFree.of_bodySF (plainFor_of_name pn_71) hisR ?_
  intro p e s m args below meth c s₁ Bd hml0 hP hK
  obtain ⟨rfl, hZ, hh⟩ := hP
  have hx := Bd.exec
  have hby := Bd.bytes
  have hml : c.maxLocals = 11 := hml0
  have hown : s.vm.findClass "com/example/mirk/mirk/eval/MeasureOverAllPinLaw" = some m.cls := findClass_of_methodNamed Bd.named
  have hnm := (name_of_methodNamed Bd.named Bd.method).1
  have X0 : Stand p l e room_1 s m #[(.int p0), (.int p1), (.int p2)] below meth c s₁ [] 0 0 := Stand.of_body Bd
  have e0 : s₁.heap = h0 := by rw [← hh, Bd.state]; rfl
  have N0 := Fr.nil n0
  have K0 : Keep h0 h0 [] := Keep.refl _ _
  have go0 : ∀ t, Steps p.tables e below (s₁.setTop (mkF m 0 #[.val (.int p0), .val (.int p1), .val (.int p2), .unset, .unset, .unset, .unset, .unset, .unset, .unset, .unset] [])) t → Steps p.tables e below (s₁.setTop (entryFrame m #[(.int p0), (.int p1), (.int p2)] maxLocals)) t := fun t k => castTop (ef0 m p0 p1 p2) k
  have go2 : ∀ t, Steps p.tables e below (s₁.setTop (mkF m 8 #[.val (.int p0), .val (.int p1), .val (.int p2), .val (.int (v0_1 p0)), .unset, .unset, .unset, .unset, .unset, .unset, .unset] [])) t → Steps p.tables e below (s₁.setTop (entryFrame m #[(.int p0), (.int p1), (.int p2)] maxLocals)) t := by
    intro t k
    refine go0 _ ?_
    refine XS.iloadN X0.here hx rfl (hb hby at_0) rfl ?_
    show Steps p.tables e below (s₁.setTop (mkF m 1 #[.val (.int p0), .val (.int p1), .val (.int p2), .unset, .unset, .unset, .unset, .unset, .unset, .unset, .unset] [(.int p0)])) t
    refine X0.ldcInt hx hown (mvT hZ (hw _ (List.mem_of_getElem? (i := 0) rfl))) (g := (mkF m 1 #[.val (.int p0), .val (.int p1), .val (.int p2), .unset, .unset, .unset, .unset, .unset, .unset, .unset, .unset] [(.int p0)])) rfl (hb hby at_1) _ ?_
    show Steps p.tables e below (s₁.setTop (mkF m 3 #[.val (.int p0), .val (.int p1), .val (.int p2), .unset, .unset, .unset, .unset, .unset, .unset, .unset, .unset] [(.int (2147483647 : Int32)), (.int p0)])) t
    refine XS.iand X0.here hx rfl (hb hby at_3) rfl ?_
    show Steps p.tables e below (s₁.setTop (mkF m 4 #[.val (.int p0), .val (.int p1), .val (.int p2), .unset, .unset, .unset, .unset, .unset, .unset, .unset, .unset] [(.int (p0 &&& (2147483647 : Int32)))])) t
    refine XS.bipush X0.here hx rfl (hb hby at_4) ?_
    show Steps p.tables e below (s₁.setTop (mkF m 6 #[.val (.int p0), .val (.int p1), .val (.int p2), .unset, .unset, .unset, .unset, .unset, .unset, .unset, .unset] [(.int (15 : Int32)), (.int (p0 &&& (2147483647 : Int32)))])) t
    refine iremM X0 hx rfl (hb hby at_6) rfl (by decide) ?_
    show Steps p.tables e below (s₁.setTop (mkF m 7 #[.val (.int p0), .val (.int p1), .val (.int p2), .unset, .unset, .unset, .unset, .unset, .unset, .unset, .unset] [(.int ((p0 &&& (2147483647 : Int32)) % (15 : Int32)))])) t
    show Steps p.tables e below (s₁.setTop (mkF m 7 #[.val (.int p0), .val (.int p1), .val (.int p2), .unset, .unset, .unset, .unset, .unset, .unset, .unset, .unset] [(.int (v0_1 p0))])) t
    refine XS.istoreN X0.here hx rfl (hb hby at_7) rfl (l' := #[.val (.int p0), .val (.int p1), .val (.int p2), .val (.int (v0_1 p0)), .unset, .unset, .unset, .unset, .unset, .unset, .unset]) rfl ?_
    show Steps p.tables e below (s₁.setTop (mkF m 8 #[.val (.int p0), .val (.int p1), .val (.int p2), .val (.int (v0_1 p0)), .unset, .unset, .unset, .unset, .unset, .unset, .unset] [])) t
    exact k
  by_cases hs3 : (v0_1 p0) = (0 : Int32)
  · have go4 : ∀ t, Steps p.tables e below (s₁.setTop (mkF m 8 #[.val (.int p0), .val (.int p1), .val (.int p2), .val (.int (0 : Int32)), .unset, .unset, .unset, .unset, .unset, .unset, .unset] [])) t → Steps p.tables e below (s₁.setTop (entryFrame m #[(.int p0), (.int p1), (.int p2)] maxLocals)) t := by
      have q := go2
      rw [hs3] at q
      exact q
    have go5 : ∀ t, Steps p.tables e below (s₁.setTop (mkF m 9 #[.val (.int p0), .val (.int p1), .val (.int p2), .val (.int (0 : Int32)), .unset, .unset, .unset, .unset, .unset, .unset, .unset] [(.int (0 : Int32))])) t → Steps p.tables e below (s₁.setTop (entryFrame m #[(.int p0), (.int p1), (.int p2)] maxLocals)) t := by
      intro t k
      refine go4 _ ?_
      refine XS.iloadN X0.here hx rfl (hb hby at_8) rfl ?_
      show Steps p.tables e below (s₁.setTop (mkF m 9 #[.val (.int p0), .val (.int p1), .val (.int p2), .val (.int (0 : Int32)), .unset, .unset, .unset, .unset, .unset, .unset, .unset] [(.int (0 : Int32))])) t
      exact k
    obtain ⟨_, _, ⟨T6, L6, k6, n6⟩, -, X6, ⟨Lc6, hQ6, l6, y6, z6⟩, st6⟩ := Jvm.LawKit.callS X0 hx (y := (⟨"com/example/mirk/mirk/eval/MeasureOverAllPinLaw", "pick", "(I)Lcom/example/mirk/mirk/eval/Measure;"⟩ : MethodName)) hown (mvT hZ (hw _ (List.mem_of_getElem? (i := 1) rfl))) (mvT hZ (hw _ (List.mem_of_getElem? (i := 2) rfl))) (mvT hZ (hw _ (List.mem_of_getElem? (i := 3) rfl))) (mvT hZ (hw _ (List.mem_of_getElem? (i := 4) rfl))) (by decide) (backOf (W := 0) (rm1 l Z aZ hw [] (0 : Int32) s_NUM_Q s_NUM_RET s_NUM_REL s_NUM_REL_RET s_MAP s_RPREC s_BPREF s_RECIP_RANK s_P_5 s_P_10 s_P_20 s_RECALL_10 s_RECALL_100 s_NDCG s_NDCG_CUT_10 h0 n0 Z0 S_NUM_Q S_NUM_RET S_NUM_REL S_NUM_REL_RET S_MAP S_RPREC S_BPREF S_RECIP_RANK S_P_5 S_P_10 S_P_20 S_RECALL_10 S_RECALL_100 S_NDCG S_NDCG_CUT_10) hZ (hw _ (List.mem_of_getElem? (i := 4) rfl)) (hw _ (List.mem_of_getElem? (i := 3) rfl)) (by decide) (by decide)) (g := (mkF m 9 #[.val (.int p0), .val (.int p1), .val (.int p2), .val (.int (0 : Int32)), .unset, .unset, .unset, .unset, .unset, .unset, .unset] [(.int (0 : Int32))])) rfl (by rw [hml]; rfl) (argsL := [(.int (0 : Int32))]) (rest := []) (lenOf pd_89 rfl) rfl (by show 2 * 0 + _ ≤ _; exact Nat.le_of_eq rfl) (hb hby at_9) (fun _ _ => ⟨rfl, e0, (by decide : 0 + 0 ≤ _), (by decide : 0 + 0 ≤ _)⟩)
    dsimp only [Pt.U, Pt.locs, Pt.cells, Pt.slots] at X6 l6 y6 z6 st6 hQ6
    subst l6 y6 z6
    obtain ⟨rfl, N6q, e6⟩ := hQ6
    have N6 := Fr.app N0 N6q
    have go7 : ∀ t, Steps p.tables e below (T6.setTop (mkF m 12 #[.val (.int p0), .val (.int p1), .val (.int p2), .val (.int (0 : Int32)), .unset, .unset, .unset, .unset, .unset, .unset, .unset] [(.ref s_NUM_Q)])) t → Steps p.tables e below (s₁.setTop (entryFrame m #[(.int p0), (.int p1), (.int p2)] maxLocals)) t := fun t k => go5 _ (st6 _ k)
    have go9 : ∀ t, Steps p.tables e below (T6.setTop (mkF m 27 #[.val (.int p0), .val (.int p1), .val (.int p2), .val (.int (0 : Int32)), .val (.ref s_NUM_Q), .val (.double (v0_8 p1)), .second, .unset, .unset, .unset, .unset] [(.int p2), (.double (v0_8 p1)), (.ref s_NUM_Q)])) t → Steps p.tables e below (s₁.setTop (entryFrame m #[(.int p0), (.int p1), (.int p2)] maxLocals)) t := by
      intro t k
      refine go7 _ ?_
      refine XS.astore X6.here hx rfl (hb hby at_12) rfl rfl (l' := #[.val (.int p0), .val (.int p1), .val (.int p2), .val (.int (0 : Int32)), .val (.ref s_NUM_Q), .unset, .unset, .unset, .unset, .unset, .unset]) rfl ?_
      show Steps p.tables e below (T6.setTop (mkF m 14 #[.val (.int p0), .val (.int p1), .val (.int p2), .val (.int (0 : Int32)), .val (.ref s_NUM_Q), .unset, .unset, .unset, .unset, .unset, .unset] [])) t
      refine XS.iloadN X6.here hx rfl (hb hby at_14) rfl ?_
      show Steps p.tables e below (T6.setTop (mkF m 15 #[.val (.int p0), .val (.int p1), .val (.int p2), .val (.int (0 : Int32)), .val (.ref s_NUM_Q), .unset, .unset, .unset, .unset, .unset, .unset] [(.int p1)])) t
      refine XS.i2dS X6.here hx rfl (hb hby at_15) rfl (v := (FP.i2d p1)) rfl ?_
      show Steps p.tables e below (T6.setTop (mkF m 16 #[.val (.int p0), .val (.int p1), .val (.int p2), .val (.int (0 : Int32)), .val (.ref s_NUM_Q), .unset, .unset, .unset, .unset, .unset, .unset] [(.double (FP.i2d p1))])) t
      refine X6.ldc2DoubleC hx hown (mvT hZ (hw _ (List.mem_of_getElem? (i := 8) rfl))) (g := (mkF m 16 #[.val (.int p0), .val (.int p1), .val (.int p2), .val (.int (0 : Int32)), .val (.ref s_NUM_Q), .unset, .unset, .unset, .unset, .unset, .unset] [(.double (FP.i2d p1))])) rfl (hb hby at_16) _ ?_
      show Steps p.tables e below (T6.setTop (mkF m 19 #[.val (.int p0), .val (.int p1), .val (.int p2), .val (.int (0 : Int32)), .val (.ref s_NUM_Q), .unset, .unset, .unset, .unset, .unset, .unset] [(.double (4598175219545276416 : UInt64)), (.double (FP.i2d p1))])) t
      refine XS.dmulS X6.here hx rfl (hb hby at_19) rfl (own_sum p1) (v := (FP.dmul (FP.i2d p1) (4598175219545276416 : UInt64))) rfl ?_
      show Steps p.tables e below (T6.setTop (mkF m 20 #[.val (.int p0), .val (.int p1), .val (.int p2), .val (.int (0 : Int32)), .val (.ref s_NUM_Q), .unset, .unset, .unset, .unset, .unset, .unset] [(.double (FP.dmul (FP.i2d p1) (4598175219545276416 : UInt64)))])) t
      show Steps p.tables e below (T6.setTop (mkF m 20 #[.val (.int p0), .val (.int p1), .val (.int p2), .val (.int (0 : Int32)), .val (.ref s_NUM_Q), .unset, .unset, .unset, .unset, .unset, .unset] [(.double (v0_8 p1))])) t
      refine XS.dstore X6.here hx rfl (hb hby at_20) rfl (l' := #[.val (.int p0), .val (.int p1), .val (.int p2), .val (.int (0 : Int32)), .val (.ref s_NUM_Q), .val (.double (v0_8 p1)), .second, .unset, .unset, .unset, .unset]) rfl ?_
      show Steps p.tables e below (T6.setTop (mkF m 22 #[.val (.int p0), .val (.int p1), .val (.int p2), .val (.int (0 : Int32)), .val (.ref s_NUM_Q), .val (.double (v0_8 p1)), .second, .unset, .unset, .unset, .unset] [])) t
      refine XS.aload X6.here hx rfl (hb hby at_22) rfl rfl ?_
      show Steps p.tables e below (T6.setTop (mkF m 24 #[.val (.int p0), .val (.int p1), .val (.int p2), .val (.int (0 : Int32)), .val (.ref s_NUM_Q), .val (.double (v0_8 p1)), .second, .unset, .unset, .unset, .unset] [(.ref s_NUM_Q)])) t
      refine XS.dload X6.here hx rfl (hb hby at_24) rfl ?_
      show Steps p.tables e below (T6.setTop (mkF m 26 #[.val (.int p0), .val (.int p1), .val (.int p2), .val (.int (0 : Int32)), .val (.ref s_NUM_Q), .val (.double (v0_8 p1)), .second, .unset, .unset, .unset, .unset] [(.double (v0_8 p1)), (.ref s_NUM_Q)])) t
      refine XS.iloadN X6.here hx rfl (hb hby at_26) rfl ?_
      show Steps p.tables e below (T6.setTop (mkF m 27 #[.val (.int p0), .val (.int p1), .val (.int p2), .val (.int (0 : Int32)), .val (.ref s_NUM_Q), .val (.double (v0_8 p1)), .second, .unset, .unset, .unset, .unset] [(.int p2), (.double (v0_8 p1)), (.ref s_NUM_Q)])) t
      exact k
    obtain ⟨cq10, kq10, q10a, q10b, q10c⟩ := isOf hZ e6 E_NUM_Q
    obtain ⟨_, _, ⟨T10, L10, k10, n10⟩, -, X10, ⟨Lc10, hQ10, l10, y10, z10⟩, st10⟩ := X6.virtualBack hx (y := (⟨"com/example/mirk/mirk/eval/Measure", "overAll", "(DI)D"⟩ : MethodName)) (z := (⟨"com/example/mirk/mirk/eval/Measure", "overAll", "(DI)D"⟩ : MethodName)) hown (mvT hZ (hw _ (List.mem_of_getElem? (i := 9) rfl))) (mvT hZ (hw _ (List.mem_of_getElem? (i := 10) rfl))) (notFace_of_selects (args := #[]) (mvT hZ (hw _ (List.mem_of_getElem? (i := 12) rfl)))) (mvT hZ (hw _ (List.mem_of_getElem? (i := 12) rfl))) (mvT hZ (hw _ (List.mem_of_getElem? (i := 11) rfl))) (by decide) (backOf (W := 0) (rm2 l Z aZ hw [] s_NUM_Q (v0_8 p1) p2 (1 : Int32) h0 n0 Z0 F_NUM_Q_count (own_sum p1)) hZ (hw _ (List.mem_of_getElem? (i := 13) rfl)) (hw _ (List.mem_of_getElem? (i := 6) rfl)) (by decide) (by decide)) q10a q10c (g := (mkF m 27 #[.val (.int p0), .val (.int p1), .val (.int p2), .val (.int (0 : Int32)), .val (.ref s_NUM_Q), .val (.double (v0_8 p1)), .second, .unset, .unset, .unset, .unset] [(.int p2), (.double (v0_8 p1)), (.ref s_NUM_Q)])) rfl (by rw [hml]; rfl) (Steps.refl _) (argsL := [(.double (v0_8 p1)), (.int p2)]) (rest := []) (lenOf pd_91 rfl) rfl (by show 2 * 0 + _ ≤ _; exact Nat.le_of_eq rfl) (hb hby at_27) (fun _ _ => ⟨rfl, e6, (by decide : 0 + 0 ≤ _), (by decide : 0 + 0 ≤ _)⟩)
    dsimp only [Pt.U, Pt.locs, Pt.cells, Pt.slots] at X10 l10 y10 z10 st10 hQ10
    subst l10 y10 z10
    obtain ⟨rfl, N10q, e10⟩ := hQ10
    have N10 := Fr.app N6 N10q
    have go11 : ∀ t, Steps p.tables e below (T10.setTop (mkF m 30 #[.val (.int p0), .val (.int p1), .val (.int p2), .val (.int (0 : Int32)), .val (.ref s_NUM_Q), .val (.double (v0_8 p1)), .second, .unset, .unset, .unset, .unset] [(.double (v0_8 p1))])) t → Steps p.tables e below (s₁.setTop (entryFrame m #[(.int p0), (.int p1), (.int p2)] maxLocals)) t := fun t k => go9 _ (st10.trans k)
    have go13 : ∀ t, Steps p.tables e below (T10.setTop (mkF m 74 #[.val (.int p0), .val (.int p1), .val (.int p2), .val (.int (0 : Int32)), .val (.ref s_NUM_Q), .val (.double (v0_8 p1)), .second, .val (.double (v0_8 p1)), .second, .val (.double (v0_8 p1)), .second] [(.int (b0_14 p1))])) t → Steps p.tables e below (s₁.setTop (entryFrame m #[(.int p0), (.int p1), (.int p2)] maxLocals)) t := by
      intro t k
      refine go11 _ ?_
      refine XS.dstore X10.here hx rfl (hb hby at_30) rfl (l' := #[.val (.int p0), .val (.int p1), .val (.int p2), .val (.int (0 : Int32)), .val (.ref s_NUM_Q), .val (.double (v0_8 p1)), .second, .val (.double (v0_8 p1)), .second, .unset, .unset]) rfl ?_
      show Steps p.tables e below (T10.setTop (mkF m 32 #[.val (.int p0), .val (.int p1), .val (.int p2), .val (.int (0 : Int32)), .val (.ref s_NUM_Q), .val (.double (v0_8 p1)), .second, .val (.double (v0_8 p1)), .second, .unset, .unset] [])) t
      refine XS.iloadN X10.here hx rfl (hb hby at_32) rfl ?_
      show Steps p.tables e below (T10.setTop (mkF m 33 #[.val (.int p0), .val (.int p1), .val (.int p2), .val (.int (0 : Int32)), .val (.ref s_NUM_Q), .val (.double (v0_8 p1)), .second, .val (.double (v0_8 p1)), .second, .unset, .unset] [(.int (0 : Int32))])) t
      refine XS.iconst X10.here hx rfl (hb hby at_33) ?_
      show Steps p.tables e below (T10.setTop (mkF m 34 #[.val (.int p0), .val (.int p1), .val (.int p2), .val (.int (0 : Int32)), .val (.ref s_NUM_Q), .val (.double (v0_8 p1)), .second, .val (.double (v0_8 p1)), .second, .unset, .unset] [(.int (4 : Int32)), (.int (0 : Int32))])) t
      refine XS.icmpNo X10.here hx rfl (hb hby at_34) rfl (XT.ii_ge_f (by decide : ((0 : Int32) < (4 : Int32)))) ?_
      show Steps p.tables e below (T10.setTop (mkF m 37 #[.val (.int p0), .val (.int p1), .val (.int p2), .val (.int (0 : Int32)), .val (.ref s_NUM_Q), .val (.double (v0_8 p1)), .second, .val (.double (v0_8 p1)), .second, .unset, .unset] [])) t
      refine XS.dload X10.here hx rfl (hb hby at_37) rfl ?_
      show Steps p.tables e below (T10.setTop (mkF m 39 #[.val (.int p0), .val (.int p1), .val (.int p2), .val (.int (0 : Int32)), .val (.ref s_NUM_Q), .val (.double (v0_8 p1)), .second, .val (.double (v0_8 p1)), .second, .unset, .unset] [(.double (v0_8 p1))])) t
      refine XS.dstore X10.here hx rfl (hb hby at_39) rfl (l' := #[.val (.int p0), .val (.int p1), .val (.int p2), .val (.int (0 : Int32)), .val (.ref s_NUM_Q), .val (.double (v0_8 p1)), .second, .val (.double (v0_8 p1)), .second, .val (.double (v0_8 p1)), .second]) rfl ?_
      show Steps p.tables e below (T10.setTop (mkF m 41 #[.val (.int p0), .val (.int p1), .val (.int p2), .val (.int (0 : Int32)), .val (.ref s_NUM_Q), .val (.double (v0_8 p1)), .second, .val (.double (v0_8 p1)), .second, .val (.double (v0_8 p1)), .second] [])) t
      refine XS.goto X10.here hx rfl (pc0 := 41) (pc' := 61) rfl (hb hby at_41) (by decide) (by decide) ?_
      show Steps p.tables e below (T10.setTop (mkF m 61 #[.val (.int p0), .val (.int p1), .val (.int p2), .val (.int (0 : Int32)), .val (.ref s_NUM_Q), .val (.double (v0_8 p1)), .second, .val (.double (v0_8 p1)), .second, .val (.double (v0_8 p1)), .second] [])) t
      refine XS.dload X10.here hx rfl (hb hby at_61) rfl ?_
      show Steps p.tables e below (T10.setTop (mkF m 63 #[.val (.int p0), .val (.int p1), .val (.int p2), .val (.int (0 : Int32)), .val (.ref s_NUM_Q), .val (.double (v0_8 p1)), .second, .val (.double (v0_8 p1)), .second, .val (.double (v0_8 p1)), .second] [(.double (v0_8 p1))])) t
      refine XS.dload X10.here hx rfl (hb hby at_63) rfl ?_
      show Steps p.tables e below (T10.setTop (mkF m 65 #[.val (.int p0), .val (.int p1), .val (.int p2), .val (.int (0 : Int32)), .val (.ref s_NUM_Q), .val (.double (v0_8 p1)), .second, .val (.double (v0_8 p1)), .second, .val (.double (v0_8 p1)), .second] [(.double (v0_8 p1)), (.double (v0_8 p1))])) t
      refine XS.dcmpS X10.here hx rfl (hb hby at_65) rfl (v := (cmpValue (FP.dcmp (v0_8 p1) (v0_8 p1)) .l)) rfl ?_
      show Steps p.tables e below (T10.setTop (mkF m 66 #[.val (.int p0), .val (.int p1), .val (.int p2), .val (.int (0 : Int32)), .val (.ref s_NUM_Q), .val (.double (v0_8 p1)), .second, .val (.double (v0_8 p1)), .second, .val (.double (v0_8 p1)), .second] [(.int (cmpValue (FP.dcmp (v0_8 p1) (v0_8 p1)) .l))])) t
      by_cases hc12 : (cmpValue (FP.dcmp (v0_8 p1) (v0_8 p1)) .l) = (0 : Int32)
      · refine XS.ifNo X10.here hx rfl (hb hby at_66) rfl (XT.i0_ne_f hc12) ?_
        show Steps p.tables e below (T10.setTop (mkF m 69 #[.val (.int p0), .val (.int p1), .val (.int p2), .val (.int (0 : Int32)), .val (.ref s_NUM_Q), .val (.double (v0_8 p1)), .second, .val (.double (v0_8 p1)), .second, .val (.double (v0_8 p1)), .second] [])) t
        refine XS.iconst X10.here hx rfl (hb hby at_69) ?_
        show Steps p.tables e below (T10.setTop (mkF m 70 #[.val (.int p0), .val (.int p1), .val (.int p2), .val (.int (0 : Int32)), .val (.ref s_NUM_Q), .val (.double (v0_8 p1)), .second, .val (.double (v0_8 p1)), .second, .val (.double (v0_8 p1)), .second] [(.int (1 : Int32))])) t
        refine XS.goto X10.here hx rfl (pc0 := 70) (pc' := 74) rfl (hb hby at_70) (by decide) (by decide) ?_
        show Steps p.tables e below (T10.setTop (mkF m 74 #[.val (.int p0), .val (.int p1), .val (.int p2), .val (.int (0 : Int32)), .val (.ref s_NUM_Q), .val (.double (v0_8 p1)), .second, .val (.double (v0_8 p1)), .second, .val (.double (v0_8 p1)), .second] [(.int (1 : Int32))])) t
        have hq15 : (b0_14 p1) = (1 : Int32) := by rw [b0_14, if_pos hc12]
        rw [hq15] at k
        exact k
      · refine XS.ifYes X10.here hx rfl (pc0 := 66) (pc' := 73) rfl (hb hby at_66) rfl (XT.i0_ne_t hc12) (by decide) (by decide) ?_
        show Steps p.tables e below (T10.setTop (mkF m 73 #[.val (.int p0), .val (.int p1), .val (.int p2), .val (.int (0 : Int32)), .val (.ref s_NUM_Q), .val (.double (v0_8 p1)), .second, .val (.double (v0_8 p1)), .second, .val (.double (v0_8 p1)), .second] [])) t
        refine XS.iconst X10.here hx rfl (hb hby at_73) ?_
        show Steps p.tables e below (T10.setTop (mkF m 74 #[.val (.int p0), .val (.int p1), .val (.int p2), .val (.int (0 : Int32)), .val (.ref s_NUM_Q), .val (.double (v0_8 p1)), .second, .val (.double (v0_8 p1)), .second, .val (.double (v0_8 p1)), .second] [(.int (0 : Int32))])) t
        have hq16 : (b0_14 p1) = (0 : Int32) := by rw [b0_14, if_neg hc12]
        rw [hq16] at k
        exact k
    obtain ⟨fs, hr, hrun, hended, hW, hsame⟩ := X10.leave (v := some (.int (b0_14 p1))) (fun h => by rw [Bd.returns] at h; cases h)
    refine ⟨_, _, go13 _ (Jvm.RoadKit.retOut X10 hx Bd.returns (own_nz (by unfold b0_14; (repeat' split) <;> first | exact Or.inl rfl | exact Or.inr rfl)) (Or.inl ⟨rfl, Or.inr (Or.inl rfl), _, rfl⟩) (hb hby at_74) hr), hrun, hended, _, _, rfl, ?_, ⟨_, rfl⟩, hW, hsame.mono (by decide) (by decide)⟩
    show Q0 _ _ p0 p1 p2 s_NUM_Q s_NUM_RET s_NDCG_CUT_10 s_RPREC s_P_5 s_P_10 s_P_20 s_NUM_REL_RET s_RECALL_10 s_NUM_REL s_MAP s_RECIP_RANK s_BPREF s_NDCG s_RECALL_100 h0 _ (T10.setFrames fs).heap _
    have hE : (T10.setFrames fs).heap = h0 := e10
    rw [hE]
    exact ⟨congrArg (fun z => some (Value.int z)) ((by rw [f0, if_pos hs3] : (b0_14 p1) = (f0 p0 p1 p2)).trans (f0_one p0 p1 p2)), N10⟩
  · by_cases hs17 : (v0_1 p0) = (1 : Int32)
    · have go18 : ∀ t, Steps p.tables e below (s₁.setTop (mkF m 8 #[.val (.int p0), .val (.int p1), .val (.int p2), .val (.int (1 : Int32)), .unset, .unset, .unset, .unset, .unset, .unset, .unset] [])) t → Steps p.tables e below (s₁.setTop (entryFrame m #[(.int p0), (.int p1), (.int p2)] maxLocals)) t := by
        have q := go2
        rw [hs17] at q
        exact q
      have go19 : ∀ t, Steps p.tables e below (s₁.setTop (mkF m 9 #[.val (.int p0), .val (.int p1), .val (.int p2), .val (.int (1 : Int32)), .unset, .unset, .unset, .unset, .unset, .unset, .unset] [(.int (1 : Int32))])) t → Steps p.tables e below (s₁.setTop (entryFrame m #[(.int p0), (.int p1), (.int p2)] maxLocals)) t := by
        intro t k
        refine go18 _ ?_
        refine XS.iloadN X0.here hx rfl (hb hby at_8) rfl ?_
        show Steps p.tables e below (s₁.setTop (mkF m 9 #[.val (.int p0), .val (.int p1), .val (.int p2), .val (.int (1 : Int32)), .unset, .unset, .unset, .unset, .unset, .unset, .unset] [(.int (1 : Int32))])) t
        exact k
      obtain ⟨_, _, ⟨T20, L20, k20, n20⟩, -, X20, ⟨Lc20, hQ20, l20, y20, z20⟩, st20⟩ := Jvm.LawKit.callS X0 hx (y := (⟨"com/example/mirk/mirk/eval/MeasureOverAllPinLaw", "pick", "(I)Lcom/example/mirk/mirk/eval/Measure;"⟩ : MethodName)) hown (mvT hZ (hw _ (List.mem_of_getElem? (i := 1) rfl))) (mvT hZ (hw _ (List.mem_of_getElem? (i := 2) rfl))) (mvT hZ (hw _ (List.mem_of_getElem? (i := 3) rfl))) (mvT hZ (hw _ (List.mem_of_getElem? (i := 4) rfl))) (by decide) (backOf (W := 0) (rm1 l Z aZ hw [] (1 : Int32) s_NUM_Q s_NUM_RET s_NUM_REL s_NUM_REL_RET s_MAP s_RPREC s_BPREF s_RECIP_RANK s_P_5 s_P_10 s_P_20 s_RECALL_10 s_RECALL_100 s_NDCG s_NDCG_CUT_10 h0 n0 Z0 S_NUM_Q S_NUM_RET S_NUM_REL S_NUM_REL_RET S_MAP S_RPREC S_BPREF S_RECIP_RANK S_P_5 S_P_10 S_P_20 S_RECALL_10 S_RECALL_100 S_NDCG S_NDCG_CUT_10) hZ (hw _ (List.mem_of_getElem? (i := 4) rfl)) (hw _ (List.mem_of_getElem? (i := 3) rfl)) (by decide) (by decide)) (g := (mkF m 9 #[.val (.int p0), .val (.int p1), .val (.int p2), .val (.int (1 : Int32)), .unset, .unset, .unset, .unset, .unset, .unset, .unset] [(.int (1 : Int32))])) rfl (by rw [hml]; rfl) (argsL := [(.int (1 : Int32))]) (rest := []) (lenOf pd_89 rfl) rfl (by show 2 * 0 + _ ≤ _; exact Nat.le_of_eq rfl) (hb hby at_9) (fun _ _ => ⟨rfl, e0, (by decide : 0 + 0 ≤ _), (by decide : 0 + 0 ≤ _)⟩)
      dsimp only [Pt.U, Pt.locs, Pt.cells, Pt.slots] at X20 l20 y20 z20 st20 hQ20
      subst l20 y20 z20
      obtain ⟨rfl, N20q, e20⟩ := hQ20
      have N20 := Fr.app N0 N20q
      have go21 : ∀ t, Steps p.tables e below (T20.setTop (mkF m 12 #[.val (.int p0), .val (.int p1), .val (.int p2), .val (.int (1 : Int32)), .unset, .unset, .unset, .unset, .unset, .unset, .unset] [(.ref s_NUM_RET)])) t → Steps p.tables e below (s₁.setTop (entryFrame m #[(.int p0), (.int p1), (.int p2)] maxLocals)) t := fun t k => go19 _ (st20 _ k)
      have go22 : ∀ t, Steps p.tables e below (T20.setTop (mkF m 27 #[.val (.int p0), .val (.int p1), .val (.int p2), .val (.int (1 : Int32)), .val (.ref s_NUM_RET), .val (.double (v0_8 p1)), .second, .unset, .unset, .unset, .unset] [(.int p2), (.double (v0_8 p1)), (.ref s_NUM_RET)])) t → Steps p.tables e below (s₁.setTop (entryFrame m #[(.int p0), (.int p1), (.int p2)] maxLocals)) t := by
        intro t k
        refine go21 _ ?_
        refine XS.astore X20.here hx rfl (hb hby at_12) rfl rfl (l' := #[.val (.int p0), .val (.int p1), .val (.int p2), .val (.int (1 : Int32)), .val (.ref s_NUM_RET), .unset, .unset, .unset, .unset, .unset, .unset]) rfl ?_
        show Steps p.tables e below (T20.setTop (mkF m 14 #[.val (.int p0), .val (.int p1), .val (.int p2), .val (.int (1 : Int32)), .val (.ref s_NUM_RET), .unset, .unset, .unset, .unset, .unset, .unset] [])) t
        refine XS.iloadN X20.here hx rfl (hb hby at_14) rfl ?_
        show Steps p.tables e below (T20.setTop (mkF m 15 #[.val (.int p0), .val (.int p1), .val (.int p2), .val (.int (1 : Int32)), .val (.ref s_NUM_RET), .unset, .unset, .unset, .unset, .unset, .unset] [(.int p1)])) t
        refine XS.i2dS X20.here hx rfl (hb hby at_15) rfl (v := (FP.i2d p1)) rfl ?_
        show Steps p.tables e below (T20.setTop (mkF m 16 #[.val (.int p0), .val (.int p1), .val (.int p2), .val (.int (1 : Int32)), .val (.ref s_NUM_RET), .unset, .unset, .unset, .unset, .unset, .unset] [(.double (FP.i2d p1))])) t
        refine X20.ldc2DoubleC hx hown (mvT hZ (hw _ (List.mem_of_getElem? (i := 8) rfl))) (g := (mkF m 16 #[.val (.int p0), .val (.int p1), .val (.int p2), .val (.int (1 : Int32)), .val (.ref s_NUM_RET), .unset, .unset, .unset, .unset, .unset, .unset] [(.double (FP.i2d p1))])) rfl (hb hby at_16) _ ?_
        show Steps p.tables e below (T20.setTop (mkF m 19 #[.val (.int p0), .val (.int p1), .val (.int p2), .val (.int (1 : Int32)), .val (.ref s_NUM_RET), .unset, .unset, .unset, .unset, .unset, .unset] [(.double (4598175219545276416 : UInt64)), (.double (FP.i2d p1))])) t
        refine XS.dmulS X20.here hx rfl (hb hby at_19) rfl (own_sum p1) (v := (FP.dmul (FP.i2d p1) (4598175219545276416 : UInt64))) rfl ?_
        show Steps p.tables e below (T20.setTop (mkF m 20 #[.val (.int p0), .val (.int p1), .val (.int p2), .val (.int (1 : Int32)), .val (.ref s_NUM_RET), .unset, .unset, .unset, .unset, .unset, .unset] [(.double (FP.dmul (FP.i2d p1) (4598175219545276416 : UInt64)))])) t
        show Steps p.tables e below (T20.setTop (mkF m 20 #[.val (.int p0), .val (.int p1), .val (.int p2), .val (.int (1 : Int32)), .val (.ref s_NUM_RET), .unset, .unset, .unset, .unset, .unset, .unset] [(.double (v0_8 p1))])) t
        refine XS.dstore X20.here hx rfl (hb hby at_20) rfl (l' := #[.val (.int p0), .val (.int p1), .val (.int p2), .val (.int (1 : Int32)), .val (.ref s_NUM_RET), .val (.double (v0_8 p1)), .second, .unset, .unset, .unset, .unset]) rfl ?_
        show Steps p.tables e below (T20.setTop (mkF m 22 #[.val (.int p0), .val (.int p1), .val (.int p2), .val (.int (1 : Int32)), .val (.ref s_NUM_RET), .val (.double (v0_8 p1)), .second, .unset, .unset, .unset, .unset] [])) t
        refine XS.aload X20.here hx rfl (hb hby at_22) rfl rfl ?_
        show Steps p.tables e below (T20.setTop (mkF m 24 #[.val (.int p0), .val (.int p1), .val (.int p2), .val (.int (1 : Int32)), .val (.ref s_NUM_RET), .val (.double (v0_8 p1)), .second, .unset, .unset, .unset, .unset] [(.ref s_NUM_RET)])) t
        refine XS.dload X20.here hx rfl (hb hby at_24) rfl ?_
        show Steps p.tables e below (T20.setTop (mkF m 26 #[.val (.int p0), .val (.int p1), .val (.int p2), .val (.int (1 : Int32)), .val (.ref s_NUM_RET), .val (.double (v0_8 p1)), .second, .unset, .unset, .unset, .unset] [(.double (v0_8 p1)), (.ref s_NUM_RET)])) t
        refine XS.iloadN X20.here hx rfl (hb hby at_26) rfl ?_
        show Steps p.tables e below (T20.setTop (mkF m 27 #[.val (.int p0), .val (.int p1), .val (.int p2), .val (.int (1 : Int32)), .val (.ref s_NUM_RET), .val (.double (v0_8 p1)), .second, .unset, .unset, .unset, .unset] [(.int p2), (.double (v0_8 p1)), (.ref s_NUM_RET)])) t
        exact k
      obtain ⟨cq23, kq23, q23a, q23b, q23c⟩ := isOf hZ e20 E_NUM_RET
      obtain ⟨_, _, ⟨T23, L23, k23, n23⟩, -, X23, ⟨Lc23, hQ23, l23, y23, z23⟩, st23⟩ := X20.virtualBack hx (y := (⟨"com/example/mirk/mirk/eval/Measure", "overAll", "(DI)D"⟩ : MethodName)) (z := (⟨"com/example/mirk/mirk/eval/Measure", "overAll", "(DI)D"⟩ : MethodName)) hown (mvT hZ (hw _ (List.mem_of_getElem? (i := 9) rfl))) (mvT hZ (hw _ (List.mem_of_getElem? (i := 10) rfl))) (notFace_of_selects (args := #[]) (mvT hZ (hw _ (List.mem_of_getElem? (i := 12) rfl)))) (mvT hZ (hw _ (List.mem_of_getElem? (i := 12) rfl))) (mvT hZ (hw _ (List.mem_of_getElem? (i := 11) rfl))) (by decide) (backOf (W := 0) (rm2 l Z aZ hw [] s_NUM_RET (v0_8 p1) p2 (1 : Int32) h0 n0 Z0 F_NUM_RET_count (own_sum p1)) hZ (hw _ (List.mem_of_getElem? (i := 13) rfl)) (hw _ (List.mem_of_getElem? (i := 6) rfl)) (by decide) (by decide)) q23a q23c (g := (mkF m 27 #[.val (.int p0), .val (.int p1), .val (.int p2), .val (.int (1 : Int32)), .val (.ref s_NUM_RET), .val (.double (v0_8 p1)), .second, .unset, .unset, .unset, .unset] [(.int p2), (.double (v0_8 p1)), (.ref s_NUM_RET)])) rfl (by rw [hml]; rfl) (Steps.refl _) (argsL := [(.double (v0_8 p1)), (.int p2)]) (rest := []) (lenOf pd_91 rfl) rfl (by show 2 * 0 + _ ≤ _; exact Nat.le_of_eq rfl) (hb hby at_27) (fun _ _ => ⟨rfl, e20, (by decide : 0 + 0 ≤ _), (by decide : 0 + 0 ≤ _)⟩)
      dsimp only [Pt.U, Pt.locs, Pt.cells, Pt.slots] at X23 l23 y23 z23 st23 hQ23
      subst l23 y23 z23
      obtain ⟨rfl, N23q, e23⟩ := hQ23
      have N23 := Fr.app N20 N23q
      have go24 : ∀ t, Steps p.tables e below (T23.setTop (mkF m 30 #[.val (.int p0), .val (.int p1), .val (.int p2), .val (.int (1 : Int32)), .val (.ref s_NUM_RET), .val (.double (v0_8 p1)), .second, .unset, .unset, .unset, .unset] [(.double (v0_8 p1))])) t → Steps p.tables e below (s₁.setTop (entryFrame m #[(.int p0), (.int p1), (.int p2)] maxLocals)) t := fun t k => go22 _ (st23.trans k)
      have go26 : ∀ t, Steps p.tables e below (T23.setTop (mkF m 74 #[.val (.int p0), .val (.int p1), .val (.int p2), .val (.int (1 : Int32)), .val (.ref s_NUM_RET), .val (.double (v0_8 p1)), .second, .val (.double (v0_8 p1)), .second, .val (.double (v0_8 p1)), .second] [(.int (b0_14 p1))])) t → Steps p.tables e below (s₁.setTop (entryFrame m #[(.int p0), (.int p1), (.int p2)] maxLocals)) t := by
        intro t k
        refine go24 _ ?_
        refine XS.dstore X23.here hx rfl (hb hby at_30) rfl (l' := #[.val (.int p0), .val (.int p1), .val (.int p2), .val (.int (1 : Int32)), .val (.ref s_NUM_RET), .val (.double (v0_8 p1)), .second, .val (.double (v0_8 p1)), .second, .unset, .unset]) rfl ?_
        show Steps p.tables e below (T23.setTop (mkF m 32 #[.val (.int p0), .val (.int p1), .val (.int p2), .val (.int (1 : Int32)), .val (.ref s_NUM_RET), .val (.double (v0_8 p1)), .second, .val (.double (v0_8 p1)), .second, .unset, .unset] [])) t
        refine XS.iloadN X23.here hx rfl (hb hby at_32) rfl ?_
        show Steps p.tables e below (T23.setTop (mkF m 33 #[.val (.int p0), .val (.int p1), .val (.int p2), .val (.int (1 : Int32)), .val (.ref s_NUM_RET), .val (.double (v0_8 p1)), .second, .val (.double (v0_8 p1)), .second, .unset, .unset] [(.int (1 : Int32))])) t
        refine XS.iconst X23.here hx rfl (hb hby at_33) ?_
        show Steps p.tables e below (T23.setTop (mkF m 34 #[.val (.int p0), .val (.int p1), .val (.int p2), .val (.int (1 : Int32)), .val (.ref s_NUM_RET), .val (.double (v0_8 p1)), .second, .val (.double (v0_8 p1)), .second, .unset, .unset] [(.int (4 : Int32)), (.int (1 : Int32))])) t
        refine XS.icmpNo X23.here hx rfl (hb hby at_34) rfl (XT.ii_ge_f (by decide : ((1 : Int32) < (4 : Int32)))) ?_
        show Steps p.tables e below (T23.setTop (mkF m 37 #[.val (.int p0), .val (.int p1), .val (.int p2), .val (.int (1 : Int32)), .val (.ref s_NUM_RET), .val (.double (v0_8 p1)), .second, .val (.double (v0_8 p1)), .second, .unset, .unset] [])) t
        refine XS.dload X23.here hx rfl (hb hby at_37) rfl ?_
        show Steps p.tables e below (T23.setTop (mkF m 39 #[.val (.int p0), .val (.int p1), .val (.int p2), .val (.int (1 : Int32)), .val (.ref s_NUM_RET), .val (.double (v0_8 p1)), .second, .val (.double (v0_8 p1)), .second, .unset, .unset] [(.double (v0_8 p1))])) t
        refine XS.dstore X23.here hx rfl (hb hby at_39) rfl (l' := #[.val (.int p0), .val (.int p1), .val (.int p2), .val (.int (1 : Int32)), .val (.ref s_NUM_RET), .val (.double (v0_8 p1)), .second, .val (.double (v0_8 p1)), .second, .val (.double (v0_8 p1)), .second]) rfl ?_
        show Steps p.tables e below (T23.setTop (mkF m 41 #[.val (.int p0), .val (.int p1), .val (.int p2), .val (.int (1 : Int32)), .val (.ref s_NUM_RET), .val (.double (v0_8 p1)), .second, .val (.double (v0_8 p1)), .second, .val (.double (v0_8 p1)), .second] [])) t
        refine XS.goto X23.here hx rfl (pc0 := 41) (pc' := 61) rfl (hb hby at_41) (by decide) (by decide) ?_
        show Steps p.tables e below (T23.setTop (mkF m 61 #[.val (.int p0), .val (.int p1), .val (.int p2), .val (.int (1 : Int32)), .val (.ref s_NUM_RET), .val (.double (v0_8 p1)), .second, .val (.double (v0_8 p1)), .second, .val (.double (v0_8 p1)), .second] [])) t
        refine XS.dload X23.here hx rfl (hb hby at_61) rfl ?_
        show Steps p.tables e below (T23.setTop (mkF m 63 #[.val (.int p0), .val (.int p1), .val (.int p2), .val (.int (1 : Int32)), .val (.ref s_NUM_RET), .val (.double (v0_8 p1)), .second, .val (.double (v0_8 p1)), .second, .val (.double (v0_8 p1)), .second] [(.double (v0_8 p1))])) t
        refine XS.dload X23.here hx rfl (hb hby at_63) rfl ?_
        show Steps p.tables e below (T23.setTop (mkF m 65 #[.val (.int p0), .val (.int p1), .val (.int p2), .val (.int (1 : Int32)), .val (.ref s_NUM_RET), .val (.double (v0_8 p1)), .second, .val (.double (v0_8 p1)), .second, .val (.double (v0_8 p1)), .second] [(.double (v0_8 p1)), (.double (v0_8 p1))])) t
        refine XS.dcmpS X23.here hx rfl (hb hby at_65) rfl (v := (cmpValue (FP.dcmp (v0_8 p1) (v0_8 p1)) .l)) rfl ?_
        show Steps p.tables e below (T23.setTop (mkF m 66 #[.val (.int p0), .val (.int p1), .val (.int p2), .val (.int (1 : Int32)), .val (.ref s_NUM_RET), .val (.double (v0_8 p1)), .second, .val (.double (v0_8 p1)), .second, .val (.double (v0_8 p1)), .second] [(.int (cmpValue (FP.dcmp (v0_8 p1) (v0_8 p1)) .l))])) t
        by_cases hc25 : (cmpValue (FP.dcmp (v0_8 p1) (v0_8 p1)) .l) = (0 : Int32)
        · refine XS.ifNo X23.here hx rfl (hb hby at_66) rfl (XT.i0_ne_f hc25) ?_
          show Steps p.tables e below (T23.setTop (mkF m 69 #[.val (.int p0), .val (.int p1), .val (.int p2), .val (.int (1 : Int32)), .val (.ref s_NUM_RET), .val (.double (v0_8 p1)), .second, .val (.double (v0_8 p1)), .second, .val (.double (v0_8 p1)), .second] [])) t
          refine XS.iconst X23.here hx rfl (hb hby at_69) ?_
          show Steps p.tables e below (T23.setTop (mkF m 70 #[.val (.int p0), .val (.int p1), .val (.int p2), .val (.int (1 : Int32)), .val (.ref s_NUM_RET), .val (.double (v0_8 p1)), .second, .val (.double (v0_8 p1)), .second, .val (.double (v0_8 p1)), .second] [(.int (1 : Int32))])) t
          refine XS.goto X23.here hx rfl (pc0 := 70) (pc' := 74) rfl (hb hby at_70) (by decide) (by decide) ?_
          show Steps p.tables e below (T23.setTop (mkF m 74 #[.val (.int p0), .val (.int p1), .val (.int p2), .val (.int (1 : Int32)), .val (.ref s_NUM_RET), .val (.double (v0_8 p1)), .second, .val (.double (v0_8 p1)), .second, .val (.double (v0_8 p1)), .second] [(.int (1 : Int32))])) t
          have hq27 : (b0_14 p1) = (1 : Int32) := by rw [b0_14, if_pos hc25]
          rw [hq27] at k
          exact k
        · refine XS.ifYes X23.here hx rfl (pc0 := 66) (pc' := 73) rfl (hb hby at_66) rfl (XT.i0_ne_t hc25) (by decide) (by decide) ?_
          show Steps p.tables e below (T23.setTop (mkF m 73 #[.val (.int p0), .val (.int p1), .val (.int p2), .val (.int (1 : Int32)), .val (.ref s_NUM_RET), .val (.double (v0_8 p1)), .second, .val (.double (v0_8 p1)), .second, .val (.double (v0_8 p1)), .second] [])) t
          refine XS.iconst X23.here hx rfl (hb hby at_73) ?_
          show Steps p.tables e below (T23.setTop (mkF m 74 #[.val (.int p0), .val (.int p1), .val (.int p2), .val (.int (1 : Int32)), .val (.ref s_NUM_RET), .val (.double (v0_8 p1)), .second, .val (.double (v0_8 p1)), .second, .val (.double (v0_8 p1)), .second] [(.int (0 : Int32))])) t
          have hq28 : (b0_14 p1) = (0 : Int32) := by rw [b0_14, if_neg hc25]
          rw [hq28] at k
          exact k
      obtain ⟨fs, hr, hrun, hended, hW, hsame⟩ := X23.leave (v := some (.int (b0_14 p1))) (fun h => by rw [Bd.returns] at h; cases h)
      refine ⟨_, _, go26 _ (Jvm.RoadKit.retOut X23 hx Bd.returns (own_nz (by unfold b0_14; (repeat' split) <;> first | exact Or.inl rfl | exact Or.inr rfl)) (Or.inl ⟨rfl, Or.inr (Or.inl rfl), _, rfl⟩) (hb hby at_74) hr), hrun, hended, _, _, rfl, ?_, ⟨_, rfl⟩, hW, hsame.mono (by decide) (by decide)⟩
      show Q0 _ _ p0 p1 p2 s_NUM_Q s_NUM_RET s_NDCG_CUT_10 s_RPREC s_P_5 s_P_10 s_P_20 s_NUM_REL_RET s_RECALL_10 s_NUM_REL s_MAP s_RECIP_RANK s_BPREF s_NDCG s_RECALL_100 h0 _ (T23.setFrames fs).heap _
      have hE : (T23.setFrames fs).heap = h0 := e23
      rw [hE]
      exact ⟨congrArg (fun z => some (Value.int z)) ((by rw [f0, if_neg hs3, if_pos hs17] : (b0_14 p1) = (f0 p0 p1 p2)).trans (f0_one p0 p1 p2)), N23⟩
    · by_cases hs29 : (v0_1 p0) = (2 : Int32)
      · have go30 : ∀ t, Steps p.tables e below (s₁.setTop (mkF m 8 #[.val (.int p0), .val (.int p1), .val (.int p2), .val (.int (2 : Int32)), .unset, .unset, .unset, .unset, .unset, .unset, .unset] [])) t → Steps p.tables e below (s₁.setTop (entryFrame m #[(.int p0), (.int p1), (.int p2)] maxLocals)) t := by
          have q := go2
          rw [hs29] at q
          exact q
        have go31 : ∀ t, Steps p.tables e below (s₁.setTop (mkF m 9 #[.val (.int p0), .val (.int p1), .val (.int p2), .val (.int (2 : Int32)), .unset, .unset, .unset, .unset, .unset, .unset, .unset] [(.int (2 : Int32))])) t → Steps p.tables e below (s₁.setTop (entryFrame m #[(.int p0), (.int p1), (.int p2)] maxLocals)) t := by
          intro t k
          refine go30 _ ?_
          refine XS.iloadN X0.here hx rfl (hb hby at_8) rfl ?_
          show Steps p.tables e below (s₁.setTop (mkF m 9 #[.val (.int p0), .val (.int p1), .val (.int p2), .val (.int (2 : Int32)), .unset, .unset, .unset, .unset, .unset, .unset, .unset] [(.int (2 : Int32))])) t
          exact k
        obtain ⟨_, _, ⟨T32, L32, k32, n32⟩, -, X32, ⟨Lc32, hQ32, l32, y32, z32⟩, st32⟩ := Jvm.LawKit.callS X0 hx (y := (⟨"com/example/mirk/mirk/eval/MeasureOverAllPinLaw", "pick", "(I)Lcom/example/mirk/mirk/eval/Measure;"⟩ : MethodName)) hown (mvT hZ (hw _ (List.mem_of_getElem? (i := 1) rfl))) (mvT hZ (hw _ (List.mem_of_getElem? (i := 2) rfl))) (mvT hZ (hw _ (List.mem_of_getElem? (i := 3) rfl))) (mvT hZ (hw _ (List.mem_of_getElem? (i := 4) rfl))) (by decide) (backOf (W := 0) (rm1 l Z aZ hw [] (2 : Int32) s_NUM_Q s_NUM_RET s_NUM_REL s_NUM_REL_RET s_MAP s_RPREC s_BPREF s_RECIP_RANK s_P_5 s_P_10 s_P_20 s_RECALL_10 s_RECALL_100 s_NDCG s_NDCG_CUT_10 h0 n0 Z0 S_NUM_Q S_NUM_RET S_NUM_REL S_NUM_REL_RET S_MAP S_RPREC S_BPREF S_RECIP_RANK S_P_5 S_P_10 S_P_20 S_RECALL_10 S_RECALL_100 S_NDCG S_NDCG_CUT_10) hZ (hw _ (List.mem_of_getElem? (i := 4) rfl)) (hw _ (List.mem_of_getElem? (i := 3) rfl)) (by decide) (by decide)) (g := (mkF m 9 #[.val (.int p0), .val (.int p1), .val (.int p2), .val (.int (2 : Int32)), .unset, .unset, .unset, .unset, .unset, .unset, .unset] [(.int (2 : Int32))])) rfl (by rw [hml]; rfl) (argsL := [(.int (2 : Int32))]) (rest := []) (lenOf pd_89 rfl) rfl (by show 2 * 0 + _ ≤ _; exact Nat.le_of_eq rfl) (hb hby at_9) (fun _ _ => ⟨rfl, e0, (by decide : 0 + 0 ≤ _), (by decide : 0 + 0 ≤ _)⟩)
        dsimp only [Pt.U, Pt.locs, Pt.cells, Pt.slots] at X32 l32 y32 z32 st32 hQ32
        subst l32 y32 z32
        obtain ⟨rfl, N32q, e32⟩ := hQ32
        have N32 := Fr.app N0 N32q
        have go33 : ∀ t, Steps p.tables e below (T32.setTop (mkF m 12 #[.val (.int p0), .val (.int p1), .val (.int p2), .val (.int (2 : Int32)), .unset, .unset, .unset, .unset, .unset, .unset, .unset] [(.ref s_NUM_REL)])) t → Steps p.tables e below (s₁.setTop (entryFrame m #[(.int p0), (.int p1), (.int p2)] maxLocals)) t := fun t k => go31 _ (st32 _ k)
        have go34 : ∀ t, Steps p.tables e below (T32.setTop (mkF m 27 #[.val (.int p0), .val (.int p1), .val (.int p2), .val (.int (2 : Int32)), .val (.ref s_NUM_REL), .val (.double (v0_8 p1)), .second, .unset, .unset, .unset, .unset] [(.int p2), (.double (v0_8 p1)), (.ref s_NUM_REL)])) t → Steps p.tables e below (s₁.setTop (entryFrame m #[(.int p0), (.int p1), (.int p2)] maxLocals)) t := by
          intro t k
          refine go33 _ ?_
          refine XS.astore X32.here hx rfl (hb hby at_12) rfl rfl (l' := #[.val (.int p0), .val (.int p1), .val (.int p2), .val (.int (2 : Int32)), .val (.ref s_NUM_REL), .unset, .unset, .unset, .unset, .unset, .unset]) rfl ?_
          show Steps p.tables e below (T32.setTop (mkF m 14 #[.val (.int p0), .val (.int p1), .val (.int p2), .val (.int (2 : Int32)), .val (.ref s_NUM_REL), .unset, .unset, .unset, .unset, .unset, .unset] [])) t
          refine XS.iloadN X32.here hx rfl (hb hby at_14) rfl ?_
          show Steps p.tables e below (T32.setTop (mkF m 15 #[.val (.int p0), .val (.int p1), .val (.int p2), .val (.int (2 : Int32)), .val (.ref s_NUM_REL), .unset, .unset, .unset, .unset, .unset, .unset] [(.int p1)])) t
          refine XS.i2dS X32.here hx rfl (hb hby at_15) rfl (v := (FP.i2d p1)) rfl ?_
          show Steps p.tables e below (T32.setTop (mkF m 16 #[.val (.int p0), .val (.int p1), .val (.int p2), .val (.int (2 : Int32)), .val (.ref s_NUM_REL), .unset, .unset, .unset, .unset, .unset, .unset] [(.double (FP.i2d p1))])) t
          refine X32.ldc2DoubleC hx hown (mvT hZ (hw _ (List.mem_of_getElem? (i := 8) rfl))) (g := (mkF m 16 #[.val (.int p0), .val (.int p1), .val (.int p2), .val (.int (2 : Int32)), .val (.ref s_NUM_REL), .unset, .unset, .unset, .unset, .unset, .unset] [(.double (FP.i2d p1))])) rfl (hb hby at_16) _ ?_
          show Steps p.tables e below (T32.setTop (mkF m 19 #[.val (.int p0), .val (.int p1), .val (.int p2), .val (.int (2 : Int32)), .val (.ref s_NUM_REL), .unset, .unset, .unset, .unset, .unset, .unset] [(.double (4598175219545276416 : UInt64)), (.double (FP.i2d p1))])) t
          refine XS.dmulS X32.here hx rfl (hb hby at_19) rfl (own_sum p1) (v := (FP.dmul (FP.i2d p1) (4598175219545276416 : UInt64))) rfl ?_
          show Steps p.tables e below (T32.setTop (mkF m 20 #[.val (.int p0), .val (.int p1), .val (.int p2), .val (.int (2 : Int32)), .val (.ref s_NUM_REL), .unset, .unset, .unset, .unset, .unset, .unset] [(.double (FP.dmul (FP.i2d p1) (4598175219545276416 : UInt64)))])) t
          show Steps p.tables e below (T32.setTop (mkF m 20 #[.val (.int p0), .val (.int p1), .val (.int p2), .val (.int (2 : Int32)), .val (.ref s_NUM_REL), .unset, .unset, .unset, .unset, .unset, .unset] [(.double (v0_8 p1))])) t
          refine XS.dstore X32.here hx rfl (hb hby at_20) rfl (l' := #[.val (.int p0), .val (.int p1), .val (.int p2), .val (.int (2 : Int32)), .val (.ref s_NUM_REL), .val (.double (v0_8 p1)), .second, .unset, .unset, .unset, .unset]) rfl ?_
          show Steps p.tables e below (T32.setTop (mkF m 22 #[.val (.int p0), .val (.int p1), .val (.int p2), .val (.int (2 : Int32)), .val (.ref s_NUM_REL), .val (.double (v0_8 p1)), .second, .unset, .unset, .unset, .unset] [])) t
          refine XS.aload X32.here hx rfl (hb hby at_22) rfl rfl ?_
          show Steps p.tables e below (T32.setTop (mkF m 24 #[.val (.int p0), .val (.int p1), .val (.int p2), .val (.int (2 : Int32)), .val (.ref s_NUM_REL), .val (.double (v0_8 p1)), .second, .unset, .unset, .unset, .unset] [(.ref s_NUM_REL)])) t
          refine XS.dload X32.here hx rfl (hb hby at_24) rfl ?_
          show Steps p.tables e below (T32.setTop (mkF m 26 #[.val (.int p0), .val (.int p1), .val (.int p2), .val (.int (2 : Int32)), .val (.ref s_NUM_REL), .val (.double (v0_8 p1)), .second, .unset, .unset, .unset, .unset] [(.double (v0_8 p1)), (.ref s_NUM_REL)])) t
          refine XS.iloadN X32.here hx rfl (hb hby at_26) rfl ?_
          show Steps p.tables e below (T32.setTop (mkF m 27 #[.val (.int p0), .val (.int p1), .val (.int p2), .val (.int (2 : Int32)), .val (.ref s_NUM_REL), .val (.double (v0_8 p1)), .second, .unset, .unset, .unset, .unset] [(.int p2), (.double (v0_8 p1)), (.ref s_NUM_REL)])) t
          exact k
        obtain ⟨cq35, kq35, q35a, q35b, q35c⟩ := isOf hZ e32 E_NUM_REL
        obtain ⟨_, _, ⟨T35, L35, k35, n35⟩, -, X35, ⟨Lc35, hQ35, l35, y35, z35⟩, st35⟩ := X32.virtualBack hx (y := (⟨"com/example/mirk/mirk/eval/Measure", "overAll", "(DI)D"⟩ : MethodName)) (z := (⟨"com/example/mirk/mirk/eval/Measure", "overAll", "(DI)D"⟩ : MethodName)) hown (mvT hZ (hw _ (List.mem_of_getElem? (i := 9) rfl))) (mvT hZ (hw _ (List.mem_of_getElem? (i := 10) rfl))) (notFace_of_selects (args := #[]) (mvT hZ (hw _ (List.mem_of_getElem? (i := 12) rfl)))) (mvT hZ (hw _ (List.mem_of_getElem? (i := 12) rfl))) (mvT hZ (hw _ (List.mem_of_getElem? (i := 11) rfl))) (by decide) (backOf (W := 0) (rm2 l Z aZ hw [] s_NUM_REL (v0_8 p1) p2 (1 : Int32) h0 n0 Z0 F_NUM_REL_count (own_sum p1)) hZ (hw _ (List.mem_of_getElem? (i := 13) rfl)) (hw _ (List.mem_of_getElem? (i := 6) rfl)) (by decide) (by decide)) q35a q35c (g := (mkF m 27 #[.val (.int p0), .val (.int p1), .val (.int p2), .val (.int (2 : Int32)), .val (.ref s_NUM_REL), .val (.double (v0_8 p1)), .second, .unset, .unset, .unset, .unset] [(.int p2), (.double (v0_8 p1)), (.ref s_NUM_REL)])) rfl (by rw [hml]; rfl) (Steps.refl _) (argsL := [(.double (v0_8 p1)), (.int p2)]) (rest := []) (lenOf pd_91 rfl) rfl (by show 2 * 0 + _ ≤ _; exact Nat.le_of_eq rfl) (hb hby at_27) (fun _ _ => ⟨rfl, e32, (by decide : 0 + 0 ≤ _), (by decide : 0 + 0 ≤ _)⟩)
        dsimp only [Pt.U, Pt.locs, Pt.cells, Pt.slots] at X35 l35 y35 z35 st35 hQ35
        subst l35 y35 z35
        obtain ⟨rfl, N35q, e35⟩ := hQ35
        have N35 := Fr.app N32 N35q
        have go36 : ∀ t, Steps p.tables e below (T35.setTop (mkF m 30 #[.val (.int p0), .val (.int p1), .val (.int p2), .val (.int (2 : Int32)), .val (.ref s_NUM_REL), .val (.double (v0_8 p1)), .second, .unset, .unset, .unset, .unset] [(.double (v0_8 p1))])) t → Steps p.tables e below (s₁.setTop (entryFrame m #[(.int p0), (.int p1), (.int p2)] maxLocals)) t := fun t k => go34 _ (st35.trans k)
        have go38 : ∀ t, Steps p.tables e below (T35.setTop (mkF m 74 #[.val (.int p0), .val (.int p1), .val (.int p2), .val (.int (2 : Int32)), .val (.ref s_NUM_REL), .val (.double (v0_8 p1)), .second, .val (.double (v0_8 p1)), .second, .val (.double (v0_8 p1)), .second] [(.int (b0_14 p1))])) t → Steps p.tables e below (s₁.setTop (entryFrame m #[(.int p0), (.int p1), (.int p2)] maxLocals)) t := by
          intro t k
          refine go36 _ ?_
          refine XS.dstore X35.here hx rfl (hb hby at_30) rfl (l' := #[.val (.int p0), .val (.int p1), .val (.int p2), .val (.int (2 : Int32)), .val (.ref s_NUM_REL), .val (.double (v0_8 p1)), .second, .val (.double (v0_8 p1)), .second, .unset, .unset]) rfl ?_
          show Steps p.tables e below (T35.setTop (mkF m 32 #[.val (.int p0), .val (.int p1), .val (.int p2), .val (.int (2 : Int32)), .val (.ref s_NUM_REL), .val (.double (v0_8 p1)), .second, .val (.double (v0_8 p1)), .second, .unset, .unset] [])) t
          refine XS.iloadN X35.here hx rfl (hb hby at_32) rfl ?_
          show Steps p.tables e below (T35.setTop (mkF m 33 #[.val (.int p0), .val (.int p1), .val (.int p2), .val (.int (2 : Int32)), .val (.ref s_NUM_REL), .val (.double (v0_8 p1)), .second, .val (.double (v0_8 p1)), .second, .unset, .unset] [(.int (2 : Int32))])) t
          refine XS.iconst X35.here hx rfl (hb hby at_33) ?_
          show Steps p.tables e below (T35.setTop (mkF m 34 #[.val (.int p0), .val (.int p1), .val (.int p2), .val (.int (2 : Int32)), .val (.ref s_NUM_REL), .val (.double (v0_8 p1)), .second, .val (.double (v0_8 p1)), .second, .unset, .unset] [(.int (4 : Int32)), (.int (2 : Int32))])) t
          refine XS.icmpNo X35.here hx rfl (hb hby at_34) rfl (XT.ii_ge_f (by decide : ((2 : Int32) < (4 : Int32)))) ?_
          show Steps p.tables e below (T35.setTop (mkF m 37 #[.val (.int p0), .val (.int p1), .val (.int p2), .val (.int (2 : Int32)), .val (.ref s_NUM_REL), .val (.double (v0_8 p1)), .second, .val (.double (v0_8 p1)), .second, .unset, .unset] [])) t
          refine XS.dload X35.here hx rfl (hb hby at_37) rfl ?_
          show Steps p.tables e below (T35.setTop (mkF m 39 #[.val (.int p0), .val (.int p1), .val (.int p2), .val (.int (2 : Int32)), .val (.ref s_NUM_REL), .val (.double (v0_8 p1)), .second, .val (.double (v0_8 p1)), .second, .unset, .unset] [(.double (v0_8 p1))])) t
          refine XS.dstore X35.here hx rfl (hb hby at_39) rfl (l' := #[.val (.int p0), .val (.int p1), .val (.int p2), .val (.int (2 : Int32)), .val (.ref s_NUM_REL), .val (.double (v0_8 p1)), .second, .val (.double (v0_8 p1)), .second, .val (.double (v0_8 p1)), .second]) rfl ?_
          show Steps p.tables e below (T35.setTop (mkF m 41 #[.val (.int p0), .val (.int p1), .val (.int p2), .val (.int (2 : Int32)), .val (.ref s_NUM_REL), .val (.double (v0_8 p1)), .second, .val (.double (v0_8 p1)), .second, .val (.double (v0_8 p1)), .second] [])) t
          refine XS.goto X35.here hx rfl (pc0 := 41) (pc' := 61) rfl (hb hby at_41) (by decide) (by decide) ?_
          show Steps p.tables e below (T35.setTop (mkF m 61 #[.val (.int p0), .val (.int p1), .val (.int p2), .val (.int (2 : Int32)), .val (.ref s_NUM_REL), .val (.double (v0_8 p1)), .second, .val (.double (v0_8 p1)), .second, .val (.double (v0_8 p1)), .second] [])) t
          refine XS.dload X35.here hx rfl (hb hby at_61) rfl ?_
          show Steps p.tables e below (T35.setTop (mkF m 63 #[.val (.int p0), .val (.int p1), .val (.int p2), .val (.int (2 : Int32)), .val (.ref s_NUM_REL), .val (.double (v0_8 p1)), .second, .val (.double (v0_8 p1)), .second, .val (.double (v0_8 p1)), .second] [(.double (v0_8 p1))])) t
          refine XS.dload X35.here hx rfl (hb hby at_63) rfl ?_
          show Steps p.tables e below (T35.setTop (mkF m 65 #[.val (.int p0), .val (.int p1), .val (.int p2), .val (.int (2 : Int32)), .val (.ref s_NUM_REL), .val (.double (v0_8 p1)), .second, .val (.double (v0_8 p1)), .second, .val (.double (v0_8 p1)), .second] [(.double (v0_8 p1)), (.double (v0_8 p1))])) t
          refine XS.dcmpS X35.here hx rfl (hb hby at_65) rfl (v := (cmpValue (FP.dcmp (v0_8 p1) (v0_8 p1)) .l)) rfl ?_
          show Steps p.tables e below (T35.setTop (mkF m 66 #[.val (.int p0), .val (.int p1), .val (.int p2), .val (.int (2 : Int32)), .val (.ref s_NUM_REL), .val (.double (v0_8 p1)), .second, .val (.double (v0_8 p1)), .second, .val (.double (v0_8 p1)), .second] [(.int (cmpValue (FP.dcmp (v0_8 p1) (v0_8 p1)) .l))])) t
          by_cases hc37 : (cmpValue (FP.dcmp (v0_8 p1) (v0_8 p1)) .l) = (0 : Int32)
          · refine XS.ifNo X35.here hx rfl (hb hby at_66) rfl (XT.i0_ne_f hc37) ?_
            show Steps p.tables e below (T35.setTop (mkF m 69 #[.val (.int p0), .val (.int p1), .val (.int p2), .val (.int (2 : Int32)), .val (.ref s_NUM_REL), .val (.double (v0_8 p1)), .second, .val (.double (v0_8 p1)), .second, .val (.double (v0_8 p1)), .second] [])) t
            refine XS.iconst X35.here hx rfl (hb hby at_69) ?_
            show Steps p.tables e below (T35.setTop (mkF m 70 #[.val (.int p0), .val (.int p1), .val (.int p2), .val (.int (2 : Int32)), .val (.ref s_NUM_REL), .val (.double (v0_8 p1)), .second, .val (.double (v0_8 p1)), .second, .val (.double (v0_8 p1)), .second] [(.int (1 : Int32))])) t
            refine XS.goto X35.here hx rfl (pc0 := 70) (pc' := 74) rfl (hb hby at_70) (by decide) (by decide) ?_
            show Steps p.tables e below (T35.setTop (mkF m 74 #[.val (.int p0), .val (.int p1), .val (.int p2), .val (.int (2 : Int32)), .val (.ref s_NUM_REL), .val (.double (v0_8 p1)), .second, .val (.double (v0_8 p1)), .second, .val (.double (v0_8 p1)), .second] [(.int (1 : Int32))])) t
            have hq39 : (b0_14 p1) = (1 : Int32) := by rw [b0_14, if_pos hc37]
            rw [hq39] at k
            exact k
          · refine XS.ifYes X35.here hx rfl (pc0 := 66) (pc' := 73) rfl (hb hby at_66) rfl (XT.i0_ne_t hc37) (by decide) (by decide) ?_
            show Steps p.tables e below (T35.setTop (mkF m 73 #[.val (.int p0), .val (.int p1), .val (.int p2), .val (.int (2 : Int32)), .val (.ref s_NUM_REL), .val (.double (v0_8 p1)), .second, .val (.double (v0_8 p1)), .second, .val (.double (v0_8 p1)), .second] [])) t
            refine XS.iconst X35.here hx rfl (hb hby at_73) ?_
            show Steps p.tables e below (T35.setTop (mkF m 74 #[.val (.int p0), .val (.int p1), .val (.int p2), .val (.int (2 : Int32)), .val (.ref s_NUM_REL), .val (.double (v0_8 p1)), .second, .val (.double (v0_8 p1)), .second, .val (.double (v0_8 p1)), .second] [(.int (0 : Int32))])) t
            have hq40 : (b0_14 p1) = (0 : Int32) := by rw [b0_14, if_neg hc37]
            rw [hq40] at k
            exact k
        obtain ⟨fs, hr, hrun, hended, hW, hsame⟩ := X35.leave (v := some (.int (b0_14 p1))) (fun h => by rw [Bd.returns] at h; cases h)
        refine ⟨_, _, go38 _ (Jvm.RoadKit.retOut X35 hx Bd.returns (own_nz (by unfold b0_14; (repeat' split) <;> first | exact Or.inl rfl | exact Or.inr rfl)) (Or.inl ⟨rfl, Or.inr (Or.inl rfl), _, rfl⟩) (hb hby at_74) hr), hrun, hended, _, _, rfl, ?_, ⟨_, rfl⟩, hW, hsame.mono (by decide) (by decide)⟩
        show Q0 _ _ p0 p1 p2 s_NUM_Q s_NUM_RET s_NDCG_CUT_10 s_RPREC s_P_5 s_P_10 s_P_20 s_NUM_REL_RET s_RECALL_10 s_NUM_REL s_MAP s_RECIP_RANK s_BPREF s_NDCG s_RECALL_100 h0 _ (T35.setFrames fs).heap _
        have hE : (T35.setFrames fs).heap = h0 := e35
        rw [hE]
        exact ⟨congrArg (fun z => some (Value.int z)) ((by rw [f0, if_neg hs3, if_neg hs17, if_pos hs29] : (b0_14 p1) = (f0 p0 p1 p2)).trans (f0_one p0 p1 p2)), N35⟩
      · by_cases hs41 : (v0_1 p0) = (3 : Int32)
        · have go42 : ∀ t, Steps p.tables e below (s₁.setTop (mkF m 8 #[.val (.int p0), .val (.int p1), .val (.int p2), .val (.int (3 : Int32)), .unset, .unset, .unset, .unset, .unset, .unset, .unset] [])) t → Steps p.tables e below (s₁.setTop (entryFrame m #[(.int p0), (.int p1), (.int p2)] maxLocals)) t := by
            have q := go2
            rw [hs41] at q
            exact q
          have go43 : ∀ t, Steps p.tables e below (s₁.setTop (mkF m 9 #[.val (.int p0), .val (.int p1), .val (.int p2), .val (.int (3 : Int32)), .unset, .unset, .unset, .unset, .unset, .unset, .unset] [(.int (3 : Int32))])) t → Steps p.tables e below (s₁.setTop (entryFrame m #[(.int p0), (.int p1), (.int p2)] maxLocals)) t := by
            intro t k
            refine go42 _ ?_
            refine XS.iloadN X0.here hx rfl (hb hby at_8) rfl ?_
            show Steps p.tables e below (s₁.setTop (mkF m 9 #[.val (.int p0), .val (.int p1), .val (.int p2), .val (.int (3 : Int32)), .unset, .unset, .unset, .unset, .unset, .unset, .unset] [(.int (3 : Int32))])) t
            exact k
          obtain ⟨_, _, ⟨T44, L44, k44, n44⟩, -, X44, ⟨Lc44, hQ44, l44, y44, z44⟩, st44⟩ := Jvm.LawKit.callS X0 hx (y := (⟨"com/example/mirk/mirk/eval/MeasureOverAllPinLaw", "pick", "(I)Lcom/example/mirk/mirk/eval/Measure;"⟩ : MethodName)) hown (mvT hZ (hw _ (List.mem_of_getElem? (i := 1) rfl))) (mvT hZ (hw _ (List.mem_of_getElem? (i := 2) rfl))) (mvT hZ (hw _ (List.mem_of_getElem? (i := 3) rfl))) (mvT hZ (hw _ (List.mem_of_getElem? (i := 4) rfl))) (by decide) (backOf (W := 0) (rm1 l Z aZ hw [] (3 : Int32) s_NUM_Q s_NUM_RET s_NUM_REL s_NUM_REL_RET s_MAP s_RPREC s_BPREF s_RECIP_RANK s_P_5 s_P_10 s_P_20 s_RECALL_10 s_RECALL_100 s_NDCG s_NDCG_CUT_10 h0 n0 Z0 S_NUM_Q S_NUM_RET S_NUM_REL S_NUM_REL_RET S_MAP S_RPREC S_BPREF S_RECIP_RANK S_P_5 S_P_10 S_P_20 S_RECALL_10 S_RECALL_100 S_NDCG S_NDCG_CUT_10) hZ (hw _ (List.mem_of_getElem? (i := 4) rfl)) (hw _ (List.mem_of_getElem? (i := 3) rfl)) (by decide) (by decide)) (g := (mkF m 9 #[.val (.int p0), .val (.int p1), .val (.int p2), .val (.int (3 : Int32)), .unset, .unset, .unset, .unset, .unset, .unset, .unset] [(.int (3 : Int32))])) rfl (by rw [hml]; rfl) (argsL := [(.int (3 : Int32))]) (rest := []) (lenOf pd_89 rfl) rfl (by show 2 * 0 + _ ≤ _; exact Nat.le_of_eq rfl) (hb hby at_9) (fun _ _ => ⟨rfl, e0, (by decide : 0 + 0 ≤ _), (by decide : 0 + 0 ≤ _)⟩)
          dsimp only [Pt.U, Pt.locs, Pt.cells, Pt.slots] at X44 l44 y44 z44 st44 hQ44
          subst l44 y44 z44
          obtain ⟨rfl, N44q, e44⟩ := hQ44
          have N44 := Fr.app N0 N44q
          have go45 : ∀ t, Steps p.tables e below (T44.setTop (mkF m 12 #[.val (.int p0), .val (.int p1), .val (.int p2), .val (.int (3 : Int32)), .unset, .unset, .unset, .unset, .unset, .unset, .unset] [(.ref s_NUM_REL_RET)])) t → Steps p.tables e below (s₁.setTop (entryFrame m #[(.int p0), (.int p1), (.int p2)] maxLocals)) t := fun t k => go43 _ (st44 _ k)
          have go46 : ∀ t, Steps p.tables e below (T44.setTop (mkF m 27 #[.val (.int p0), .val (.int p1), .val (.int p2), .val (.int (3 : Int32)), .val (.ref s_NUM_REL_RET), .val (.double (v0_8 p1)), .second, .unset, .unset, .unset, .unset] [(.int p2), (.double (v0_8 p1)), (.ref s_NUM_REL_RET)])) t → Steps p.tables e below (s₁.setTop (entryFrame m #[(.int p0), (.int p1), (.int p2)] maxLocals)) t := by
            intro t k
            refine go45 _ ?_
            refine XS.astore X44.here hx rfl (hb hby at_12) rfl rfl (l' := #[.val (.int p0), .val (.int p1), .val (.int p2), .val (.int (3 : Int32)), .val (.ref s_NUM_REL_RET), .unset, .unset, .unset, .unset, .unset, .unset]) rfl ?_
            show Steps p.tables e below (T44.setTop (mkF m 14 #[.val (.int p0), .val (.int p1), .val (.int p2), .val (.int (3 : Int32)), .val (.ref s_NUM_REL_RET), .unset, .unset, .unset, .unset, .unset, .unset] [])) t
            refine XS.iloadN X44.here hx rfl (hb hby at_14) rfl ?_
            show Steps p.tables e below (T44.setTop (mkF m 15 #[.val (.int p0), .val (.int p1), .val (.int p2), .val (.int (3 : Int32)), .val (.ref s_NUM_REL_RET), .unset, .unset, .unset, .unset, .unset, .unset] [(.int p1)])) t
            refine XS.i2dS X44.here hx rfl (hb hby at_15) rfl (v := (FP.i2d p1)) rfl ?_
            show Steps p.tables e below (T44.setTop (mkF m 16 #[.val (.int p0), .val (.int p1), .val (.int p2), .val (.int (3 : Int32)), .val (.ref s_NUM_REL_RET), .unset, .unset, .unset, .unset, .unset, .unset] [(.double (FP.i2d p1))])) t
            refine X44.ldc2DoubleC hx hown (mvT hZ (hw _ (List.mem_of_getElem? (i := 8) rfl))) (g := (mkF m 16 #[.val (.int p0), .val (.int p1), .val (.int p2), .val (.int (3 : Int32)), .val (.ref s_NUM_REL_RET), .unset, .unset, .unset, .unset, .unset, .unset] [(.double (FP.i2d p1))])) rfl (hb hby at_16) _ ?_
            show Steps p.tables e below (T44.setTop (mkF m 19 #[.val (.int p0), .val (.int p1), .val (.int p2), .val (.int (3 : Int32)), .val (.ref s_NUM_REL_RET), .unset, .unset, .unset, .unset, .unset, .unset] [(.double (4598175219545276416 : UInt64)), (.double (FP.i2d p1))])) t
            refine XS.dmulS X44.here hx rfl (hb hby at_19) rfl (own_sum p1) (v := (FP.dmul (FP.i2d p1) (4598175219545276416 : UInt64))) rfl ?_
            show Steps p.tables e below (T44.setTop (mkF m 20 #[.val (.int p0), .val (.int p1), .val (.int p2), .val (.int (3 : Int32)), .val (.ref s_NUM_REL_RET), .unset, .unset, .unset, .unset, .unset, .unset] [(.double (FP.dmul (FP.i2d p1) (4598175219545276416 : UInt64)))])) t
            show Steps p.tables e below (T44.setTop (mkF m 20 #[.val (.int p0), .val (.int p1), .val (.int p2), .val (.int (3 : Int32)), .val (.ref s_NUM_REL_RET), .unset, .unset, .unset, .unset, .unset, .unset] [(.double (v0_8 p1))])) t
            refine XS.dstore X44.here hx rfl (hb hby at_20) rfl (l' := #[.val (.int p0), .val (.int p1), .val (.int p2), .val (.int (3 : Int32)), .val (.ref s_NUM_REL_RET), .val (.double (v0_8 p1)), .second, .unset, .unset, .unset, .unset]) rfl ?_
            show Steps p.tables e below (T44.setTop (mkF m 22 #[.val (.int p0), .val (.int p1), .val (.int p2), .val (.int (3 : Int32)), .val (.ref s_NUM_REL_RET), .val (.double (v0_8 p1)), .second, .unset, .unset, .unset, .unset] [])) t
            refine XS.aload X44.here hx rfl (hb hby at_22) rfl rfl ?_
            show Steps p.tables e below (T44.setTop (mkF m 24 #[.val (.int p0), .val (.int p1), .val (.int p2), .val (.int (3 : Int32)), .val (.ref s_NUM_REL_RET), .val (.double (v0_8 p1)), .second, .unset, .unset, .unset, .unset] [(.ref s_NUM_REL_RET)])) t
            refine XS.dload X44.here hx rfl (hb hby at_24) rfl ?_
            show Steps p.tables e below (T44.setTop (mkF m 26 #[.val (.int p0), .val (.int p1), .val (.int p2), .val (.int (3 : Int32)), .val (.ref s_NUM_REL_RET), .val (.double (v0_8 p1)), .second, .unset, .unset, .unset, .unset] [(.double (v0_8 p1)), (.ref s_NUM_REL_RET)])) t
            refine XS.iloadN X44.here hx rfl (hb hby at_26) rfl ?_
            show Steps p.tables e below (T44.setTop (mkF m 27 #[.val (.int p0), .val (.int p1), .val (.int p2), .val (.int (3 : Int32)), .val (.ref s_NUM_REL_RET), .val (.double (v0_8 p1)), .second, .unset, .unset, .unset, .unset] [(.int p2), (.double (v0_8 p1)), (.ref s_NUM_REL_RET)])) t
            exact k
          obtain ⟨cq47, kq47, q47a, q47b, q47c⟩ := isOf hZ e44 E_NUM_REL_RET
          obtain ⟨_, _, ⟨T47, L47, k47, n47⟩, -, X47, ⟨Lc47, hQ47, l47, y47, z47⟩, st47⟩ := X44.virtualBack hx (y := (⟨"com/example/mirk/mirk/eval/Measure", "overAll", "(DI)D"⟩ : MethodName)) (z := (⟨"com/example/mirk/mirk/eval/Measure", "overAll", "(DI)D"⟩ : MethodName)) hown (mvT hZ (hw _ (List.mem_of_getElem? (i := 9) rfl))) (mvT hZ (hw _ (List.mem_of_getElem? (i := 10) rfl))) (notFace_of_selects (args := #[]) (mvT hZ (hw _ (List.mem_of_getElem? (i := 12) rfl)))) (mvT hZ (hw _ (List.mem_of_getElem? (i := 12) rfl))) (mvT hZ (hw _ (List.mem_of_getElem? (i := 11) rfl))) (by decide) (backOf (W := 0) (rm2 l Z aZ hw [] s_NUM_REL_RET (v0_8 p1) p2 (1 : Int32) h0 n0 Z0 F_NUM_REL_RET_count (own_sum p1)) hZ (hw _ (List.mem_of_getElem? (i := 13) rfl)) (hw _ (List.mem_of_getElem? (i := 6) rfl)) (by decide) (by decide)) q47a q47c (g := (mkF m 27 #[.val (.int p0), .val (.int p1), .val (.int p2), .val (.int (3 : Int32)), .val (.ref s_NUM_REL_RET), .val (.double (v0_8 p1)), .second, .unset, .unset, .unset, .unset] [(.int p2), (.double (v0_8 p1)), (.ref s_NUM_REL_RET)])) rfl (by rw [hml]; rfl) (Steps.refl _) (argsL := [(.double (v0_8 p1)), (.int p2)]) (rest := []) (lenOf pd_91 rfl) rfl (by show 2 * 0 + _ ≤ _; exact Nat.le_of_eq rfl) (hb hby at_27) (fun _ _ => ⟨rfl, e44, (by decide : 0 + 0 ≤ _), (by decide : 0 + 0 ≤ _)⟩)
          dsimp only [Pt.U, Pt.locs, Pt.cells, Pt.slots] at X47 l47 y47 z47 st47 hQ47
          subst l47 y47 z47
          obtain ⟨rfl, N47q, e47⟩ := hQ47
          have N47 := Fr.app N44 N47q
          have go48 : ∀ t, Steps p.tables e below (T47.setTop (mkF m 30 #[.val (.int p0), .val (.int p1), .val (.int p2), .val (.int (3 : Int32)), .val (.ref s_NUM_REL_RET), .val (.double (v0_8 p1)), .second, .unset, .unset, .unset, .unset] [(.double (v0_8 p1))])) t → Steps p.tables e below (s₁.setTop (entryFrame m #[(.int p0), (.int p1), (.int p2)] maxLocals)) t := fun t k => go46 _ (st47.trans k)
          have go50 : ∀ t, Steps p.tables e below (T47.setTop (mkF m 74 #[.val (.int p0), .val (.int p1), .val (.int p2), .val (.int (3 : Int32)), .val (.ref s_NUM_REL_RET), .val (.double (v0_8 p1)), .second, .val (.double (v0_8 p1)), .second, .val (.double (v0_8 p1)), .second] [(.int (b0_14 p1))])) t → Steps p.tables e below (s₁.setTop (entryFrame m #[(.int p0), (.int p1), (.int p2)] maxLocals)) t := by
            intro t k
            refine go48 _ ?_
            refine XS.dstore X47.here hx rfl (hb hby at_30) rfl (l' := #[.val (.int p0), .val (.int p1), .val (.int p2), .val (.int (3 : Int32)), .val (.ref s_NUM_REL_RET), .val (.double (v0_8 p1)), .second, .val (.double (v0_8 p1)), .second, .unset, .unset]) rfl ?_
            show Steps p.tables e below (T47.setTop (mkF m 32 #[.val (.int p0), .val (.int p1), .val (.int p2), .val (.int (3 : Int32)), .val (.ref s_NUM_REL_RET), .val (.double (v0_8 p1)), .second, .val (.double (v0_8 p1)), .second, .unset, .unset] [])) t
            refine XS.iloadN X47.here hx rfl (hb hby at_32) rfl ?_
            show Steps p.tables e below (T47.setTop (mkF m 33 #[.val (.int p0), .val (.int p1), .val (.int p2), .val (.int (3 : Int32)), .val (.ref s_NUM_REL_RET), .val (.double (v0_8 p1)), .second, .val (.double (v0_8 p1)), .second, .unset, .unset] [(.int (3 : Int32))])) t
            refine XS.iconst X47.here hx rfl (hb hby at_33) ?_
            show Steps p.tables e below (T47.setTop (mkF m 34 #[.val (.int p0), .val (.int p1), .val (.int p2), .val (.int (3 : Int32)), .val (.ref s_NUM_REL_RET), .val (.double (v0_8 p1)), .second, .val (.double (v0_8 p1)), .second, .unset, .unset] [(.int (4 : Int32)), (.int (3 : Int32))])) t
            refine XS.icmpNo X47.here hx rfl (hb hby at_34) rfl (XT.ii_ge_f (by decide : ((3 : Int32) < (4 : Int32)))) ?_
            show Steps p.tables e below (T47.setTop (mkF m 37 #[.val (.int p0), .val (.int p1), .val (.int p2), .val (.int (3 : Int32)), .val (.ref s_NUM_REL_RET), .val (.double (v0_8 p1)), .second, .val (.double (v0_8 p1)), .second, .unset, .unset] [])) t
            refine XS.dload X47.here hx rfl (hb hby at_37) rfl ?_
            show Steps p.tables e below (T47.setTop (mkF m 39 #[.val (.int p0), .val (.int p1), .val (.int p2), .val (.int (3 : Int32)), .val (.ref s_NUM_REL_RET), .val (.double (v0_8 p1)), .second, .val (.double (v0_8 p1)), .second, .unset, .unset] [(.double (v0_8 p1))])) t
            refine XS.dstore X47.here hx rfl (hb hby at_39) rfl (l' := #[.val (.int p0), .val (.int p1), .val (.int p2), .val (.int (3 : Int32)), .val (.ref s_NUM_REL_RET), .val (.double (v0_8 p1)), .second, .val (.double (v0_8 p1)), .second, .val (.double (v0_8 p1)), .second]) rfl ?_
            show Steps p.tables e below (T47.setTop (mkF m 41 #[.val (.int p0), .val (.int p1), .val (.int p2), .val (.int (3 : Int32)), .val (.ref s_NUM_REL_RET), .val (.double (v0_8 p1)), .second, .val (.double (v0_8 p1)), .second, .val (.double (v0_8 p1)), .second] [])) t
            refine XS.goto X47.here hx rfl (pc0 := 41) (pc' := 61) rfl (hb hby at_41) (by decide) (by decide) ?_
            show Steps p.tables e below (T47.setTop (mkF m 61 #[.val (.int p0), .val (.int p1), .val (.int p2), .val (.int (3 : Int32)), .val (.ref s_NUM_REL_RET), .val (.double (v0_8 p1)), .second, .val (.double (v0_8 p1)), .second, .val (.double (v0_8 p1)), .second] [])) t
            refine XS.dload X47.here hx rfl (hb hby at_61) rfl ?_
            show Steps p.tables e below (T47.setTop (mkF m 63 #[.val (.int p0), .val (.int p1), .val (.int p2), .val (.int (3 : Int32)), .val (.ref s_NUM_REL_RET), .val (.double (v0_8 p1)), .second, .val (.double (v0_8 p1)), .second, .val (.double (v0_8 p1)), .second] [(.double (v0_8 p1))])) t
            refine XS.dload X47.here hx rfl (hb hby at_63) rfl ?_
            show Steps p.tables e below (T47.setTop (mkF m 65 #[.val (.int p0), .val (.int p1), .val (.int p2), .val (.int (3 : Int32)), .val (.ref s_NUM_REL_RET), .val (.double (v0_8 p1)), .second, .val (.double (v0_8 p1)), .second, .val (.double (v0_8 p1)), .second] [(.double (v0_8 p1)), (.double (v0_8 p1))])) t
            refine XS.dcmpS X47.here hx rfl (hb hby at_65) rfl (v := (cmpValue (FP.dcmp (v0_8 p1) (v0_8 p1)) .l)) rfl ?_
            show Steps p.tables e below (T47.setTop (mkF m 66 #[.val (.int p0), .val (.int p1), .val (.int p2), .val (.int (3 : Int32)), .val (.ref s_NUM_REL_RET), .val (.double (v0_8 p1)), .second, .val (.double (v0_8 p1)), .second, .val (.double (v0_8 p1)), .second] [(.int (cmpValue (FP.dcmp (v0_8 p1) (v0_8 p1)) .l))])) t
            by_cases hc49 : (cmpValue (FP.dcmp (v0_8 p1) (v0_8 p1)) .l) = (0 : Int32)
            · refine XS.ifNo X47.here hx rfl (hb hby at_66) rfl (XT.i0_ne_f hc49) ?_
              show Steps p.tables e below (T47.setTop (mkF m 69 #[.val (.int p0), .val (.int p1), .val (.int p2), .val (.int (3 : Int32)), .val (.ref s_NUM_REL_RET), .val (.double (v0_8 p1)), .second, .val (.double (v0_8 p1)), .second, .val (.double (v0_8 p1)), .second] [])) t
              refine XS.iconst X47.here hx rfl (hb hby at_69) ?_
              show Steps p.tables e below (T47.setTop (mkF m 70 #[.val (.int p0), .val (.int p1), .val (.int p2), .val (.int (3 : Int32)), .val (.ref s_NUM_REL_RET), .val (.double (v0_8 p1)), .second, .val (.double (v0_8 p1)), .second, .val (.double (v0_8 p1)), .second] [(.int (1 : Int32))])) t
              refine XS.goto X47.here hx rfl (pc0 := 70) (pc' := 74) rfl (hb hby at_70) (by decide) (by decide) ?_
              show Steps p.tables e below (T47.setTop (mkF m 74 #[.val (.int p0), .val (.int p1), .val (.int p2), .val (.int (3 : Int32)), .val (.ref s_NUM_REL_RET), .val (.double (v0_8 p1)), .second, .val (.double (v0_8 p1)), .second, .val (.double (v0_8 p1)), .second] [(.int (1 : Int32))])) t
              have hq51 : (b0_14 p1) = (1 : Int32) := by rw [b0_14, if_pos hc49]
              rw [hq51] at k
              exact k
            · refine XS.ifYes X47.here hx rfl (pc0 := 66) (pc' := 73) rfl (hb hby at_66) rfl (XT.i0_ne_t hc49) (by decide) (by decide) ?_
              show Steps p.tables e below (T47.setTop (mkF m 73 #[.val (.int p0), .val (.int p1), .val (.int p2), .val (.int (3 : Int32)), .val (.ref s_NUM_REL_RET), .val (.double (v0_8 p1)), .second, .val (.double (v0_8 p1)), .second, .val (.double (v0_8 p1)), .second] [])) t
              refine XS.iconst X47.here hx rfl (hb hby at_73) ?_
              show Steps p.tables e below (T47.setTop (mkF m 74 #[.val (.int p0), .val (.int p1), .val (.int p2), .val (.int (3 : Int32)), .val (.ref s_NUM_REL_RET), .val (.double (v0_8 p1)), .second, .val (.double (v0_8 p1)), .second, .val (.double (v0_8 p1)), .second] [(.int (0 : Int32))])) t
              have hq52 : (b0_14 p1) = (0 : Int32) := by rw [b0_14, if_neg hc49]
              rw [hq52] at k
              exact k
          obtain ⟨fs, hr, hrun, hended, hW, hsame⟩ := X47.leave (v := some (.int (b0_14 p1))) (fun h => by rw [Bd.returns] at h; cases h)
          refine ⟨_, _, go50 _ (Jvm.RoadKit.retOut X47 hx Bd.returns (own_nz (by unfold b0_14; (repeat' split) <;> first | exact Or.inl rfl | exact Or.inr rfl)) (Or.inl ⟨rfl, Or.inr (Or.inl rfl), _, rfl⟩) (hb hby at_74) hr), hrun, hended, _, _, rfl, ?_, ⟨_, rfl⟩, hW, hsame.mono (by decide) (by decide)⟩
          show Q0 _ _ p0 p1 p2 s_NUM_Q s_NUM_RET s_NDCG_CUT_10 s_RPREC s_P_5 s_P_10 s_P_20 s_NUM_REL_RET s_RECALL_10 s_NUM_REL s_MAP s_RECIP_RANK s_BPREF s_NDCG s_RECALL_100 h0 _ (T47.setFrames fs).heap _
          have hE : (T47.setFrames fs).heap = h0 := e47
          rw [hE]
          exact ⟨congrArg (fun z => some (Value.int z)) ((by rw [f0, if_neg hs3, if_neg hs17, if_neg hs29, if_pos hs41] : (b0_14 p1) = (f0 p0 p1 p2)).trans (f0_one p0 p1 p2)), N47⟩
        · by_cases hs53 : (v0_1 p0) = (4 : Int32)
          · have go54 : ∀ t, Steps p.tables e below (s₁.setTop (mkF m 8 #[.val (.int p0), .val (.int p1), .val (.int p2), .val (.int (4 : Int32)), .unset, .unset, .unset, .unset, .unset, .unset, .unset] [])) t → Steps p.tables e below (s₁.setTop (entryFrame m #[(.int p0), (.int p1), (.int p2)] maxLocals)) t := by
              have q := go2
              rw [hs53] at q
              exact q
            have go55 : ∀ t, Steps p.tables e below (s₁.setTop (mkF m 9 #[.val (.int p0), .val (.int p1), .val (.int p2), .val (.int (4 : Int32)), .unset, .unset, .unset, .unset, .unset, .unset, .unset] [(.int (4 : Int32))])) t → Steps p.tables e below (s₁.setTop (entryFrame m #[(.int p0), (.int p1), (.int p2)] maxLocals)) t := by
              intro t k
              refine go54 _ ?_
              refine XS.iloadN X0.here hx rfl (hb hby at_8) rfl ?_
              show Steps p.tables e below (s₁.setTop (mkF m 9 #[.val (.int p0), .val (.int p1), .val (.int p2), .val (.int (4 : Int32)), .unset, .unset, .unset, .unset, .unset, .unset, .unset] [(.int (4 : Int32))])) t
              exact k
            obtain ⟨_, _, ⟨T56, L56, k56, n56⟩, -, X56, ⟨Lc56, hQ56, l56, y56, z56⟩, st56⟩ := Jvm.LawKit.callS X0 hx (y := (⟨"com/example/mirk/mirk/eval/MeasureOverAllPinLaw", "pick", "(I)Lcom/example/mirk/mirk/eval/Measure;"⟩ : MethodName)) hown (mvT hZ (hw _ (List.mem_of_getElem? (i := 1) rfl))) (mvT hZ (hw _ (List.mem_of_getElem? (i := 2) rfl))) (mvT hZ (hw _ (List.mem_of_getElem? (i := 3) rfl))) (mvT hZ (hw _ (List.mem_of_getElem? (i := 4) rfl))) (by decide) (backOf (W := 0) (rm1 l Z aZ hw [] (4 : Int32) s_NUM_Q s_NUM_RET s_NUM_REL s_NUM_REL_RET s_MAP s_RPREC s_BPREF s_RECIP_RANK s_P_5 s_P_10 s_P_20 s_RECALL_10 s_RECALL_100 s_NDCG s_NDCG_CUT_10 h0 n0 Z0 S_NUM_Q S_NUM_RET S_NUM_REL S_NUM_REL_RET S_MAP S_RPREC S_BPREF S_RECIP_RANK S_P_5 S_P_10 S_P_20 S_RECALL_10 S_RECALL_100 S_NDCG S_NDCG_CUT_10) hZ (hw _ (List.mem_of_getElem? (i := 4) rfl)) (hw _ (List.mem_of_getElem? (i := 3) rfl)) (by decide) (by decide)) (g := (mkF m 9 #[.val (.int p0), .val (.int p1), .val (.int p2), .val (.int (4 : Int32)), .unset, .unset, .unset, .unset, .unset, .unset, .unset] [(.int (4 : Int32))])) rfl (by rw [hml]; rfl) (argsL := [(.int (4 : Int32))]) (rest := []) (lenOf pd_89 rfl) rfl (by show 2 * 0 + _ ≤ _; exact Nat.le_of_eq rfl) (hb hby at_9) (fun _ _ => ⟨rfl, e0, (by decide : 0 + 0 ≤ _), (by decide : 0 + 0 ≤ _)⟩)
            dsimp only [Pt.U, Pt.locs, Pt.cells, Pt.slots] at X56 l56 y56 z56 st56 hQ56
            subst l56 y56 z56
            obtain ⟨rfl, N56q, e56⟩ := hQ56
            have N56 := Fr.app N0 N56q
            have go57 : ∀ t, Steps p.tables e below (T56.setTop (mkF m 12 #[.val (.int p0), .val (.int p1), .val (.int p2), .val (.int (4 : Int32)), .unset, .unset, .unset, .unset, .unset, .unset, .unset] [(.ref s_MAP)])) t → Steps p.tables e below (s₁.setTop (entryFrame m #[(.int p0), (.int p1), (.int p2)] maxLocals)) t := fun t k => go55 _ (st56 _ k)
            have go58 : ∀ t, Steps p.tables e below (T56.setTop (mkF m 27 #[.val (.int p0), .val (.int p1), .val (.int p2), .val (.int (4 : Int32)), .val (.ref s_MAP), .val (.double (v0_8 p1)), .second, .unset, .unset, .unset, .unset] [(.int p2), (.double (v0_8 p1)), (.ref s_MAP)])) t → Steps p.tables e below (s₁.setTop (entryFrame m #[(.int p0), (.int p1), (.int p2)] maxLocals)) t := by
              intro t k
              refine go57 _ ?_
              refine XS.astore X56.here hx rfl (hb hby at_12) rfl rfl (l' := #[.val (.int p0), .val (.int p1), .val (.int p2), .val (.int (4 : Int32)), .val (.ref s_MAP), .unset, .unset, .unset, .unset, .unset, .unset]) rfl ?_
              show Steps p.tables e below (T56.setTop (mkF m 14 #[.val (.int p0), .val (.int p1), .val (.int p2), .val (.int (4 : Int32)), .val (.ref s_MAP), .unset, .unset, .unset, .unset, .unset, .unset] [])) t
              refine XS.iloadN X56.here hx rfl (hb hby at_14) rfl ?_
              show Steps p.tables e below (T56.setTop (mkF m 15 #[.val (.int p0), .val (.int p1), .val (.int p2), .val (.int (4 : Int32)), .val (.ref s_MAP), .unset, .unset, .unset, .unset, .unset, .unset] [(.int p1)])) t
              refine XS.i2dS X56.here hx rfl (hb hby at_15) rfl (v := (FP.i2d p1)) rfl ?_
              show Steps p.tables e below (T56.setTop (mkF m 16 #[.val (.int p0), .val (.int p1), .val (.int p2), .val (.int (4 : Int32)), .val (.ref s_MAP), .unset, .unset, .unset, .unset, .unset, .unset] [(.double (FP.i2d p1))])) t
              refine X56.ldc2DoubleC hx hown (mvT hZ (hw _ (List.mem_of_getElem? (i := 8) rfl))) (g := (mkF m 16 #[.val (.int p0), .val (.int p1), .val (.int p2), .val (.int (4 : Int32)), .val (.ref s_MAP), .unset, .unset, .unset, .unset, .unset, .unset] [(.double (FP.i2d p1))])) rfl (hb hby at_16) _ ?_
              show Steps p.tables e below (T56.setTop (mkF m 19 #[.val (.int p0), .val (.int p1), .val (.int p2), .val (.int (4 : Int32)), .val (.ref s_MAP), .unset, .unset, .unset, .unset, .unset, .unset] [(.double (4598175219545276416 : UInt64)), (.double (FP.i2d p1))])) t
              refine XS.dmulS X56.here hx rfl (hb hby at_19) rfl (own_sum p1) (v := (FP.dmul (FP.i2d p1) (4598175219545276416 : UInt64))) rfl ?_
              show Steps p.tables e below (T56.setTop (mkF m 20 #[.val (.int p0), .val (.int p1), .val (.int p2), .val (.int (4 : Int32)), .val (.ref s_MAP), .unset, .unset, .unset, .unset, .unset, .unset] [(.double (FP.dmul (FP.i2d p1) (4598175219545276416 : UInt64)))])) t
              show Steps p.tables e below (T56.setTop (mkF m 20 #[.val (.int p0), .val (.int p1), .val (.int p2), .val (.int (4 : Int32)), .val (.ref s_MAP), .unset, .unset, .unset, .unset, .unset, .unset] [(.double (v0_8 p1))])) t
              refine XS.dstore X56.here hx rfl (hb hby at_20) rfl (l' := #[.val (.int p0), .val (.int p1), .val (.int p2), .val (.int (4 : Int32)), .val (.ref s_MAP), .val (.double (v0_8 p1)), .second, .unset, .unset, .unset, .unset]) rfl ?_
              show Steps p.tables e below (T56.setTop (mkF m 22 #[.val (.int p0), .val (.int p1), .val (.int p2), .val (.int (4 : Int32)), .val (.ref s_MAP), .val (.double (v0_8 p1)), .second, .unset, .unset, .unset, .unset] [])) t
              refine XS.aload X56.here hx rfl (hb hby at_22) rfl rfl ?_
              show Steps p.tables e below (T56.setTop (mkF m 24 #[.val (.int p0), .val (.int p1), .val (.int p2), .val (.int (4 : Int32)), .val (.ref s_MAP), .val (.double (v0_8 p1)), .second, .unset, .unset, .unset, .unset] [(.ref s_MAP)])) t
              refine XS.dload X56.here hx rfl (hb hby at_24) rfl ?_
              show Steps p.tables e below (T56.setTop (mkF m 26 #[.val (.int p0), .val (.int p1), .val (.int p2), .val (.int (4 : Int32)), .val (.ref s_MAP), .val (.double (v0_8 p1)), .second, .unset, .unset, .unset, .unset] [(.double (v0_8 p1)), (.ref s_MAP)])) t
              refine XS.iloadN X56.here hx rfl (hb hby at_26) rfl ?_
              show Steps p.tables e below (T56.setTop (mkF m 27 #[.val (.int p0), .val (.int p1), .val (.int p2), .val (.int (4 : Int32)), .val (.ref s_MAP), .val (.double (v0_8 p1)), .second, .unset, .unset, .unset, .unset] [(.int p2), (.double (v0_8 p1)), (.ref s_MAP)])) t
              exact k
            obtain ⟨cq59, kq59, q59a, q59b, q59c⟩ := isOf hZ e56 E_MAP
            obtain ⟨_, _, ⟨T59, L59, k59, n59⟩, -, X59, ⟨Lc59, hQ59, l59, y59, z59⟩, st59⟩ := X56.virtualBack hx (y := (⟨"com/example/mirk/mirk/eval/Measure", "overAll", "(DI)D"⟩ : MethodName)) (z := (⟨"com/example/mirk/mirk/eval/Measure", "overAll", "(DI)D"⟩ : MethodName)) hown (mvT hZ (hw _ (List.mem_of_getElem? (i := 9) rfl))) (mvT hZ (hw _ (List.mem_of_getElem? (i := 10) rfl))) (notFace_of_selects (args := #[]) (mvT hZ (hw _ (List.mem_of_getElem? (i := 12) rfl)))) (mvT hZ (hw _ (List.mem_of_getElem? (i := 12) rfl))) (mvT hZ (hw _ (List.mem_of_getElem? (i := 11) rfl))) (by decide) (backOf (W := 0) (rm2 l Z aZ hw [] s_MAP (v0_8 p1) p2 (0 : Int32) h0 n0 Z0 F_MAP_count (own_sum p1)) hZ (hw _ (List.mem_of_getElem? (i := 13) rfl)) (hw _ (List.mem_of_getElem? (i := 6) rfl)) (by decide) (by decide)) q59a q59c (g := (mkF m 27 #[.val (.int p0), .val (.int p1), .val (.int p2), .val (.int (4 : Int32)), .val (.ref s_MAP), .val (.double (v0_8 p1)), .second, .unset, .unset, .unset, .unset] [(.int p2), (.double (v0_8 p1)), (.ref s_MAP)])) rfl (by rw [hml]; rfl) (Steps.refl _) (argsL := [(.double (v0_8 p1)), (.int p2)]) (rest := []) (lenOf pd_91 rfl) rfl (by show 2 * 0 + _ ≤ _; exact Nat.le_of_eq rfl) (hb hby at_27) (fun _ _ => ⟨rfl, e56, (by decide : 0 + 0 ≤ _), (by decide : 0 + 0 ≤ _)⟩)
            dsimp only [Pt.U, Pt.locs, Pt.cells, Pt.slots] at X59 l59 y59 z59 st59 hQ59
            subst l59 y59 z59
            obtain ⟨rfl, N59q, e59⟩ := hQ59
            have N59 := Fr.app N56 N59q
            have go60 : ∀ t, Steps p.tables e below (T59.setTop (mkF m 30 #[.val (.int p0), .val (.int p1), .val (.int p2), .val (.int (4 : Int32)), .val (.ref s_MAP), .val (.double (v0_8 p1)), .second, .unset, .unset, .unset, .unset] [(.double (b2_7 (v0_8 p1) p2))])) t → Steps p.tables e below (s₁.setTop (entryFrame m #[(.int p0), (.int p1), (.int p2)] maxLocals)) t := fun t k => go58 _ (st59.trans k)
            have go63 : ∀ t, Steps p.tables e below (T59.setTop (mkF m 61 #[.val (.int p0), .val (.int p1), .val (.int p2), .val (.int (4 : Int32)), .val (.ref s_MAP), .val (.double (v0_8 p1)), .second, .val (.double (b2_7 (v0_8 p1) p2)), .second, .val (.double (b0_64 p1 p2)), .second] [])) t → Steps p.tables e below (s₁.setTop (entryFrame m #[(.int p0), (.int p1), (.int p2)] maxLocals)) t := by
              intro t k
              refine go60 _ ?_
              refine XS.dstore X59.here hx rfl (hb hby at_30) rfl (l' := #[.val (.int p0), .val (.int p1), .val (.int p2), .val (.int (4 : Int32)), .val (.ref s_MAP), .val (.double (v0_8 p1)), .second, .val (.double (b2_7 (v0_8 p1) p2)), .second, .unset, .unset]) rfl ?_
              show Steps p.tables e below (T59.setTop (mkF m 32 #[.val (.int p0), .val (.int p1), .val (.int p2), .val (.int (4 : Int32)), .val (.ref s_MAP), .val (.double (v0_8 p1)), .second, .val (.double (b2_7 (v0_8 p1) p2)), .second, .unset, .unset] [])) t
              refine XS.iloadN X59.here hx rfl (hb hby at_32) rfl ?_
              show Steps p.tables e below (T59.setTop (mkF m 33 #[.val (.int p0), .val (.int p1), .val (.int p2), .val (.int (4 : Int32)), .val (.ref s_MAP), .val (.double (v0_8 p1)), .second, .val (.double (b2_7 (v0_8 p1) p2)), .second, .unset, .unset] [(.int (4 : Int32))])) t
              refine XS.iconst X59.here hx rfl (hb hby at_33) ?_
              show Steps p.tables e below (T59.setTop (mkF m 34 #[.val (.int p0), .val (.int p1), .val (.int p2), .val (.int (4 : Int32)), .val (.ref s_MAP), .val (.double (v0_8 p1)), .second, .val (.double (b2_7 (v0_8 p1) p2)), .second, .unset, .unset] [(.int (4 : Int32)), (.int (4 : Int32))])) t
              refine XS.icmpYes X59.here hx rfl (pc0 := 34) (pc' := 44) rfl (hb hby at_34) rfl (XT.ii_ge_t (by decide : ¬ ((4 : Int32) < (4 : Int32)))) (by decide) (by decide) ?_
              show Steps p.tables e below (T59.setTop (mkF m 44 #[.val (.int p0), .val (.int p1), .val (.int p2), .val (.int (4 : Int32)), .val (.ref s_MAP), .val (.double (v0_8 p1)), .second, .val (.double (b2_7 (v0_8 p1) p2)), .second, .unset, .unset] [])) t
              refine XS.iloadN X59.here hx rfl (hb hby at_44) rfl ?_
              show Steps p.tables e below (T59.setTop (mkF m 45 #[.val (.int p0), .val (.int p1), .val (.int p2), .val (.int (4 : Int32)), .val (.ref s_MAP), .val (.double (v0_8 p1)), .second, .val (.double (b2_7 (v0_8 p1) p2)), .second, .unset, .unset] [(.int p2)])) t
              by_cases hc61 : p2 = (0 : Int32)
              · refine XS.ifNo X59.here hx rfl (hb hby at_45) rfl (XT.i0_ne_f hc61) ?_
                show Steps p.tables e below (T59.setTop (mkF m 48 #[.val (.int p0), .val (.int p1), .val (.int p2), .val (.int (4 : Int32)), .val (.ref s_MAP), .val (.double (v0_8 p1)), .second, .val (.double (b2_7 (v0_8 p1) p2)), .second, .unset, .unset] [])) t
                refine XS.dconst0 X59.here hx rfl (hb hby at_48) (v := FP.dconst0) rfl ?_
                show Steps p.tables e below (T59.setTop (mkF m 49 #[.val (.int p0), .val (.int p1), .val (.int p2), .val (.int (4 : Int32)), .val (.ref s_MAP), .val (.double (v0_8 p1)), .second, .val (.double (b2_7 (v0_8 p1) p2)), .second, .unset, .unset] [(.double FP.dconst0)])) t
                refine XS.dstore X59.here hx rfl (hb hby at_49) rfl (l' := #[.val (.int p0), .val (.int p1), .val (.int p2), .val (.int (4 : Int32)), .val (.ref s_MAP), .val (.double (v0_8 p1)), .second, .val (.double (b2_7 (v0_8 p1) p2)), .second, .val (.double FP.dconst0), .second]) rfl ?_
                show Steps p.tables e below (T59.setTop (mkF m 51 #[.val (.int p0), .val (.int p1), .val (.int p2), .val (.int (4 : Int32)), .val (.ref s_MAP), .val (.double (v0_8 p1)), .second, .val (.double (b2_7 (v0_8 p1) p2)), .second, .val (.double FP.dconst0), .second] [])) t
                refine XS.goto X59.here hx rfl (pc0 := 51) (pc' := 61) rfl (hb hby at_51) (by decide) (by decide) ?_
                show Steps p.tables e below (T59.setTop (mkF m 61 #[.val (.int p0), .val (.int p1), .val (.int p2), .val (.int (4 : Int32)), .val (.ref s_MAP), .val (.double (v0_8 p1)), .second, .val (.double (b2_7 (v0_8 p1) p2)), .second, .val (.double FP.dconst0), .second] [])) t
                have hq65 : (b0_64 p1 p2) = FP.dconst0 := by rw [b0_64, if_pos hc61]
                rw [hq65] at k
                exact k
              · refine XS.ifYes X59.here hx rfl (pc0 := 45) (pc' := 54) rfl (hb hby at_45) rfl (XT.i0_ne_t hc61) (by decide) (by decide) ?_
                show Steps p.tables e below (T59.setTop (mkF m 54 #[.val (.int p0), .val (.int p1), .val (.int p2), .val (.int (4 : Int32)), .val (.ref s_MAP), .val (.double (v0_8 p1)), .second, .val (.double (b2_7 (v0_8 p1) p2)), .second, .unset, .unset] [])) t
                refine XS.dload X59.here hx rfl (hb hby at_54) rfl ?_
                show Steps p.tables e below (T59.setTop (mkF m 56 #[.val (.int p0), .val (.int p1), .val (.int p2), .val (.int (4 : Int32)), .val (.ref s_MAP), .val (.double (v0_8 p1)), .second, .val (.double (b2_7 (v0_8 p1) p2)), .second, .unset, .unset] [(.double (v0_8 p1))])) t
                refine XS.iloadN X59.here hx rfl (hb hby at_56) rfl ?_
                show Steps p.tables e below (T59.setTop (mkF m 57 #[.val (.int p0), .val (.int p1), .val (.int p2), .val (.int (4 : Int32)), .val (.ref s_MAP), .val (.double (v0_8 p1)), .second, .val (.double (b2_7 (v0_8 p1) p2)), .second, .unset, .unset] [(.int p2), (.double (v0_8 p1))])) t
                refine XS.i2dS X59.here hx rfl (hb hby at_57) rfl (v := (FP.i2d p2)) rfl ?_
                show Steps p.tables e below (T59.setTop (mkF m 58 #[.val (.int p0), .val (.int p1), .val (.int p2), .val (.int (4 : Int32)), .val (.ref s_MAP), .val (.double (v0_8 p1)), .second, .val (.double (b2_7 (v0_8 p1) p2)), .second, .unset, .unset] [(.double (FP.i2d p2)), (.double (v0_8 p1))])) t
                refine XS.ddivS X59.here hx rfl (hb hby at_58) rfl (own_quo (own_sum p1) hc61) (v := (FP.ddiv (v0_8 p1) (FP.i2d p2))) rfl ?_
                show Steps p.tables e below (T59.setTop (mkF m 59 #[.val (.int p0), .val (.int p1), .val (.int p2), .val (.int (4 : Int32)), .val (.ref s_MAP), .val (.double (v0_8 p1)), .second, .val (.double (b2_7 (v0_8 p1) p2)), .second, .unset, .unset] [(.double (FP.ddiv (v0_8 p1) (FP.i2d p2)))])) t
                show Steps p.tables e below (T59.setTop (mkF m 59 #[.val (.int p0), .val (.int p1), .val (.int p2), .val (.int (4 : Int32)), .val (.ref s_MAP), .val (.double (v0_8 p1)), .second, .val (.double (b2_7 (v0_8 p1) p2)), .second, .unset, .unset] [(.double (v0_62 p1 p2))])) t
                refine XS.dstore X59.here hx rfl (hb hby at_59) rfl (l' := #[.val (.int p0), .val (.int p1), .val (.int p2), .val (.int (4 : Int32)), .val (.ref s_MAP), .val (.double (v0_8 p1)), .second, .val (.double (b2_7 (v0_8 p1) p2)), .second, .val (.double (v0_62 p1 p2)), .second]) rfl ?_
                show Steps p.tables e below (T59.setTop (mkF m 61 #[.val (.int p0), .val (.int p1), .val (.int p2), .val (.int (4 : Int32)), .val (.ref s_MAP), .val (.double (v0_8 p1)), .second, .val (.double (b2_7 (v0_8 p1) p2)), .second, .val (.double (v0_62 p1 p2)), .second] [])) t
                have hq66 : (b0_64 p1 p2) = (v0_62 p1 p2) := by rw [b0_64, if_neg hc61]
                rw [hq66] at k
                exact k
            have go68 : ∀ t, Steps p.tables e below (T59.setTop (mkF m 74 #[.val (.int p0), .val (.int p1), .val (.int p2), .val (.int (4 : Int32)), .val (.ref s_MAP), .val (.double (v0_8 p1)), .second, .val (.double (b2_7 (v0_8 p1) p2)), .second, .val (.double (b0_64 p1 p2)), .second] [(.int (b0_69 p1 p2))])) t → Steps p.tables e below (s₁.setTop (entryFrame m #[(.int p0), (.int p1), (.int p2)] maxLocals)) t := by
              intro t k
              refine go63 _ ?_
              refine XS.dload X59.here hx rfl (hb hby at_61) rfl ?_
              show Steps p.tables e below (T59.setTop (mkF m 63 #[.val (.int p0), .val (.int p1), .val (.int p2), .val (.int (4 : Int32)), .val (.ref s_MAP), .val (.double (v0_8 p1)), .second, .val (.double (b2_7 (v0_8 p1) p2)), .second, .val (.double (b0_64 p1 p2)), .second] [(.double (b2_7 (v0_8 p1) p2))])) t
              refine XS.dload X59.here hx rfl (hb hby at_63) rfl ?_
              show Steps p.tables e below (T59.setTop (mkF m 65 #[.val (.int p0), .val (.int p1), .val (.int p2), .val (.int (4 : Int32)), .val (.ref s_MAP), .val (.double (v0_8 p1)), .second, .val (.double (b2_7 (v0_8 p1) p2)), .second, .val (.double (b0_64 p1 p2)), .second] [(.double (b0_64 p1 p2)), (.double (b2_7 (v0_8 p1) p2))])) t
              refine XS.dcmpS X59.here hx rfl (hb hby at_65) rfl (v := (cmpValue (FP.dcmp (b2_7 (v0_8 p1) p2) (b0_64 p1 p2)) .l)) rfl ?_
              show Steps p.tables e below (T59.setTop (mkF m 66 #[.val (.int p0), .val (.int p1), .val (.int p2), .val (.int (4 : Int32)), .val (.ref s_MAP), .val (.double (v0_8 p1)), .second, .val (.double (b2_7 (v0_8 p1) p2)), .second, .val (.double (b0_64 p1 p2)), .second] [(.int (cmpValue (FP.dcmp (b2_7 (v0_8 p1) p2) (b0_64 p1 p2)) .l))])) t
              by_cases hc67 : (cmpValue (FP.dcmp (b2_7 (v0_8 p1) p2) (b0_64 p1 p2)) .l) = (0 : Int32)
              · refine XS.ifNo X59.here hx rfl (hb hby at_66) rfl (XT.i0_ne_f hc67) ?_
                show Steps p.tables e below (T59.setTop (mkF m 69 #[.val (.int p0), .val (.int p1), .val (.int p2), .val (.int (4 : Int32)), .val (.ref s_MAP), .val (.double (v0_8 p1)), .second, .val (.double (b2_7 (v0_8 p1) p2)), .second, .val (.double (b0_64 p1 p2)), .second] [])) t
                refine XS.iconst X59.here hx rfl (hb hby at_69) ?_
                show Steps p.tables e below (T59.setTop (mkF m 70 #[.val (.int p0), .val (.int p1), .val (.int p2), .val (.int (4 : Int32)), .val (.ref s_MAP), .val (.double (v0_8 p1)), .second, .val (.double (b2_7 (v0_8 p1) p2)), .second, .val (.double (b0_64 p1 p2)), .second] [(.int (1 : Int32))])) t
                refine XS.goto X59.here hx rfl (pc0 := 70) (pc' := 74) rfl (hb hby at_70) (by decide) (by decide) ?_
                show Steps p.tables e below (T59.setTop (mkF m 74 #[.val (.int p0), .val (.int p1), .val (.int p2), .val (.int (4 : Int32)), .val (.ref s_MAP), .val (.double (v0_8 p1)), .second, .val (.double (b2_7 (v0_8 p1) p2)), .second, .val (.double (b0_64 p1 p2)), .second] [(.int (1 : Int32))])) t
                have hq70 : (b0_69 p1 p2) = (1 : Int32) := by rw [b0_69, if_pos hc67]
                rw [hq70] at k
                exact k
              · refine XS.ifYes X59.here hx rfl (pc0 := 66) (pc' := 73) rfl (hb hby at_66) rfl (XT.i0_ne_t hc67) (by decide) (by decide) ?_
                show Steps p.tables e below (T59.setTop (mkF m 73 #[.val (.int p0), .val (.int p1), .val (.int p2), .val (.int (4 : Int32)), .val (.ref s_MAP), .val (.double (v0_8 p1)), .second, .val (.double (b2_7 (v0_8 p1) p2)), .second, .val (.double (b0_64 p1 p2)), .second] [])) t
                refine XS.iconst X59.here hx rfl (hb hby at_73) ?_
                show Steps p.tables e below (T59.setTop (mkF m 74 #[.val (.int p0), .val (.int p1), .val (.int p2), .val (.int (4 : Int32)), .val (.ref s_MAP), .val (.double (v0_8 p1)), .second, .val (.double (b2_7 (v0_8 p1) p2)), .second, .val (.double (b0_64 p1 p2)), .second] [(.int (0 : Int32))])) t
                have hq71 : (b0_69 p1 p2) = (0 : Int32) := by rw [b0_69, if_neg hc67]
                rw [hq71] at k
                exact k
            obtain ⟨fs, hr, hrun, hended, hW, hsame⟩ := X59.leave (v := some (.int (b0_69 p1 p2))) (fun h => by rw [Bd.returns] at h; cases h)
            refine ⟨_, _, go68 _ (Jvm.RoadKit.retOut X59 hx Bd.returns (own_nz (by unfold b0_69; (repeat' split) <;> first | exact Or.inl rfl | exact Or.inr rfl)) (Or.inl ⟨rfl, Or.inr (Or.inl rfl), _, rfl⟩) (hb hby at_74) hr), hrun, hended, _, _, rfl, ?_, ⟨_, rfl⟩, hW, hsame.mono (by decide) (by decide)⟩
            show Q0 _ _ p0 p1 p2 s_NUM_Q s_NUM_RET s_NDCG_CUT_10 s_RPREC s_P_5 s_P_10 s_P_20 s_NUM_REL_RET s_RECALL_10 s_NUM_REL s_MAP s_RECIP_RANK s_BPREF s_NDCG s_RECALL_100 h0 _ (T59.setFrames fs).heap _
            have hE : (T59.setFrames fs).heap = h0 := e59
            rw [hE]
            exact ⟨congrArg (fun z => some (Value.int z)) ((by rw [f0, if_neg hs3, if_neg hs17, if_neg hs29, if_neg hs41, if_pos hs53] : (b0_69 p1 p2) = (f0 p0 p1 p2)).trans (f0_one p0 p1 p2)), N59⟩
          · by_cases hs72 : (v0_1 p0) = (5 : Int32)
            · have go73 : ∀ t, Steps p.tables e below (s₁.setTop (mkF m 8 #[.val (.int p0), .val (.int p1), .val (.int p2), .val (.int (5 : Int32)), .unset, .unset, .unset, .unset, .unset, .unset, .unset] [])) t → Steps p.tables e below (s₁.setTop (entryFrame m #[(.int p0), (.int p1), (.int p2)] maxLocals)) t := by
                have q := go2
                rw [hs72] at q
                exact q
              have go74 : ∀ t, Steps p.tables e below (s₁.setTop (mkF m 9 #[.val (.int p0), .val (.int p1), .val (.int p2), .val (.int (5 : Int32)), .unset, .unset, .unset, .unset, .unset, .unset, .unset] [(.int (5 : Int32))])) t → Steps p.tables e below (s₁.setTop (entryFrame m #[(.int p0), (.int p1), (.int p2)] maxLocals)) t := by
                intro t k
                refine go73 _ ?_
                refine XS.iloadN X0.here hx rfl (hb hby at_8) rfl ?_
                show Steps p.tables e below (s₁.setTop (mkF m 9 #[.val (.int p0), .val (.int p1), .val (.int p2), .val (.int (5 : Int32)), .unset, .unset, .unset, .unset, .unset, .unset, .unset] [(.int (5 : Int32))])) t
                exact k
              obtain ⟨_, _, ⟨T75, L75, k75, n75⟩, -, X75, ⟨Lc75, hQ75, l75, y75, z75⟩, st75⟩ := Jvm.LawKit.callS X0 hx (y := (⟨"com/example/mirk/mirk/eval/MeasureOverAllPinLaw", "pick", "(I)Lcom/example/mirk/mirk/eval/Measure;"⟩ : MethodName)) hown (mvT hZ (hw _ (List.mem_of_getElem? (i := 1) rfl))) (mvT hZ (hw _ (List.mem_of_getElem? (i := 2) rfl))) (mvT hZ (hw _ (List.mem_of_getElem? (i := 3) rfl))) (mvT hZ (hw _ (List.mem_of_getElem? (i := 4) rfl))) (by decide) (backOf (W := 0) (rm1 l Z aZ hw [] (5 : Int32) s_NUM_Q s_NUM_RET s_NUM_REL s_NUM_REL_RET s_MAP s_RPREC s_BPREF s_RECIP_RANK s_P_5 s_P_10 s_P_20 s_RECALL_10 s_RECALL_100 s_NDCG s_NDCG_CUT_10 h0 n0 Z0 S_NUM_Q S_NUM_RET S_NUM_REL S_NUM_REL_RET S_MAP S_RPREC S_BPREF S_RECIP_RANK S_P_5 S_P_10 S_P_20 S_RECALL_10 S_RECALL_100 S_NDCG S_NDCG_CUT_10) hZ (hw _ (List.mem_of_getElem? (i := 4) rfl)) (hw _ (List.mem_of_getElem? (i := 3) rfl)) (by decide) (by decide)) (g := (mkF m 9 #[.val (.int p0), .val (.int p1), .val (.int p2), .val (.int (5 : Int32)), .unset, .unset, .unset, .unset, .unset, .unset, .unset] [(.int (5 : Int32))])) rfl (by rw [hml]; rfl) (argsL := [(.int (5 : Int32))]) (rest := []) (lenOf pd_89 rfl) rfl (by show 2 * 0 + _ ≤ _; exact Nat.le_of_eq rfl) (hb hby at_9) (fun _ _ => ⟨rfl, e0, (by decide : 0 + 0 ≤ _), (by decide : 0 + 0 ≤ _)⟩)
              dsimp only [Pt.U, Pt.locs, Pt.cells, Pt.slots] at X75 l75 y75 z75 st75 hQ75
              subst l75 y75 z75
              obtain ⟨rfl, N75q, e75⟩ := hQ75
              have N75 := Fr.app N0 N75q
              have go76 : ∀ t, Steps p.tables e below (T75.setTop (mkF m 12 #[.val (.int p0), .val (.int p1), .val (.int p2), .val (.int (5 : Int32)), .unset, .unset, .unset, .unset, .unset, .unset, .unset] [(.ref s_RPREC)])) t → Steps p.tables e below (s₁.setTop (entryFrame m #[(.int p0), (.int p1), (.int p2)] maxLocals)) t := fun t k => go74 _ (st75 _ k)
              have go77 : ∀ t, Steps p.tables e below (T75.setTop (mkF m 27 #[.val (.int p0), .val (.int p1), .val (.int p2), .val (.int (5 : Int32)), .val (.ref s_RPREC), .val (.double (v0_8 p1)), .second, .unset, .unset, .unset, .unset] [(.int p2), (.double (v0_8 p1)), (.ref s_RPREC)])) t → Steps p.tables e below (s₁.setTop (entryFrame m #[(.int p0), (.int p1), (.int p2)] maxLocals)) t := by
                intro t k
                refine go76 _ ?_
                refine XS.astore X75.here hx rfl (hb hby at_12) rfl rfl (l' := #[.val (.int p0), .val (.int p1), .val (.int p2), .val (.int (5 : Int32)), .val (.ref s_RPREC), .unset, .unset, .unset, .unset, .unset, .unset]) rfl ?_
                show Steps p.tables e below (T75.setTop (mkF m 14 #[.val (.int p0), .val (.int p1), .val (.int p2), .val (.int (5 : Int32)), .val (.ref s_RPREC), .unset, .unset, .unset, .unset, .unset, .unset] [])) t
                refine XS.iloadN X75.here hx rfl (hb hby at_14) rfl ?_
                show Steps p.tables e below (T75.setTop (mkF m 15 #[.val (.int p0), .val (.int p1), .val (.int p2), .val (.int (5 : Int32)), .val (.ref s_RPREC), .unset, .unset, .unset, .unset, .unset, .unset] [(.int p1)])) t
                refine XS.i2dS X75.here hx rfl (hb hby at_15) rfl (v := (FP.i2d p1)) rfl ?_
                show Steps p.tables e below (T75.setTop (mkF m 16 #[.val (.int p0), .val (.int p1), .val (.int p2), .val (.int (5 : Int32)), .val (.ref s_RPREC), .unset, .unset, .unset, .unset, .unset, .unset] [(.double (FP.i2d p1))])) t
                refine X75.ldc2DoubleC hx hown (mvT hZ (hw _ (List.mem_of_getElem? (i := 8) rfl))) (g := (mkF m 16 #[.val (.int p0), .val (.int p1), .val (.int p2), .val (.int (5 : Int32)), .val (.ref s_RPREC), .unset, .unset, .unset, .unset, .unset, .unset] [(.double (FP.i2d p1))])) rfl (hb hby at_16) _ ?_
                show Steps p.tables e below (T75.setTop (mkF m 19 #[.val (.int p0), .val (.int p1), .val (.int p2), .val (.int (5 : Int32)), .val (.ref s_RPREC), .unset, .unset, .unset, .unset, .unset, .unset] [(.double (4598175219545276416 : UInt64)), (.double (FP.i2d p1))])) t
                refine XS.dmulS X75.here hx rfl (hb hby at_19) rfl (own_sum p1) (v := (FP.dmul (FP.i2d p1) (4598175219545276416 : UInt64))) rfl ?_
                show Steps p.tables e below (T75.setTop (mkF m 20 #[.val (.int p0), .val (.int p1), .val (.int p2), .val (.int (5 : Int32)), .val (.ref s_RPREC), .unset, .unset, .unset, .unset, .unset, .unset] [(.double (FP.dmul (FP.i2d p1) (4598175219545276416 : UInt64)))])) t
                show Steps p.tables e below (T75.setTop (mkF m 20 #[.val (.int p0), .val (.int p1), .val (.int p2), .val (.int (5 : Int32)), .val (.ref s_RPREC), .unset, .unset, .unset, .unset, .unset, .unset] [(.double (v0_8 p1))])) t
                refine XS.dstore X75.here hx rfl (hb hby at_20) rfl (l' := #[.val (.int p0), .val (.int p1), .val (.int p2), .val (.int (5 : Int32)), .val (.ref s_RPREC), .val (.double (v0_8 p1)), .second, .unset, .unset, .unset, .unset]) rfl ?_
                show Steps p.tables e below (T75.setTop (mkF m 22 #[.val (.int p0), .val (.int p1), .val (.int p2), .val (.int (5 : Int32)), .val (.ref s_RPREC), .val (.double (v0_8 p1)), .second, .unset, .unset, .unset, .unset] [])) t
                refine XS.aload X75.here hx rfl (hb hby at_22) rfl rfl ?_
                show Steps p.tables e below (T75.setTop (mkF m 24 #[.val (.int p0), .val (.int p1), .val (.int p2), .val (.int (5 : Int32)), .val (.ref s_RPREC), .val (.double (v0_8 p1)), .second, .unset, .unset, .unset, .unset] [(.ref s_RPREC)])) t
                refine XS.dload X75.here hx rfl (hb hby at_24) rfl ?_
                show Steps p.tables e below (T75.setTop (mkF m 26 #[.val (.int p0), .val (.int p1), .val (.int p2), .val (.int (5 : Int32)), .val (.ref s_RPREC), .val (.double (v0_8 p1)), .second, .unset, .unset, .unset, .unset] [(.double (v0_8 p1)), (.ref s_RPREC)])) t
                refine XS.iloadN X75.here hx rfl (hb hby at_26) rfl ?_
                show Steps p.tables e below (T75.setTop (mkF m 27 #[.val (.int p0), .val (.int p1), .val (.int p2), .val (.int (5 : Int32)), .val (.ref s_RPREC), .val (.double (v0_8 p1)), .second, .unset, .unset, .unset, .unset] [(.int p2), (.double (v0_8 p1)), (.ref s_RPREC)])) t
                exact k
              obtain ⟨cq78, kq78, q78a, q78b, q78c⟩ := isOf hZ e75 E_RPREC
              obtain ⟨_, _, ⟨T78, L78, k78, n78⟩, -, X78, ⟨Lc78, hQ78, l78, y78, z78⟩, st78⟩ := X75.virtualBack hx (y := (⟨"com/example/mirk/mirk/eval/Measure", "overAll", "(DI)D"⟩ : MethodName)) (z := (⟨"com/example/mirk/mirk/eval/Measure", "overAll", "(DI)D"⟩ : MethodName)) hown (mvT hZ (hw _ (List.mem_of_getElem? (i := 9) rfl))) (mvT hZ (hw _ (List.mem_of_getElem? (i := 10) rfl))) (notFace_of_selects (args := #[]) (mvT hZ (hw _ (List.mem_of_getElem? (i := 12) rfl)))) (mvT hZ (hw _ (List.mem_of_getElem? (i := 12) rfl))) (mvT hZ (hw _ (List.mem_of_getElem? (i := 11) rfl))) (by decide) (backOf (W := 0) (rm2 l Z aZ hw [] s_RPREC (v0_8 p1) p2 (0 : Int32) h0 n0 Z0 F_RPREC_count (own_sum p1)) hZ (hw _ (List.mem_of_getElem? (i := 13) rfl)) (hw _ (List.mem_of_getElem? (i := 6) rfl)) (by decide) (by decide)) q78a q78c (g := (mkF m 27 #[.val (.int p0), .val (.int p1), .val (.int p2), .val (.int (5 : Int32)), .val (.ref s_RPREC), .val (.double (v0_8 p1)), .second, .unset, .unset, .unset, .unset] [(.int p2), (.double (v0_8 p1)), (.ref s_RPREC)])) rfl (by rw [hml]; rfl) (Steps.refl _) (argsL := [(.double (v0_8 p1)), (.int p2)]) (rest := []) (lenOf pd_91 rfl) rfl (by show 2 * 0 + _ ≤ _; exact Nat.le_of_eq rfl) (hb hby at_27) (fun _ _ => ⟨rfl, e75, (by decide : 0 + 0 ≤ _), (by decide : 0 + 0 ≤ _)⟩)
              dsimp only [Pt.U, Pt.locs, Pt.cells, Pt.slots] at X78 l78 y78 z78 st78 hQ78
              subst l78 y78 z78
              obtain ⟨rfl, N78q, e78⟩ := hQ78
              have N78 := Fr.app N75 N78q
              have go79 : ∀ t, Steps p.tables e below (T78.setTop (mkF m 30 #[.val (.int p0), .val (.int p1), .val (.int p2), .val (.int (5 : Int32)), .val (.ref s_RPREC), .val (.double (v0_8 p1)), .second, .unset, .unset, .unset, .unset] [(.double (b2_7 (v0_8 p1) p2))])) t → Steps p.tables e below (s₁.setTop (entryFrame m #[(.int p0), (.int p1), (.int p2)] maxLocals)) t := fun t k => go77 _ (st78.trans k)
              have go81 : ∀ t, Steps p.tables e below (T78.setTop (mkF m 61 #[.val (.int p0), .val (.int p1), .val (.int p2), .val (.int (5 : Int32)), .val (.ref s_RPREC), .val (.double (v0_8 p1)), .second, .val (.double (b2_7 (v0_8 p1) p2)), .second, .val (.double (b0_64 p1 p2)), .second] [])) t → Steps p.tables e below (s₁.setTop (entryFrame m #[(.int p0), (.int p1), (.int p2)] maxLocals)) t := by
                intro t k
                refine go79 _ ?_
                refine XS.dstore X78.here hx rfl (hb hby at_30) rfl (l' := #[.val (.int p0), .val (.int p1), .val (.int p2), .val (.int (5 : Int32)), .val (.ref s_RPREC), .val (.double (v0_8 p1)), .second, .val (.double (b2_7 (v0_8 p1) p2)), .second, .unset, .unset]) rfl ?_
                show Steps p.tables e below (T78.setTop (mkF m 32 #[.val (.int p0), .val (.int p1), .val (.int p2), .val (.int (5 : Int32)), .val (.ref s_RPREC), .val (.double (v0_8 p1)), .second, .val (.double (b2_7 (v0_8 p1) p2)), .second, .unset, .unset] [])) t
                refine XS.iloadN X78.here hx rfl (hb hby at_32) rfl ?_
                show Steps p.tables e below (T78.setTop (mkF m 33 #[.val (.int p0), .val (.int p1), .val (.int p2), .val (.int (5 : Int32)), .val (.ref s_RPREC), .val (.double (v0_8 p1)), .second, .val (.double (b2_7 (v0_8 p1) p2)), .second, .unset, .unset] [(.int (5 : Int32))])) t
                refine XS.iconst X78.here hx rfl (hb hby at_33) ?_
                show Steps p.tables e below (T78.setTop (mkF m 34 #[.val (.int p0), .val (.int p1), .val (.int p2), .val (.int (5 : Int32)), .val (.ref s_RPREC), .val (.double (v0_8 p1)), .second, .val (.double (b2_7 (v0_8 p1) p2)), .second, .unset, .unset] [(.int (4 : Int32)), (.int (5 : Int32))])) t
                refine XS.icmpYes X78.here hx rfl (pc0 := 34) (pc' := 44) rfl (hb hby at_34) rfl (XT.ii_ge_t (by decide : ¬ ((5 : Int32) < (4 : Int32)))) (by decide) (by decide) ?_
                show Steps p.tables e below (T78.setTop (mkF m 44 #[.val (.int p0), .val (.int p1), .val (.int p2), .val (.int (5 : Int32)), .val (.ref s_RPREC), .val (.double (v0_8 p1)), .second, .val (.double (b2_7 (v0_8 p1) p2)), .second, .unset, .unset] [])) t
                refine XS.iloadN X78.here hx rfl (hb hby at_44) rfl ?_
                show Steps p.tables e below (T78.setTop (mkF m 45 #[.val (.int p0), .val (.int p1), .val (.int p2), .val (.int (5 : Int32)), .val (.ref s_RPREC), .val (.double (v0_8 p1)), .second, .val (.double (b2_7 (v0_8 p1) p2)), .second, .unset, .unset] [(.int p2)])) t
                by_cases hc80 : p2 = (0 : Int32)
                · refine XS.ifNo X78.here hx rfl (hb hby at_45) rfl (XT.i0_ne_f hc80) ?_
                  show Steps p.tables e below (T78.setTop (mkF m 48 #[.val (.int p0), .val (.int p1), .val (.int p2), .val (.int (5 : Int32)), .val (.ref s_RPREC), .val (.double (v0_8 p1)), .second, .val (.double (b2_7 (v0_8 p1) p2)), .second, .unset, .unset] [])) t
                  refine XS.dconst0 X78.here hx rfl (hb hby at_48) (v := FP.dconst0) rfl ?_
                  show Steps p.tables e below (T78.setTop (mkF m 49 #[.val (.int p0), .val (.int p1), .val (.int p2), .val (.int (5 : Int32)), .val (.ref s_RPREC), .val (.double (v0_8 p1)), .second, .val (.double (b2_7 (v0_8 p1) p2)), .second, .unset, .unset] [(.double FP.dconst0)])) t
                  refine XS.dstore X78.here hx rfl (hb hby at_49) rfl (l' := #[.val (.int p0), .val (.int p1), .val (.int p2), .val (.int (5 : Int32)), .val (.ref s_RPREC), .val (.double (v0_8 p1)), .second, .val (.double (b2_7 (v0_8 p1) p2)), .second, .val (.double FP.dconst0), .second]) rfl ?_
                  show Steps p.tables e below (T78.setTop (mkF m 51 #[.val (.int p0), .val (.int p1), .val (.int p2), .val (.int (5 : Int32)), .val (.ref s_RPREC), .val (.double (v0_8 p1)), .second, .val (.double (b2_7 (v0_8 p1) p2)), .second, .val (.double FP.dconst0), .second] [])) t
                  refine XS.goto X78.here hx rfl (pc0 := 51) (pc' := 61) rfl (hb hby at_51) (by decide) (by decide) ?_
                  show Steps p.tables e below (T78.setTop (mkF m 61 #[.val (.int p0), .val (.int p1), .val (.int p2), .val (.int (5 : Int32)), .val (.ref s_RPREC), .val (.double (v0_8 p1)), .second, .val (.double (b2_7 (v0_8 p1) p2)), .second, .val (.double FP.dconst0), .second] [])) t
                  have hq82 : (b0_64 p1 p2) = FP.dconst0 := by rw [b0_64, if_pos hc80]
                  rw [hq82] at k
                  exact k
                · refine XS.ifYes X78.here hx rfl (pc0 := 45) (pc' := 54) rfl (hb hby at_45) rfl (XT.i0_ne_t hc80) (by decide) (by decide) ?_
                  show Steps p.tables e below (T78.setTop (mkF m 54 #[.val (.int p0), .val (.int p1), .val (.int p2), .val (.int (5 : Int32)), .val (.ref s_RPREC), .val (.double (v0_8 p1)), .second, .val (.double (b2_7 (v0_8 p1) p2)), .second, .unset, .unset] [])) t
                  refine XS.dload X78.here hx rfl (hb hby at_54) rfl ?_
                  show Steps p.tables e below (T78.setTop (mkF m 56 #[.val (.int p0), .val (.int p1), .val (.int p2), .val (.int (5 : Int32)), .val (.ref s_RPREC), .val (.double (v0_8 p1)), .second, .val (.double (b2_7 (v0_8 p1) p2)), .second, .unset, .unset] [(.double (v0_8 p1))])) t
                  refine XS.iloadN X78.here hx rfl (hb hby at_56) rfl ?_
                  show Steps p.tables e below (T78.setTop (mkF m 57 #[.val (.int p0), .val (.int p1), .val (.int p2), .val (.int (5 : Int32)), .val (.ref s_RPREC), .val (.double (v0_8 p1)), .second, .val (.double (b2_7 (v0_8 p1) p2)), .second, .unset, .unset] [(.int p2), (.double (v0_8 p1))])) t
                  refine XS.i2dS X78.here hx rfl (hb hby at_57) rfl (v := (FP.i2d p2)) rfl ?_
                  show Steps p.tables e below (T78.setTop (mkF m 58 #[.val (.int p0), .val (.int p1), .val (.int p2), .val (.int (5 : Int32)), .val (.ref s_RPREC), .val (.double (v0_8 p1)), .second, .val (.double (b2_7 (v0_8 p1) p2)), .second, .unset, .unset] [(.double (FP.i2d p2)), (.double (v0_8 p1))])) t
                  refine XS.ddivS X78.here hx rfl (hb hby at_58) rfl (own_quo (own_sum p1) hc80) (v := (FP.ddiv (v0_8 p1) (FP.i2d p2))) rfl ?_
                  show Steps p.tables e below (T78.setTop (mkF m 59 #[.val (.int p0), .val (.int p1), .val (.int p2), .val (.int (5 : Int32)), .val (.ref s_RPREC), .val (.double (v0_8 p1)), .second, .val (.double (b2_7 (v0_8 p1) p2)), .second, .unset, .unset] [(.double (FP.ddiv (v0_8 p1) (FP.i2d p2)))])) t
                  show Steps p.tables e below (T78.setTop (mkF m 59 #[.val (.int p0), .val (.int p1), .val (.int p2), .val (.int (5 : Int32)), .val (.ref s_RPREC), .val (.double (v0_8 p1)), .second, .val (.double (b2_7 (v0_8 p1) p2)), .second, .unset, .unset] [(.double (v0_62 p1 p2))])) t
                  refine XS.dstore X78.here hx rfl (hb hby at_59) rfl (l' := #[.val (.int p0), .val (.int p1), .val (.int p2), .val (.int (5 : Int32)), .val (.ref s_RPREC), .val (.double (v0_8 p1)), .second, .val (.double (b2_7 (v0_8 p1) p2)), .second, .val (.double (v0_62 p1 p2)), .second]) rfl ?_
                  show Steps p.tables e below (T78.setTop (mkF m 61 #[.val (.int p0), .val (.int p1), .val (.int p2), .val (.int (5 : Int32)), .val (.ref s_RPREC), .val (.double (v0_8 p1)), .second, .val (.double (b2_7 (v0_8 p1) p2)), .second, .val (.double (v0_62 p1 p2)), .second] [])) t
                  have hq83 : (b0_64 p1 p2) = (v0_62 p1 p2) := by rw [b0_64, if_neg hc80]
                  rw [hq83] at k
                  exact k
              have go85 : ∀ t, Steps p.tables e below (T78.setTop (mkF m 74 #[.val (.int p0), .val (.int p1), .val (.int p2), .val (.int (5 : Int32)), .val (.ref s_RPREC), .val (.double (v0_8 p1)), .second, .val (.double (b2_7 (v0_8 p1) p2)), .second, .val (.double (b0_64 p1 p2)), .second] [(.int (b0_69 p1 p2))])) t → Steps p.tables e below (s₁.setTop (entryFrame m #[(.int p0), (.int p1), (.int p2)] maxLocals)) t := by
                intro t k
                refine go81 _ ?_
                refine XS.dload X78.here hx rfl (hb hby at_61) rfl ?_
                show Steps p.tables e below (T78.setTop (mkF m 63 #[.val (.int p0), .val (.int p1), .val (.int p2), .val (.int (5 : Int32)), .val (.ref s_RPREC), .val (.double (v0_8 p1)), .second, .val (.double (b2_7 (v0_8 p1) p2)), .second, .val (.double (b0_64 p1 p2)), .second] [(.double (b2_7 (v0_8 p1) p2))])) t
                refine XS.dload X78.here hx rfl (hb hby at_63) rfl ?_
                show Steps p.tables e below (T78.setTop (mkF m 65 #[.val (.int p0), .val (.int p1), .val (.int p2), .val (.int (5 : Int32)), .val (.ref s_RPREC), .val (.double (v0_8 p1)), .second, .val (.double (b2_7 (v0_8 p1) p2)), .second, .val (.double (b0_64 p1 p2)), .second] [(.double (b0_64 p1 p2)), (.double (b2_7 (v0_8 p1) p2))])) t
                refine XS.dcmpS X78.here hx rfl (hb hby at_65) rfl (v := (cmpValue (FP.dcmp (b2_7 (v0_8 p1) p2) (b0_64 p1 p2)) .l)) rfl ?_
                show Steps p.tables e below (T78.setTop (mkF m 66 #[.val (.int p0), .val (.int p1), .val (.int p2), .val (.int (5 : Int32)), .val (.ref s_RPREC), .val (.double (v0_8 p1)), .second, .val (.double (b2_7 (v0_8 p1) p2)), .second, .val (.double (b0_64 p1 p2)), .second] [(.int (cmpValue (FP.dcmp (b2_7 (v0_8 p1) p2) (b0_64 p1 p2)) .l))])) t
                by_cases hc84 : (cmpValue (FP.dcmp (b2_7 (v0_8 p1) p2) (b0_64 p1 p2)) .l) = (0 : Int32)
                · refine XS.ifNo X78.here hx rfl (hb hby at_66) rfl (XT.i0_ne_f hc84) ?_
                  show Steps p.tables e below (T78.setTop (mkF m 69 #[.val (.int p0), .val (.int p1), .val (.int p2), .val (.int (5 : Int32)), .val (.ref s_RPREC), .val (.double (v0_8 p1)), .second, .val (.double (b2_7 (v0_8 p1) p2)), .second, .val (.double (b0_64 p1 p2)), .second] [])) t
                  refine XS.iconst X78.here hx rfl (hb hby at_69) ?_
                  show Steps p.tables e below (T78.setTop (mkF m 70 #[.val (.int p0), .val (.int p1), .val (.int p2), .val (.int (5 : Int32)), .val (.ref s_RPREC), .val (.double (v0_8 p1)), .second, .val (.double (b2_7 (v0_8 p1) p2)), .second, .val (.double (b0_64 p1 p2)), .second] [(.int (1 : Int32))])) t
                  refine XS.goto X78.here hx rfl (pc0 := 70) (pc' := 74) rfl (hb hby at_70) (by decide) (by decide) ?_
                  show Steps p.tables e below (T78.setTop (mkF m 74 #[.val (.int p0), .val (.int p1), .val (.int p2), .val (.int (5 : Int32)), .val (.ref s_RPREC), .val (.double (v0_8 p1)), .second, .val (.double (b2_7 (v0_8 p1) p2)), .second, .val (.double (b0_64 p1 p2)), .second] [(.int (1 : Int32))])) t
                  have hq86 : (b0_69 p1 p2) = (1 : Int32) := by rw [b0_69, if_pos hc84]
                  rw [hq86] at k
                  exact k
                · refine XS.ifYes X78.here hx rfl (pc0 := 66) (pc' := 73) rfl (hb hby at_66) rfl (XT.i0_ne_t hc84) (by decide) (by decide) ?_
                  show Steps p.tables e below (T78.setTop (mkF m 73 #[.val (.int p0), .val (.int p1), .val (.int p2), .val (.int (5 : Int32)), .val (.ref s_RPREC), .val (.double (v0_8 p1)), .second, .val (.double (b2_7 (v0_8 p1) p2)), .second, .val (.double (b0_64 p1 p2)), .second] [])) t
                  refine XS.iconst X78.here hx rfl (hb hby at_73) ?_
                  show Steps p.tables e below (T78.setTop (mkF m 74 #[.val (.int p0), .val (.int p1), .val (.int p2), .val (.int (5 : Int32)), .val (.ref s_RPREC), .val (.double (v0_8 p1)), .second, .val (.double (b2_7 (v0_8 p1) p2)), .second, .val (.double (b0_64 p1 p2)), .second] [(.int (0 : Int32))])) t
                  have hq87 : (b0_69 p1 p2) = (0 : Int32) := by rw [b0_69, if_neg hc84]
                  rw [hq87] at k
                  exact k
              obtain ⟨fs, hr, hrun, hended, hW, hsame⟩ := X78.leave (v := some (.int (b0_69 p1 p2))) (fun h => by rw [Bd.returns] at h; cases h)
              refine ⟨_, _, go85 _ (Jvm.RoadKit.retOut X78 hx Bd.returns (own_nz (by unfold b0_69; (repeat' split) <;> first | exact Or.inl rfl | exact Or.inr rfl)) (Or.inl ⟨rfl, Or.inr (Or.inl rfl), _, rfl⟩) (hb hby at_74) hr), hrun, hended, _, _, rfl, ?_, ⟨_, rfl⟩, hW, hsame.mono (by decide) (by decide)⟩
              show Q0 _ _ p0 p1 p2 s_NUM_Q s_NUM_RET s_NDCG_CUT_10 s_RPREC s_P_5 s_P_10 s_P_20 s_NUM_REL_RET s_RECALL_10 s_NUM_REL s_MAP s_RECIP_RANK s_BPREF s_NDCG s_RECALL_100 h0 _ (T78.setFrames fs).heap _
              have hE : (T78.setFrames fs).heap = h0 := e78
              rw [hE]
              exact ⟨congrArg (fun z => some (Value.int z)) ((by rw [f0, if_neg hs3, if_neg hs17, if_neg hs29, if_neg hs41, if_neg hs53, if_pos hs72] : (b0_69 p1 p2) = (f0 p0 p1 p2)).trans (f0_one p0 p1 p2)), N78⟩
            · by_cases hs88 : (v0_1 p0) = (6 : Int32)
              · have go89 : ∀ t, Steps p.tables e below (s₁.setTop (mkF m 8 #[.val (.int p0), .val (.int p1), .val (.int p2), .val (.int (6 : Int32)), .unset, .unset, .unset, .unset, .unset, .unset, .unset] [])) t → Steps p.tables e below (s₁.setTop (entryFrame m #[(.int p0), (.int p1), (.int p2)] maxLocals)) t := by
                  have q := go2
                  rw [hs88] at q
                  exact q
                have go90 : ∀ t, Steps p.tables e below (s₁.setTop (mkF m 9 #[.val (.int p0), .val (.int p1), .val (.int p2), .val (.int (6 : Int32)), .unset, .unset, .unset, .unset, .unset, .unset, .unset] [(.int (6 : Int32))])) t → Steps p.tables e below (s₁.setTop (entryFrame m #[(.int p0), (.int p1), (.int p2)] maxLocals)) t := by
                  intro t k
                  refine go89 _ ?_
                  refine XS.iloadN X0.here hx rfl (hb hby at_8) rfl ?_
                  show Steps p.tables e below (s₁.setTop (mkF m 9 #[.val (.int p0), .val (.int p1), .val (.int p2), .val (.int (6 : Int32)), .unset, .unset, .unset, .unset, .unset, .unset, .unset] [(.int (6 : Int32))])) t
                  exact k
                obtain ⟨_, _, ⟨T91, L91, k91, n91⟩, -, X91, ⟨Lc91, hQ91, l91, y91, z91⟩, st91⟩ := Jvm.LawKit.callS X0 hx (y := (⟨"com/example/mirk/mirk/eval/MeasureOverAllPinLaw", "pick", "(I)Lcom/example/mirk/mirk/eval/Measure;"⟩ : MethodName)) hown (mvT hZ (hw _ (List.mem_of_getElem? (i := 1) rfl))) (mvT hZ (hw _ (List.mem_of_getElem? (i := 2) rfl))) (mvT hZ (hw _ (List.mem_of_getElem? (i := 3) rfl))) (mvT hZ (hw _ (List.mem_of_getElem? (i := 4) rfl))) (by decide) (backOf (W := 0) (rm1 l Z aZ hw [] (6 : Int32) s_NUM_Q s_NUM_RET s_NUM_REL s_NUM_REL_RET s_MAP s_RPREC s_BPREF s_RECIP_RANK s_P_5 s_P_10 s_P_20 s_RECALL_10 s_RECALL_100 s_NDCG s_NDCG_CUT_10 h0 n0 Z0 S_NUM_Q S_NUM_RET S_NUM_REL S_NUM_REL_RET S_MAP S_RPREC S_BPREF S_RECIP_RANK S_P_5 S_P_10 S_P_20 S_RECALL_10 S_RECALL_100 S_NDCG S_NDCG_CUT_10) hZ (hw _ (List.mem_of_getElem? (i := 4) rfl)) (hw _ (List.mem_of_getElem? (i := 3) rfl)) (by decide) (by decide)) (g := (mkF m 9 #[.val (.int p0), .val (.int p1), .val (.int p2), .val (.int (6 : Int32)), .unset, .unset, .unset, .unset, .unset, .unset, .unset] [(.int (6 : Int32))])) rfl (by rw [hml]; rfl) (argsL := [(.int (6 : Int32))]) (rest := []) (lenOf pd_89 rfl) rfl (by show 2 * 0 + _ ≤ _; exact Nat.le_of_eq rfl) (hb hby at_9) (fun _ _ => ⟨rfl, e0, (by decide : 0 + 0 ≤ _), (by decide : 0 + 0 ≤ _)⟩)
                dsimp only [Pt.U, Pt.locs, Pt.cells, Pt.slots] at X91 l91 y91 z91 st91 hQ91
                subst l91 y91 z91
                obtain ⟨rfl, N91q, e91⟩ := hQ91
                have N91 := Fr.app N0 N91q
                have go92 : ∀ t, Steps p.tables e below (T91.setTop (mkF m 12 #[.val (.int p0), .val (.int p1), .val (.int p2), .val (.int (6 : Int32)), .unset, .unset, .unset, .unset, .unset, .unset, .unset] [(.ref s_BPREF)])) t → Steps p.tables e below (s₁.setTop (entryFrame m #[(.int p0), (.int p1), (.int p2)] maxLocals)) t := fun t k => go90 _ (st91 _ k)
                have go93 : ∀ t, Steps p.tables e below (T91.setTop (mkF m 27 #[.val (.int p0), .val (.int p1), .val (.int p2), .val (.int (6 : Int32)), .val (.ref s_BPREF), .val (.double (v0_8 p1)), .second, .unset, .unset, .unset, .unset] [(.int p2), (.double (v0_8 p1)), (.ref s_BPREF)])) t → Steps p.tables e below (s₁.setTop (entryFrame m #[(.int p0), (.int p1), (.int p2)] maxLocals)) t := by
                  intro t k
                  refine go92 _ ?_
                  refine XS.astore X91.here hx rfl (hb hby at_12) rfl rfl (l' := #[.val (.int p0), .val (.int p1), .val (.int p2), .val (.int (6 : Int32)), .val (.ref s_BPREF), .unset, .unset, .unset, .unset, .unset, .unset]) rfl ?_
                  show Steps p.tables e below (T91.setTop (mkF m 14 #[.val (.int p0), .val (.int p1), .val (.int p2), .val (.int (6 : Int32)), .val (.ref s_BPREF), .unset, .unset, .unset, .unset, .unset, .unset] [])) t
                  refine XS.iloadN X91.here hx rfl (hb hby at_14) rfl ?_
                  show Steps p.tables e below (T91.setTop (mkF m 15 #[.val (.int p0), .val (.int p1), .val (.int p2), .val (.int (6 : Int32)), .val (.ref s_BPREF), .unset, .unset, .unset, .unset, .unset, .unset] [(.int p1)])) t
                  refine XS.i2dS X91.here hx rfl (hb hby at_15) rfl (v := (FP.i2d p1)) rfl ?_
                  show Steps p.tables e below (T91.setTop (mkF m 16 #[.val (.int p0), .val (.int p1), .val (.int p2), .val (.int (6 : Int32)), .val (.ref s_BPREF), .unset, .unset, .unset, .unset, .unset, .unset] [(.double (FP.i2d p1))])) t
                  refine X91.ldc2DoubleC hx hown (mvT hZ (hw _ (List.mem_of_getElem? (i := 8) rfl))) (g := (mkF m 16 #[.val (.int p0), .val (.int p1), .val (.int p2), .val (.int (6 : Int32)), .val (.ref s_BPREF), .unset, .unset, .unset, .unset, .unset, .unset] [(.double (FP.i2d p1))])) rfl (hb hby at_16) _ ?_
                  show Steps p.tables e below (T91.setTop (mkF m 19 #[.val (.int p0), .val (.int p1), .val (.int p2), .val (.int (6 : Int32)), .val (.ref s_BPREF), .unset, .unset, .unset, .unset, .unset, .unset] [(.double (4598175219545276416 : UInt64)), (.double (FP.i2d p1))])) t
                  refine XS.dmulS X91.here hx rfl (hb hby at_19) rfl (own_sum p1) (v := (FP.dmul (FP.i2d p1) (4598175219545276416 : UInt64))) rfl ?_
                  show Steps p.tables e below (T91.setTop (mkF m 20 #[.val (.int p0), .val (.int p1), .val (.int p2), .val (.int (6 : Int32)), .val (.ref s_BPREF), .unset, .unset, .unset, .unset, .unset, .unset] [(.double (FP.dmul (FP.i2d p1) (4598175219545276416 : UInt64)))])) t
                  show Steps p.tables e below (T91.setTop (mkF m 20 #[.val (.int p0), .val (.int p1), .val (.int p2), .val (.int (6 : Int32)), .val (.ref s_BPREF), .unset, .unset, .unset, .unset, .unset, .unset] [(.double (v0_8 p1))])) t
                  refine XS.dstore X91.here hx rfl (hb hby at_20) rfl (l' := #[.val (.int p0), .val (.int p1), .val (.int p2), .val (.int (6 : Int32)), .val (.ref s_BPREF), .val (.double (v0_8 p1)), .second, .unset, .unset, .unset, .unset]) rfl ?_
                  show Steps p.tables e below (T91.setTop (mkF m 22 #[.val (.int p0), .val (.int p1), .val (.int p2), .val (.int (6 : Int32)), .val (.ref s_BPREF), .val (.double (v0_8 p1)), .second, .unset, .unset, .unset, .unset] [])) t
                  refine XS.aload X91.here hx rfl (hb hby at_22) rfl rfl ?_
                  show Steps p.tables e below (T91.setTop (mkF m 24 #[.val (.int p0), .val (.int p1), .val (.int p2), .val (.int (6 : Int32)), .val (.ref s_BPREF), .val (.double (v0_8 p1)), .second, .unset, .unset, .unset, .unset] [(.ref s_BPREF)])) t
                  refine XS.dload X91.here hx rfl (hb hby at_24) rfl ?_
                  show Steps p.tables e below (T91.setTop (mkF m 26 #[.val (.int p0), .val (.int p1), .val (.int p2), .val (.int (6 : Int32)), .val (.ref s_BPREF), .val (.double (v0_8 p1)), .second, .unset, .unset, .unset, .unset] [(.double (v0_8 p1)), (.ref s_BPREF)])) t
                  refine XS.iloadN X91.here hx rfl (hb hby at_26) rfl ?_
                  show Steps p.tables e below (T91.setTop (mkF m 27 #[.val (.int p0), .val (.int p1), .val (.int p2), .val (.int (6 : Int32)), .val (.ref s_BPREF), .val (.double (v0_8 p1)), .second, .unset, .unset, .unset, .unset] [(.int p2), (.double (v0_8 p1)), (.ref s_BPREF)])) t
                  exact k
                obtain ⟨cq94, kq94, q94a, q94b, q94c⟩ := isOf hZ e91 E_BPREF
                obtain ⟨_, _, ⟨T94, L94, k94, n94⟩, -, X94, ⟨Lc94, hQ94, l94, y94, z94⟩, st94⟩ := X91.virtualBack hx (y := (⟨"com/example/mirk/mirk/eval/Measure", "overAll", "(DI)D"⟩ : MethodName)) (z := (⟨"com/example/mirk/mirk/eval/Measure", "overAll", "(DI)D"⟩ : MethodName)) hown (mvT hZ (hw _ (List.mem_of_getElem? (i := 9) rfl))) (mvT hZ (hw _ (List.mem_of_getElem? (i := 10) rfl))) (notFace_of_selects (args := #[]) (mvT hZ (hw _ (List.mem_of_getElem? (i := 12) rfl)))) (mvT hZ (hw _ (List.mem_of_getElem? (i := 12) rfl))) (mvT hZ (hw _ (List.mem_of_getElem? (i := 11) rfl))) (by decide) (backOf (W := 0) (rm2 l Z aZ hw [] s_BPREF (v0_8 p1) p2 (0 : Int32) h0 n0 Z0 F_BPREF_count (own_sum p1)) hZ (hw _ (List.mem_of_getElem? (i := 13) rfl)) (hw _ (List.mem_of_getElem? (i := 6) rfl)) (by decide) (by decide)) q94a q94c (g := (mkF m 27 #[.val (.int p0), .val (.int p1), .val (.int p2), .val (.int (6 : Int32)), .val (.ref s_BPREF), .val (.double (v0_8 p1)), .second, .unset, .unset, .unset, .unset] [(.int p2), (.double (v0_8 p1)), (.ref s_BPREF)])) rfl (by rw [hml]; rfl) (Steps.refl _) (argsL := [(.double (v0_8 p1)), (.int p2)]) (rest := []) (lenOf pd_91 rfl) rfl (by show 2 * 0 + _ ≤ _; exact Nat.le_of_eq rfl) (hb hby at_27) (fun _ _ => ⟨rfl, e91, (by decide : 0 + 0 ≤ _), (by decide : 0 + 0 ≤ _)⟩)
                dsimp only [Pt.U, Pt.locs, Pt.cells, Pt.slots] at X94 l94 y94 z94 st94 hQ94
                subst l94 y94 z94
                obtain ⟨rfl, N94q, e94⟩ := hQ94
                have N94 := Fr.app N91 N94q
                have go95 : ∀ t, Steps p.tables e below (T94.setTop (mkF m 30 #[.val (.int p0), .val (.int p1), .val (.int p2), .val (.int (6 : Int32)), .val (.ref s_BPREF), .val (.double (v0_8 p1)), .second, .unset, .unset, .unset, .unset] [(.double (b2_7 (v0_8 p1) p2))])) t → Steps p.tables e below (s₁.setTop (entryFrame m #[(.int p0), (.int p1), (.int p2)] maxLocals)) t := fun t k => go93 _ (st94.trans k)
                have go97 : ∀ t, Steps p.tables e below (T94.setTop (mkF m 61 #[.val (.int p0), .val (.int p1), .val (.int p2), .val (.int (6 : Int32)), .val (.ref s_BPREF), .val (.double (v0_8 p1)), .second, .val (.double (b2_7 (v0_8 p1) p2)), .second, .val (.double (b0_64 p1 p2)), .second] [])) t → Steps p.tables e below (s₁.setTop (entryFrame m #[(.int p0), (.int p1), (.int p2)] maxLocals)) t := by
                  intro t k
                  refine go95 _ ?_
                  refine XS.dstore X94.here hx rfl (hb hby at_30) rfl (l' := #[.val (.int p0), .val (.int p1), .val (.int p2), .val (.int (6 : Int32)), .val (.ref s_BPREF), .val (.double (v0_8 p1)), .second, .val (.double (b2_7 (v0_8 p1) p2)), .second, .unset, .unset]) rfl ?_
                  show Steps p.tables e below (T94.setTop (mkF m 32 #[.val (.int p0), .val (.int p1), .val (.int p2), .val (.int (6 : Int32)), .val (.ref s_BPREF), .val (.double (v0_8 p1)), .second, .val (.double (b2_7 (v0_8 p1) p2)), .second, .unset, .unset] [])) t
                  refine XS.iloadN X94.here hx rfl (hb hby at_32) rfl ?_
                  show Steps p.tables e below (T94.setTop (mkF m 33 #[.val (.int p0), .val (.int p1), .val (.int p2), .val (.int (6 : Int32)), .val (.ref s_BPREF), .val (.double (v0_8 p1)), .second, .val (.double (b2_7 (v0_8 p1) p2)), .second, .unset, .unset] [(.int (6 : Int32))])) t
                  refine XS.iconst X94.here hx rfl (hb hby at_33) ?_
                  show Steps p.tables e below (T94.setTop (mkF m 34 #[.val (.int p0), .val (.int p1), .val (.int p2), .val (.int (6 : Int32)), .val (.ref s_BPREF), .val (.double (v0_8 p1)), .second, .val (.double (b2_7 (v0_8 p1) p2)), .second, .unset, .unset] [(.int (4 : Int32)), (.int (6 : Int32))])) t
                  refine XS.icmpYes X94.here hx rfl (pc0 := 34) (pc' := 44) rfl (hb hby at_34) rfl (XT.ii_ge_t (by decide : ¬ ((6 : Int32) < (4 : Int32)))) (by decide) (by decide) ?_
                  show Steps p.tables e below (T94.setTop (mkF m 44 #[.val (.int p0), .val (.int p1), .val (.int p2), .val (.int (6 : Int32)), .val (.ref s_BPREF), .val (.double (v0_8 p1)), .second, .val (.double (b2_7 (v0_8 p1) p2)), .second, .unset, .unset] [])) t
                  refine XS.iloadN X94.here hx rfl (hb hby at_44) rfl ?_
                  show Steps p.tables e below (T94.setTop (mkF m 45 #[.val (.int p0), .val (.int p1), .val (.int p2), .val (.int (6 : Int32)), .val (.ref s_BPREF), .val (.double (v0_8 p1)), .second, .val (.double (b2_7 (v0_8 p1) p2)), .second, .unset, .unset] [(.int p2)])) t
                  by_cases hc96 : p2 = (0 : Int32)
                  · refine XS.ifNo X94.here hx rfl (hb hby at_45) rfl (XT.i0_ne_f hc96) ?_
                    show Steps p.tables e below (T94.setTop (mkF m 48 #[.val (.int p0), .val (.int p1), .val (.int p2), .val (.int (6 : Int32)), .val (.ref s_BPREF), .val (.double (v0_8 p1)), .second, .val (.double (b2_7 (v0_8 p1) p2)), .second, .unset, .unset] [])) t
                    refine XS.dconst0 X94.here hx rfl (hb hby at_48) (v := FP.dconst0) rfl ?_
                    show Steps p.tables e below (T94.setTop (mkF m 49 #[.val (.int p0), .val (.int p1), .val (.int p2), .val (.int (6 : Int32)), .val (.ref s_BPREF), .val (.double (v0_8 p1)), .second, .val (.double (b2_7 (v0_8 p1) p2)), .second, .unset, .unset] [(.double FP.dconst0)])) t
                    refine XS.dstore X94.here hx rfl (hb hby at_49) rfl (l' := #[.val (.int p0), .val (.int p1), .val (.int p2), .val (.int (6 : Int32)), .val (.ref s_BPREF), .val (.double (v0_8 p1)), .second, .val (.double (b2_7 (v0_8 p1) p2)), .second, .val (.double FP.dconst0), .second]) rfl ?_
                    show Steps p.tables e below (T94.setTop (mkF m 51 #[.val (.int p0), .val (.int p1), .val (.int p2), .val (.int (6 : Int32)), .val (.ref s_BPREF), .val (.double (v0_8 p1)), .second, .val (.double (b2_7 (v0_8 p1) p2)), .second, .val (.double FP.dconst0), .second] [])) t
                    refine XS.goto X94.here hx rfl (pc0 := 51) (pc' := 61) rfl (hb hby at_51) (by decide) (by decide) ?_
                    show Steps p.tables e below (T94.setTop (mkF m 61 #[.val (.int p0), .val (.int p1), .val (.int p2), .val (.int (6 : Int32)), .val (.ref s_BPREF), .val (.double (v0_8 p1)), .second, .val (.double (b2_7 (v0_8 p1) p2)), .second, .val (.double FP.dconst0), .second] [])) t
                    have hq98 : (b0_64 p1 p2) = FP.dconst0 := by rw [b0_64, if_pos hc96]
                    rw [hq98] at k
                    exact k
                  · refine XS.ifYes X94.here hx rfl (pc0 := 45) (pc' := 54) rfl (hb hby at_45) rfl (XT.i0_ne_t hc96) (by decide) (by decide) ?_
                    show Steps p.tables e below (T94.setTop (mkF m 54 #[.val (.int p0), .val (.int p1), .val (.int p2), .val (.int (6 : Int32)), .val (.ref s_BPREF), .val (.double (v0_8 p1)), .second, .val (.double (b2_7 (v0_8 p1) p2)), .second, .unset, .unset] [])) t
                    refine XS.dload X94.here hx rfl (hb hby at_54) rfl ?_
                    show Steps p.tables e below (T94.setTop (mkF m 56 #[.val (.int p0), .val (.int p1), .val (.int p2), .val (.int (6 : Int32)), .val (.ref s_BPREF), .val (.double (v0_8 p1)), .second, .val (.double (b2_7 (v0_8 p1) p2)), .second, .unset, .unset] [(.double (v0_8 p1))])) t
                    refine XS.iloadN X94.here hx rfl (hb hby at_56) rfl ?_
                    show Steps p.tables e below (T94.setTop (mkF m 57 #[.val (.int p0), .val (.int p1), .val (.int p2), .val (.int (6 : Int32)), .val (.ref s_BPREF), .val (.double (v0_8 p1)), .second, .val (.double (b2_7 (v0_8 p1) p2)), .second, .unset, .unset] [(.int p2), (.double (v0_8 p1))])) t
                    refine XS.i2dS X94.here hx rfl (hb hby at_57) rfl (v := (FP.i2d p2)) rfl ?_
                    show Steps p.tables e below (T94.setTop (mkF m 58 #[.val (.int p0), .val (.int p1), .val (.int p2), .val (.int (6 : Int32)), .val (.ref s_BPREF), .val (.double (v0_8 p1)), .second, .val (.double (b2_7 (v0_8 p1) p2)), .second, .unset, .unset] [(.double (FP.i2d p2)), (.double (v0_8 p1))])) t
                    refine XS.ddivS X94.here hx rfl (hb hby at_58) rfl (own_quo (own_sum p1) hc96) (v := (FP.ddiv (v0_8 p1) (FP.i2d p2))) rfl ?_
                    show Steps p.tables e below (T94.setTop (mkF m 59 #[.val (.int p0), .val (.int p1), .val (.int p2), .val (.int (6 : Int32)), .val (.ref s_BPREF), .val (.double (v0_8 p1)), .second, .val (.double (b2_7 (v0_8 p1) p2)), .second, .unset, .unset] [(.double (FP.ddiv (v0_8 p1) (FP.i2d p2)))])) t
                    show Steps p.tables e below (T94.setTop (mkF m 59 #[.val (.int p0), .val (.int p1), .val (.int p2), .val (.int (6 : Int32)), .val (.ref s_BPREF), .val (.double (v0_8 p1)), .second, .val (.double (b2_7 (v0_8 p1) p2)), .second, .unset, .unset] [(.double (v0_62 p1 p2))])) t
                    refine XS.dstore X94.here hx rfl (hb hby at_59) rfl (l' := #[.val (.int p0), .val (.int p1), .val (.int p2), .val (.int (6 : Int32)), .val (.ref s_BPREF), .val (.double (v0_8 p1)), .second, .val (.double (b2_7 (v0_8 p1) p2)), .second, .val (.double (v0_62 p1 p2)), .second]) rfl ?_
                    show Steps p.tables e below (T94.setTop (mkF m 61 #[.val (.int p0), .val (.int p1), .val (.int p2), .val (.int (6 : Int32)), .val (.ref s_BPREF), .val (.double (v0_8 p1)), .second, .val (.double (b2_7 (v0_8 p1) p2)), .second, .val (.double (v0_62 p1 p2)), .second] [])) t
                    have hq99 : (b0_64 p1 p2) = (v0_62 p1 p2) := by rw [b0_64, if_neg hc96]
                    rw [hq99] at k
                    exact k
                have go101 : ∀ t, Steps p.tables e below (T94.setTop (mkF m 74 #[.val (.int p0), .val (.int p1), .val (.int p2), .val (.int (6 : Int32)), .val (.ref s_BPREF), .val (.double (v0_8 p1)), .second, .val (.double (b2_7 (v0_8 p1) p2)), .second, .val (.double (b0_64 p1 p2)), .second] [(.int (b0_69 p1 p2))])) t → Steps p.tables e below (s₁.setTop (entryFrame m #[(.int p0), (.int p1), (.int p2)] maxLocals)) t := by
                  intro t k
                  refine go97 _ ?_
                  refine XS.dload X94.here hx rfl (hb hby at_61) rfl ?_
                  show Steps p.tables e below (T94.setTop (mkF m 63 #[.val (.int p0), .val (.int p1), .val (.int p2), .val (.int (6 : Int32)), .val (.ref s_BPREF), .val (.double (v0_8 p1)), .second, .val (.double (b2_7 (v0_8 p1) p2)), .second, .val (.double (b0_64 p1 p2)), .second] [(.double (b2_7 (v0_8 p1) p2))])) t
                  refine XS.dload X94.here hx rfl (hb hby at_63) rfl ?_
                  show Steps p.tables e below (T94.setTop (mkF m 65 #[.val (.int p0), .val (.int p1), .val (.int p2), .val (.int (6 : Int32)), .val (.ref s_BPREF), .val (.double (v0_8 p1)), .second, .val (.double (b2_7 (v0_8 p1) p2)), .second, .val (.double (b0_64 p1 p2)), .second] [(.double (b0_64 p1 p2)), (.double (b2_7 (v0_8 p1) p2))])) t
                  refine XS.dcmpS X94.here hx rfl (hb hby at_65) rfl (v := (cmpValue (FP.dcmp (b2_7 (v0_8 p1) p2) (b0_64 p1 p2)) .l)) rfl ?_
                  show Steps p.tables e below (T94.setTop (mkF m 66 #[.val (.int p0), .val (.int p1), .val (.int p2), .val (.int (6 : Int32)), .val (.ref s_BPREF), .val (.double (v0_8 p1)), .second, .val (.double (b2_7 (v0_8 p1) p2)), .second, .val (.double (b0_64 p1 p2)), .second] [(.int (cmpValue (FP.dcmp (b2_7 (v0_8 p1) p2) (b0_64 p1 p2)) .l))])) t
                  by_cases hc100 : (cmpValue (FP.dcmp (b2_7 (v0_8 p1) p2) (b0_64 p1 p2)) .l) = (0 : Int32)
                  · refine XS.ifNo X94.here hx rfl (hb hby at_66) rfl (XT.i0_ne_f hc100) ?_
                    show Steps p.tables e below (T94.setTop (mkF m 69 #[.val (.int p0), .val (.int p1), .val (.int p2), .val (.int (6 : Int32)), .val (.ref s_BPREF), .val (.double (v0_8 p1)), .second, .val (.double (b2_7 (v0_8 p1) p2)), .second, .val (.double (b0_64 p1 p2)), .second] [])) t
                    refine XS.iconst X94.here hx rfl (hb hby at_69) ?_
                    show Steps p.tables e below (T94.setTop (mkF m 70 #[.val (.int p0), .val (.int p1), .val (.int p2), .val (.int (6 : Int32)), .val (.ref s_BPREF), .val (.double (v0_8 p1)), .second, .val (.double (b2_7 (v0_8 p1) p2)), .second, .val (.double (b0_64 p1 p2)), .second] [(.int (1 : Int32))])) t
                    refine XS.goto X94.here hx rfl (pc0 := 70) (pc' := 74) rfl (hb hby at_70) (by decide) (by decide) ?_
                    show Steps p.tables e below (T94.setTop (mkF m 74 #[.val (.int p0), .val (.int p1), .val (.int p2), .val (.int (6 : Int32)), .val (.ref s_BPREF), .val (.double (v0_8 p1)), .second, .val (.double (b2_7 (v0_8 p1) p2)), .second, .val (.double (b0_64 p1 p2)), .second] [(.int (1 : Int32))])) t
                    have hq102 : (b0_69 p1 p2) = (1 : Int32) := by rw [b0_69, if_pos hc100]
                    rw [hq102] at k
                    exact k
                  · refine XS.ifYes X94.here hx rfl (pc0 := 66) (pc' := 73) rfl (hb hby at_66) rfl (XT.i0_ne_t hc100) (by decide) (by decide) ?_
                    show Steps p.tables e below (T94.setTop (mkF m 73 #[.val (.int p0), .val (.int p1), .val (.int p2), .val (.int (6 : Int32)), .val (.ref s_BPREF), .val (.double (v0_8 p1)), .second, .val (.double (b2_7 (v0_8 p1) p2)), .second, .val (.double (b0_64 p1 p2)), .second] [])) t
                    refine XS.iconst X94.here hx rfl (hb hby at_73) ?_
                    show Steps p.tables e below (T94.setTop (mkF m 74 #[.val (.int p0), .val (.int p1), .val (.int p2), .val (.int (6 : Int32)), .val (.ref s_BPREF), .val (.double (v0_8 p1)), .second, .val (.double (b2_7 (v0_8 p1) p2)), .second, .val (.double (b0_64 p1 p2)), .second] [(.int (0 : Int32))])) t
                    have hq103 : (b0_69 p1 p2) = (0 : Int32) := by rw [b0_69, if_neg hc100]
                    rw [hq103] at k
                    exact k
                obtain ⟨fs, hr, hrun, hended, hW, hsame⟩ := X94.leave (v := some (.int (b0_69 p1 p2))) (fun h => by rw [Bd.returns] at h; cases h)
                refine ⟨_, _, go101 _ (Jvm.RoadKit.retOut X94 hx Bd.returns (own_nz (by unfold b0_69; (repeat' split) <;> first | exact Or.inl rfl | exact Or.inr rfl)) (Or.inl ⟨rfl, Or.inr (Or.inl rfl), _, rfl⟩) (hb hby at_74) hr), hrun, hended, _, _, rfl, ?_, ⟨_, rfl⟩, hW, hsame.mono (by decide) (by decide)⟩
                show Q0 _ _ p0 p1 p2 s_NUM_Q s_NUM_RET s_NDCG_CUT_10 s_RPREC s_P_5 s_P_10 s_P_20 s_NUM_REL_RET s_RECALL_10 s_NUM_REL s_MAP s_RECIP_RANK s_BPREF s_NDCG s_RECALL_100 h0 _ (T94.setFrames fs).heap _
                have hE : (T94.setFrames fs).heap = h0 := e94
                rw [hE]
                exact ⟨congrArg (fun z => some (Value.int z)) ((by rw [f0, if_neg hs3, if_neg hs17, if_neg hs29, if_neg hs41, if_neg hs53, if_neg hs72, if_pos hs88] : (b0_69 p1 p2) = (f0 p0 p1 p2)).trans (f0_one p0 p1 p2)), N94⟩
              · by_cases hs104 : (v0_1 p0) = (7 : Int32)
                · have go105 : ∀ t, Steps p.tables e below (s₁.setTop (mkF m 8 #[.val (.int p0), .val (.int p1), .val (.int p2), .val (.int (7 : Int32)), .unset, .unset, .unset, .unset, .unset, .unset, .unset] [])) t → Steps p.tables e below (s₁.setTop (entryFrame m #[(.int p0), (.int p1), (.int p2)] maxLocals)) t := by
                    have q := go2
                    rw [hs104] at q
                    exact q
                  have go106 : ∀ t, Steps p.tables e below (s₁.setTop (mkF m 9 #[.val (.int p0), .val (.int p1), .val (.int p2), .val (.int (7 : Int32)), .unset, .unset, .unset, .unset, .unset, .unset, .unset] [(.int (7 : Int32))])) t → Steps p.tables e below (s₁.setTop (entryFrame m #[(.int p0), (.int p1), (.int p2)] maxLocals)) t := by
                    intro t k
                    refine go105 _ ?_
                    refine XS.iloadN X0.here hx rfl (hb hby at_8) rfl ?_
                    show Steps p.tables e below (s₁.setTop (mkF m 9 #[.val (.int p0), .val (.int p1), .val (.int p2), .val (.int (7 : Int32)), .unset, .unset, .unset, .unset, .unset, .unset, .unset] [(.int (7 : Int32))])) t
                    exact k
                  obtain ⟨_, _, ⟨T107, L107, k107, n107⟩, -, X107, ⟨Lc107, hQ107, l107, y107, z107⟩, st107⟩ := Jvm.LawKit.callS X0 hx (y := (⟨"com/example/mirk/mirk/eval/MeasureOverAllPinLaw", "pick", "(I)Lcom/example/mirk/mirk/eval/Measure;"⟩ : MethodName)) hown (mvT hZ (hw _ (List.mem_of_getElem? (i := 1) rfl))) (mvT hZ (hw _ (List.mem_of_getElem? (i := 2) rfl))) (mvT hZ (hw _ (List.mem_of_getElem? (i := 3) rfl))) (mvT hZ (hw _ (List.mem_of_getElem? (i := 4) rfl))) (by decide) (backOf (W := 0) (rm1 l Z aZ hw [] (7 : Int32) s_NUM_Q s_NUM_RET s_NUM_REL s_NUM_REL_RET s_MAP s_RPREC s_BPREF s_RECIP_RANK s_P_5 s_P_10 s_P_20 s_RECALL_10 s_RECALL_100 s_NDCG s_NDCG_CUT_10 h0 n0 Z0 S_NUM_Q S_NUM_RET S_NUM_REL S_NUM_REL_RET S_MAP S_RPREC S_BPREF S_RECIP_RANK S_P_5 S_P_10 S_P_20 S_RECALL_10 S_RECALL_100 S_NDCG S_NDCG_CUT_10) hZ (hw _ (List.mem_of_getElem? (i := 4) rfl)) (hw _ (List.mem_of_getElem? (i := 3) rfl)) (by decide) (by decide)) (g := (mkF m 9 #[.val (.int p0), .val (.int p1), .val (.int p2), .val (.int (7 : Int32)), .unset, .unset, .unset, .unset, .unset, .unset, .unset] [(.int (7 : Int32))])) rfl (by rw [hml]; rfl) (argsL := [(.int (7 : Int32))]) (rest := []) (lenOf pd_89 rfl) rfl (by show 2 * 0 + _ ≤ _; exact Nat.le_of_eq rfl) (hb hby at_9) (fun _ _ => ⟨rfl, e0, (by decide : 0 + 0 ≤ _), (by decide : 0 + 0 ≤ _)⟩)
                  dsimp only [Pt.U, Pt.locs, Pt.cells, Pt.slots] at X107 l107 y107 z107 st107 hQ107
                  subst l107 y107 z107
                  obtain ⟨rfl, N107q, e107⟩ := hQ107
                  have N107 := Fr.app N0 N107q
                  have go108 : ∀ t, Steps p.tables e below (T107.setTop (mkF m 12 #[.val (.int p0), .val (.int p1), .val (.int p2), .val (.int (7 : Int32)), .unset, .unset, .unset, .unset, .unset, .unset, .unset] [(.ref s_RECIP_RANK)])) t → Steps p.tables e below (s₁.setTop (entryFrame m #[(.int p0), (.int p1), (.int p2)] maxLocals)) t := fun t k => go106 _ (st107 _ k)
                  have go109 : ∀ t, Steps p.tables e below (T107.setTop (mkF m 27 #[.val (.int p0), .val (.int p1), .val (.int p2), .val (.int (7 : Int32)), .val (.ref s_RECIP_RANK), .val (.double (v0_8 p1)), .second, .unset, .unset, .unset, .unset] [(.int p2), (.double (v0_8 p1)), (.ref s_RECIP_RANK)])) t → Steps p.tables e below (s₁.setTop (entryFrame m #[(.int p0), (.int p1), (.int p2)] maxLocals)) t := by
                    intro t k
                    refine go108 _ ?_
                    refine XS.astore X107.here hx rfl (hb hby at_12) rfl rfl (l' := #[.val (.int p0), .val (.int p1), .val (.int p2), .val (.int (7 : Int32)), .val (.ref s_RECIP_RANK), .unset, .unset, .unset, .unset, .unset, .unset]) rfl ?_
                    show Steps p.tables e below (T107.setTop (mkF m 14 #[.val (.int p0), .val (.int p1), .val (.int p2), .val (.int (7 : Int32)), .val (.ref s_RECIP_RANK), .unset, .unset, .unset, .unset, .unset, .unset] [])) t
                    refine XS.iloadN X107.here hx rfl (hb hby at_14) rfl ?_
                    show Steps p.tables e below (T107.setTop (mkF m 15 #[.val (.int p0), .val (.int p1), .val (.int p2), .val (.int (7 : Int32)), .val (.ref s_RECIP_RANK), .unset, .unset, .unset, .unset, .unset, .unset] [(.int p1)])) t
                    refine XS.i2dS X107.here hx rfl (hb hby at_15) rfl (v := (FP.i2d p1)) rfl ?_
                    show Steps p.tables e below (T107.setTop (mkF m 16 #[.val (.int p0), .val (.int p1), .val (.int p2), .val (.int (7 : Int32)), .val (.ref s_RECIP_RANK), .unset, .unset, .unset, .unset, .unset, .unset] [(.double (FP.i2d p1))])) t
                    refine X107.ldc2DoubleC hx hown (mvT hZ (hw _ (List.mem_of_getElem? (i := 8) rfl))) (g := (mkF m 16 #[.val (.int p0), .val (.int p1), .val (.int p2), .val (.int (7 : Int32)), .val (.ref s_RECIP_RANK), .unset, .unset, .unset, .unset, .unset, .unset] [(.double (FP.i2d p1))])) rfl (hb hby at_16) _ ?_
                    show Steps p.tables e below (T107.setTop (mkF m 19 #[.val (.int p0), .val (.int p1), .val (.int p2), .val (.int (7 : Int32)), .val (.ref s_RECIP_RANK), .unset, .unset, .unset, .unset, .unset, .unset] [(.double (4598175219545276416 : UInt64)), (.double (FP.i2d p1))])) t
                    refine XS.dmulS X107.here hx rfl (hb hby at_19) rfl (own_sum p1) (v := (FP.dmul (FP.i2d p1) (4598175219545276416 : UInt64))) rfl ?_
                    show Steps p.tables e below (T107.setTop (mkF m 20 #[.val (.int p0), .val (.int p1), .val (.int p2), .val (.int (7 : Int32)), .val (.ref s_RECIP_RANK), .unset, .unset, .unset, .unset, .unset, .unset] [(.double (FP.dmul (FP.i2d p1) (4598175219545276416 : UInt64)))])) t
                    show Steps p.tables e below (T107.setTop (mkF m 20 #[.val (.int p0), .val (.int p1), .val (.int p2), .val (.int (7 : Int32)), .val (.ref s_RECIP_RANK), .unset, .unset, .unset, .unset, .unset, .unset] [(.double (v0_8 p1))])) t
                    refine XS.dstore X107.here hx rfl (hb hby at_20) rfl (l' := #[.val (.int p0), .val (.int p1), .val (.int p2), .val (.int (7 : Int32)), .val (.ref s_RECIP_RANK), .val (.double (v0_8 p1)), .second, .unset, .unset, .unset, .unset]) rfl ?_
                    show Steps p.tables e below (T107.setTop (mkF m 22 #[.val (.int p0), .val (.int p1), .val (.int p2), .val (.int (7 : Int32)), .val (.ref s_RECIP_RANK), .val (.double (v0_8 p1)), .second, .unset, .unset, .unset, .unset] [])) t
                    refine XS.aload X107.here hx rfl (hb hby at_22) rfl rfl ?_
                    show Steps p.tables e below (T107.setTop (mkF m 24 #[.val (.int p0), .val (.int p1), .val (.int p2), .val (.int (7 : Int32)), .val (.ref s_RECIP_RANK), .val (.double (v0_8 p1)), .second, .unset, .unset, .unset, .unset] [(.ref s_RECIP_RANK)])) t
                    refine XS.dload X107.here hx rfl (hb hby at_24) rfl ?_
                    show Steps p.tables e below (T107.setTop (mkF m 26 #[.val (.int p0), .val (.int p1), .val (.int p2), .val (.int (7 : Int32)), .val (.ref s_RECIP_RANK), .val (.double (v0_8 p1)), .second, .unset, .unset, .unset, .unset] [(.double (v0_8 p1)), (.ref s_RECIP_RANK)])) t
                    refine XS.iloadN X107.here hx rfl (hb hby at_26) rfl ?_
                    show Steps p.tables e below (T107.setTop (mkF m 27 #[.val (.int p0), .val (.int p1), .val (.int p2), .val (.int (7 : Int32)), .val (.ref s_RECIP_RANK), .val (.double (v0_8 p1)), .second, .unset, .unset, .unset, .unset] [(.int p2), (.double (v0_8 p1)), (.ref s_RECIP_RANK)])) t
                    exact k
                  obtain ⟨cq110, kq110, q110a, q110b, q110c⟩ := isOf hZ e107 E_RECIP_RANK
                  obtain ⟨_, _, ⟨T110, L110, k110, n110⟩, -, X110, ⟨Lc110, hQ110, l110, y110, z110⟩, st110⟩ := X107.virtualBack hx (y := (⟨"com/example/mirk/mirk/eval/Measure", "overAll", "(DI)D"⟩ : MethodName)) (z := (⟨"com/example/mirk/mirk/eval/Measure", "overAll", "(DI)D"⟩ : MethodName)) hown (mvT hZ (hw _ (List.mem_of_getElem? (i := 9) rfl))) (mvT hZ (hw _ (List.mem_of_getElem? (i := 10) rfl))) (notFace_of_selects (args := #[]) (mvT hZ (hw _ (List.mem_of_getElem? (i := 12) rfl)))) (mvT hZ (hw _ (List.mem_of_getElem? (i := 12) rfl))) (mvT hZ (hw _ (List.mem_of_getElem? (i := 11) rfl))) (by decide) (backOf (W := 0) (rm2 l Z aZ hw [] s_RECIP_RANK (v0_8 p1) p2 (0 : Int32) h0 n0 Z0 F_RECIP_RANK_count (own_sum p1)) hZ (hw _ (List.mem_of_getElem? (i := 13) rfl)) (hw _ (List.mem_of_getElem? (i := 6) rfl)) (by decide) (by decide)) q110a q110c (g := (mkF m 27 #[.val (.int p0), .val (.int p1), .val (.int p2), .val (.int (7 : Int32)), .val (.ref s_RECIP_RANK), .val (.double (v0_8 p1)), .second, .unset, .unset, .unset, .unset] [(.int p2), (.double (v0_8 p1)), (.ref s_RECIP_RANK)])) rfl (by rw [hml]; rfl) (Steps.refl _) (argsL := [(.double (v0_8 p1)), (.int p2)]) (rest := []) (lenOf pd_91 rfl) rfl (by show 2 * 0 + _ ≤ _; exact Nat.le_of_eq rfl) (hb hby at_27) (fun _ _ => ⟨rfl, e107, (by decide : 0 + 0 ≤ _), (by decide : 0 + 0 ≤ _)⟩)
                  dsimp only [Pt.U, Pt.locs, Pt.cells, Pt.slots] at X110 l110 y110 z110 st110 hQ110
                  subst l110 y110 z110
                  obtain ⟨rfl, N110q, e110⟩ := hQ110
                  have N110 := Fr.app N107 N110q
                  have go111 : ∀ t, Steps p.tables e below (T110.setTop (mkF m 30 #[.val (.int p0), .val (.int p1), .val (.int p2), .val (.int (7 : Int32)), .val (.ref s_RECIP_RANK), .val (.double (v0_8 p1)), .second, .unset, .unset, .unset, .unset] [(.double (b2_7 (v0_8 p1) p2))])) t → Steps p.tables e below (s₁.setTop (entryFrame m #[(.int p0), (.int p1), (.int p2)] maxLocals)) t := fun t k => go109 _ (st110.trans k)
                  have go113 : ∀ t, Steps p.tables e below (T110.setTop (mkF m 61 #[.val (.int p0), .val (.int p1), .val (.int p2), .val (.int (7 : Int32)), .val (.ref s_RECIP_RANK), .val (.double (v0_8 p1)), .second, .val (.double (b2_7 (v0_8 p1) p2)), .second, .val (.double (b0_64 p1 p2)), .second] [])) t → Steps p.tables e below (s₁.setTop (entryFrame m #[(.int p0), (.int p1), (.int p2)] maxLocals)) t := by
                    intro t k
                    refine go111 _ ?_
                    refine XS.dstore X110.here hx rfl (hb hby at_30) rfl (l' := #[.val (.int p0), .val (.int p1), .val (.int p2), .val (.int (7 : Int32)), .val (.ref s_RECIP_RANK), .val (.double (v0_8 p1)), .second, .val (.double (b2_7 (v0_8 p1) p2)), .second, .unset, .unset]) rfl ?_
                    show Steps p.tables e below (T110.setTop (mkF m 32 #[.val (.int p0), .val (.int p1), .val (.int p2), .val (.int (7 : Int32)), .val (.ref s_RECIP_RANK), .val (.double (v0_8 p1)), .second, .val (.double (b2_7 (v0_8 p1) p2)), .second, .unset, .unset] [])) t
                    refine XS.iloadN X110.here hx rfl (hb hby at_32) rfl ?_
                    show Steps p.tables e below (T110.setTop (mkF m 33 #[.val (.int p0), .val (.int p1), .val (.int p2), .val (.int (7 : Int32)), .val (.ref s_RECIP_RANK), .val (.double (v0_8 p1)), .second, .val (.double (b2_7 (v0_8 p1) p2)), .second, .unset, .unset] [(.int (7 : Int32))])) t
                    refine XS.iconst X110.here hx rfl (hb hby at_33) ?_
                    show Steps p.tables e below (T110.setTop (mkF m 34 #[.val (.int p0), .val (.int p1), .val (.int p2), .val (.int (7 : Int32)), .val (.ref s_RECIP_RANK), .val (.double (v0_8 p1)), .second, .val (.double (b2_7 (v0_8 p1) p2)), .second, .unset, .unset] [(.int (4 : Int32)), (.int (7 : Int32))])) t
                    refine XS.icmpYes X110.here hx rfl (pc0 := 34) (pc' := 44) rfl (hb hby at_34) rfl (XT.ii_ge_t (by decide : ¬ ((7 : Int32) < (4 : Int32)))) (by decide) (by decide) ?_
                    show Steps p.tables e below (T110.setTop (mkF m 44 #[.val (.int p0), .val (.int p1), .val (.int p2), .val (.int (7 : Int32)), .val (.ref s_RECIP_RANK), .val (.double (v0_8 p1)), .second, .val (.double (b2_7 (v0_8 p1) p2)), .second, .unset, .unset] [])) t
                    refine XS.iloadN X110.here hx rfl (hb hby at_44) rfl ?_
                    show Steps p.tables e below (T110.setTop (mkF m 45 #[.val (.int p0), .val (.int p1), .val (.int p2), .val (.int (7 : Int32)), .val (.ref s_RECIP_RANK), .val (.double (v0_8 p1)), .second, .val (.double (b2_7 (v0_8 p1) p2)), .second, .unset, .unset] [(.int p2)])) t
                    by_cases hc112 : p2 = (0 : Int32)
                    · refine XS.ifNo X110.here hx rfl (hb hby at_45) rfl (XT.i0_ne_f hc112) ?_
                      show Steps p.tables e below (T110.setTop (mkF m 48 #[.val (.int p0), .val (.int p1), .val (.int p2), .val (.int (7 : Int32)), .val (.ref s_RECIP_RANK), .val (.double (v0_8 p1)), .second, .val (.double (b2_7 (v0_8 p1) p2)), .second, .unset, .unset] [])) t
                      refine XS.dconst0 X110.here hx rfl (hb hby at_48) (v := FP.dconst0) rfl ?_
                      show Steps p.tables e below (T110.setTop (mkF m 49 #[.val (.int p0), .val (.int p1), .val (.int p2), .val (.int (7 : Int32)), .val (.ref s_RECIP_RANK), .val (.double (v0_8 p1)), .second, .val (.double (b2_7 (v0_8 p1) p2)), .second, .unset, .unset] [(.double FP.dconst0)])) t
                      refine XS.dstore X110.here hx rfl (hb hby at_49) rfl (l' := #[.val (.int p0), .val (.int p1), .val (.int p2), .val (.int (7 : Int32)), .val (.ref s_RECIP_RANK), .val (.double (v0_8 p1)), .second, .val (.double (b2_7 (v0_8 p1) p2)), .second, .val (.double FP.dconst0), .second]) rfl ?_
                      show Steps p.tables e below (T110.setTop (mkF m 51 #[.val (.int p0), .val (.int p1), .val (.int p2), .val (.int (7 : Int32)), .val (.ref s_RECIP_RANK), .val (.double (v0_8 p1)), .second, .val (.double (b2_7 (v0_8 p1) p2)), .second, .val (.double FP.dconst0), .second] [])) t
                      refine XS.goto X110.here hx rfl (pc0 := 51) (pc' := 61) rfl (hb hby at_51) (by decide) (by decide) ?_
                      show Steps p.tables e below (T110.setTop (mkF m 61 #[.val (.int p0), .val (.int p1), .val (.int p2), .val (.int (7 : Int32)), .val (.ref s_RECIP_RANK), .val (.double (v0_8 p1)), .second, .val (.double (b2_7 (v0_8 p1) p2)), .second, .val (.double FP.dconst0), .second] [])) t
                      have hq114 : (b0_64 p1 p2) = FP.dconst0 := by rw [b0_64, if_pos hc112]
                      rw [hq114] at k
                      exact k
                    · refine XS.ifYes X110.here hx rfl (pc0 := 45) (pc' := 54) rfl (hb hby at_45) rfl (XT.i0_ne_t hc112) (by decide) (by decide) ?_
                      show Steps p.tables e below (T110.setTop (mkF m 54 #[.val (.int p0), .val (.int p1), .val (.int p2), .val (.int (7 : Int32)), .val (.ref s_RECIP_RANK), .val (.double (v0_8 p1)), .second, .val (.double (b2_7 (v0_8 p1) p2)), .second, .unset, .unset] [])) t
                      refine XS.dload X110.here hx rfl (hb hby at_54) rfl ?_
                      show Steps p.tables e below (T110.setTop (mkF m 56 #[.val (.int p0), .val (.int p1), .val (.int p2), .val (.int (7 : Int32)), .val (.ref s_RECIP_RANK), .val (.double (v0_8 p1)), .second, .val (.double (b2_7 (v0_8 p1) p2)), .second, .unset, .unset] [(.double (v0_8 p1))])) t
                      refine XS.iloadN X110.here hx rfl (hb hby at_56) rfl ?_
                      show Steps p.tables e below (T110.setTop (mkF m 57 #[.val (.int p0), .val (.int p1), .val (.int p2), .val (.int (7 : Int32)), .val (.ref s_RECIP_RANK), .val (.double (v0_8 p1)), .second, .val (.double (b2_7 (v0_8 p1) p2)), .second, .unset, .unset] [(.int p2), (.double (v0_8 p1))])) t
                      refine XS.i2dS X110.here hx rfl (hb hby at_57) rfl (v := (FP.i2d p2)) rfl ?_
                      show Steps p.tables e below (T110.setTop (mkF m 58 #[.val (.int p0), .val (.int p1), .val (.int p2), .val (.int (7 : Int32)), .val (.ref s_RECIP_RANK), .val (.double (v0_8 p1)), .second, .val (.double (b2_7 (v0_8 p1) p2)), .second, .unset, .unset] [(.double (FP.i2d p2)), (.double (v0_8 p1))])) t
                      refine XS.ddivS X110.here hx rfl (hb hby at_58) rfl (own_quo (own_sum p1) hc112) (v := (FP.ddiv (v0_8 p1) (FP.i2d p2))) rfl ?_
                      show Steps p.tables e below (T110.setTop (mkF m 59 #[.val (.int p0), .val (.int p1), .val (.int p2), .val (.int (7 : Int32)), .val (.ref s_RECIP_RANK), .val (.double (v0_8 p1)), .second, .val (.double (b2_7 (v0_8 p1) p2)), .second, .unset, .unset] [(.double (FP.ddiv (v0_8 p1) (FP.i2d p2)))])) t
                      show Steps p.tables e below (T110.setTop (mkF m 59 #[.val (.int p0), .val (.int p1), .val (.int p2), .val (.int (7 : Int32)), .val (.ref s_RECIP_RANK), .val (.double (v0_8 p1)), .second, .val (.double (b2_7 (v0_8 p1) p2)), .second, .unset, .unset] [(.double (v0_62 p1 p2))])) t
                      refine XS.dstore X110.here hx rfl (hb hby at_59) rfl (l' := #[.val (.int p0), .val (.int p1), .val (.int p2), .val (.int (7 : Int32)), .val (.ref s_RECIP_RANK), .val (.double (v0_8 p1)), .second, .val (.double (b2_7 (v0_8 p1) p2)), .second, .val (.double (v0_62 p1 p2)), .second]) rfl ?_
                      show Steps p.tables e below (T110.setTop (mkF m 61 #[.val (.int p0), .val (.int p1), .val (.int p2), .val (.int (7 : Int32)), .val (.ref s_RECIP_RANK), .val (.double (v0_8 p1)), .second, .val (.double (b2_7 (v0_8 p1) p2)), .second, .val (.double (v0_62 p1 p2)), .second] [])) t
                      have hq115 : (b0_64 p1 p2) = (v0_62 p1 p2) := by rw [b0_64, if_neg hc112]
                      rw [hq115] at k
                      exact k
                  have go117 : ∀ t, Steps p.tables e below (T110.setTop (mkF m 74 #[.val (.int p0), .val (.int p1), .val (.int p2), .val (.int (7 : Int32)), .val (.ref s_RECIP_RANK), .val (.double (v0_8 p1)), .second, .val (.double (b2_7 (v0_8 p1) p2)), .second, .val (.double (b0_64 p1 p2)), .second] [(.int (b0_69 p1 p2))])) t → Steps p.tables e below (s₁.setTop (entryFrame m #[(.int p0), (.int p1), (.int p2)] maxLocals)) t := by
                    intro t k
                    refine go113 _ ?_
                    refine XS.dload X110.here hx rfl (hb hby at_61) rfl ?_
                    show Steps p.tables e below (T110.setTop (mkF m 63 #[.val (.int p0), .val (.int p1), .val (.int p2), .val (.int (7 : Int32)), .val (.ref s_RECIP_RANK), .val (.double (v0_8 p1)), .second, .val (.double (b2_7 (v0_8 p1) p2)), .second, .val (.double (b0_64 p1 p2)), .second] [(.double (b2_7 (v0_8 p1) p2))])) t
                    refine XS.dload X110.here hx rfl (hb hby at_63) rfl ?_
                    show Steps p.tables e below (T110.setTop (mkF m 65 #[.val (.int p0), .val (.int p1), .val (.int p2), .val (.int (7 : Int32)), .val (.ref s_RECIP_RANK), .val (.double (v0_8 p1)), .second, .val (.double (b2_7 (v0_8 p1) p2)), .second, .val (.double (b0_64 p1 p2)), .second] [(.double (b0_64 p1 p2)), (.double (b2_7 (v0_8 p1) p2))])) t
                    refine XS.dcmpS X110.here hx rfl (hb hby at_65) rfl (v := (cmpValue (FP.dcmp (b2_7 (v0_8 p1) p2) (b0_64 p1 p2)) .l)) rfl ?_
                    show Steps p.tables e below (T110.setTop (mkF m 66 #[.val (.int p0), .val (.int p1), .val (.int p2), .val (.int (7 : Int32)), .val (.ref s_RECIP_RANK), .val (.double (v0_8 p1)), .second, .val (.double (b2_7 (v0_8 p1) p2)), .second, .val (.double (b0_64 p1 p2)), .second] [(.int (cmpValue (FP.dcmp (b2_7 (v0_8 p1) p2) (b0_64 p1 p2)) .l))])) t
                    by_cases hc116 : (cmpValue (FP.dcmp (b2_7 (v0_8 p1) p2) (b0_64 p1 p2)) .l) = (0 : Int32)
                    · refine XS.ifNo X110.here hx rfl (hb hby at_66) rfl (XT.i0_ne_f hc116) ?_
                      show Steps p.tables e below (T110.setTop (mkF m 69 #[.val (.int p0), .val (.int p1), .val (.int p2), .val (.int (7 : Int32)), .val (.ref s_RECIP_RANK), .val (.double (v0_8 p1)), .second, .val (.double (b2_7 (v0_8 p1) p2)), .second, .val (.double (b0_64 p1 p2)), .second] [])) t
                      refine XS.iconst X110.here hx rfl (hb hby at_69) ?_
                      show Steps p.tables e below (T110.setTop (mkF m 70 #[.val (.int p0), .val (.int p1), .val (.int p2), .val (.int (7 : Int32)), .val (.ref s_RECIP_RANK), .val (.double (v0_8 p1)), .second, .val (.double (b2_7 (v0_8 p1) p2)), .second, .val (.double (b0_64 p1 p2)), .second] [(.int (1 : Int32))])) t
                      refine XS.goto X110.here hx rfl (pc0 := 70) (pc' := 74) rfl (hb hby at_70) (by decide) (by decide) ?_
                      show Steps p.tables e below (T110.setTop (mkF m 74 #[.val (.int p0), .val (.int p1), .val (.int p2), .val (.int (7 : Int32)), .val (.ref s_RECIP_RANK), .val (.double (v0_8 p1)), .second, .val (.double (b2_7 (v0_8 p1) p2)), .second, .val (.double (b0_64 p1 p2)), .second] [(.int (1 : Int32))])) t
                      have hq118 : (b0_69 p1 p2) = (1 : Int32) := by rw [b0_69, if_pos hc116]
                      rw [hq118] at k
                      exact k
                    · refine XS.ifYes X110.here hx rfl (pc0 := 66) (pc' := 73) rfl (hb hby at_66) rfl (XT.i0_ne_t hc116) (by decide) (by decide) ?_
                      show Steps p.tables e below (T110.setTop (mkF m 73 #[.val (.int p0), .val (.int p1), .val (.int p2), .val (.int (7 : Int32)), .val (.ref s_RECIP_RANK), .val (.double (v0_8 p1)), .second, .val (.double (b2_7 (v0_8 p1) p2)), .second, .val (.double (b0_64 p1 p2)), .second] [])) t
                      refine XS.iconst X110.here hx rfl (hb hby at_73) ?_
                      show Steps p.tables e below (T110.setTop (mkF m 74 #[.val (.int p0), .val (.int p1), .val (.int p2), .val (.int (7 : Int32)), .val (.ref s_RECIP_RANK), .val (.double (v0_8 p1)), .second, .val (.double (b2_7 (v0_8 p1) p2)), .second, .val (.double (b0_64 p1 p2)), .second] [(.int (0 : Int32))])) t
                      have hq119 : (b0_69 p1 p2) = (0 : Int32) := by rw [b0_69, if_neg hc116]
                      rw [hq119] at k
                      exact k
                  obtain ⟨fs, hr, hrun, hended, hW, hsame⟩ := X110.leave (v := some (.int (b0_69 p1 p2))) (fun h => by rw [Bd.returns] at h; cases h)
                  refine ⟨_, _, go117 _ (Jvm.RoadKit.retOut X110 hx Bd.returns (own_nz (by unfold b0_69; (repeat' split) <;> first | exact Or.inl rfl | exact Or.inr rfl)) (Or.inl ⟨rfl, Or.inr (Or.inl rfl), _, rfl⟩) (hb hby at_74) hr), hrun, hended, _, _, rfl, ?_, ⟨_, rfl⟩, hW, hsame.mono (by decide) (by decide)⟩
                  show Q0 _ _ p0 p1 p2 s_NUM_Q s_NUM_RET s_NDCG_CUT_10 s_RPREC s_P_5 s_P_10 s_P_20 s_NUM_REL_RET s_RECALL_10 s_NUM_REL s_MAP s_RECIP_RANK s_BPREF s_NDCG s_RECALL_100 h0 _ (T110.setFrames fs).heap _
                  have hE : (T110.setFrames fs).heap = h0 := e110
                  rw [hE]
                  exact ⟨congrArg (fun z => some (Value.int z)) ((by rw [f0, if_neg hs3, if_neg hs17, if_neg hs29, if_neg hs41, if_neg hs53, if_neg hs72, if_neg hs88, if_pos hs104] : (b0_69 p1 p2) = (f0 p0 p1 p2)).trans (f0_one p0 p1 p2)), N110⟩
                · by_cases hs120 : (v0_1 p0) = (8 : Int32)
                  · have go121 : ∀ t, Steps p.tables e below (s₁.setTop (mkF m 8 #[.val (.int p0), .val (.int p1), .val (.int p2), .val (.int (8 : Int32)), .unset, .unset, .unset, .unset, .unset, .unset, .unset] [])) t → Steps p.tables e below (s₁.setTop (entryFrame m #[(.int p0), (.int p1), (.int p2)] maxLocals)) t := by
                      have q := go2
                      rw [hs120] at q
                      exact q
                    have go122 : ∀ t, Steps p.tables e below (s₁.setTop (mkF m 9 #[.val (.int p0), .val (.int p1), .val (.int p2), .val (.int (8 : Int32)), .unset, .unset, .unset, .unset, .unset, .unset, .unset] [(.int (8 : Int32))])) t → Steps p.tables e below (s₁.setTop (entryFrame m #[(.int p0), (.int p1), (.int p2)] maxLocals)) t := by
                      intro t k
                      refine go121 _ ?_
                      refine XS.iloadN X0.here hx rfl (hb hby at_8) rfl ?_
                      show Steps p.tables e below (s₁.setTop (mkF m 9 #[.val (.int p0), .val (.int p1), .val (.int p2), .val (.int (8 : Int32)), .unset, .unset, .unset, .unset, .unset, .unset, .unset] [(.int (8 : Int32))])) t
                      exact k
                    obtain ⟨_, _, ⟨T123, L123, k123, n123⟩, -, X123, ⟨Lc123, hQ123, l123, y123, z123⟩, st123⟩ := Jvm.LawKit.callS X0 hx (y := (⟨"com/example/mirk/mirk/eval/MeasureOverAllPinLaw", "pick", "(I)Lcom/example/mirk/mirk/eval/Measure;"⟩ : MethodName)) hown (mvT hZ (hw _ (List.mem_of_getElem? (i := 1) rfl))) (mvT hZ (hw _ (List.mem_of_getElem? (i := 2) rfl))) (mvT hZ (hw _ (List.mem_of_getElem? (i := 3) rfl))) (mvT hZ (hw _ (List.mem_of_getElem? (i := 4) rfl))) (by decide) (backOf (W := 0) (rm1 l Z aZ hw [] (8 : Int32) s_NUM_Q s_NUM_RET s_NUM_REL s_NUM_REL_RET s_MAP s_RPREC s_BPREF s_RECIP_RANK s_P_5 s_P_10 s_P_20 s_RECALL_10 s_RECALL_100 s_NDCG s_NDCG_CUT_10 h0 n0 Z0 S_NUM_Q S_NUM_RET S_NUM_REL S_NUM_REL_RET S_MAP S_RPREC S_BPREF S_RECIP_RANK S_P_5 S_P_10 S_P_20 S_RECALL_10 S_RECALL_100 S_NDCG S_NDCG_CUT_10) hZ (hw _ (List.mem_of_getElem? (i := 4) rfl)) (hw _ (List.mem_of_getElem? (i := 3) rfl)) (by decide) (by decide)) (g := (mkF m 9 #[.val (.int p0), .val (.int p1), .val (.int p2), .val (.int (8 : Int32)), .unset, .unset, .unset, .unset, .unset, .unset, .unset] [(.int (8 : Int32))])) rfl (by rw [hml]; rfl) (argsL := [(.int (8 : Int32))]) (rest := []) (lenOf pd_89 rfl) rfl (by show 2 * 0 + _ ≤ _; exact Nat.le_of_eq rfl) (hb hby at_9) (fun _ _ => ⟨rfl, e0, (by decide : 0 + 0 ≤ _), (by decide : 0 + 0 ≤ _)⟩)
                    dsimp only [Pt.U, Pt.locs, Pt.cells, Pt.slots] at X123 l123 y123 z123 st123 hQ123
                    subst l123 y123 z123
                    obtain ⟨rfl, N123q, e123⟩ := hQ123
                    have N123 := Fr.app N0 N123q
                    have go124 : ∀ t, Steps p.tables e below (T123.setTop (mkF m 12 #[.val (.int p0), .val (.int p1), .val (.int p2), .val (.int (8 : Int32)), .unset, .unset, .unset, .unset, .unset, .unset, .unset] [(.ref s_P_5)])) t → Steps p.tables e below (s₁.setTop (entryFrame m #[(.int p0), (.int p1), (.int p2)] maxLocals)) t := fun t k => go122 _ (st123 _ k)
                    have go125 : ∀ t, Steps p.tables e below (T123.setTop (mkF m 27 #[.val (.int p0), .val (.int p1), .val (.int p2), .val (.int (8 : Int32)), .val (.ref s_P_5), .val (.double (v0_8 p1)), .second, .unset, .unset, .unset, .unset] [(.int p2), (.double (v0_8 p1)), (.ref s_P_5)])) t → Steps p.tables e below (s₁.setTop (entryFrame m #[(.int p0), (.int p1), (.int p2)] maxLocals)) t := by
                      intro t k
                      refine go124 _ ?_
                      refine XS.astore X123.here hx rfl (hb hby at_12) rfl rfl (l' := #[.val (.int p0), .val (.int p1), .val (.int p2), .val (.int (8 : Int32)), .val (.ref s_P_5), .unset, .unset, .unset, .unset, .unset, .unset]) rfl ?_
                      show Steps p.tables e below (T123.setTop (mkF m 14 #[.val (.int p0), .val (.int p1), .val (.int p2), .val (.int (8 : Int32)), .val (.ref s_P_5), .unset, .unset, .unset, .unset, .unset, .unset] [])) t
                      refine XS.iloadN X123.here hx rfl (hb hby at_14) rfl ?_
                      show Steps p.tables e below (T123.setTop (mkF m 15 #[.val (.int p0), .val (.int p1), .val (.int p2), .val (.int (8 : Int32)), .val (.ref s_P_5), .unset, .unset, .unset, .unset, .unset, .unset] [(.int p1)])) t
                      refine XS.i2dS X123.here hx rfl (hb hby at_15) rfl (v := (FP.i2d p1)) rfl ?_
                      show Steps p.tables e below (T123.setTop (mkF m 16 #[.val (.int p0), .val (.int p1), .val (.int p2), .val (.int (8 : Int32)), .val (.ref s_P_5), .unset, .unset, .unset, .unset, .unset, .unset] [(.double (FP.i2d p1))])) t
                      refine X123.ldc2DoubleC hx hown (mvT hZ (hw _ (List.mem_of_getElem? (i := 8) rfl))) (g := (mkF m 16 #[.val (.int p0), .val (.int p1), .val (.int p2), .val (.int (8 : Int32)), .val (.ref s_P_5), .unset, .unset, .unset, .unset, .unset, .unset] [(.double (FP.i2d p1))])) rfl (hb hby at_16) _ ?_
                      show Steps p.tables e below (T123.setTop (mkF m 19 #[.val (.int p0), .val (.int p1), .val (.int p2), .val (.int (8 : Int32)), .val (.ref s_P_5), .unset, .unset, .unset, .unset, .unset, .unset] [(.double (4598175219545276416 : UInt64)), (.double (FP.i2d p1))])) t
                      refine XS.dmulS X123.here hx rfl (hb hby at_19) rfl (own_sum p1) (v := (FP.dmul (FP.i2d p1) (4598175219545276416 : UInt64))) rfl ?_
                      show Steps p.tables e below (T123.setTop (mkF m 20 #[.val (.int p0), .val (.int p1), .val (.int p2), .val (.int (8 : Int32)), .val (.ref s_P_5), .unset, .unset, .unset, .unset, .unset, .unset] [(.double (FP.dmul (FP.i2d p1) (4598175219545276416 : UInt64)))])) t
                      show Steps p.tables e below (T123.setTop (mkF m 20 #[.val (.int p0), .val (.int p1), .val (.int p2), .val (.int (8 : Int32)), .val (.ref s_P_5), .unset, .unset, .unset, .unset, .unset, .unset] [(.double (v0_8 p1))])) t
                      refine XS.dstore X123.here hx rfl (hb hby at_20) rfl (l' := #[.val (.int p0), .val (.int p1), .val (.int p2), .val (.int (8 : Int32)), .val (.ref s_P_5), .val (.double (v0_8 p1)), .second, .unset, .unset, .unset, .unset]) rfl ?_
                      show Steps p.tables e below (T123.setTop (mkF m 22 #[.val (.int p0), .val (.int p1), .val (.int p2), .val (.int (8 : Int32)), .val (.ref s_P_5), .val (.double (v0_8 p1)), .second, .unset, .unset, .unset, .unset] [])) t
                      refine XS.aload X123.here hx rfl (hb hby at_22) rfl rfl ?_
                      show Steps p.tables e below (T123.setTop (mkF m 24 #[.val (.int p0), .val (.int p1), .val (.int p2), .val (.int (8 : Int32)), .val (.ref s_P_5), .val (.double (v0_8 p1)), .second, .unset, .unset, .unset, .unset] [(.ref s_P_5)])) t
                      refine XS.dload X123.here hx rfl (hb hby at_24) rfl ?_
                      show Steps p.tables e below (T123.setTop (mkF m 26 #[.val (.int p0), .val (.int p1), .val (.int p2), .val (.int (8 : Int32)), .val (.ref s_P_5), .val (.double (v0_8 p1)), .second, .unset, .unset, .unset, .unset] [(.double (v0_8 p1)), (.ref s_P_5)])) t
                      refine XS.iloadN X123.here hx rfl (hb hby at_26) rfl ?_
                      show Steps p.tables e below (T123.setTop (mkF m 27 #[.val (.int p0), .val (.int p1), .val (.int p2), .val (.int (8 : Int32)), .val (.ref s_P_5), .val (.double (v0_8 p1)), .second, .unset, .unset, .unset, .unset] [(.int p2), (.double (v0_8 p1)), (.ref s_P_5)])) t
                      exact k
                    obtain ⟨cq126, kq126, q126a, q126b, q126c⟩ := isOf hZ e123 E_P_5
                    obtain ⟨_, _, ⟨T126, L126, k126, n126⟩, -, X126, ⟨Lc126, hQ126, l126, y126, z126⟩, st126⟩ := X123.virtualBack hx (y := (⟨"com/example/mirk/mirk/eval/Measure", "overAll", "(DI)D"⟩ : MethodName)) (z := (⟨"com/example/mirk/mirk/eval/Measure", "overAll", "(DI)D"⟩ : MethodName)) hown (mvT hZ (hw _ (List.mem_of_getElem? (i := 9) rfl))) (mvT hZ (hw _ (List.mem_of_getElem? (i := 10) rfl))) (notFace_of_selects (args := #[]) (mvT hZ (hw _ (List.mem_of_getElem? (i := 12) rfl)))) (mvT hZ (hw _ (List.mem_of_getElem? (i := 12) rfl))) (mvT hZ (hw _ (List.mem_of_getElem? (i := 11) rfl))) (by decide) (backOf (W := 0) (rm2 l Z aZ hw [] s_P_5 (v0_8 p1) p2 (0 : Int32) h0 n0 Z0 F_P_5_count (own_sum p1)) hZ (hw _ (List.mem_of_getElem? (i := 13) rfl)) (hw _ (List.mem_of_getElem? (i := 6) rfl)) (by decide) (by decide)) q126a q126c (g := (mkF m 27 #[.val (.int p0), .val (.int p1), .val (.int p2), .val (.int (8 : Int32)), .val (.ref s_P_5), .val (.double (v0_8 p1)), .second, .unset, .unset, .unset, .unset] [(.int p2), (.double (v0_8 p1)), (.ref s_P_5)])) rfl (by rw [hml]; rfl) (Steps.refl _) (argsL := [(.double (v0_8 p1)), (.int p2)]) (rest := []) (lenOf pd_91 rfl) rfl (by show 2 * 0 + _ ≤ _; exact Nat.le_of_eq rfl) (hb hby at_27) (fun _ _ => ⟨rfl, e123, (by decide : 0 + 0 ≤ _), (by decide : 0 + 0 ≤ _)⟩)
                    dsimp only [Pt.U, Pt.locs, Pt.cells, Pt.slots] at X126 l126 y126 z126 st126 hQ126
                    subst l126 y126 z126
                    obtain ⟨rfl, N126q, e126⟩ := hQ126
                    have N126 := Fr.app N123 N126q
                    have go127 : ∀ t, Steps p.tables e below (T126.setTop (mkF m 30 #[.val (.int p0), .val (.int p1), .val (.int p2), .val (.int (8 : Int32)), .val (.ref s_P_5), .val (.double (v0_8 p1)), .second, .unset, .unset, .unset, .unset] [(.double (b2_7 (v0_8 p1) p2))])) t → Steps p.tables e below (s₁.setTop (entryFrame m #[(.int p0), (.int p1), (.int p2)] maxLocals)) t := fun t k => go125 _ (st126.trans k)
                    have go129 : ∀ t, Steps p.tables e below (T126.setTop (mkF m 61 #[.val (.int p0), .val (.int p1), .val (.int p2), .val (.int (8 : Int32)), .val (.ref s_P_5), .val (.double (v0_8 p1)), .second, .val (.double (b2_7 (v0_8 p1) p2)), .second, .val (.double (b0_64 p1 p2)), .second] [])) t → Steps p.tables e below (s₁.setTop (entryFrame m #[(.int p0), (.int p1), (.int p2)] maxLocals)) t := by
                      intro t k
                      refine go127 _ ?_
                      refine XS.dstore X126.here hx rfl (hb hby at_30) rfl (l' := #[.val (.int p0), .val (.int p1), .val (.int p2), .val (.int (8 : Int32)), .val (.ref s_P_5), .val (.double (v0_8 p1)), .second, .val (.double (b2_7 (v0_8 p1) p2)), .second, .unset, .unset]) rfl ?_
                      show Steps p.tables e below (T126.setTop (mkF m 32 #[.val (.int p0), .val (.int p1), .val (.int p2), .val (.int (8 : Int32)), .val (.ref s_P_5), .val (.double (v0_8 p1)), .second, .val (.double (b2_7 (v0_8 p1) p2)), .second, .unset, .unset] [])) t
                      refine XS.iloadN X126.here hx rfl (hb hby at_32) rfl ?_
                      show Steps p.tables e below (T126.setTop (mkF m 33 #[.val (.int p0), .val (.int p1), .val (.int p2), .val (.int (8 : Int32)), .val (.ref s_P_5), .val (.double (v0_8 p1)), .second, .val (.double (b2_7 (v0_8 p1) p2)), .second, .unset, .unset] [(.int (8 : Int32))])) t
                      refine XS.iconst X126.here hx rfl (hb hby at_33) ?_
                      show Steps p.tables e below (T126.setTop (mkF m 34 #[.val (.int p0), .val (.int p1), .val (.int p2), .val (.int (8 : Int32)), .val (.ref s_P_5), .val (.double (v0_8 p1)), .second, .val (.double (b2_7 (v0_8 p1) p2)), .second, .unset, .unset] [(.int (4 : Int32)), (.int (8 : Int32))])) t
                      refine XS.icmpYes X126.here hx rfl (pc0 := 34) (pc' := 44) rfl (hb hby at_34) rfl (XT.ii_ge_t (by decide : ¬ ((8 : Int32) < (4 : Int32)))) (by decide) (by decide) ?_
                      show Steps p.tables e below (T126.setTop (mkF m 44 #[.val (.int p0), .val (.int p1), .val (.int p2), .val (.int (8 : Int32)), .val (.ref s_P_5), .val (.double (v0_8 p1)), .second, .val (.double (b2_7 (v0_8 p1) p2)), .second, .unset, .unset] [])) t
                      refine XS.iloadN X126.here hx rfl (hb hby at_44) rfl ?_
                      show Steps p.tables e below (T126.setTop (mkF m 45 #[.val (.int p0), .val (.int p1), .val (.int p2), .val (.int (8 : Int32)), .val (.ref s_P_5), .val (.double (v0_8 p1)), .second, .val (.double (b2_7 (v0_8 p1) p2)), .second, .unset, .unset] [(.int p2)])) t
                      by_cases hc128 : p2 = (0 : Int32)
                      · refine XS.ifNo X126.here hx rfl (hb hby at_45) rfl (XT.i0_ne_f hc128) ?_
                        show Steps p.tables e below (T126.setTop (mkF m 48 #[.val (.int p0), .val (.int p1), .val (.int p2), .val (.int (8 : Int32)), .val (.ref s_P_5), .val (.double (v0_8 p1)), .second, .val (.double (b2_7 (v0_8 p1) p2)), .second, .unset, .unset] [])) t
                        refine XS.dconst0 X126.here hx rfl (hb hby at_48) (v := FP.dconst0) rfl ?_
                        show Steps p.tables e below (T126.setTop (mkF m 49 #[.val (.int p0), .val (.int p1), .val (.int p2), .val (.int (8 : Int32)), .val (.ref s_P_5), .val (.double (v0_8 p1)), .second, .val (.double (b2_7 (v0_8 p1) p2)), .second, .unset, .unset] [(.double FP.dconst0)])) t
                        refine XS.dstore X126.here hx rfl (hb hby at_49) rfl (l' := #[.val (.int p0), .val (.int p1), .val (.int p2), .val (.int (8 : Int32)), .val (.ref s_P_5), .val (.double (v0_8 p1)), .second, .val (.double (b2_7 (v0_8 p1) p2)), .second, .val (.double FP.dconst0), .second]) rfl ?_
                        show Steps p.tables e below (T126.setTop (mkF m 51 #[.val (.int p0), .val (.int p1), .val (.int p2), .val (.int (8 : Int32)), .val (.ref s_P_5), .val (.double (v0_8 p1)), .second, .val (.double (b2_7 (v0_8 p1) p2)), .second, .val (.double FP.dconst0), .second] [])) t
                        refine XS.goto X126.here hx rfl (pc0 := 51) (pc' := 61) rfl (hb hby at_51) (by decide) (by decide) ?_
                        show Steps p.tables e below (T126.setTop (mkF m 61 #[.val (.int p0), .val (.int p1), .val (.int p2), .val (.int (8 : Int32)), .val (.ref s_P_5), .val (.double (v0_8 p1)), .second, .val (.double (b2_7 (v0_8 p1) p2)), .second, .val (.double FP.dconst0), .second] [])) t
                        have hq130 : (b0_64 p1 p2) = FP.dconst0 := by rw [b0_64, if_pos hc128]
                        rw [hq130] at k
                        exact k
                      · refine XS.ifYes X126.here hx rfl (pc0 := 45) (pc' := 54) rfl (hb hby at_45) rfl (XT.i0_ne_t hc128) (by decide) (by decide) ?_
                        show Steps p.tables e below (T126.setTop (mkF m 54 #[.val (.int p0), .val (.int p1), .val (.int p2), .val (.int (8 : Int32)), .val (.ref s_P_5), .val (.double (v0_8 p1)), .second, .val (.double (b2_7 (v0_8 p1) p2)), .second, .unset, .unset] [])) t
                        refine XS.dload X126.here hx rfl (hb hby at_54) rfl ?_
                        show Steps p.tables e below (T126.setTop (mkF m 56 #[.val (.int p0), .val (.int p1), .val (.int p2), .val (.int (8 : Int32)), .val (.ref s_P_5), .val (.double (v0_8 p1)), .second, .val (.double (b2_7 (v0_8 p1) p2)), .second, .unset, .unset] [(.double (v0_8 p1))])) t
                        refine XS.iloadN X126.here hx rfl (hb hby at_56) rfl ?_
                        show Steps p.tables e below (T126.setTop (mkF m 57 #[.val (.int p0), .val (.int p1), .val (.int p2), .val (.int (8 : Int32)), .val (.ref s_P_5), .val (.double (v0_8 p1)), .second, .val (.double (b2_7 (v0_8 p1) p2)), .second, .unset, .unset] [(.int p2), (.double (v0_8 p1))])) t
                        refine XS.i2dS X126.here hx rfl (hb hby at_57) rfl (v := (FP.i2d p2)) rfl ?_
                        show Steps p.tables e below (T126.setTop (mkF m 58 #[.val (.int p0), .val (.int p1), .val (.int p2), .val (.int (8 : Int32)), .val (.ref s_P_5), .val (.double (v0_8 p1)), .second, .val (.double (b2_7 (v0_8 p1) p2)), .second, .unset, .unset] [(.double (FP.i2d p2)), (.double (v0_8 p1))])) t
                        refine XS.ddivS X126.here hx rfl (hb hby at_58) rfl (own_quo (own_sum p1) hc128) (v := (FP.ddiv (v0_8 p1) (FP.i2d p2))) rfl ?_
                        show Steps p.tables e below (T126.setTop (mkF m 59 #[.val (.int p0), .val (.int p1), .val (.int p2), .val (.int (8 : Int32)), .val (.ref s_P_5), .val (.double (v0_8 p1)), .second, .val (.double (b2_7 (v0_8 p1) p2)), .second, .unset, .unset] [(.double (FP.ddiv (v0_8 p1) (FP.i2d p2)))])) t
                        show Steps p.tables e below (T126.setTop (mkF m 59 #[.val (.int p0), .val (.int p1), .val (.int p2), .val (.int (8 : Int32)), .val (.ref s_P_5), .val (.double (v0_8 p1)), .second, .val (.double (b2_7 (v0_8 p1) p2)), .second, .unset, .unset] [(.double (v0_62 p1 p2))])) t
                        refine XS.dstore X126.here hx rfl (hb hby at_59) rfl (l' := #[.val (.int p0), .val (.int p1), .val (.int p2), .val (.int (8 : Int32)), .val (.ref s_P_5), .val (.double (v0_8 p1)), .second, .val (.double (b2_7 (v0_8 p1) p2)), .second, .val (.double (v0_62 p1 p2)), .second]) rfl ?_
                        show Steps p.tables e below (T126.setTop (mkF m 61 #[.val (.int p0), .val (.int p1), .val (.int p2), .val (.int (8 : Int32)), .val (.ref s_P_5), .val (.double (v0_8 p1)), .second, .val (.double (b2_7 (v0_8 p1) p2)), .second, .val (.double (v0_62 p1 p2)), .second] [])) t
                        have hq131 : (b0_64 p1 p2) = (v0_62 p1 p2) := by rw [b0_64, if_neg hc128]
                        rw [hq131] at k
                        exact k
                    have go133 : ∀ t, Steps p.tables e below (T126.setTop (mkF m 74 #[.val (.int p0), .val (.int p1), .val (.int p2), .val (.int (8 : Int32)), .val (.ref s_P_5), .val (.double (v0_8 p1)), .second, .val (.double (b2_7 (v0_8 p1) p2)), .second, .val (.double (b0_64 p1 p2)), .second] [(.int (b0_69 p1 p2))])) t → Steps p.tables e below (s₁.setTop (entryFrame m #[(.int p0), (.int p1), (.int p2)] maxLocals)) t := by
                      intro t k
                      refine go129 _ ?_
                      refine XS.dload X126.here hx rfl (hb hby at_61) rfl ?_
                      show Steps p.tables e below (T126.setTop (mkF m 63 #[.val (.int p0), .val (.int p1), .val (.int p2), .val (.int (8 : Int32)), .val (.ref s_P_5), .val (.double (v0_8 p1)), .second, .val (.double (b2_7 (v0_8 p1) p2)), .second, .val (.double (b0_64 p1 p2)), .second] [(.double (b2_7 (v0_8 p1) p2))])) t
                      refine XS.dload X126.here hx rfl (hb hby at_63) rfl ?_
                      show Steps p.tables e below (T126.setTop (mkF m 65 #[.val (.int p0), .val (.int p1), .val (.int p2), .val (.int (8 : Int32)), .val (.ref s_P_5), .val (.double (v0_8 p1)), .second, .val (.double (b2_7 (v0_8 p1) p2)), .second, .val (.double (b0_64 p1 p2)), .second] [(.double (b0_64 p1 p2)), (.double (b2_7 (v0_8 p1) p2))])) t
                      refine XS.dcmpS X126.here hx rfl (hb hby at_65) rfl (v := (cmpValue (FP.dcmp (b2_7 (v0_8 p1) p2) (b0_64 p1 p2)) .l)) rfl ?_
                      show Steps p.tables e below (T126.setTop (mkF m 66 #[.val (.int p0), .val (.int p1), .val (.int p2), .val (.int (8 : Int32)), .val (.ref s_P_5), .val (.double (v0_8 p1)), .second, .val (.double (b2_7 (v0_8 p1) p2)), .second, .val (.double (b0_64 p1 p2)), .second] [(.int (cmpValue (FP.dcmp (b2_7 (v0_8 p1) p2) (b0_64 p1 p2)) .l))])) t
                      by_cases hc132 : (cmpValue (FP.dcmp (b2_7 (v0_8 p1) p2) (b0_64 p1 p2)) .l) = (0 : Int32)
                      · refine XS.ifNo X126.here hx rfl (hb hby at_66) rfl (XT.i0_ne_f hc132) ?_
                        show Steps p.tables e below (T126.setTop (mkF m 69 #[.val (.int p0), .val (.int p1), .val (.int p2), .val (.int (8 : Int32)), .val (.ref s_P_5), .val (.double (v0_8 p1)), .second, .val (.double (b2_7 (v0_8 p1) p2)), .second, .val (.double (b0_64 p1 p2)), .second] [])) t
                        refine XS.iconst X126.here hx rfl (hb hby at_69) ?_
                        show Steps p.tables e below (T126.setTop (mkF m 70 #[.val (.int p0), .val (.int p1), .val (.int p2), .val (.int (8 : Int32)), .val (.ref s_P_5), .val (.double (v0_8 p1)), .second, .val (.double (b2_7 (v0_8 p1) p2)), .second, .val (.double (b0_64 p1 p2)), .second] [(.int (1 : Int32))])) t
                        refine XS.goto X126.here hx rfl (pc0 := 70) (pc' := 74) rfl (hb hby at_70) (by decide) (by decide) ?_
                        show Steps p.tables e below (T126.setTop (mkF m 74 #[.val (.int p0), .val (.int p1), .val (.int p2), .val (.int (8 : Int32)), .val (.ref s_P_5), .val (.double (v0_8 p1)), .second, .val (.double (b2_7 (v0_8 p1) p2)), .second, .val (.double (b0_64 p1 p2)), .second] [(.int (1 : Int32))])) t
                        have hq134 : (b0_69 p1 p2) = (1 : Int32) := by rw [b0_69, if_pos hc132]
                        rw [hq134] at k
                        exact k
                      · refine XS.ifYes X126.here hx rfl (pc0 := 66) (pc' := 73) rfl (hb hby at_66) rfl (XT.i0_ne_t hc132) (by decide) (by decide) ?_
                        show Steps p.tables e below (T126.setTop (mkF m 73 #[.val (.int p0), .val (.int p1), .val (.int p2), .val (.int (8 : Int32)), .val (.ref s_P_5), .val (.double (v0_8 p1)), .second, .val (.double (b2_7 (v0_8 p1) p2)), .second, .val (.double (b0_64 p1 p2)), .second] [])) t
                        refine XS.iconst X126.here hx rfl (hb hby at_73) ?_
                        show Steps p.tables e below (T126.setTop (mkF m 74 #[.val (.int p0), .val (.int p1), .val (.int p2), .val (.int (8 : Int32)), .val (.ref s_P_5), .val (.double (v0_8 p1)), .second, .val (.double (b2_7 (v0_8 p1) p2)), .second, .val (.double (b0_64 p1 p2)), .second] [(.int (0 : Int32))])) t
                        have hq135 : (b0_69 p1 p2) = (0 : Int32) := by rw [b0_69, if_neg hc132]
                        rw [hq135] at k
                        exact k
                    obtain ⟨fs, hr, hrun, hended, hW, hsame⟩ := X126.leave (v := some (.int (b0_69 p1 p2))) (fun h => by rw [Bd.returns] at h; cases h)
                    refine ⟨_, _, go133 _ (Jvm.RoadKit.retOut X126 hx Bd.returns (own_nz (by unfold b0_69; (repeat' split) <;> first | exact Or.inl rfl | exact Or.inr rfl)) (Or.inl ⟨rfl, Or.inr (Or.inl rfl), _, rfl⟩) (hb hby at_74) hr), hrun, hended, _, _, rfl, ?_, ⟨_, rfl⟩, hW, hsame.mono (by decide) (by decide)⟩
                    show Q0 _ _ p0 p1 p2 s_NUM_Q s_NUM_RET s_NDCG_CUT_10 s_RPREC s_P_5 s_P_10 s_P_20 s_NUM_REL_RET s_RECALL_10 s_NUM_REL s_MAP s_RECIP_RANK s_BPREF s_NDCG s_RECALL_100 h0 _ (T126.setFrames fs).heap _
                    have hE : (T126.setFrames fs).heap = h0 := e126
                    rw [hE]
                    exact ⟨congrArg (fun z => some (Value.int z)) ((by rw [f0, if_neg hs3, if_neg hs17, if_neg hs29, if_neg hs41, if_neg hs53, if_neg hs72, if_neg hs88, if_neg hs104, if_pos hs120] : (b0_69 p1 p2) = (f0 p0 p1 p2)).trans (f0_one p0 p1 p2)), N126⟩
                  · by_cases hs136 : (v0_1 p0) = (9 : Int32)
                    · have go137 : ∀ t, Steps p.tables e below (s₁.setTop (mkF m 8 #[.val (.int p0), .val (.int p1), .val (.int p2), .val (.int (9 : Int32)), .unset, .unset, .unset, .unset, .unset, .unset, .unset] [])) t → Steps p.tables e below (s₁.setTop (entryFrame m #[(.int p0), (.int p1), (.int p2)] maxLocals)) t := by
                        have q := go2
                        rw [hs136] at q
                        exact q
                      have go138 : ∀ t, Steps p.tables e below (s₁.setTop (mkF m 9 #[.val (.int p0), .val (.int p1), .val (.int p2), .val (.int (9 : Int32)), .unset, .unset, .unset, .unset, .unset, .unset, .unset] [(.int (9 : Int32))])) t → Steps p.tables e below (s₁.setTop (entryFrame m #[(.int p0), (.int p1), (.int p2)] maxLocals)) t := by
                        intro t k
                        refine go137 _ ?_
                        refine XS.iloadN X0.here hx rfl (hb hby at_8) rfl ?_
                        show Steps p.tables e below (s₁.setTop (mkF m 9 #[.val (.int p0), .val (.int p1), .val (.int p2), .val (.int (9 : Int32)), .unset, .unset, .unset, .unset, .unset, .unset, .unset] [(.int (9 : Int32))])) t
                        exact k
                      obtain ⟨_, _, ⟨T139, L139, k139, n139⟩, -, X139, ⟨Lc139, hQ139, l139, y139, z139⟩, st139⟩ := Jvm.LawKit.callS X0 hx (y := (⟨"com/example/mirk/mirk/eval/MeasureOverAllPinLaw", "pick", "(I)Lcom/example/mirk/mirk/eval/Measure;"⟩ : MethodName)) hown (mvT hZ (hw _ (List.mem_of_getElem? (i := 1) rfl))) (mvT hZ (hw _ (List.mem_of_getElem? (i := 2) rfl))) (mvT hZ (hw _ (List.mem_of_getElem? (i := 3) rfl))) (mvT hZ (hw _ (List.mem_of_getElem? (i := 4) rfl))) (by decide) (backOf (W := 0) (rm1 l Z aZ hw [] (9 : Int32) s_NUM_Q s_NUM_RET s_NUM_REL s_NUM_REL_RET s_MAP s_RPREC s_BPREF s_RECIP_RANK s_P_5 s_P_10 s_P_20 s_RECALL_10 s_RECALL_100 s_NDCG s_NDCG_CUT_10 h0 n0 Z0 S_NUM_Q S_NUM_RET S_NUM_REL S_NUM_REL_RET S_MAP S_RPREC S_BPREF S_RECIP_RANK S_P_5 S_P_10 S_P_20 S_RECALL_10 S_RECALL_100 S_NDCG S_NDCG_CUT_10) hZ (hw _ (List.mem_of_getElem? (i := 4) rfl)) (hw _ (List.mem_of_getElem? (i := 3) rfl)) (by decide) (by decide)) (g := (mkF m 9 #[.val (.int p0), .val (.int p1), .val (.int p2), .val (.int (9 : Int32)), .unset, .unset, .unset, .unset, .unset, .unset, .unset] [(.int (9 : Int32))])) rfl (by rw [hml]; rfl) (argsL := [(.int (9 : Int32))]) (rest := []) (lenOf pd_89 rfl) rfl (by show 2 * 0 + _ ≤ _; exact Nat.le_of_eq rfl) (hb hby at_9) (fun _ _ => ⟨rfl, e0, (by decide : 0 + 0 ≤ _), (by decide : 0 + 0 ≤ _)⟩)
                      dsimp only [Pt.U, Pt.locs, Pt.cells, Pt.slots] at X139 l139 y139 z139 st139 hQ139
                      subst l139 y139 z139
                      obtain ⟨rfl, N139q, e139⟩ := hQ139
                      have N139 := Fr.app N0 N139q
                      have go140 : ∀ t, Steps p.tables e below (T139.setTop (mkF m 12 #[.val (.int p0), .val (.int p1), .val (.int p2), .val (.int (9 : Int32)), .unset, .unset, .unset, .unset, .unset, .unset, .unset] [(.ref s_P_10)])) t → Steps p.tables e below (s₁.setTop (entryFrame m #[(.int p0), (.int p1), (.int p2)] maxLocals)) t := fun t k => go138 _ (st139 _ k)
                      have go141 : ∀ t, Steps p.tables e below (T139.setTop (mkF m 27 #[.val (.int p0), .val (.int p1), .val (.int p2), .val (.int (9 : Int32)), .val (.ref s_P_10), .val (.double (v0_8 p1)), .second, .unset, .unset, .unset, .unset] [(.int p2), (.double (v0_8 p1)), (.ref s_P_10)])) t → Steps p.tables e below (s₁.setTop (entryFrame m #[(.int p0), (.int p1), (.int p2)] maxLocals)) t := by
                        intro t k
                        refine go140 _ ?_
                        refine XS.astore X139.here hx rfl (hb hby at_12) rfl rfl (l' := #[.val (.int p0), .val (.int p1), .val (.int p2), .val (.int (9 : Int32)), .val (.ref s_P_10), .unset, .unset, .unset, .unset, .unset, .unset]) rfl ?_
                        show Steps p.tables e below (T139.setTop (mkF m 14 #[.val (.int p0), .val (.int p1), .val (.int p2), .val (.int (9 : Int32)), .val (.ref s_P_10), .unset, .unset, .unset, .unset, .unset, .unset] [])) t
                        refine XS.iloadN X139.here hx rfl (hb hby at_14) rfl ?_
                        show Steps p.tables e below (T139.setTop (mkF m 15 #[.val (.int p0), .val (.int p1), .val (.int p2), .val (.int (9 : Int32)), .val (.ref s_P_10), .unset, .unset, .unset, .unset, .unset, .unset] [(.int p1)])) t
                        refine XS.i2dS X139.here hx rfl (hb hby at_15) rfl (v := (FP.i2d p1)) rfl ?_
                        show Steps p.tables e below (T139.setTop (mkF m 16 #[.val (.int p0), .val (.int p1), .val (.int p2), .val (.int (9 : Int32)), .val (.ref s_P_10), .unset, .unset, .unset, .unset, .unset, .unset] [(.double (FP.i2d p1))])) t
                        refine X139.ldc2DoubleC hx hown (mvT hZ (hw _ (List.mem_of_getElem? (i := 8) rfl))) (g := (mkF m 16 #[.val (.int p0), .val (.int p1), .val (.int p2), .val (.int (9 : Int32)), .val (.ref s_P_10), .unset, .unset, .unset, .unset, .unset, .unset] [(.double (FP.i2d p1))])) rfl (hb hby at_16) _ ?_
                        show Steps p.tables e below (T139.setTop (mkF m 19 #[.val (.int p0), .val (.int p1), .val (.int p2), .val (.int (9 : Int32)), .val (.ref s_P_10), .unset, .unset, .unset, .unset, .unset, .unset] [(.double (4598175219545276416 : UInt64)), (.double (FP.i2d p1))])) t
                        refine XS.dmulS X139.here hx rfl (hb hby at_19) rfl (own_sum p1) (v := (FP.dmul (FP.i2d p1) (4598175219545276416 : UInt64))) rfl ?_
                        show Steps p.tables e below (T139.setTop (mkF m 20 #[.val (.int p0), .val (.int p1), .val (.int p2), .val (.int (9 : Int32)), .val (.ref s_P_10), .unset, .unset, .unset, .unset, .unset, .unset] [(.double (FP.dmul (FP.i2d p1) (4598175219545276416 : UInt64)))])) t
                        show Steps p.tables e below (T139.setTop (mkF m 20 #[.val (.int p0), .val (.int p1), .val (.int p2), .val (.int (9 : Int32)), .val (.ref s_P_10), .unset, .unset, .unset, .unset, .unset, .unset] [(.double (v0_8 p1))])) t
                        refine XS.dstore X139.here hx rfl (hb hby at_20) rfl (l' := #[.val (.int p0), .val (.int p1), .val (.int p2), .val (.int (9 : Int32)), .val (.ref s_P_10), .val (.double (v0_8 p1)), .second, .unset, .unset, .unset, .unset]) rfl ?_
                        show Steps p.tables e below (T139.setTop (mkF m 22 #[.val (.int p0), .val (.int p1), .val (.int p2), .val (.int (9 : Int32)), .val (.ref s_P_10), .val (.double (v0_8 p1)), .second, .unset, .unset, .unset, .unset] [])) t
                        refine XS.aload X139.here hx rfl (hb hby at_22) rfl rfl ?_
                        show Steps p.tables e below (T139.setTop (mkF m 24 #[.val (.int p0), .val (.int p1), .val (.int p2), .val (.int (9 : Int32)), .val (.ref s_P_10), .val (.double (v0_8 p1)), .second, .unset, .unset, .unset, .unset] [(.ref s_P_10)])) t
                        refine XS.dload X139.here hx rfl (hb hby at_24) rfl ?_
                        show Steps p.tables e below (T139.setTop (mkF m 26 #[.val (.int p0), .val (.int p1), .val (.int p2), .val (.int (9 : Int32)), .val (.ref s_P_10), .val (.double (v0_8 p1)), .second, .unset, .unset, .unset, .unset] [(.double (v0_8 p1)), (.ref s_P_10)])) t
                        refine XS.iloadN X139.here hx rfl (hb hby at_26) rfl ?_
                        show Steps p.tables e below (T139.setTop (mkF m 27 #[.val (.int p0), .val (.int p1), .val (.int p2), .val (.int (9 : Int32)), .val (.ref s_P_10), .val (.double (v0_8 p1)), .second, .unset, .unset, .unset, .unset] [(.int p2), (.double (v0_8 p1)), (.ref s_P_10)])) t
                        exact k
                      obtain ⟨cq142, kq142, q142a, q142b, q142c⟩ := isOf hZ e139 E_P_10
                      obtain ⟨_, _, ⟨T142, L142, k142, n142⟩, -, X142, ⟨Lc142, hQ142, l142, y142, z142⟩, st142⟩ := X139.virtualBack hx (y := (⟨"com/example/mirk/mirk/eval/Measure", "overAll", "(DI)D"⟩ : MethodName)) (z := (⟨"com/example/mirk/mirk/eval/Measure", "overAll", "(DI)D"⟩ : MethodName)) hown (mvT hZ (hw _ (List.mem_of_getElem? (i := 9) rfl))) (mvT hZ (hw _ (List.mem_of_getElem? (i := 10) rfl))) (notFace_of_selects (args := #[]) (mvT hZ (hw _ (List.mem_of_getElem? (i := 12) rfl)))) (mvT hZ (hw _ (List.mem_of_getElem? (i := 12) rfl))) (mvT hZ (hw _ (List.mem_of_getElem? (i := 11) rfl))) (by decide) (backOf (W := 0) (rm2 l Z aZ hw [] s_P_10 (v0_8 p1) p2 (0 : Int32) h0 n0 Z0 F_P_10_count (own_sum p1)) hZ (hw _ (List.mem_of_getElem? (i := 13) rfl)) (hw _ (List.mem_of_getElem? (i := 6) rfl)) (by decide) (by decide)) q142a q142c (g := (mkF m 27 #[.val (.int p0), .val (.int p1), .val (.int p2), .val (.int (9 : Int32)), .val (.ref s_P_10), .val (.double (v0_8 p1)), .second, .unset, .unset, .unset, .unset] [(.int p2), (.double (v0_8 p1)), (.ref s_P_10)])) rfl (by rw [hml]; rfl) (Steps.refl _) (argsL := [(.double (v0_8 p1)), (.int p2)]) (rest := []) (lenOf pd_91 rfl) rfl (by show 2 * 0 + _ ≤ _; exact Nat.le_of_eq rfl) (hb hby at_27) (fun _ _ => ⟨rfl, e139, (by decide : 0 + 0 ≤ _), (by decide : 0 + 0 ≤ _)⟩)
                      dsimp only [Pt.U, Pt.locs, Pt.cells, Pt.slots] at X142 l142 y142 z142 st142 hQ142
                      subst l142 y142 z142
                      obtain ⟨rfl, N142q, e142⟩ := hQ142
                      have N142 := Fr.app N139 N142q
                      have go143 : ∀ t, Steps p.tables e below (T142.setTop (mkF m 30 #[.val (.int p0), .val (.int p1), .val (.int p2), .val (.int (9 : Int32)), .val (.ref s_P_10), .val (.double (v0_8 p1)), .second, .unset, .unset, .unset, .unset] [(.double (b2_7 (v0_8 p1) p2))])) t → Steps p.tables e below (s₁.setTop (entryFrame m #[(.int p0), (.int p1), (.int p2)] maxLocals)) t := fun t k => go141 _ (st142.trans k)
                      have go145 : ∀ t, Steps p.tables e below (T142.setTop (mkF m 61 #[.val (.int p0), .val (.int p1), .val (.int p2), .val (.int (9 : Int32)), .val (.ref s_P_10), .val (.double (v0_8 p1)), .second, .val (.double (b2_7 (v0_8 p1) p2)), .second, .val (.double (b0_64 p1 p2)), .second] [])) t → Steps p.tables e below (s₁.setTop (entryFrame m #[(.int p0), (.int p1), (.int p2)] maxLocals)) t := by
                        intro t k
                        refine go143 _ ?_
                        refine XS.dstore X142.here hx rfl (hb hby at_30) rfl (l' := #[.val (.int p0), .val (.int p1), .val (.int p2), .val (.int (9 : Int32)), .val (.ref s_P_10), .val (.double (v0_8 p1)), .second, .val (.double (b2_7 (v0_8 p1) p2)), .second, .unset, .unset]) rfl ?_
                        show Steps p.tables e below (T142.setTop (mkF m 32 #[.val (.int p0), .val (.int p1), .val (.int p2), .val (.int (9 : Int32)), .val (.ref s_P_10), .val (.double (v0_8 p1)), .second, .val (.double (b2_7 (v0_8 p1) p2)), .second, .unset, .unset] [])) t
                        refine XS.iloadN X142.here hx rfl (hb hby at_32) rfl ?_
                        show Steps p.tables e below (T142.setTop (mkF m 33 #[.val (.int p0), .val (.int p1), .val (.int p2), .val (.int (9 : Int32)), .val (.ref s_P_10), .val (.double (v0_8 p1)), .second, .val (.double (b2_7 (v0_8 p1) p2)), .second, .unset, .unset] [(.int (9 : Int32))])) t
                        refine XS.iconst X142.here hx rfl (hb hby at_33) ?_
                        show Steps p.tables e below (T142.setTop (mkF m 34 #[.val (.int p0), .val (.int p1), .val (.int p2), .val (.int (9 : Int32)), .val (.ref s_P_10), .val (.double (v0_8 p1)), .second, .val (.double (b2_7 (v0_8 p1) p2)), .second, .unset, .unset] [(.int (4 : Int32)), (.int (9 : Int32))])) t
                        refine XS.icmpYes X142.here hx rfl (pc0 := 34) (pc' := 44) rfl (hb hby at_34) rfl (XT.ii_ge_t (by decide : ¬ ((9 : Int32) < (4 : Int32)))) (by decide) (by decide) ?_
                        show Steps p.tables e below (T142.setTop (mkF m 44 #[.val (.int p0), .val (.int p1), .val (.int p2), .val (.int (9 : Int32)), .val (.ref s_P_10), .val (.double (v0_8 p1)), .second, .val (.double (b2_7 (v0_8 p1) p2)), .second, .unset, .unset] [])) t
                        refine XS.iloadN X142.here hx rfl (hb hby at_44) rfl ?_
                        show Steps p.tables e below (T142.setTop (mkF m 45 #[.val (.int p0), .val (.int p1), .val (.int p2), .val (.int (9 : Int32)), .val (.ref s_P_10), .val (.double (v0_8 p1)), .second, .val (.double (b2_7 (v0_8 p1) p2)), .second, .unset, .unset] [(.int p2)])) t
                        by_cases hc144 : p2 = (0 : Int32)
                        · refine XS.ifNo X142.here hx rfl (hb hby at_45) rfl (XT.i0_ne_f hc144) ?_
                          show Steps p.tables e below (T142.setTop (mkF m 48 #[.val (.int p0), .val (.int p1), .val (.int p2), .val (.int (9 : Int32)), .val (.ref s_P_10), .val (.double (v0_8 p1)), .second, .val (.double (b2_7 (v0_8 p1) p2)), .second, .unset, .unset] [])) t
                          refine XS.dconst0 X142.here hx rfl (hb hby at_48) (v := FP.dconst0) rfl ?_
                          show Steps p.tables e below (T142.setTop (mkF m 49 #[.val (.int p0), .val (.int p1), .val (.int p2), .val (.int (9 : Int32)), .val (.ref s_P_10), .val (.double (v0_8 p1)), .second, .val (.double (b2_7 (v0_8 p1) p2)), .second, .unset, .unset] [(.double FP.dconst0)])) t
                          refine XS.dstore X142.here hx rfl (hb hby at_49) rfl (l' := #[.val (.int p0), .val (.int p1), .val (.int p2), .val (.int (9 : Int32)), .val (.ref s_P_10), .val (.double (v0_8 p1)), .second, .val (.double (b2_7 (v0_8 p1) p2)), .second, .val (.double FP.dconst0), .second]) rfl ?_
                          show Steps p.tables e below (T142.setTop (mkF m 51 #[.val (.int p0), .val (.int p1), .val (.int p2), .val (.int (9 : Int32)), .val (.ref s_P_10), .val (.double (v0_8 p1)), .second, .val (.double (b2_7 (v0_8 p1) p2)), .second, .val (.double FP.dconst0), .second] [])) t
                          refine XS.goto X142.here hx rfl (pc0 := 51) (pc' := 61) rfl (hb hby at_51) (by decide) (by decide) ?_
                          show Steps p.tables e below (T142.setTop (mkF m 61 #[.val (.int p0), .val (.int p1), .val (.int p2), .val (.int (9 : Int32)), .val (.ref s_P_10), .val (.double (v0_8 p1)), .second, .val (.double (b2_7 (v0_8 p1) p2)), .second, .val (.double FP.dconst0), .second] [])) t
                          have hq146 : (b0_64 p1 p2) = FP.dconst0 := by rw [b0_64, if_pos hc144]
                          rw [hq146] at k
                          exact k
                        · refine XS.ifYes X142.here hx rfl (pc0 := 45) (pc' := 54) rfl (hb hby at_45) rfl (XT.i0_ne_t hc144) (by decide) (by decide) ?_
                          show Steps p.tables e below (T142.setTop (mkF m 54 #[.val (.int p0), .val (.int p1), .val (.int p2), .val (.int (9 : Int32)), .val (.ref s_P_10), .val (.double (v0_8 p1)), .second, .val (.double (b2_7 (v0_8 p1) p2)), .second, .unset, .unset] [])) t
                          refine XS.dload X142.here hx rfl (hb hby at_54) rfl ?_
                          show Steps p.tables e below (T142.setTop (mkF m 56 #[.val (.int p0), .val (.int p1), .val (.int p2), .val (.int (9 : Int32)), .val (.ref s_P_10), .val (.double (v0_8 p1)), .second, .val (.double (b2_7 (v0_8 p1) p2)), .second, .unset, .unset] [(.double (v0_8 p1))])) t
                          refine XS.iloadN X142.here hx rfl (hb hby at_56) rfl ?_
                          show Steps p.tables e below (T142.setTop (mkF m 57 #[.val (.int p0), .val (.int p1), .val (.int p2), .val (.int (9 : Int32)), .val (.ref s_P_10), .val (.double (v0_8 p1)), .second, .val (.double (b2_7 (v0_8 p1) p2)), .second, .unset, .unset] [(.int p2), (.double (v0_8 p1))])) t
                          refine XS.i2dS X142.here hx rfl (hb hby at_57) rfl (v := (FP.i2d p2)) rfl ?_
                          show Steps p.tables e below (T142.setTop (mkF m 58 #[.val (.int p0), .val (.int p1), .val (.int p2), .val (.int (9 : Int32)), .val (.ref s_P_10), .val (.double (v0_8 p1)), .second, .val (.double (b2_7 (v0_8 p1) p2)), .second, .unset, .unset] [(.double (FP.i2d p2)), (.double (v0_8 p1))])) t
                          refine XS.ddivS X142.here hx rfl (hb hby at_58) rfl (own_quo (own_sum p1) hc144) (v := (FP.ddiv (v0_8 p1) (FP.i2d p2))) rfl ?_
                          show Steps p.tables e below (T142.setTop (mkF m 59 #[.val (.int p0), .val (.int p1), .val (.int p2), .val (.int (9 : Int32)), .val (.ref s_P_10), .val (.double (v0_8 p1)), .second, .val (.double (b2_7 (v0_8 p1) p2)), .second, .unset, .unset] [(.double (FP.ddiv (v0_8 p1) (FP.i2d p2)))])) t
                          show Steps p.tables e below (T142.setTop (mkF m 59 #[.val (.int p0), .val (.int p1), .val (.int p2), .val (.int (9 : Int32)), .val (.ref s_P_10), .val (.double (v0_8 p1)), .second, .val (.double (b2_7 (v0_8 p1) p2)), .second, .unset, .unset] [(.double (v0_62 p1 p2))])) t
                          refine XS.dstore X142.here hx rfl (hb hby at_59) rfl (l' := #[.val (.int p0), .val (.int p1), .val (.int p2), .val (.int (9 : Int32)), .val (.ref s_P_10), .val (.double (v0_8 p1)), .second, .val (.double (b2_7 (v0_8 p1) p2)), .second, .val (.double (v0_62 p1 p2)), .second]) rfl ?_
                          show Steps p.tables e below (T142.setTop (mkF m 61 #[.val (.int p0), .val (.int p1), .val (.int p2), .val (.int (9 : Int32)), .val (.ref s_P_10), .val (.double (v0_8 p1)), .second, .val (.double (b2_7 (v0_8 p1) p2)), .second, .val (.double (v0_62 p1 p2)), .second] [])) t
                          have hq147 : (b0_64 p1 p2) = (v0_62 p1 p2) := by rw [b0_64, if_neg hc144]
                          rw [hq147] at k
                          exact k
                      have go149 : ∀ t, Steps p.tables e below (T142.setTop (mkF m 74 #[.val (.int p0), .val (.int p1), .val (.int p2), .val (.int (9 : Int32)), .val (.ref s_P_10), .val (.double (v0_8 p1)), .second, .val (.double (b2_7 (v0_8 p1) p2)), .second, .val (.double (b0_64 p1 p2)), .second] [(.int (b0_69 p1 p2))])) t → Steps p.tables e below (s₁.setTop (entryFrame m #[(.int p0), (.int p1), (.int p2)] maxLocals)) t := by
                        intro t k
                        refine go145 _ ?_
                        refine XS.dload X142.here hx rfl (hb hby at_61) rfl ?_
                        show Steps p.tables e below (T142.setTop (mkF m 63 #[.val (.int p0), .val (.int p1), .val (.int p2), .val (.int (9 : Int32)), .val (.ref s_P_10), .val (.double (v0_8 p1)), .second, .val (.double (b2_7 (v0_8 p1) p2)), .second, .val (.double (b0_64 p1 p2)), .second] [(.double (b2_7 (v0_8 p1) p2))])) t
                        refine XS.dload X142.here hx rfl (hb hby at_63) rfl ?_
                        show Steps p.tables e below (T142.setTop (mkF m 65 #[.val (.int p0), .val (.int p1), .val (.int p2), .val (.int (9 : Int32)), .val (.ref s_P_10), .val (.double (v0_8 p1)), .second, .val (.double (b2_7 (v0_8 p1) p2)), .second, .val (.double (b0_64 p1 p2)), .second] [(.double (b0_64 p1 p2)), (.double (b2_7 (v0_8 p1) p2))])) t
                        refine XS.dcmpS X142.here hx rfl (hb hby at_65) rfl (v := (cmpValue (FP.dcmp (b2_7 (v0_8 p1) p2) (b0_64 p1 p2)) .l)) rfl ?_
                        show Steps p.tables e below (T142.setTop (mkF m 66 #[.val (.int p0), .val (.int p1), .val (.int p2), .val (.int (9 : Int32)), .val (.ref s_P_10), .val (.double (v0_8 p1)), .second, .val (.double (b2_7 (v0_8 p1) p2)), .second, .val (.double (b0_64 p1 p2)), .second] [(.int (cmpValue (FP.dcmp (b2_7 (v0_8 p1) p2) (b0_64 p1 p2)) .l))])) t
                        by_cases hc148 : (cmpValue (FP.dcmp (b2_7 (v0_8 p1) p2) (b0_64 p1 p2)) .l) = (0 : Int32)
                        · refine XS.ifNo X142.here hx rfl (hb hby at_66) rfl (XT.i0_ne_f hc148) ?_
                          show Steps p.tables e below (T142.setTop (mkF m 69 #[.val (.int p0), .val (.int p1), .val (.int p2), .val (.int (9 : Int32)), .val (.ref s_P_10), .val (.double (v0_8 p1)), .second, .val (.double (b2_7 (v0_8 p1) p2)), .second, .val (.double (b0_64 p1 p2)), .second] [])) t
                          refine XS.iconst X142.here hx rfl (hb hby at_69) ?_
                          show Steps p.tables e below (T142.setTop (mkF m 70 #[.val (.int p0), .val (.int p1), .val (.int p2), .val (.int (9 : Int32)), .val (.ref s_P_10), .val (.double (v0_8 p1)), .second, .val (.double (b2_7 (v0_8 p1) p2)), .second, .val (.double (b0_64 p1 p2)), .second] [(.int (1 : Int32))])) t
                          refine XS.goto X142.here hx rfl (pc0 := 70) (pc' := 74) rfl (hb hby at_70) (by decide) (by decide) ?_
                          show Steps p.tables e below (T142.setTop (mkF m 74 #[.val (.int p0), .val (.int p1), .val (.int p2), .val (.int (9 : Int32)), .val (.ref s_P_10), .val (.double (v0_8 p1)), .second, .val (.double (b2_7 (v0_8 p1) p2)), .second, .val (.double (b0_64 p1 p2)), .second] [(.int (1 : Int32))])) t
                          have hq150 : (b0_69 p1 p2) = (1 : Int32) := by rw [b0_69, if_pos hc148]
                          rw [hq150] at k
                          exact k
                        · refine XS.ifYes X142.here hx rfl (pc0 := 66) (pc' := 73) rfl (hb hby at_66) rfl (XT.i0_ne_t hc148) (by decide) (by decide) ?_
                          show Steps p.tables e below (T142.setTop (mkF m 73 #[.val (.int p0), .val (.int p1), .val (.int p2), .val (.int (9 : Int32)), .val (.ref s_P_10), .val (.double (v0_8 p1)), .second, .val (.double (b2_7 (v0_8 p1) p2)), .second, .val (.double (b0_64 p1 p2)), .second] [])) t
                          refine XS.iconst X142.here hx rfl (hb hby at_73) ?_
                          show Steps p.tables e below (T142.setTop (mkF m 74 #[.val (.int p0), .val (.int p1), .val (.int p2), .val (.int (9 : Int32)), .val (.ref s_P_10), .val (.double (v0_8 p1)), .second, .val (.double (b2_7 (v0_8 p1) p2)), .second, .val (.double (b0_64 p1 p2)), .second] [(.int (0 : Int32))])) t
                          have hq151 : (b0_69 p1 p2) = (0 : Int32) := by rw [b0_69, if_neg hc148]
                          rw [hq151] at k
                          exact k
                      obtain ⟨fs, hr, hrun, hended, hW, hsame⟩ := X142.leave (v := some (.int (b0_69 p1 p2))) (fun h => by rw [Bd.returns] at h; cases h)
                      refine ⟨_, _, go149 _ (Jvm.RoadKit.retOut X142 hx Bd.returns (own_nz (by unfold b0_69; (repeat' split) <;> first | exact Or.inl rfl | exact Or.inr rfl)) (Or.inl ⟨rfl, Or.inr (Or.inl rfl), _, rfl⟩) (hb hby at_74) hr), hrun, hended, _, _, rfl, ?_, ⟨_, rfl⟩, hW, hsame.mono (by decide) (by decide)⟩
                      show Q0 _ _ p0 p1 p2 s_NUM_Q s_NUM_RET s_NDCG_CUT_10 s_RPREC s_P_5 s_P_10 s_P_20 s_NUM_REL_RET s_RECALL_10 s_NUM_REL s_MAP s_RECIP_RANK s_BPREF s_NDCG s_RECALL_100 h0 _ (T142.setFrames fs).heap _
                      have hE : (T142.setFrames fs).heap = h0 := e142
                      rw [hE]
                      exact ⟨congrArg (fun z => some (Value.int z)) ((by rw [f0, if_neg hs3, if_neg hs17, if_neg hs29, if_neg hs41, if_neg hs53, if_neg hs72, if_neg hs88, if_neg hs104, if_neg hs120, if_pos hs136] : (b0_69 p1 p2) = (f0 p0 p1 p2)).trans (f0_one p0 p1 p2)), N142⟩
                    · by_cases hs152 : (v0_1 p0) = (10 : Int32)
                      · have go153 : ∀ t, Steps p.tables e below (s₁.setTop (mkF m 8 #[.val (.int p0), .val (.int p1), .val (.int p2), .val (.int (10 : Int32)), .unset, .unset, .unset, .unset, .unset, .unset, .unset] [])) t → Steps p.tables e below (s₁.setTop (entryFrame m #[(.int p0), (.int p1), (.int p2)] maxLocals)) t := by
                          have q := go2
                          rw [hs152] at q
                          exact q
                        have go154 : ∀ t, Steps p.tables e below (s₁.setTop (mkF m 9 #[.val (.int p0), .val (.int p1), .val (.int p2), .val (.int (10 : Int32)), .unset, .unset, .unset, .unset, .unset, .unset, .unset] [(.int (10 : Int32))])) t → Steps p.tables e below (s₁.setTop (entryFrame m #[(.int p0), (.int p1), (.int p2)] maxLocals)) t := by
                          intro t k
                          refine go153 _ ?_
                          refine XS.iloadN X0.here hx rfl (hb hby at_8) rfl ?_
                          show Steps p.tables e below (s₁.setTop (mkF m 9 #[.val (.int p0), .val (.int p1), .val (.int p2), .val (.int (10 : Int32)), .unset, .unset, .unset, .unset, .unset, .unset, .unset] [(.int (10 : Int32))])) t
                          exact k
                        obtain ⟨_, _, ⟨T155, L155, k155, n155⟩, -, X155, ⟨Lc155, hQ155, l155, y155, z155⟩, st155⟩ := Jvm.LawKit.callS X0 hx (y := (⟨"com/example/mirk/mirk/eval/MeasureOverAllPinLaw", "pick", "(I)Lcom/example/mirk/mirk/eval/Measure;"⟩ : MethodName)) hown (mvT hZ (hw _ (List.mem_of_getElem? (i := 1) rfl))) (mvT hZ (hw _ (List.mem_of_getElem? (i := 2) rfl))) (mvT hZ (hw _ (List.mem_of_getElem? (i := 3) rfl))) (mvT hZ (hw _ (List.mem_of_getElem? (i := 4) rfl))) (by decide) (backOf (W := 0) (rm1 l Z aZ hw [] (10 : Int32) s_NUM_Q s_NUM_RET s_NUM_REL s_NUM_REL_RET s_MAP s_RPREC s_BPREF s_RECIP_RANK s_P_5 s_P_10 s_P_20 s_RECALL_10 s_RECALL_100 s_NDCG s_NDCG_CUT_10 h0 n0 Z0 S_NUM_Q S_NUM_RET S_NUM_REL S_NUM_REL_RET S_MAP S_RPREC S_BPREF S_RECIP_RANK S_P_5 S_P_10 S_P_20 S_RECALL_10 S_RECALL_100 S_NDCG S_NDCG_CUT_10) hZ (hw _ (List.mem_of_getElem? (i := 4) rfl)) (hw _ (List.mem_of_getElem? (i := 3) rfl)) (by decide) (by decide)) (g := (mkF m 9 #[.val (.int p0), .val (.int p1), .val (.int p2), .val (.int (10 : Int32)), .unset, .unset, .unset, .unset, .unset, .unset, .unset] [(.int (10 : Int32))])) rfl (by rw [hml]; rfl) (argsL := [(.int (10 : Int32))]) (rest := []) (lenOf pd_89 rfl) rfl (by show 2 * 0 + _ ≤ _; exact Nat.le_of_eq rfl) (hb hby at_9) (fun _ _ => ⟨rfl, e0, (by decide : 0 + 0 ≤ _), (by decide : 0 + 0 ≤ _)⟩)
                        dsimp only [Pt.U, Pt.locs, Pt.cells, Pt.slots] at X155 l155 y155 z155 st155 hQ155
                        subst l155 y155 z155
                        obtain ⟨rfl, N155q, e155⟩ := hQ155
                        have N155 := Fr.app N0 N155q
                        have go156 : ∀ t, Steps p.tables e below (T155.setTop (mkF m 12 #[.val (.int p0), .val (.int p1), .val (.int p2), .val (.int (10 : Int32)), .unset, .unset, .unset, .unset, .unset, .unset, .unset] [(.ref s_P_20)])) t → Steps p.tables e below (s₁.setTop (entryFrame m #[(.int p0), (.int p1), (.int p2)] maxLocals)) t := fun t k => go154 _ (st155 _ k)
                        have go157 : ∀ t, Steps p.tables e below (T155.setTop (mkF m 27 #[.val (.int p0), .val (.int p1), .val (.int p2), .val (.int (10 : Int32)), .val (.ref s_P_20), .val (.double (v0_8 p1)), .second, .unset, .unset, .unset, .unset] [(.int p2), (.double (v0_8 p1)), (.ref s_P_20)])) t → Steps p.tables e below (s₁.setTop (entryFrame m #[(.int p0), (.int p1), (.int p2)] maxLocals)) t := by
                          intro t k
                          refine go156 _ ?_
                          refine XS.astore X155.here hx rfl (hb hby at_12) rfl rfl (l' := #[.val (.int p0), .val (.int p1), .val (.int p2), .val (.int (10 : Int32)), .val (.ref s_P_20), .unset, .unset, .unset, .unset, .unset, .unset]) rfl ?_
                          show Steps p.tables e below (T155.setTop (mkF m 14 #[.val (.int p0), .val (.int p1), .val (.int p2), .val (.int (10 : Int32)), .val (.ref s_P_20), .unset, .unset, .unset, .unset, .unset, .unset] [])) t
                          refine XS.iloadN X155.here hx rfl (hb hby at_14) rfl ?_
                          show Steps p.tables e below (T155.setTop (mkF m 15 #[.val (.int p0), .val (.int p1), .val (.int p2), .val (.int (10 : Int32)), .val (.ref s_P_20), .unset, .unset, .unset, .unset, .unset, .unset] [(.int p1)])) t
                          refine XS.i2dS X155.here hx rfl (hb hby at_15) rfl (v := (FP.i2d p1)) rfl ?_
                          show Steps p.tables e below (T155.setTop (mkF m 16 #[.val (.int p0), .val (.int p1), .val (.int p2), .val (.int (10 : Int32)), .val (.ref s_P_20), .unset, .unset, .unset, .unset, .unset, .unset] [(.double (FP.i2d p1))])) t
                          refine X155.ldc2DoubleC hx hown (mvT hZ (hw _ (List.mem_of_getElem? (i := 8) rfl))) (g := (mkF m 16 #[.val (.int p0), .val (.int p1), .val (.int p2), .val (.int (10 : Int32)), .val (.ref s_P_20), .unset, .unset, .unset, .unset, .unset, .unset] [(.double (FP.i2d p1))])) rfl (hb hby at_16) _ ?_
                          show Steps p.tables e below (T155.setTop (mkF m 19 #[.val (.int p0), .val (.int p1), .val (.int p2), .val (.int (10 : Int32)), .val (.ref s_P_20), .unset, .unset, .unset, .unset, .unset, .unset] [(.double (4598175219545276416 : UInt64)), (.double (FP.i2d p1))])) t
                          refine XS.dmulS X155.here hx rfl (hb hby at_19) rfl (own_sum p1) (v := (FP.dmul (FP.i2d p1) (4598175219545276416 : UInt64))) rfl ?_
                          show Steps p.tables e below (T155.setTop (mkF m 20 #[.val (.int p0), .val (.int p1), .val (.int p2), .val (.int (10 : Int32)), .val (.ref s_P_20), .unset, .unset, .unset, .unset, .unset, .unset] [(.double (FP.dmul (FP.i2d p1) (4598175219545276416 : UInt64)))])) t
                          show Steps p.tables e below (T155.setTop (mkF m 20 #[.val (.int p0), .val (.int p1), .val (.int p2), .val (.int (10 : Int32)), .val (.ref s_P_20), .unset, .unset, .unset, .unset, .unset, .unset] [(.double (v0_8 p1))])) t
                          refine XS.dstore X155.here hx rfl (hb hby at_20) rfl (l' := #[.val (.int p0), .val (.int p1), .val (.int p2), .val (.int (10 : Int32)), .val (.ref s_P_20), .val (.double (v0_8 p1)), .second, .unset, .unset, .unset, .unset]) rfl ?_
                          show Steps p.tables e below (T155.setTop (mkF m 22 #[.val (.int p0), .val (.int p1), .val (.int p2), .val (.int (10 : Int32)), .val (.ref s_P_20), .val (.double (v0_8 p1)), .second, .unset, .unset, .unset, .unset] [])) t
                          refine XS.aload X155.here hx rfl (hb hby at_22) rfl rfl ?_
                          show Steps p.tables e below (T155.setTop (mkF m 24 #[.val (.int p0), .val (.int p1), .val (.int p2), .val (.int (10 : Int32)), .val (.ref s_P_20), .val (.double (v0_8 p1)), .second, .unset, .unset, .unset, .unset] [(.ref s_P_20)])) t
                          refine XS.dload X155.here hx rfl (hb hby at_24) rfl ?_
                          show Steps p.tables e below (T155.setTop (mkF m 26 #[.val (.int p0), .val (.int p1), .val (.int p2), .val (.int (10 : Int32)), .val (.ref s_P_20), .val (.double (v0_8 p1)), .second, .unset, .unset, .unset, .unset] [(.double (v0_8 p1)), (.ref s_P_20)])) t
                          refine XS.iloadN X155.here hx rfl (hb hby at_26) rfl ?_
                          show Steps p.tables e below (T155.setTop (mkF m 27 #[.val (.int p0), .val (.int p1), .val (.int p2), .val (.int (10 : Int32)), .val (.ref s_P_20), .val (.double (v0_8 p1)), .second, .unset, .unset, .unset, .unset] [(.int p2), (.double (v0_8 p1)), (.ref s_P_20)])) t
                          exact k
                        obtain ⟨cq158, kq158, q158a, q158b, q158c⟩ := isOf hZ e155 E_P_20
                        obtain ⟨_, _, ⟨T158, L158, k158, n158⟩, -, X158, ⟨Lc158, hQ158, l158, y158, z158⟩, st158⟩ := X155.virtualBack hx (y := (⟨"com/example/mirk/mirk/eval/Measure", "overAll", "(DI)D"⟩ : MethodName)) (z := (⟨"com/example/mirk/mirk/eval/Measure", "overAll", "(DI)D"⟩ : MethodName)) hown (mvT hZ (hw _ (List.mem_of_getElem? (i := 9) rfl))) (mvT hZ (hw _ (List.mem_of_getElem? (i := 10) rfl))) (notFace_of_selects (args := #[]) (mvT hZ (hw _ (List.mem_of_getElem? (i := 12) rfl)))) (mvT hZ (hw _ (List.mem_of_getElem? (i := 12) rfl))) (mvT hZ (hw _ (List.mem_of_getElem? (i := 11) rfl))) (by decide) (backOf (W := 0) (rm2 l Z aZ hw [] s_P_20 (v0_8 p1) p2 (0 : Int32) h0 n0 Z0 F_P_20_count (own_sum p1)) hZ (hw _ (List.mem_of_getElem? (i := 13) rfl)) (hw _ (List.mem_of_getElem? (i := 6) rfl)) (by decide) (by decide)) q158a q158c (g := (mkF m 27 #[.val (.int p0), .val (.int p1), .val (.int p2), .val (.int (10 : Int32)), .val (.ref s_P_20), .val (.double (v0_8 p1)), .second, .unset, .unset, .unset, .unset] [(.int p2), (.double (v0_8 p1)), (.ref s_P_20)])) rfl (by rw [hml]; rfl) (Steps.refl _) (argsL := [(.double (v0_8 p1)), (.int p2)]) (rest := []) (lenOf pd_91 rfl) rfl (by show 2 * 0 + _ ≤ _; exact Nat.le_of_eq rfl) (hb hby at_27) (fun _ _ => ⟨rfl, e155, (by decide : 0 + 0 ≤ _), (by decide : 0 + 0 ≤ _)⟩)
                        dsimp only [Pt.U, Pt.locs, Pt.cells, Pt.slots] at X158 l158 y158 z158 st158 hQ158
                        subst l158 y158 z158
                        obtain ⟨rfl, N158q, e158⟩ := hQ158
                        have N158 := Fr.app N155 N158q
                        have go159 : ∀ t, Steps p.tables e below (T158.setTop (mkF m 30 #[.val (.int p0), .val (.int p1), .val (.int p2), .val (.int (10 : Int32)), .val (.ref s_P_20), .val (.double (v0_8 p1)), .second, .unset, .unset, .unset, .unset] [(.double (b2_7 (v0_8 p1) p2))])) t → Steps p.tables e below (s₁.setTop (entryFrame m #[(.int p0), (.int p1), (.int p2)] maxLocals)) t := fun t k => go157 _ (st158.trans k)
                        have go161 : ∀ t, Steps p.tables e below (T158.setTop (mkF m 61 #[.val (.int p0), .val (.int p1), .val (.int p2), .val (.int (10 : Int32)), .val (.ref s_P_20), .val (.double (v0_8 p1)), .second, .val (.double (b2_7 (v0_8 p1) p2)), .second, .val (.double (b0_64 p1 p2)), .second] [])) t → Steps p.tables e below (s₁.setTop (entryFrame m #[(.int p0), (.int p1), (.int p2)] maxLocals)) t := by
                          intro t k
                          refine go159 _ ?_
                          refine XS.dstore X158.here hx rfl (hb hby at_30) rfl (l' := #[.val (.int p0), .val (.int p1), .val (.int p2), .val (.int (10 : Int32)), .val (.ref s_P_20), .val (.double (v0_8 p1)), .second, .val (.double (b2_7 (v0_8 p1) p2)), .second, .unset, .unset]) rfl ?_
                          show Steps p.tables e below (T158.setTop (mkF m 32 #[.val (.int p0), .val (.int p1), .val (.int p2), .val (.int (10 : Int32)), .val (.ref s_P_20), .val (.double (v0_8 p1)), .second, .val (.double (b2_7 (v0_8 p1) p2)), .second, .unset, .unset] [])) t
                          refine XS.iloadN X158.here hx rfl (hb hby at_32) rfl ?_
                          show Steps p.tables e below (T158.setTop (mkF m 33 #[.val (.int p0), .val (.int p1), .val (.int p2), .val (.int (10 : Int32)), .val (.ref s_P_20), .val (.double (v0_8 p1)), .second, .val (.double (b2_7 (v0_8 p1) p2)), .second, .unset, .unset] [(.int (10 : Int32))])) t
                          refine XS.iconst X158.here hx rfl (hb hby at_33) ?_
                          show Steps p.tables e below (T158.setTop (mkF m 34 #[.val (.int p0), .val (.int p1), .val (.int p2), .val (.int (10 : Int32)), .val (.ref s_P_20), .val (.double (v0_8 p1)), .second, .val (.double (b2_7 (v0_8 p1) p2)), .second, .unset, .unset] [(.int (4 : Int32)), (.int (10 : Int32))])) t
                          refine XS.icmpYes X158.here hx rfl (pc0 := 34) (pc' := 44) rfl (hb hby at_34) rfl (XT.ii_ge_t (by decide : ¬ ((10 : Int32) < (4 : Int32)))) (by decide) (by decide) ?_
                          show Steps p.tables e below (T158.setTop (mkF m 44 #[.val (.int p0), .val (.int p1), .val (.int p2), .val (.int (10 : Int32)), .val (.ref s_P_20), .val (.double (v0_8 p1)), .second, .val (.double (b2_7 (v0_8 p1) p2)), .second, .unset, .unset] [])) t
                          refine XS.iloadN X158.here hx rfl (hb hby at_44) rfl ?_
                          show Steps p.tables e below (T158.setTop (mkF m 45 #[.val (.int p0), .val (.int p1), .val (.int p2), .val (.int (10 : Int32)), .val (.ref s_P_20), .val (.double (v0_8 p1)), .second, .val (.double (b2_7 (v0_8 p1) p2)), .second, .unset, .unset] [(.int p2)])) t
                          by_cases hc160 : p2 = (0 : Int32)
                          · refine XS.ifNo X158.here hx rfl (hb hby at_45) rfl (XT.i0_ne_f hc160) ?_
                            show Steps p.tables e below (T158.setTop (mkF m 48 #[.val (.int p0), .val (.int p1), .val (.int p2), .val (.int (10 : Int32)), .val (.ref s_P_20), .val (.double (v0_8 p1)), .second, .val (.double (b2_7 (v0_8 p1) p2)), .second, .unset, .unset] [])) t
                            refine XS.dconst0 X158.here hx rfl (hb hby at_48) (v := FP.dconst0) rfl ?_
                            show Steps p.tables e below (T158.setTop (mkF m 49 #[.val (.int p0), .val (.int p1), .val (.int p2), .val (.int (10 : Int32)), .val (.ref s_P_20), .val (.double (v0_8 p1)), .second, .val (.double (b2_7 (v0_8 p1) p2)), .second, .unset, .unset] [(.double FP.dconst0)])) t
                            refine XS.dstore X158.here hx rfl (hb hby at_49) rfl (l' := #[.val (.int p0), .val (.int p1), .val (.int p2), .val (.int (10 : Int32)), .val (.ref s_P_20), .val (.double (v0_8 p1)), .second, .val (.double (b2_7 (v0_8 p1) p2)), .second, .val (.double FP.dconst0), .second]) rfl ?_
                            show Steps p.tables e below (T158.setTop (mkF m 51 #[.val (.int p0), .val (.int p1), .val (.int p2), .val (.int (10 : Int32)), .val (.ref s_P_20), .val (.double (v0_8 p1)), .second, .val (.double (b2_7 (v0_8 p1) p2)), .second, .val (.double FP.dconst0), .second] [])) t
                            refine XS.goto X158.here hx rfl (pc0 := 51) (pc' := 61) rfl (hb hby at_51) (by decide) (by decide) ?_
                            show Steps p.tables e below (T158.setTop (mkF m 61 #[.val (.int p0), .val (.int p1), .val (.int p2), .val (.int (10 : Int32)), .val (.ref s_P_20), .val (.double (v0_8 p1)), .second, .val (.double (b2_7 (v0_8 p1) p2)), .second, .val (.double FP.dconst0), .second] [])) t
                            have hq162 : (b0_64 p1 p2) = FP.dconst0 := by rw [b0_64, if_pos hc160]
                            rw [hq162] at k
                            exact k
                          · refine XS.ifYes X158.here hx rfl (pc0 := 45) (pc' := 54) rfl (hb hby at_45) rfl (XT.i0_ne_t hc160) (by decide) (by decide) ?_
                            show Steps p.tables e below (T158.setTop (mkF m 54 #[.val (.int p0), .val (.int p1), .val (.int p2), .val (.int (10 : Int32)), .val (.ref s_P_20), .val (.double (v0_8 p1)), .second, .val (.double (b2_7 (v0_8 p1) p2)), .second, .unset, .unset] [])) t
                            refine XS.dload X158.here hx rfl (hb hby at_54) rfl ?_
                            show Steps p.tables e below (T158.setTop (mkF m 56 #[.val (.int p0), .val (.int p1), .val (.int p2), .val (.int (10 : Int32)), .val (.ref s_P_20), .val (.double (v0_8 p1)), .second, .val (.double (b2_7 (v0_8 p1) p2)), .second, .unset, .unset] [(.double (v0_8 p1))])) t
                            refine XS.iloadN X158.here hx rfl (hb hby at_56) rfl ?_
                            show Steps p.tables e below (T158.setTop (mkF m 57 #[.val (.int p0), .val (.int p1), .val (.int p2), .val (.int (10 : Int32)), .val (.ref s_P_20), .val (.double (v0_8 p1)), .second, .val (.double (b2_7 (v0_8 p1) p2)), .second, .unset, .unset] [(.int p2), (.double (v0_8 p1))])) t
                            refine XS.i2dS X158.here hx rfl (hb hby at_57) rfl (v := (FP.i2d p2)) rfl ?_
                            show Steps p.tables e below (T158.setTop (mkF m 58 #[.val (.int p0), .val (.int p1), .val (.int p2), .val (.int (10 : Int32)), .val (.ref s_P_20), .val (.double (v0_8 p1)), .second, .val (.double (b2_7 (v0_8 p1) p2)), .second, .unset, .unset] [(.double (FP.i2d p2)), (.double (v0_8 p1))])) t
                            refine XS.ddivS X158.here hx rfl (hb hby at_58) rfl (own_quo (own_sum p1) hc160) (v := (FP.ddiv (v0_8 p1) (FP.i2d p2))) rfl ?_
                            show Steps p.tables e below (T158.setTop (mkF m 59 #[.val (.int p0), .val (.int p1), .val (.int p2), .val (.int (10 : Int32)), .val (.ref s_P_20), .val (.double (v0_8 p1)), .second, .val (.double (b2_7 (v0_8 p1) p2)), .second, .unset, .unset] [(.double (FP.ddiv (v0_8 p1) (FP.i2d p2)))])) t
                            show Steps p.tables e below (T158.setTop (mkF m 59 #[.val (.int p0), .val (.int p1), .val (.int p2), .val (.int (10 : Int32)), .val (.ref s_P_20), .val (.double (v0_8 p1)), .second, .val (.double (b2_7 (v0_8 p1) p2)), .second, .unset, .unset] [(.double (v0_62 p1 p2))])) t
                            refine XS.dstore X158.here hx rfl (hb hby at_59) rfl (l' := #[.val (.int p0), .val (.int p1), .val (.int p2), .val (.int (10 : Int32)), .val (.ref s_P_20), .val (.double (v0_8 p1)), .second, .val (.double (b2_7 (v0_8 p1) p2)), .second, .val (.double (v0_62 p1 p2)), .second]) rfl ?_
                            show Steps p.tables e below (T158.setTop (mkF m 61 #[.val (.int p0), .val (.int p1), .val (.int p2), .val (.int (10 : Int32)), .val (.ref s_P_20), .val (.double (v0_8 p1)), .second, .val (.double (b2_7 (v0_8 p1) p2)), .second, .val (.double (v0_62 p1 p2)), .second] [])) t
                            have hq163 : (b0_64 p1 p2) = (v0_62 p1 p2) := by rw [b0_64, if_neg hc160]
                            rw [hq163] at k
                            exact k
                        have go165 : ∀ t, Steps p.tables e below (T158.setTop (mkF m 74 #[.val (.int p0), .val (.int p1), .val (.int p2), .val (.int (10 : Int32)), .val (.ref s_P_20), .val (.double (v0_8 p1)), .second, .val (.double (b2_7 (v0_8 p1) p2)), .second, .val (.double (b0_64 p1 p2)), .second] [(.int (b0_69 p1 p2))])) t → Steps p.tables e below (s₁.setTop (entryFrame m #[(.int p0), (.int p1), (.int p2)] maxLocals)) t := by
                          intro t k
                          refine go161 _ ?_
                          refine XS.dload X158.here hx rfl (hb hby at_61) rfl ?_
                          show Steps p.tables e below (T158.setTop (mkF m 63 #[.val (.int p0), .val (.int p1), .val (.int p2), .val (.int (10 : Int32)), .val (.ref s_P_20), .val (.double (v0_8 p1)), .second, .val (.double (b2_7 (v0_8 p1) p2)), .second, .val (.double (b0_64 p1 p2)), .second] [(.double (b2_7 (v0_8 p1) p2))])) t
                          refine XS.dload X158.here hx rfl (hb hby at_63) rfl ?_
                          show Steps p.tables e below (T158.setTop (mkF m 65 #[.val (.int p0), .val (.int p1), .val (.int p2), .val (.int (10 : Int32)), .val (.ref s_P_20), .val (.double (v0_8 p1)), .second, .val (.double (b2_7 (v0_8 p1) p2)), .second, .val (.double (b0_64 p1 p2)), .second] [(.double (b0_64 p1 p2)), (.double (b2_7 (v0_8 p1) p2))])) t
                          refine XS.dcmpS X158.here hx rfl (hb hby at_65) rfl (v := (cmpValue (FP.dcmp (b2_7 (v0_8 p1) p2) (b0_64 p1 p2)) .l)) rfl ?_
                          show Steps p.tables e below (T158.setTop (mkF m 66 #[.val (.int p0), .val (.int p1), .val (.int p2), .val (.int (10 : Int32)), .val (.ref s_P_20), .val (.double (v0_8 p1)), .second, .val (.double (b2_7 (v0_8 p1) p2)), .second, .val (.double (b0_64 p1 p2)), .second] [(.int (cmpValue (FP.dcmp (b2_7 (v0_8 p1) p2) (b0_64 p1 p2)) .l))])) t
                          by_cases hc164 : (cmpValue (FP.dcmp (b2_7 (v0_8 p1) p2) (b0_64 p1 p2)) .l) = (0 : Int32)
                          · refine XS.ifNo X158.here hx rfl (hb hby at_66) rfl (XT.i0_ne_f hc164) ?_
                            show Steps p.tables e below (T158.setTop (mkF m 69 #[.val (.int p0), .val (.int p1), .val (.int p2), .val (.int (10 : Int32)), .val (.ref s_P_20), .val (.double (v0_8 p1)), .second, .val (.double (b2_7 (v0_8 p1) p2)), .second, .val (.double (b0_64 p1 p2)), .second] [])) t
                            refine XS.iconst X158.here hx rfl (hb hby at_69) ?_
                            show Steps p.tables e below (T158.setTop (mkF m 70 #[.val (.int p0), .val (.int p1), .val (.int p2), .val (.int (10 : Int32)), .val (.ref s_P_20), .val (.double (v0_8 p1)), .second, .val (.double (b2_7 (v0_8 p1) p2)), .second, .val (.double (b0_64 p1 p2)), .second] [(.int (1 : Int32))])) t
                            refine XS.goto X158.here hx rfl (pc0 := 70) (pc' := 74) rfl (hb hby at_70) (by decide) (by decide) ?_
                            show Steps p.tables e below (T158.setTop (mkF m 74 #[.val (.int p0), .val (.int p1), .val (.int p2), .val (.int (10 : Int32)), .val (.ref s_P_20), .val (.double (v0_8 p1)), .second, .val (.double (b2_7 (v0_8 p1) p2)), .second, .val (.double (b0_64 p1 p2)), .second] [(.int (1 : Int32))])) t
                            have hq166 : (b0_69 p1 p2) = (1 : Int32) := by rw [b0_69, if_pos hc164]
                            rw [hq166] at k
                            exact k
                          · refine XS.ifYes X158.here hx rfl (pc0 := 66) (pc' := 73) rfl (hb hby at_66) rfl (XT.i0_ne_t hc164) (by decide) (by decide) ?_
                            show Steps p.tables e below (T158.setTop (mkF m 73 #[.val (.int p0), .val (.int p1), .val (.int p2), .val (.int (10 : Int32)), .val (.ref s_P_20), .val (.double (v0_8 p1)), .second, .val (.double (b2_7 (v0_8 p1) p2)), .second, .val (.double (b0_64 p1 p2)), .second] [])) t
                            refine XS.iconst X158.here hx rfl (hb hby at_73) ?_
                            show Steps p.tables e below (T158.setTop (mkF m 74 #[.val (.int p0), .val (.int p1), .val (.int p2), .val (.int (10 : Int32)), .val (.ref s_P_20), .val (.double (v0_8 p1)), .second, .val (.double (b2_7 (v0_8 p1) p2)), .second, .val (.double (b0_64 p1 p2)), .second] [(.int (0 : Int32))])) t
                            have hq167 : (b0_69 p1 p2) = (0 : Int32) := by rw [b0_69, if_neg hc164]
                            rw [hq167] at k
                            exact k
                        obtain ⟨fs, hr, hrun, hended, hW, hsame⟩ := X158.leave (v := some (.int (b0_69 p1 p2))) (fun h => by rw [Bd.returns] at h; cases h)
                        refine ⟨_, _, go165 _ (Jvm.RoadKit.retOut X158 hx Bd.returns (own_nz (by unfold b0_69; (repeat' split) <;> first | exact Or.inl rfl | exact Or.inr rfl)) (Or.inl ⟨rfl, Or.inr (Or.inl rfl), _, rfl⟩) (hb hby at_74) hr), hrun, hended, _, _, rfl, ?_, ⟨_, rfl⟩, hW, hsame.mono (by decide) (by decide)⟩
                        show Q0 _ _ p0 p1 p2 s_NUM_Q s_NUM_RET s_NDCG_CUT_10 s_RPREC s_P_5 s_P_10 s_P_20 s_NUM_REL_RET s_RECALL_10 s_NUM_REL s_MAP s_RECIP_RANK s_BPREF s_NDCG s_RECALL_100 h0 _ (T158.setFrames fs).heap _
                        have hE : (T158.setFrames fs).heap = h0 := e158
                        rw [hE]
                        exact ⟨congrArg (fun z => some (Value.int z)) ((by rw [f0, if_neg hs3, if_neg hs17, if_neg hs29, if_neg hs41, if_neg hs53, if_neg hs72, if_neg hs88, if_neg hs104, if_neg hs120, if_neg hs136, if_pos hs152] : (b0_69 p1 p2) = (f0 p0 p1 p2)).trans (f0_one p0 p1 p2)), N158⟩
                      · by_cases hs168 : (v0_1 p0) = (11 : Int32)
                        · have go169 : ∀ t, Steps p.tables e below (s₁.setTop (mkF m 8 #[.val (.int p0), .val (.int p1), .val (.int p2), .val (.int (11 : Int32)), .unset, .unset, .unset, .unset, .unset, .unset, .unset] [])) t → Steps p.tables e below (s₁.setTop (entryFrame m #[(.int p0), (.int p1), (.int p2)] maxLocals)) t := by
                            have q := go2
                            rw [hs168] at q
                            exact q
                          have go170 : ∀ t, Steps p.tables e below (s₁.setTop (mkF m 9 #[.val (.int p0), .val (.int p1), .val (.int p2), .val (.int (11 : Int32)), .unset, .unset, .unset, .unset, .unset, .unset, .unset] [(.int (11 : Int32))])) t → Steps p.tables e below (s₁.setTop (entryFrame m #[(.int p0), (.int p1), (.int p2)] maxLocals)) t := by
                            intro t k
                            refine go169 _ ?_
                            refine XS.iloadN X0.here hx rfl (hb hby at_8) rfl ?_
                            show Steps p.tables e below (s₁.setTop (mkF m 9 #[.val (.int p0), .val (.int p1), .val (.int p2), .val (.int (11 : Int32)), .unset, .unset, .unset, .unset, .unset, .unset, .unset] [(.int (11 : Int32))])) t
                            exact k
                          obtain ⟨_, _, ⟨T171, L171, k171, n171⟩, -, X171, ⟨Lc171, hQ171, l171, y171, z171⟩, st171⟩ := Jvm.LawKit.callS X0 hx (y := (⟨"com/example/mirk/mirk/eval/MeasureOverAllPinLaw", "pick", "(I)Lcom/example/mirk/mirk/eval/Measure;"⟩ : MethodName)) hown (mvT hZ (hw _ (List.mem_of_getElem? (i := 1) rfl))) (mvT hZ (hw _ (List.mem_of_getElem? (i := 2) rfl))) (mvT hZ (hw _ (List.mem_of_getElem? (i := 3) rfl))) (mvT hZ (hw _ (List.mem_of_getElem? (i := 4) rfl))) (by decide) (backOf (W := 0) (rm1 l Z aZ hw [] (11 : Int32) s_NUM_Q s_NUM_RET s_NUM_REL s_NUM_REL_RET s_MAP s_RPREC s_BPREF s_RECIP_RANK s_P_5 s_P_10 s_P_20 s_RECALL_10 s_RECALL_100 s_NDCG s_NDCG_CUT_10 h0 n0 Z0 S_NUM_Q S_NUM_RET S_NUM_REL S_NUM_REL_RET S_MAP S_RPREC S_BPREF S_RECIP_RANK S_P_5 S_P_10 S_P_20 S_RECALL_10 S_RECALL_100 S_NDCG S_NDCG_CUT_10) hZ (hw _ (List.mem_of_getElem? (i := 4) rfl)) (hw _ (List.mem_of_getElem? (i := 3) rfl)) (by decide) (by decide)) (g := (mkF m 9 #[.val (.int p0), .val (.int p1), .val (.int p2), .val (.int (11 : Int32)), .unset, .unset, .unset, .unset, .unset, .unset, .unset] [(.int (11 : Int32))])) rfl (by rw [hml]; rfl) (argsL := [(.int (11 : Int32))]) (rest := []) (lenOf pd_89 rfl) rfl (by show 2 * 0 + _ ≤ _; exact Nat.le_of_eq rfl) (hb hby at_9) (fun _ _ => ⟨rfl, e0, (by decide : 0 + 0 ≤ _), (by decide : 0 + 0 ≤ _)⟩)
                          dsimp only [Pt.U, Pt.locs, Pt.cells, Pt.slots] at X171 l171 y171 z171 st171 hQ171
                          subst l171 y171 z171
                          obtain ⟨rfl, N171q, e171⟩ := hQ171
                          have N171 := Fr.app N0 N171q
                          have go172 : ∀ t, Steps p.tables e below (T171.setTop (mkF m 12 #[.val (.int p0), .val (.int p1), .val (.int p2), .val (.int (11 : Int32)), .unset, .unset, .unset, .unset, .unset, .unset, .unset] [(.ref s_RECALL_10)])) t → Steps p.tables e below (s₁.setTop (entryFrame m #[(.int p0), (.int p1), (.int p2)] maxLocals)) t := fun t k => go170 _ (st171 _ k)
                          have go173 : ∀ t, Steps p.tables e below (T171.setTop (mkF m 27 #[.val (.int p0), .val (.int p1), .val (.int p2), .val (.int (11 : Int32)), .val (.ref s_RECALL_10), .val (.double (v0_8 p1)), .second, .unset, .unset, .unset, .unset] [(.int p2), (.double (v0_8 p1)), (.ref s_RECALL_10)])) t → Steps p.tables e below (s₁.setTop (entryFrame m #[(.int p0), (.int p1), (.int p2)] maxLocals)) t := by
                            intro t k
                            refine go172 _ ?_
                            refine XS.astore X171.here hx rfl (hb hby at_12) rfl rfl (l' := #[.val (.int p0), .val (.int p1), .val (.int p2), .val (.int (11 : Int32)), .val (.ref s_RECALL_10), .unset, .unset, .unset, .unset, .unset, .unset]) rfl ?_
                            show Steps p.tables e below (T171.setTop (mkF m 14 #[.val (.int p0), .val (.int p1), .val (.int p2), .val (.int (11 : Int32)), .val (.ref s_RECALL_10), .unset, .unset, .unset, .unset, .unset, .unset] [])) t
                            refine XS.iloadN X171.here hx rfl (hb hby at_14) rfl ?_
                            show Steps p.tables e below (T171.setTop (mkF m 15 #[.val (.int p0), .val (.int p1), .val (.int p2), .val (.int (11 : Int32)), .val (.ref s_RECALL_10), .unset, .unset, .unset, .unset, .unset, .unset] [(.int p1)])) t
                            refine XS.i2dS X171.here hx rfl (hb hby at_15) rfl (v := (FP.i2d p1)) rfl ?_
                            show Steps p.tables e below (T171.setTop (mkF m 16 #[.val (.int p0), .val (.int p1), .val (.int p2), .val (.int (11 : Int32)), .val (.ref s_RECALL_10), .unset, .unset, .unset, .unset, .unset, .unset] [(.double (FP.i2d p1))])) t
                            refine X171.ldc2DoubleC hx hown (mvT hZ (hw _ (List.mem_of_getElem? (i := 8) rfl))) (g := (mkF m 16 #[.val (.int p0), .val (.int p1), .val (.int p2), .val (.int (11 : Int32)), .val (.ref s_RECALL_10), .unset, .unset, .unset, .unset, .unset, .unset] [(.double (FP.i2d p1))])) rfl (hb hby at_16) _ ?_
                            show Steps p.tables e below (T171.setTop (mkF m 19 #[.val (.int p0), .val (.int p1), .val (.int p2), .val (.int (11 : Int32)), .val (.ref s_RECALL_10), .unset, .unset, .unset, .unset, .unset, .unset] [(.double (4598175219545276416 : UInt64)), (.double (FP.i2d p1))])) t
                            refine XS.dmulS X171.here hx rfl (hb hby at_19) rfl (own_sum p1) (v := (FP.dmul (FP.i2d p1) (4598175219545276416 : UInt64))) rfl ?_
                            show Steps p.tables e below (T171.setTop (mkF m 20 #[.val (.int p0), .val (.int p1), .val (.int p2), .val (.int (11 : Int32)), .val (.ref s_RECALL_10), .unset, .unset, .unset, .unset, .unset, .unset] [(.double (FP.dmul (FP.i2d p1) (4598175219545276416 : UInt64)))])) t
                            show Steps p.tables e below (T171.setTop (mkF m 20 #[.val (.int p0), .val (.int p1), .val (.int p2), .val (.int (11 : Int32)), .val (.ref s_RECALL_10), .unset, .unset, .unset, .unset, .unset, .unset] [(.double (v0_8 p1))])) t
                            refine XS.dstore X171.here hx rfl (hb hby at_20) rfl (l' := #[.val (.int p0), .val (.int p1), .val (.int p2), .val (.int (11 : Int32)), .val (.ref s_RECALL_10), .val (.double (v0_8 p1)), .second, .unset, .unset, .unset, .unset]) rfl ?_
                            show Steps p.tables e below (T171.setTop (mkF m 22 #[.val (.int p0), .val (.int p1), .val (.int p2), .val (.int (11 : Int32)), .val (.ref s_RECALL_10), .val (.double (v0_8 p1)), .second, .unset, .unset, .unset, .unset] [])) t
                            refine XS.aload X171.here hx rfl (hb hby at_22) rfl rfl ?_
                            show Steps p.tables e below (T171.setTop (mkF m 24 #[.val (.int p0), .val (.int p1), .val (.int p2), .val (.int (11 : Int32)), .val (.ref s_RECALL_10), .val (.double (v0_8 p1)), .second, .unset, .unset, .unset, .unset] [(.ref s_RECALL_10)])) t
                            refine XS.dload X171.here hx rfl (hb hby at_24) rfl ?_
                            show Steps p.tables e below (T171.setTop (mkF m 26 #[.val (.int p0), .val (.int p1), .val (.int p2), .val (.int (11 : Int32)), .val (.ref s_RECALL_10), .val (.double (v0_8 p1)), .second, .unset, .unset, .unset, .unset] [(.double (v0_8 p1)), (.ref s_RECALL_10)])) t
                            refine XS.iloadN X171.here hx rfl (hb hby at_26) rfl ?_
                            show Steps p.tables e below (T171.setTop (mkF m 27 #[.val (.int p0), .val (.int p1), .val (.int p2), .val (.int (11 : Int32)), .val (.ref s_RECALL_10), .val (.double (v0_8 p1)), .second, .unset, .unset, .unset, .unset] [(.int p2), (.double (v0_8 p1)), (.ref s_RECALL_10)])) t
                            exact k
                          obtain ⟨cq174, kq174, q174a, q174b, q174c⟩ := isOf hZ e171 E_RECALL_10
                          obtain ⟨_, _, ⟨T174, L174, k174, n174⟩, -, X174, ⟨Lc174, hQ174, l174, y174, z174⟩, st174⟩ := X171.virtualBack hx (y := (⟨"com/example/mirk/mirk/eval/Measure", "overAll", "(DI)D"⟩ : MethodName)) (z := (⟨"com/example/mirk/mirk/eval/Measure", "overAll", "(DI)D"⟩ : MethodName)) hown (mvT hZ (hw _ (List.mem_of_getElem? (i := 9) rfl))) (mvT hZ (hw _ (List.mem_of_getElem? (i := 10) rfl))) (notFace_of_selects (args := #[]) (mvT hZ (hw _ (List.mem_of_getElem? (i := 12) rfl)))) (mvT hZ (hw _ (List.mem_of_getElem? (i := 12) rfl))) (mvT hZ (hw _ (List.mem_of_getElem? (i := 11) rfl))) (by decide) (backOf (W := 0) (rm2 l Z aZ hw [] s_RECALL_10 (v0_8 p1) p2 (0 : Int32) h0 n0 Z0 F_RECALL_10_count (own_sum p1)) hZ (hw _ (List.mem_of_getElem? (i := 13) rfl)) (hw _ (List.mem_of_getElem? (i := 6) rfl)) (by decide) (by decide)) q174a q174c (g := (mkF m 27 #[.val (.int p0), .val (.int p1), .val (.int p2), .val (.int (11 : Int32)), .val (.ref s_RECALL_10), .val (.double (v0_8 p1)), .second, .unset, .unset, .unset, .unset] [(.int p2), (.double (v0_8 p1)), (.ref s_RECALL_10)])) rfl (by rw [hml]; rfl) (Steps.refl _) (argsL := [(.double (v0_8 p1)), (.int p2)]) (rest := []) (lenOf pd_91 rfl) rfl (by show 2 * 0 + _ ≤ _; exact Nat.le_of_eq rfl) (hb hby at_27) (fun _ _ => ⟨rfl, e171, (by decide : 0 + 0 ≤ _), (by decide : 0 + 0 ≤ _)⟩)
                          dsimp only [Pt.U, Pt.locs, Pt.cells, Pt.slots] at X174 l174 y174 z174 st174 hQ174
                          subst l174 y174 z174
                          obtain ⟨rfl, N174q, e174⟩ := hQ174
                          have N174 := Fr.app N171 N174q
                          have go175 : ∀ t, Steps p.tables e below (T174.setTop (mkF m 30 #[.val (.int p0), .val (.int p1), .val (.int p2), .val (.int (11 : Int32)), .val (.ref s_RECALL_10), .val (.double (v0_8 p1)), .second, .unset, .unset, .unset, .unset] [(.double (b2_7 (v0_8 p1) p2))])) t → Steps p.tables e below (s₁.setTop (entryFrame m #[(.int p0), (.int p1), (.int p2)] maxLocals)) t := fun t k => go173 _ (st174.trans k)
                          have go177 : ∀ t, Steps p.tables e below (T174.setTop (mkF m 61 #[.val (.int p0), .val (.int p1), .val (.int p2), .val (.int (11 : Int32)), .val (.ref s_RECALL_10), .val (.double (v0_8 p1)), .second, .val (.double (b2_7 (v0_8 p1) p2)), .second, .val (.double (b0_64 p1 p2)), .second] [])) t → Steps p.tables e below (s₁.setTop (entryFrame m #[(.int p0), (.int p1), (.int p2)] maxLocals)) t := by
                            intro t k
                            refine go175 _ ?_
                            refine XS.dstore X174.here hx rfl (hb hby at_30) rfl (l' := #[.val (.int p0), .val (.int p1), .val (.int p2), .val (.int (11 : Int32)), .val (.ref s_RECALL_10), .val (.double (v0_8 p1)), .second, .val (.double (b2_7 (v0_8 p1) p2)), .second, .unset, .unset]) rfl ?_
                            show Steps p.tables e below (T174.setTop (mkF m 32 #[.val (.int p0), .val (.int p1), .val (.int p2), .val (.int (11 : Int32)), .val (.ref s_RECALL_10), .val (.double (v0_8 p1)), .second, .val (.double (b2_7 (v0_8 p1) p2)), .second, .unset, .unset] [])) t
                            refine XS.iloadN X174.here hx rfl (hb hby at_32) rfl ?_
                            show Steps p.tables e below (T174.setTop (mkF m 33 #[.val (.int p0), .val (.int p1), .val (.int p2), .val (.int (11 : Int32)), .val (.ref s_RECALL_10), .val (.double (v0_8 p1)), .second, .val (.double (b2_7 (v0_8 p1) p2)), .second, .unset, .unset] [(.int (11 : Int32))])) t
                            refine XS.iconst X174.here hx rfl (hb hby at_33) ?_
                            show Steps p.tables e below (T174.setTop (mkF m 34 #[.val (.int p0), .val (.int p1), .val (.int p2), .val (.int (11 : Int32)), .val (.ref s_RECALL_10), .val (.double (v0_8 p1)), .second, .val (.double (b2_7 (v0_8 p1) p2)), .second, .unset, .unset] [(.int (4 : Int32)), (.int (11 : Int32))])) t
                            refine XS.icmpYes X174.here hx rfl (pc0 := 34) (pc' := 44) rfl (hb hby at_34) rfl (XT.ii_ge_t (by decide : ¬ ((11 : Int32) < (4 : Int32)))) (by decide) (by decide) ?_
                            show Steps p.tables e below (T174.setTop (mkF m 44 #[.val (.int p0), .val (.int p1), .val (.int p2), .val (.int (11 : Int32)), .val (.ref s_RECALL_10), .val (.double (v0_8 p1)), .second, .val (.double (b2_7 (v0_8 p1) p2)), .second, .unset, .unset] [])) t
                            refine XS.iloadN X174.here hx rfl (hb hby at_44) rfl ?_
                            show Steps p.tables e below (T174.setTop (mkF m 45 #[.val (.int p0), .val (.int p1), .val (.int p2), .val (.int (11 : Int32)), .val (.ref s_RECALL_10), .val (.double (v0_8 p1)), .second, .val (.double (b2_7 (v0_8 p1) p2)), .second, .unset, .unset] [(.int p2)])) t
                            by_cases hc176 : p2 = (0 : Int32)
                            · refine XS.ifNo X174.here hx rfl (hb hby at_45) rfl (XT.i0_ne_f hc176) ?_
                              show Steps p.tables e below (T174.setTop (mkF m 48 #[.val (.int p0), .val (.int p1), .val (.int p2), .val (.int (11 : Int32)), .val (.ref s_RECALL_10), .val (.double (v0_8 p1)), .second, .val (.double (b2_7 (v0_8 p1) p2)), .second, .unset, .unset] [])) t
                              refine XS.dconst0 X174.here hx rfl (hb hby at_48) (v := FP.dconst0) rfl ?_
                              show Steps p.tables e below (T174.setTop (mkF m 49 #[.val (.int p0), .val (.int p1), .val (.int p2), .val (.int (11 : Int32)), .val (.ref s_RECALL_10), .val (.double (v0_8 p1)), .second, .val (.double (b2_7 (v0_8 p1) p2)), .second, .unset, .unset] [(.double FP.dconst0)])) t
                              refine XS.dstore X174.here hx rfl (hb hby at_49) rfl (l' := #[.val (.int p0), .val (.int p1), .val (.int p2), .val (.int (11 : Int32)), .val (.ref s_RECALL_10), .val (.double (v0_8 p1)), .second, .val (.double (b2_7 (v0_8 p1) p2)), .second, .val (.double FP.dconst0), .second]) rfl ?_
                              show Steps p.tables e below (T174.setTop (mkF m 51 #[.val (.int p0), .val (.int p1), .val (.int p2), .val (.int (11 : Int32)), .val (.ref s_RECALL_10), .val (.double (v0_8 p1)), .second, .val (.double (b2_7 (v0_8 p1) p2)), .second, .val (.double FP.dconst0), .second] [])) t
                              refine XS.goto X174.here hx rfl (pc0 := 51) (pc' := 61) rfl (hb hby at_51) (by decide) (by decide) ?_
                              show Steps p.tables e below (T174.setTop (mkF m 61 #[.val (.int p0), .val (.int p1), .val (.int p2), .val (.int (11 : Int32)), .val (.ref s_RECALL_10), .val (.double (v0_8 p1)), .second, .val (.double (b2_7 (v0_8 p1) p2)), .second, .val (.double FP.dconst0), .second] [])) t
                              have hq178 : (b0_64 p1 p2) = FP.dconst0 := by rw [b0_64, if_pos hc176]
                              rw [hq178] at k
                              exact k
                            · refine XS.ifYes X174.here hx rfl (pc0 := 45) (pc' := 54) rfl (hb hby at_45) rfl (XT.i0_ne_t hc176) (by decide) (by decide) ?_
                              show Steps p.tables e below (T174.setTop (mkF m 54 #[.val (.int p0), .val (.int p1), .val (.int p2), .val (.int (11 : Int32)), .val (.ref s_RECALL_10), .val (.double (v0_8 p1)), .second, .val (.double (b2_7 (v0_8 p1) p2)), .second, .unset, .unset] [])) t
                              refine XS.dload X174.here hx rfl (hb hby at_54) rfl ?_
                              show Steps p.tables e below (T174.setTop (mkF m 56 #[.val (.int p0), .val (.int p1), .val (.int p2), .val (.int (11 : Int32)), .val (.ref s_RECALL_10), .val (.double (v0_8 p1)), .second, .val (.double (b2_7 (v0_8 p1) p2)), .second, .unset, .unset] [(.double (v0_8 p1))])) t
                              refine XS.iloadN X174.here hx rfl (hb hby at_56) rfl ?_
                              show Steps p.tables e below (T174.setTop (mkF m 57 #[.val (.int p0), .val (.int p1), .val (.int p2), .val (.int (11 : Int32)), .val (.ref s_RECALL_10), .val (.double (v0_8 p1)), .second, .val (.double (b2_7 (v0_8 p1) p2)), .second, .unset, .unset] [(.int p2), (.double (v0_8 p1))])) t
                              refine XS.i2dS X174.here hx rfl (hb hby at_57) rfl (v := (FP.i2d p2)) rfl ?_
                              show Steps p.tables e below (T174.setTop (mkF m 58 #[.val (.int p0), .val (.int p1), .val (.int p2), .val (.int (11 : Int32)), .val (.ref s_RECALL_10), .val (.double (v0_8 p1)), .second, .val (.double (b2_7 (v0_8 p1) p2)), .second, .unset, .unset] [(.double (FP.i2d p2)), (.double (v0_8 p1))])) t
                              refine XS.ddivS X174.here hx rfl (hb hby at_58) rfl (own_quo (own_sum p1) hc176) (v := (FP.ddiv (v0_8 p1) (FP.i2d p2))) rfl ?_
                              show Steps p.tables e below (T174.setTop (mkF m 59 #[.val (.int p0), .val (.int p1), .val (.int p2), .val (.int (11 : Int32)), .val (.ref s_RECALL_10), .val (.double (v0_8 p1)), .second, .val (.double (b2_7 (v0_8 p1) p2)), .second, .unset, .unset] [(.double (FP.ddiv (v0_8 p1) (FP.i2d p2)))])) t
                              show Steps p.tables e below (T174.setTop (mkF m 59 #[.val (.int p0), .val (.int p1), .val (.int p2), .val (.int (11 : Int32)), .val (.ref s_RECALL_10), .val (.double (v0_8 p1)), .second, .val (.double (b2_7 (v0_8 p1) p2)), .second, .unset, .unset] [(.double (v0_62 p1 p2))])) t
                              refine XS.dstore X174.here hx rfl (hb hby at_59) rfl (l' := #[.val (.int p0), .val (.int p1), .val (.int p2), .val (.int (11 : Int32)), .val (.ref s_RECALL_10), .val (.double (v0_8 p1)), .second, .val (.double (b2_7 (v0_8 p1) p2)), .second, .val (.double (v0_62 p1 p2)), .second]) rfl ?_
                              show Steps p.tables e below (T174.setTop (mkF m 61 #[.val (.int p0), .val (.int p1), .val (.int p2), .val (.int (11 : Int32)), .val (.ref s_RECALL_10), .val (.double (v0_8 p1)), .second, .val (.double (b2_7 (v0_8 p1) p2)), .second, .val (.double (v0_62 p1 p2)), .second] [])) t
                              have hq179 : (b0_64 p1 p2) = (v0_62 p1 p2) := by rw [b0_64, if_neg hc176]
                              rw [hq179] at k
                              exact k
                          have go181 : ∀ t, Steps p.tables e below (T174.setTop (mkF m 74 #[.val (.int p0), .val (.int p1), .val (.int p2), .val (.int (11 : Int32)), .val (.ref s_RECALL_10), .val (.double (v0_8 p1)), .second, .val (.double (b2_7 (v0_8 p1) p2)), .second, .val (.double (b0_64 p1 p2)), .second] [(.int (b0_69 p1 p2))])) t → Steps p.tables e below (s₁.setTop (entryFrame m #[(.int p0), (.int p1), (.int p2)] maxLocals)) t := by
                            intro t k
                            refine go177 _ ?_
                            refine XS.dload X174.here hx rfl (hb hby at_61) rfl ?_
                            show Steps p.tables e below (T174.setTop (mkF m 63 #[.val (.int p0), .val (.int p1), .val (.int p2), .val (.int (11 : Int32)), .val (.ref s_RECALL_10), .val (.double (v0_8 p1)), .second, .val (.double (b2_7 (v0_8 p1) p2)), .second, .val (.double (b0_64 p1 p2)), .second] [(.double (b2_7 (v0_8 p1) p2))])) t
                            refine XS.dload X174.here hx rfl (hb hby at_63) rfl ?_
                            show Steps p.tables e below (T174.setTop (mkF m 65 #[.val (.int p0), .val (.int p1), .val (.int p2), .val (.int (11 : Int32)), .val (.ref s_RECALL_10), .val (.double (v0_8 p1)), .second, .val (.double (b2_7 (v0_8 p1) p2)), .second, .val (.double (b0_64 p1 p2)), .second] [(.double (b0_64 p1 p2)), (.double (b2_7 (v0_8 p1) p2))])) t
                            refine XS.dcmpS X174.here hx rfl (hb hby at_65) rfl (v := (cmpValue (FP.dcmp (b2_7 (v0_8 p1) p2) (b0_64 p1 p2)) .l)) rfl ?_
                            show Steps p.tables e below (T174.setTop (mkF m 66 #[.val (.int p0), .val (.int p1), .val (.int p2), .val (.int (11 : Int32)), .val (.ref s_RECALL_10), .val (.double (v0_8 p1)), .second, .val (.double (b2_7 (v0_8 p1) p2)), .second, .val (.double (b0_64 p1 p2)), .second] [(.int (cmpValue (FP.dcmp (b2_7 (v0_8 p1) p2) (b0_64 p1 p2)) .l))])) t
                            by_cases hc180 : (cmpValue (FP.dcmp (b2_7 (v0_8 p1) p2) (b0_64 p1 p2)) .l) = (0 : Int32)
                            · refine XS.ifNo X174.here hx rfl (hb hby at_66) rfl (XT.i0_ne_f hc180) ?_
                              show Steps p.tables e below (T174.setTop (mkF m 69 #[.val (.int p0), .val (.int p1), .val (.int p2), .val (.int (11 : Int32)), .val (.ref s_RECALL_10), .val (.double (v0_8 p1)), .second, .val (.double (b2_7 (v0_8 p1) p2)), .second, .val (.double (b0_64 p1 p2)), .second] [])) t
                              refine XS.iconst X174.here hx rfl (hb hby at_69) ?_
                              show Steps p.tables e below (T174.setTop (mkF m 70 #[.val (.int p0), .val (.int p1), .val (.int p2), .val (.int (11 : Int32)), .val (.ref s_RECALL_10), .val (.double (v0_8 p1)), .second, .val (.double (b2_7 (v0_8 p1) p2)), .second, .val (.double (b0_64 p1 p2)), .second] [(.int (1 : Int32))])) t
                              refine XS.goto X174.here hx rfl (pc0 := 70) (pc' := 74) rfl (hb hby at_70) (by decide) (by decide) ?_
                              show Steps p.tables e below (T174.setTop (mkF m 74 #[.val (.int p0), .val (.int p1), .val (.int p2), .val (.int (11 : Int32)), .val (.ref s_RECALL_10), .val (.double (v0_8 p1)), .second, .val (.double (b2_7 (v0_8 p1) p2)), .second, .val (.double (b0_64 p1 p2)), .second] [(.int (1 : Int32))])) t
                              have hq182 : (b0_69 p1 p2) = (1 : Int32) := by rw [b0_69, if_pos hc180]
                              rw [hq182] at k
                              exact k
                            · refine XS.ifYes X174.here hx rfl (pc0 := 66) (pc' := 73) rfl (hb hby at_66) rfl (XT.i0_ne_t hc180) (by decide) (by decide) ?_
                              show Steps p.tables e below (T174.setTop (mkF m 73 #[.val (.int p0), .val (.int p1), .val (.int p2), .val (.int (11 : Int32)), .val (.ref s_RECALL_10), .val (.double (v0_8 p1)), .second, .val (.double (b2_7 (v0_8 p1) p2)), .second, .val (.double (b0_64 p1 p2)), .second] [])) t
                              refine XS.iconst X174.here hx rfl (hb hby at_73) ?_
                              show Steps p.tables e below (T174.setTop (mkF m 74 #[.val (.int p0), .val (.int p1), .val (.int p2), .val (.int (11 : Int32)), .val (.ref s_RECALL_10), .val (.double (v0_8 p1)), .second, .val (.double (b2_7 (v0_8 p1) p2)), .second, .val (.double (b0_64 p1 p2)), .second] [(.int (0 : Int32))])) t
                              have hq183 : (b0_69 p1 p2) = (0 : Int32) := by rw [b0_69, if_neg hc180]
                              rw [hq183] at k
                              exact k
                          obtain ⟨fs, hr, hrun, hended, hW, hsame⟩ := X174.leave (v := some (.int (b0_69 p1 p2))) (fun h => by rw [Bd.returns] at h; cases h)
                          refine ⟨_, _, go181 _ (Jvm.RoadKit.retOut X174 hx Bd.returns (own_nz (by unfold b0_69; (repeat' split) <;> first | exact Or.inl rfl | exact Or.inr rfl)) (Or.inl ⟨rfl, Or.inr (Or.inl rfl), _, rfl⟩) (hb hby at_74) hr), hrun, hended, _, _, rfl, ?_, ⟨_, rfl⟩, hW, hsame.mono (by decide) (by decide)⟩
                          show Q0 _ _ p0 p1 p2 s_NUM_Q s_NUM_RET s_NDCG_CUT_10 s_RPREC s_P_5 s_P_10 s_P_20 s_NUM_REL_RET s_RECALL_10 s_NUM_REL s_MAP s_RECIP_RANK s_BPREF s_NDCG s_RECALL_100 h0 _ (T174.setFrames fs).heap _
                          have hE : (T174.setFrames fs).heap = h0 := e174
                          rw [hE]
                          exact ⟨congrArg (fun z => some (Value.int z)) ((by rw [f0, if_neg hs3, if_neg hs17, if_neg hs29, if_neg hs41, if_neg hs53, if_neg hs72, if_neg hs88, if_neg hs104, if_neg hs120, if_neg hs136, if_neg hs152, if_pos hs168] : (b0_69 p1 p2) = (f0 p0 p1 p2)).trans (f0_one p0 p1 p2)), N174⟩
                        · by_cases hs184 : (v0_1 p0) = (12 : Int32)
                          · have go185 : ∀ t, Steps p.tables e below (s₁.setTop (mkF m 8 #[.val (.int p0), .val (.int p1), .val (.int p2), .val (.int (12 : Int32)), .unset, .unset, .unset, .unset, .unset, .unset, .unset] [])) t → Steps p.tables e below (s₁.setTop (entryFrame m #[(.int p0), (.int p1), (.int p2)] maxLocals)) t := by
                              have q := go2
                              rw [hs184] at q
                              exact q
                            have go186 : ∀ t, Steps p.tables e below (s₁.setTop (mkF m 9 #[.val (.int p0), .val (.int p1), .val (.int p2), .val (.int (12 : Int32)), .unset, .unset, .unset, .unset, .unset, .unset, .unset] [(.int (12 : Int32))])) t → Steps p.tables e below (s₁.setTop (entryFrame m #[(.int p0), (.int p1), (.int p2)] maxLocals)) t := by
                              intro t k
                              refine go185 _ ?_
                              refine XS.iloadN X0.here hx rfl (hb hby at_8) rfl ?_
                              show Steps p.tables e below (s₁.setTop (mkF m 9 #[.val (.int p0), .val (.int p1), .val (.int p2), .val (.int (12 : Int32)), .unset, .unset, .unset, .unset, .unset, .unset, .unset] [(.int (12 : Int32))])) t
                              exact k
                            obtain ⟨_, _, ⟨T187, L187, k187, n187⟩, -, X187, ⟨Lc187, hQ187, l187, y187, z187⟩, st187⟩ := Jvm.LawKit.callS X0 hx (y := (⟨"com/example/mirk/mirk/eval/MeasureOverAllPinLaw", "pick", "(I)Lcom/example/mirk/mirk/eval/Measure;"⟩ : MethodName)) hown (mvT hZ (hw _ (List.mem_of_getElem? (i := 1) rfl))) (mvT hZ (hw _ (List.mem_of_getElem? (i := 2) rfl))) (mvT hZ (hw _ (List.mem_of_getElem? (i := 3) rfl))) (mvT hZ (hw _ (List.mem_of_getElem? (i := 4) rfl))) (by decide) (backOf (W := 0) (rm1 l Z aZ hw [] (12 : Int32) s_NUM_Q s_NUM_RET s_NUM_REL s_NUM_REL_RET s_MAP s_RPREC s_BPREF s_RECIP_RANK s_P_5 s_P_10 s_P_20 s_RECALL_10 s_RECALL_100 s_NDCG s_NDCG_CUT_10 h0 n0 Z0 S_NUM_Q S_NUM_RET S_NUM_REL S_NUM_REL_RET S_MAP S_RPREC S_BPREF S_RECIP_RANK S_P_5 S_P_10 S_P_20 S_RECALL_10 S_RECALL_100 S_NDCG S_NDCG_CUT_10) hZ (hw _ (List.mem_of_getElem? (i := 4) rfl)) (hw _ (List.mem_of_getElem? (i := 3) rfl)) (by decide) (by decide)) (g := (mkF m 9 #[.val (.int p0), .val (.int p1), .val (.int p2), .val (.int (12 : Int32)), .unset, .unset, .unset, .unset, .unset, .unset, .unset] [(.int (12 : Int32))])) rfl (by rw [hml]; rfl) (argsL := [(.int (12 : Int32))]) (rest := []) (lenOf pd_89 rfl) rfl (by show 2 * 0 + _ ≤ _; exact Nat.le_of_eq rfl) (hb hby at_9) (fun _ _ => ⟨rfl, e0, (by decide : 0 + 0 ≤ _), (by decide : 0 + 0 ≤ _)⟩)
                            dsimp only [Pt.U, Pt.locs, Pt.cells, Pt.slots] at X187 l187 y187 z187 st187 hQ187
                            subst l187 y187 z187
                            obtain ⟨rfl, N187q, e187⟩ := hQ187
                            have N187 := Fr.app N0 N187q
                            have go188 : ∀ t, Steps p.tables e below (T187.setTop (mkF m 12 #[.val (.int p0), .val (.int p1), .val (.int p2), .val (.int (12 : Int32)), .unset, .unset, .unset, .unset, .unset, .unset, .unset] [(.ref s_RECALL_100)])) t → Steps p.tables e below (s₁.setTop (entryFrame m #[(.int p0), (.int p1), (.int p2)] maxLocals)) t := fun t k => go186 _ (st187 _ k)
                            have go189 : ∀ t, Steps p.tables e below (T187.setTop (mkF m 27 #[.val (.int p0), .val (.int p1), .val (.int p2), .val (.int (12 : Int32)), .val (.ref s_RECALL_100), .val (.double (v0_8 p1)), .second, .unset, .unset, .unset, .unset] [(.int p2), (.double (v0_8 p1)), (.ref s_RECALL_100)])) t → Steps p.tables e below (s₁.setTop (entryFrame m #[(.int p0), (.int p1), (.int p2)] maxLocals)) t := by
                              intro t k
                              refine go188 _ ?_
                              refine XS.astore X187.here hx rfl (hb hby at_12) rfl rfl (l' := #[.val (.int p0), .val (.int p1), .val (.int p2), .val (.int (12 : Int32)), .val (.ref s_RECALL_100), .unset, .unset, .unset, .unset, .unset, .unset]) rfl ?_
                              show Steps p.tables e below (T187.setTop (mkF m 14 #[.val (.int p0), .val (.int p1), .val (.int p2), .val (.int (12 : Int32)), .val (.ref s_RECALL_100), .unset, .unset, .unset, .unset, .unset, .unset] [])) t
                              refine XS.iloadN X187.here hx rfl (hb hby at_14) rfl ?_
                              show Steps p.tables e below (T187.setTop (mkF m 15 #[.val (.int p0), .val (.int p1), .val (.int p2), .val (.int (12 : Int32)), .val (.ref s_RECALL_100), .unset, .unset, .unset, .unset, .unset, .unset] [(.int p1)])) t
                              refine XS.i2dS X187.here hx rfl (hb hby at_15) rfl (v := (FP.i2d p1)) rfl ?_
                              show Steps p.tables e below (T187.setTop (mkF m 16 #[.val (.int p0), .val (.int p1), .val (.int p2), .val (.int (12 : Int32)), .val (.ref s_RECALL_100), .unset, .unset, .unset, .unset, .unset, .unset] [(.double (FP.i2d p1))])) t
                              refine X187.ldc2DoubleC hx hown (mvT hZ (hw _ (List.mem_of_getElem? (i := 8) rfl))) (g := (mkF m 16 #[.val (.int p0), .val (.int p1), .val (.int p2), .val (.int (12 : Int32)), .val (.ref s_RECALL_100), .unset, .unset, .unset, .unset, .unset, .unset] [(.double (FP.i2d p1))])) rfl (hb hby at_16) _ ?_
                              show Steps p.tables e below (T187.setTop (mkF m 19 #[.val (.int p0), .val (.int p1), .val (.int p2), .val (.int (12 : Int32)), .val (.ref s_RECALL_100), .unset, .unset, .unset, .unset, .unset, .unset] [(.double (4598175219545276416 : UInt64)), (.double (FP.i2d p1))])) t
                              refine XS.dmulS X187.here hx rfl (hb hby at_19) rfl (own_sum p1) (v := (FP.dmul (FP.i2d p1) (4598175219545276416 : UInt64))) rfl ?_
                              show Steps p.tables e below (T187.setTop (mkF m 20 #[.val (.int p0), .val (.int p1), .val (.int p2), .val (.int (12 : Int32)), .val (.ref s_RECALL_100), .unset, .unset, .unset, .unset, .unset, .unset] [(.double (FP.dmul (FP.i2d p1) (4598175219545276416 : UInt64)))])) t
                              show Steps p.tables e below (T187.setTop (mkF m 20 #[.val (.int p0), .val (.int p1), .val (.int p2), .val (.int (12 : Int32)), .val (.ref s_RECALL_100), .unset, .unset, .unset, .unset, .unset, .unset] [(.double (v0_8 p1))])) t
                              refine XS.dstore X187.here hx rfl (hb hby at_20) rfl (l' := #[.val (.int p0), .val (.int p1), .val (.int p2), .val (.int (12 : Int32)), .val (.ref s_RECALL_100), .val (.double (v0_8 p1)), .second, .unset, .unset, .unset, .unset]) rfl ?_
                              show Steps p.tables e below (T187.setTop (mkF m 22 #[.val (.int p0), .val (.int p1), .val (.int p2), .val (.int (12 : Int32)), .val (.ref s_RECALL_100), .val (.double (v0_8 p1)), .second, .unset, .unset, .unset, .unset] [])) t
                              refine XS.aload X187.here hx rfl (hb hby at_22) rfl rfl ?_
                              show Steps p.tables e below (T187.setTop (mkF m 24 #[.val (.int p0), .val (.int p1), .val (.int p2), .val (.int (12 : Int32)), .val (.ref s_RECALL_100), .val (.double (v0_8 p1)), .second, .unset, .unset, .unset, .unset] [(.ref s_RECALL_100)])) t
                              refine XS.dload X187.here hx rfl (hb hby at_24) rfl ?_
                              show Steps p.tables e below (T187.setTop (mkF m 26 #[.val (.int p0), .val (.int p1), .val (.int p2), .val (.int (12 : Int32)), .val (.ref s_RECALL_100), .val (.double (v0_8 p1)), .second, .unset, .unset, .unset, .unset] [(.double (v0_8 p1)), (.ref s_RECALL_100)])) t
                              refine XS.iloadN X187.here hx rfl (hb hby at_26) rfl ?_
                              show Steps p.tables e below (T187.setTop (mkF m 27 #[.val (.int p0), .val (.int p1), .val (.int p2), .val (.int (12 : Int32)), .val (.ref s_RECALL_100), .val (.double (v0_8 p1)), .second, .unset, .unset, .unset, .unset] [(.int p2), (.double (v0_8 p1)), (.ref s_RECALL_100)])) t
                              exact k
                            obtain ⟨cq190, kq190, q190a, q190b, q190c⟩ := isOf hZ e187 E_RECALL_100
                            obtain ⟨_, _, ⟨T190, L190, k190, n190⟩, -, X190, ⟨Lc190, hQ190, l190, y190, z190⟩, st190⟩ := X187.virtualBack hx (y := (⟨"com/example/mirk/mirk/eval/Measure", "overAll", "(DI)D"⟩ : MethodName)) (z := (⟨"com/example/mirk/mirk/eval/Measure", "overAll", "(DI)D"⟩ : MethodName)) hown (mvT hZ (hw _ (List.mem_of_getElem? (i := 9) rfl))) (mvT hZ (hw _ (List.mem_of_getElem? (i := 10) rfl))) (notFace_of_selects (args := #[]) (mvT hZ (hw _ (List.mem_of_getElem? (i := 12) rfl)))) (mvT hZ (hw _ (List.mem_of_getElem? (i := 12) rfl))) (mvT hZ (hw _ (List.mem_of_getElem? (i := 11) rfl))) (by decide) (backOf (W := 0) (rm2 l Z aZ hw [] s_RECALL_100 (v0_8 p1) p2 (0 : Int32) h0 n0 Z0 F_RECALL_100_count (own_sum p1)) hZ (hw _ (List.mem_of_getElem? (i := 13) rfl)) (hw _ (List.mem_of_getElem? (i := 6) rfl)) (by decide) (by decide)) q190a q190c (g := (mkF m 27 #[.val (.int p0), .val (.int p1), .val (.int p2), .val (.int (12 : Int32)), .val (.ref s_RECALL_100), .val (.double (v0_8 p1)), .second, .unset, .unset, .unset, .unset] [(.int p2), (.double (v0_8 p1)), (.ref s_RECALL_100)])) rfl (by rw [hml]; rfl) (Steps.refl _) (argsL := [(.double (v0_8 p1)), (.int p2)]) (rest := []) (lenOf pd_91 rfl) rfl (by show 2 * 0 + _ ≤ _; exact Nat.le_of_eq rfl) (hb hby at_27) (fun _ _ => ⟨rfl, e187, (by decide : 0 + 0 ≤ _), (by decide : 0 + 0 ≤ _)⟩)
                            dsimp only [Pt.U, Pt.locs, Pt.cells, Pt.slots] at X190 l190 y190 z190 st190 hQ190
                            subst l190 y190 z190
                            obtain ⟨rfl, N190q, e190⟩ := hQ190
                            have N190 := Fr.app N187 N190q
                            have go191 : ∀ t, Steps p.tables e below (T190.setTop (mkF m 30 #[.val (.int p0), .val (.int p1), .val (.int p2), .val (.int (12 : Int32)), .val (.ref s_RECALL_100), .val (.double (v0_8 p1)), .second, .unset, .unset, .unset, .unset] [(.double (b2_7 (v0_8 p1) p2))])) t → Steps p.tables e below (s₁.setTop (entryFrame m #[(.int p0), (.int p1), (.int p2)] maxLocals)) t := fun t k => go189 _ (st190.trans k)
                            have go193 : ∀ t, Steps p.tables e below (T190.setTop (mkF m 61 #[.val (.int p0), .val (.int p1), .val (.int p2), .val (.int (12 : Int32)), .val (.ref s_RECALL_100), .val (.double (v0_8 p1)), .second, .val (.double (b2_7 (v0_8 p1) p2)), .second, .val (.double (b0_64 p1 p2)), .second] [])) t → Steps p.tables e below (s₁.setTop (entryFrame m #[(.int p0), (.int p1), (.int p2)] maxLocals)) t := by
                              intro t k
                              refine go191 _ ?_
                              refine XS.dstore X190.here hx rfl (hb hby at_30) rfl (l' := #[.val (.int p0), .val (.int p1), .val (.int p2), .val (.int (12 : Int32)), .val (.ref s_RECALL_100), .val (.double (v0_8 p1)), .second, .val (.double (b2_7 (v0_8 p1) p2)), .second, .unset, .unset]) rfl ?_
                              show Steps p.tables e below (T190.setTop (mkF m 32 #[.val (.int p0), .val (.int p1), .val (.int p2), .val (.int (12 : Int32)), .val (.ref s_RECALL_100), .val (.double (v0_8 p1)), .second, .val (.double (b2_7 (v0_8 p1) p2)), .second, .unset, .unset] [])) t
                              refine XS.iloadN X190.here hx rfl (hb hby at_32) rfl ?_
                              show Steps p.tables e below (T190.setTop (mkF m 33 #[.val (.int p0), .val (.int p1), .val (.int p2), .val (.int (12 : Int32)), .val (.ref s_RECALL_100), .val (.double (v0_8 p1)), .second, .val (.double (b2_7 (v0_8 p1) p2)), .second, .unset, .unset] [(.int (12 : Int32))])) t
                              refine XS.iconst X190.here hx rfl (hb hby at_33) ?_
                              show Steps p.tables e below (T190.setTop (mkF m 34 #[.val (.int p0), .val (.int p1), .val (.int p2), .val (.int (12 : Int32)), .val (.ref s_RECALL_100), .val (.double (v0_8 p1)), .second, .val (.double (b2_7 (v0_8 p1) p2)), .second, .unset, .unset] [(.int (4 : Int32)), (.int (12 : Int32))])) t
                              refine XS.icmpYes X190.here hx rfl (pc0 := 34) (pc' := 44) rfl (hb hby at_34) rfl (XT.ii_ge_t (by decide : ¬ ((12 : Int32) < (4 : Int32)))) (by decide) (by decide) ?_
                              show Steps p.tables e below (T190.setTop (mkF m 44 #[.val (.int p0), .val (.int p1), .val (.int p2), .val (.int (12 : Int32)), .val (.ref s_RECALL_100), .val (.double (v0_8 p1)), .second, .val (.double (b2_7 (v0_8 p1) p2)), .second, .unset, .unset] [])) t
                              refine XS.iloadN X190.here hx rfl (hb hby at_44) rfl ?_
                              show Steps p.tables e below (T190.setTop (mkF m 45 #[.val (.int p0), .val (.int p1), .val (.int p2), .val (.int (12 : Int32)), .val (.ref s_RECALL_100), .val (.double (v0_8 p1)), .second, .val (.double (b2_7 (v0_8 p1) p2)), .second, .unset, .unset] [(.int p2)])) t
                              by_cases hc192 : p2 = (0 : Int32)
                              · refine XS.ifNo X190.here hx rfl (hb hby at_45) rfl (XT.i0_ne_f hc192) ?_
                                show Steps p.tables e below (T190.setTop (mkF m 48 #[.val (.int p0), .val (.int p1), .val (.int p2), .val (.int (12 : Int32)), .val (.ref s_RECALL_100), .val (.double (v0_8 p1)), .second, .val (.double (b2_7 (v0_8 p1) p2)), .second, .unset, .unset] [])) t
                                refine XS.dconst0 X190.here hx rfl (hb hby at_48) (v := FP.dconst0) rfl ?_
                                show Steps p.tables e below (T190.setTop (mkF m 49 #[.val (.int p0), .val (.int p1), .val (.int p2), .val (.int (12 : Int32)), .val (.ref s_RECALL_100), .val (.double (v0_8 p1)), .second, .val (.double (b2_7 (v0_8 p1) p2)), .second, .unset, .unset] [(.double FP.dconst0)])) t
                                refine XS.dstore X190.here hx rfl (hb hby at_49) rfl (l' := #[.val (.int p0), .val (.int p1), .val (.int p2), .val (.int (12 : Int32)), .val (.ref s_RECALL_100), .val (.double (v0_8 p1)), .second, .val (.double (b2_7 (v0_8 p1) p2)), .second, .val (.double FP.dconst0), .second]) rfl ?_
                                show Steps p.tables e below (T190.setTop (mkF m 51 #[.val (.int p0), .val (.int p1), .val (.int p2), .val (.int (12 : Int32)), .val (.ref s_RECALL_100), .val (.double (v0_8 p1)), .second, .val (.double (b2_7 (v0_8 p1) p2)), .second, .val (.double FP.dconst0), .second] [])) t
                                refine XS.goto X190.here hx rfl (pc0 := 51) (pc' := 61) rfl (hb hby at_51) (by decide) (by decide) ?_
                                show Steps p.tables e below (T190.setTop (mkF m 61 #[.val (.int p0), .val (.int p1), .val (.int p2), .val (.int (12 : Int32)), .val (.ref s_RECALL_100), .val (.double (v0_8 p1)), .second, .val (.double (b2_7 (v0_8 p1) p2)), .second, .val (.double FP.dconst0), .second] [])) t
                                have hq194 : (b0_64 p1 p2) = FP.dconst0 := by rw [b0_64, if_pos hc192]
                                rw [hq194] at k
                                exact k
                              · refine XS.ifYes X190.here hx rfl (pc0 := 45) (pc' := 54) rfl (hb hby at_45) rfl (XT.i0_ne_t hc192) (by decide) (by decide) ?_
                                show Steps p.tables e below (T190.setTop (mkF m 54 #[.val (.int p0), .val (.int p1), .val (.int p2), .val (.int (12 : Int32)), .val (.ref s_RECALL_100), .val (.double (v0_8 p1)), .second, .val (.double (b2_7 (v0_8 p1) p2)), .second, .unset, .unset] [])) t
                                refine XS.dload X190.here hx rfl (hb hby at_54) rfl ?_
                                show Steps p.tables e below (T190.setTop (mkF m 56 #[.val (.int p0), .val (.int p1), .val (.int p2), .val (.int (12 : Int32)), .val (.ref s_RECALL_100), .val (.double (v0_8 p1)), .second, .val (.double (b2_7 (v0_8 p1) p2)), .second, .unset, .unset] [(.double (v0_8 p1))])) t
                                refine XS.iloadN X190.here hx rfl (hb hby at_56) rfl ?_
                                show Steps p.tables e below (T190.setTop (mkF m 57 #[.val (.int p0), .val (.int p1), .val (.int p2), .val (.int (12 : Int32)), .val (.ref s_RECALL_100), .val (.double (v0_8 p1)), .second, .val (.double (b2_7 (v0_8 p1) p2)), .second, .unset, .unset] [(.int p2), (.double (v0_8 p1))])) t
                                refine XS.i2dS X190.here hx rfl (hb hby at_57) rfl (v := (FP.i2d p2)) rfl ?_
                                show Steps p.tables e below (T190.setTop (mkF m 58 #[.val (.int p0), .val (.int p1), .val (.int p2), .val (.int (12 : Int32)), .val (.ref s_RECALL_100), .val (.double (v0_8 p1)), .second, .val (.double (b2_7 (v0_8 p1) p2)), .second, .unset, .unset] [(.double (FP.i2d p2)), (.double (v0_8 p1))])) t
                                refine XS.ddivS X190.here hx rfl (hb hby at_58) rfl (own_quo (own_sum p1) hc192) (v := (FP.ddiv (v0_8 p1) (FP.i2d p2))) rfl ?_
                                show Steps p.tables e below (T190.setTop (mkF m 59 #[.val (.int p0), .val (.int p1), .val (.int p2), .val (.int (12 : Int32)), .val (.ref s_RECALL_100), .val (.double (v0_8 p1)), .second, .val (.double (b2_7 (v0_8 p1) p2)), .second, .unset, .unset] [(.double (FP.ddiv (v0_8 p1) (FP.i2d p2)))])) t
                                show Steps p.tables e below (T190.setTop (mkF m 59 #[.val (.int p0), .val (.int p1), .val (.int p2), .val (.int (12 : Int32)), .val (.ref s_RECALL_100), .val (.double (v0_8 p1)), .second, .val (.double (b2_7 (v0_8 p1) p2)), .second, .unset, .unset] [(.double (v0_62 p1 p2))])) t
                                refine XS.dstore X190.here hx rfl (hb hby at_59) rfl (l' := #[.val (.int p0), .val (.int p1), .val (.int p2), .val (.int (12 : Int32)), .val (.ref s_RECALL_100), .val (.double (v0_8 p1)), .second, .val (.double (b2_7 (v0_8 p1) p2)), .second, .val (.double (v0_62 p1 p2)), .second]) rfl ?_
                                show Steps p.tables e below (T190.setTop (mkF m 61 #[.val (.int p0), .val (.int p1), .val (.int p2), .val (.int (12 : Int32)), .val (.ref s_RECALL_100), .val (.double (v0_8 p1)), .second, .val (.double (b2_7 (v0_8 p1) p2)), .second, .val (.double (v0_62 p1 p2)), .second] [])) t
                                have hq195 : (b0_64 p1 p2) = (v0_62 p1 p2) := by rw [b0_64, if_neg hc192]
                                rw [hq195] at k
                                exact k
                            have go197 : ∀ t, Steps p.tables e below (T190.setTop (mkF m 74 #[.val (.int p0), .val (.int p1), .val (.int p2), .val (.int (12 : Int32)), .val (.ref s_RECALL_100), .val (.double (v0_8 p1)), .second, .val (.double (b2_7 (v0_8 p1) p2)), .second, .val (.double (b0_64 p1 p2)), .second] [(.int (b0_69 p1 p2))])) t → Steps p.tables e below (s₁.setTop (entryFrame m #[(.int p0), (.int p1), (.int p2)] maxLocals)) t := by
                              intro t k
                              refine go193 _ ?_
                              refine XS.dload X190.here hx rfl (hb hby at_61) rfl ?_
                              show Steps p.tables e below (T190.setTop (mkF m 63 #[.val (.int p0), .val (.int p1), .val (.int p2), .val (.int (12 : Int32)), .val (.ref s_RECALL_100), .val (.double (v0_8 p1)), .second, .val (.double (b2_7 (v0_8 p1) p2)), .second, .val (.double (b0_64 p1 p2)), .second] [(.double (b2_7 (v0_8 p1) p2))])) t
                              refine XS.dload X190.here hx rfl (hb hby at_63) rfl ?_
                              show Steps p.tables e below (T190.setTop (mkF m 65 #[.val (.int p0), .val (.int p1), .val (.int p2), .val (.int (12 : Int32)), .val (.ref s_RECALL_100), .val (.double (v0_8 p1)), .second, .val (.double (b2_7 (v0_8 p1) p2)), .second, .val (.double (b0_64 p1 p2)), .second] [(.double (b0_64 p1 p2)), (.double (b2_7 (v0_8 p1) p2))])) t
                              refine XS.dcmpS X190.here hx rfl (hb hby at_65) rfl (v := (cmpValue (FP.dcmp (b2_7 (v0_8 p1) p2) (b0_64 p1 p2)) .l)) rfl ?_
                              show Steps p.tables e below (T190.setTop (mkF m 66 #[.val (.int p0), .val (.int p1), .val (.int p2), .val (.int (12 : Int32)), .val (.ref s_RECALL_100), .val (.double (v0_8 p1)), .second, .val (.double (b2_7 (v0_8 p1) p2)), .second, .val (.double (b0_64 p1 p2)), .second] [(.int (cmpValue (FP.dcmp (b2_7 (v0_8 p1) p2) (b0_64 p1 p2)) .l))])) t
                              by_cases hc196 : (cmpValue (FP.dcmp (b2_7 (v0_8 p1) p2) (b0_64 p1 p2)) .l) = (0 : Int32)
                              · refine XS.ifNo X190.here hx rfl (hb hby at_66) rfl (XT.i0_ne_f hc196) ?_
                                show Steps p.tables e below (T190.setTop (mkF m 69 #[.val (.int p0), .val (.int p1), .val (.int p2), .val (.int (12 : Int32)), .val (.ref s_RECALL_100), .val (.double (v0_8 p1)), .second, .val (.double (b2_7 (v0_8 p1) p2)), .second, .val (.double (b0_64 p1 p2)), .second] [])) t
                                refine XS.iconst X190.here hx rfl (hb hby at_69) ?_
                                show Steps p.tables e below (T190.setTop (mkF m 70 #[.val (.int p0), .val (.int p1), .val (.int p2), .val (.int (12 : Int32)), .val (.ref s_RECALL_100), .val (.double (v0_8 p1)), .second, .val (.double (b2_7 (v0_8 p1) p2)), .second, .val (.double (b0_64 p1 p2)), .second] [(.int (1 : Int32))])) t
                                refine XS.goto X190.here hx rfl (pc0 := 70) (pc' := 74) rfl (hb hby at_70) (by decide) (by decide) ?_
                                show Steps p.tables e below (T190.setTop (mkF m 74 #[.val (.int p0), .val (.int p1), .val (.int p2), .val (.int (12 : Int32)), .val (.ref s_RECALL_100), .val (.double (v0_8 p1)), .second, .val (.double (b2_7 (v0_8 p1) p2)), .second, .val (.double (b0_64 p1 p2)), .second] [(.int (1 : Int32))])) t
                                have hq198 : (b0_69 p1 p2) = (1 : Int32) := by rw [b0_69, if_pos hc196]
                                rw [hq198] at k
                                exact k
                              · refine XS.ifYes X190.here hx rfl (pc0 := 66) (pc' := 73) rfl (hb hby at_66) rfl (XT.i0_ne_t hc196) (by decide) (by decide) ?_
                                show Steps p.tables e below (T190.setTop (mkF m 73 #[.val (.int p0), .val (.int p1), .val (.int p2), .val (.int (12 : Int32)), .val (.ref s_RECALL_100), .val (.double (v0_8 p1)), .second, .val (.double (b2_7 (v0_8 p1) p2)), .second, .val (.double (b0_64 p1 p2)), .second] [])) t
                                refine XS.iconst X190.here hx rfl (hb hby at_73) ?_
                                show Steps p.tables e below (T190.setTop (mkF m 74 #[.val (.int p0), .val (.int p1), .val (.int p2), .val (.int (12 : Int32)), .val (.ref s_RECALL_100), .val (.double (v0_8 p1)), .second, .val (.double (b2_7 (v0_8 p1) p2)), .second, .val (.double (b0_64 p1 p2)), .second] [(.int (0 : Int32))])) t
                                have hq199 : (b0_69 p1 p2) = (0 : Int32) := by rw [b0_69, if_neg hc196]
                                rw [hq199] at k
                                exact k
                            obtain ⟨fs, hr, hrun, hended, hW, hsame⟩ := X190.leave (v := some (.int (b0_69 p1 p2))) (fun h => by rw [Bd.returns] at h; cases h)
                            refine ⟨_, _, go197 _ (Jvm.RoadKit.retOut X190 hx Bd.returns (own_nz (by unfold b0_69; (repeat' split) <;> first | exact Or.inl rfl | exact Or.inr rfl)) (Or.inl ⟨rfl, Or.inr (Or.inl rfl), _, rfl⟩) (hb hby at_74) hr), hrun, hended, _, _, rfl, ?_, ⟨_, rfl⟩, hW, hsame.mono (by decide) (by decide)⟩
                            show Q0 _ _ p0 p1 p2 s_NUM_Q s_NUM_RET s_NDCG_CUT_10 s_RPREC s_P_5 s_P_10 s_P_20 s_NUM_REL_RET s_RECALL_10 s_NUM_REL s_MAP s_RECIP_RANK s_BPREF s_NDCG s_RECALL_100 h0 _ (T190.setFrames fs).heap _
                            have hE : (T190.setFrames fs).heap = h0 := e190
                            rw [hE]
                            exact ⟨congrArg (fun z => some (Value.int z)) ((by rw [f0, if_neg hs3, if_neg hs17, if_neg hs29, if_neg hs41, if_neg hs53, if_neg hs72, if_neg hs88, if_neg hs104, if_neg hs120, if_neg hs136, if_neg hs152, if_neg hs168, if_pos hs184] : (b0_69 p1 p2) = (f0 p0 p1 p2)).trans (f0_one p0 p1 p2)), N190⟩
                          · by_cases hs200 : (v0_1 p0) = (13 : Int32)
                            · have go201 : ∀ t, Steps p.tables e below (s₁.setTop (mkF m 8 #[.val (.int p0), .val (.int p1), .val (.int p2), .val (.int (13 : Int32)), .unset, .unset, .unset, .unset, .unset, .unset, .unset] [])) t → Steps p.tables e below (s₁.setTop (entryFrame m #[(.int p0), (.int p1), (.int p2)] maxLocals)) t := by
                                have q := go2
                                rw [hs200] at q
                                exact q
                              have go202 : ∀ t, Steps p.tables e below (s₁.setTop (mkF m 9 #[.val (.int p0), .val (.int p1), .val (.int p2), .val (.int (13 : Int32)), .unset, .unset, .unset, .unset, .unset, .unset, .unset] [(.int (13 : Int32))])) t → Steps p.tables e below (s₁.setTop (entryFrame m #[(.int p0), (.int p1), (.int p2)] maxLocals)) t := by
                                intro t k
                                refine go201 _ ?_
                                refine XS.iloadN X0.here hx rfl (hb hby at_8) rfl ?_
                                show Steps p.tables e below (s₁.setTop (mkF m 9 #[.val (.int p0), .val (.int p1), .val (.int p2), .val (.int (13 : Int32)), .unset, .unset, .unset, .unset, .unset, .unset, .unset] [(.int (13 : Int32))])) t
                                exact k
                              obtain ⟨_, _, ⟨T203, L203, k203, n203⟩, -, X203, ⟨Lc203, hQ203, l203, y203, z203⟩, st203⟩ := Jvm.LawKit.callS X0 hx (y := (⟨"com/example/mirk/mirk/eval/MeasureOverAllPinLaw", "pick", "(I)Lcom/example/mirk/mirk/eval/Measure;"⟩ : MethodName)) hown (mvT hZ (hw _ (List.mem_of_getElem? (i := 1) rfl))) (mvT hZ (hw _ (List.mem_of_getElem? (i := 2) rfl))) (mvT hZ (hw _ (List.mem_of_getElem? (i := 3) rfl))) (mvT hZ (hw _ (List.mem_of_getElem? (i := 4) rfl))) (by decide) (backOf (W := 0) (rm1 l Z aZ hw [] (13 : Int32) s_NUM_Q s_NUM_RET s_NUM_REL s_NUM_REL_RET s_MAP s_RPREC s_BPREF s_RECIP_RANK s_P_5 s_P_10 s_P_20 s_RECALL_10 s_RECALL_100 s_NDCG s_NDCG_CUT_10 h0 n0 Z0 S_NUM_Q S_NUM_RET S_NUM_REL S_NUM_REL_RET S_MAP S_RPREC S_BPREF S_RECIP_RANK S_P_5 S_P_10 S_P_20 S_RECALL_10 S_RECALL_100 S_NDCG S_NDCG_CUT_10) hZ (hw _ (List.mem_of_getElem? (i := 4) rfl)) (hw _ (List.mem_of_getElem? (i := 3) rfl)) (by decide) (by decide)) (g := (mkF m 9 #[.val (.int p0), .val (.int p1), .val (.int p2), .val (.int (13 : Int32)), .unset, .unset, .unset, .unset, .unset, .unset, .unset] [(.int (13 : Int32))])) rfl (by rw [hml]; rfl) (argsL := [(.int (13 : Int32))]) (rest := []) (lenOf pd_89 rfl) rfl (by show 2 * 0 + _ ≤ _; exact Nat.le_of_eq rfl) (hb hby at_9) (fun _ _ => ⟨rfl, e0, (by decide : 0 + 0 ≤ _), (by decide : 0 + 0 ≤ _)⟩)
                              dsimp only [Pt.U, Pt.locs, Pt.cells, Pt.slots] at X203 l203 y203 z203 st203 hQ203
                              subst l203 y203 z203
                              obtain ⟨rfl, N203q, e203⟩ := hQ203
                              have N203 := Fr.app N0 N203q
                              have go204 : ∀ t, Steps p.tables e below (T203.setTop (mkF m 12 #[.val (.int p0), .val (.int p1), .val (.int p2), .val (.int (13 : Int32)), .unset, .unset, .unset, .unset, .unset, .unset, .unset] [(.ref s_NDCG)])) t → Steps p.tables e below (s₁.setTop (entryFrame m #[(.int p0), (.int p1), (.int p2)] maxLocals)) t := fun t k => go202 _ (st203 _ k)
                              have go205 : ∀ t, Steps p.tables e below (T203.setTop (mkF m 27 #[.val (.int p0), .val (.int p1), .val (.int p2), .val (.int (13 : Int32)), .val (.ref s_NDCG), .val (.double (v0_8 p1)), .second, .unset, .unset, .unset, .unset] [(.int p2), (.double (v0_8 p1)), (.ref s_NDCG)])) t → Steps p.tables e below (s₁.setTop (entryFrame m #[(.int p0), (.int p1), (.int p2)] maxLocals)) t := by
                                intro t k
                                refine go204 _ ?_
                                refine XS.astore X203.here hx rfl (hb hby at_12) rfl rfl (l' := #[.val (.int p0), .val (.int p1), .val (.int p2), .val (.int (13 : Int32)), .val (.ref s_NDCG), .unset, .unset, .unset, .unset, .unset, .unset]) rfl ?_
                                show Steps p.tables e below (T203.setTop (mkF m 14 #[.val (.int p0), .val (.int p1), .val (.int p2), .val (.int (13 : Int32)), .val (.ref s_NDCG), .unset, .unset, .unset, .unset, .unset, .unset] [])) t
                                refine XS.iloadN X203.here hx rfl (hb hby at_14) rfl ?_
                                show Steps p.tables e below (T203.setTop (mkF m 15 #[.val (.int p0), .val (.int p1), .val (.int p2), .val (.int (13 : Int32)), .val (.ref s_NDCG), .unset, .unset, .unset, .unset, .unset, .unset] [(.int p1)])) t
                                refine XS.i2dS X203.here hx rfl (hb hby at_15) rfl (v := (FP.i2d p1)) rfl ?_
                                show Steps p.tables e below (T203.setTop (mkF m 16 #[.val (.int p0), .val (.int p1), .val (.int p2), .val (.int (13 : Int32)), .val (.ref s_NDCG), .unset, .unset, .unset, .unset, .unset, .unset] [(.double (FP.i2d p1))])) t
                                refine X203.ldc2DoubleC hx hown (mvT hZ (hw _ (List.mem_of_getElem? (i := 8) rfl))) (g := (mkF m 16 #[.val (.int p0), .val (.int p1), .val (.int p2), .val (.int (13 : Int32)), .val (.ref s_NDCG), .unset, .unset, .unset, .unset, .unset, .unset] [(.double (FP.i2d p1))])) rfl (hb hby at_16) _ ?_
                                show Steps p.tables e below (T203.setTop (mkF m 19 #[.val (.int p0), .val (.int p1), .val (.int p2), .val (.int (13 : Int32)), .val (.ref s_NDCG), .unset, .unset, .unset, .unset, .unset, .unset] [(.double (4598175219545276416 : UInt64)), (.double (FP.i2d p1))])) t
                                refine XS.dmulS X203.here hx rfl (hb hby at_19) rfl (own_sum p1) (v := (FP.dmul (FP.i2d p1) (4598175219545276416 : UInt64))) rfl ?_
                                show Steps p.tables e below (T203.setTop (mkF m 20 #[.val (.int p0), .val (.int p1), .val (.int p2), .val (.int (13 : Int32)), .val (.ref s_NDCG), .unset, .unset, .unset, .unset, .unset, .unset] [(.double (FP.dmul (FP.i2d p1) (4598175219545276416 : UInt64)))])) t
                                show Steps p.tables e below (T203.setTop (mkF m 20 #[.val (.int p0), .val (.int p1), .val (.int p2), .val (.int (13 : Int32)), .val (.ref s_NDCG), .unset, .unset, .unset, .unset, .unset, .unset] [(.double (v0_8 p1))])) t
                                refine XS.dstore X203.here hx rfl (hb hby at_20) rfl (l' := #[.val (.int p0), .val (.int p1), .val (.int p2), .val (.int (13 : Int32)), .val (.ref s_NDCG), .val (.double (v0_8 p1)), .second, .unset, .unset, .unset, .unset]) rfl ?_
                                show Steps p.tables e below (T203.setTop (mkF m 22 #[.val (.int p0), .val (.int p1), .val (.int p2), .val (.int (13 : Int32)), .val (.ref s_NDCG), .val (.double (v0_8 p1)), .second, .unset, .unset, .unset, .unset] [])) t
                                refine XS.aload X203.here hx rfl (hb hby at_22) rfl rfl ?_
                                show Steps p.tables e below (T203.setTop (mkF m 24 #[.val (.int p0), .val (.int p1), .val (.int p2), .val (.int (13 : Int32)), .val (.ref s_NDCG), .val (.double (v0_8 p1)), .second, .unset, .unset, .unset, .unset] [(.ref s_NDCG)])) t
                                refine XS.dload X203.here hx rfl (hb hby at_24) rfl ?_
                                show Steps p.tables e below (T203.setTop (mkF m 26 #[.val (.int p0), .val (.int p1), .val (.int p2), .val (.int (13 : Int32)), .val (.ref s_NDCG), .val (.double (v0_8 p1)), .second, .unset, .unset, .unset, .unset] [(.double (v0_8 p1)), (.ref s_NDCG)])) t
                                refine XS.iloadN X203.here hx rfl (hb hby at_26) rfl ?_
                                show Steps p.tables e below (T203.setTop (mkF m 27 #[.val (.int p0), .val (.int p1), .val (.int p2), .val (.int (13 : Int32)), .val (.ref s_NDCG), .val (.double (v0_8 p1)), .second, .unset, .unset, .unset, .unset] [(.int p2), (.double (v0_8 p1)), (.ref s_NDCG)])) t
                                exact k
                              obtain ⟨cq206, kq206, q206a, q206b, q206c⟩ := isOf hZ e203 E_NDCG
                              obtain ⟨_, _, ⟨T206, L206, k206, n206⟩, -, X206, ⟨Lc206, hQ206, l206, y206, z206⟩, st206⟩ := X203.virtualBack hx (y := (⟨"com/example/mirk/mirk/eval/Measure", "overAll", "(DI)D"⟩ : MethodName)) (z := (⟨"com/example/mirk/mirk/eval/Measure", "overAll", "(DI)D"⟩ : MethodName)) hown (mvT hZ (hw _ (List.mem_of_getElem? (i := 9) rfl))) (mvT hZ (hw _ (List.mem_of_getElem? (i := 10) rfl))) (notFace_of_selects (args := #[]) (mvT hZ (hw _ (List.mem_of_getElem? (i := 12) rfl)))) (mvT hZ (hw _ (List.mem_of_getElem? (i := 12) rfl))) (mvT hZ (hw _ (List.mem_of_getElem? (i := 11) rfl))) (by decide) (backOf (W := 0) (rm2 l Z aZ hw [] s_NDCG (v0_8 p1) p2 (0 : Int32) h0 n0 Z0 F_NDCG_count (own_sum p1)) hZ (hw _ (List.mem_of_getElem? (i := 13) rfl)) (hw _ (List.mem_of_getElem? (i := 6) rfl)) (by decide) (by decide)) q206a q206c (g := (mkF m 27 #[.val (.int p0), .val (.int p1), .val (.int p2), .val (.int (13 : Int32)), .val (.ref s_NDCG), .val (.double (v0_8 p1)), .second, .unset, .unset, .unset, .unset] [(.int p2), (.double (v0_8 p1)), (.ref s_NDCG)])) rfl (by rw [hml]; rfl) (Steps.refl _) (argsL := [(.double (v0_8 p1)), (.int p2)]) (rest := []) (lenOf pd_91 rfl) rfl (by show 2 * 0 + _ ≤ _; exact Nat.le_of_eq rfl) (hb hby at_27) (fun _ _ => ⟨rfl, e203, (by decide : 0 + 0 ≤ _), (by decide : 0 + 0 ≤ _)⟩)
                              dsimp only [Pt.U, Pt.locs, Pt.cells, Pt.slots] at X206 l206 y206 z206 st206 hQ206
                              subst l206 y206 z206
                              obtain ⟨rfl, N206q, e206⟩ := hQ206
                              have N206 := Fr.app N203 N206q
                              have go207 : ∀ t, Steps p.tables e below (T206.setTop (mkF m 30 #[.val (.int p0), .val (.int p1), .val (.int p2), .val (.int (13 : Int32)), .val (.ref s_NDCG), .val (.double (v0_8 p1)), .second, .unset, .unset, .unset, .unset] [(.double (b2_7 (v0_8 p1) p2))])) t → Steps p.tables e below (s₁.setTop (entryFrame m #[(.int p0), (.int p1), (.int p2)] maxLocals)) t := fun t k => go205 _ (st206.trans k)
                              have go209 : ∀ t, Steps p.tables e below (T206.setTop (mkF m 61 #[.val (.int p0), .val (.int p1), .val (.int p2), .val (.int (13 : Int32)), .val (.ref s_NDCG), .val (.double (v0_8 p1)), .second, .val (.double (b2_7 (v0_8 p1) p2)), .second, .val (.double (b0_64 p1 p2)), .second] [])) t → Steps p.tables e below (s₁.setTop (entryFrame m #[(.int p0), (.int p1), (.int p2)] maxLocals)) t := by
                                intro t k
                                refine go207 _ ?_
                                refine XS.dstore X206.here hx rfl (hb hby at_30) rfl (l' := #[.val (.int p0), .val (.int p1), .val (.int p2), .val (.int (13 : Int32)), .val (.ref s_NDCG), .val (.double (v0_8 p1)), .second, .val (.double (b2_7 (v0_8 p1) p2)), .second, .unset, .unset]) rfl ?_
                                show Steps p.tables e below (T206.setTop (mkF m 32 #[.val (.int p0), .val (.int p1), .val (.int p2), .val (.int (13 : Int32)), .val (.ref s_NDCG), .val (.double (v0_8 p1)), .second, .val (.double (b2_7 (v0_8 p1) p2)), .second, .unset, .unset] [])) t
                                refine XS.iloadN X206.here hx rfl (hb hby at_32) rfl ?_
                                show Steps p.tables e below (T206.setTop (mkF m 33 #[.val (.int p0), .val (.int p1), .val (.int p2), .val (.int (13 : Int32)), .val (.ref s_NDCG), .val (.double (v0_8 p1)), .second, .val (.double (b2_7 (v0_8 p1) p2)), .second, .unset, .unset] [(.int (13 : Int32))])) t
                                refine XS.iconst X206.here hx rfl (hb hby at_33) ?_
                                show Steps p.tables e below (T206.setTop (mkF m 34 #[.val (.int p0), .val (.int p1), .val (.int p2), .val (.int (13 : Int32)), .val (.ref s_NDCG), .val (.double (v0_8 p1)), .second, .val (.double (b2_7 (v0_8 p1) p2)), .second, .unset, .unset] [(.int (4 : Int32)), (.int (13 : Int32))])) t
                                refine XS.icmpYes X206.here hx rfl (pc0 := 34) (pc' := 44) rfl (hb hby at_34) rfl (XT.ii_ge_t (by decide : ¬ ((13 : Int32) < (4 : Int32)))) (by decide) (by decide) ?_
                                show Steps p.tables e below (T206.setTop (mkF m 44 #[.val (.int p0), .val (.int p1), .val (.int p2), .val (.int (13 : Int32)), .val (.ref s_NDCG), .val (.double (v0_8 p1)), .second, .val (.double (b2_7 (v0_8 p1) p2)), .second, .unset, .unset] [])) t
                                refine XS.iloadN X206.here hx rfl (hb hby at_44) rfl ?_
                                show Steps p.tables e below (T206.setTop (mkF m 45 #[.val (.int p0), .val (.int p1), .val (.int p2), .val (.int (13 : Int32)), .val (.ref s_NDCG), .val (.double (v0_8 p1)), .second, .val (.double (b2_7 (v0_8 p1) p2)), .second, .unset, .unset] [(.int p2)])) t
                                by_cases hc208 : p2 = (0 : Int32)
                                · refine XS.ifNo X206.here hx rfl (hb hby at_45) rfl (XT.i0_ne_f hc208) ?_
                                  show Steps p.tables e below (T206.setTop (mkF m 48 #[.val (.int p0), .val (.int p1), .val (.int p2), .val (.int (13 : Int32)), .val (.ref s_NDCG), .val (.double (v0_8 p1)), .second, .val (.double (b2_7 (v0_8 p1) p2)), .second, .unset, .unset] [])) t
                                  refine XS.dconst0 X206.here hx rfl (hb hby at_48) (v := FP.dconst0) rfl ?_
                                  show Steps p.tables e below (T206.setTop (mkF m 49 #[.val (.int p0), .val (.int p1), .val (.int p2), .val (.int (13 : Int32)), .val (.ref s_NDCG), .val (.double (v0_8 p1)), .second, .val (.double (b2_7 (v0_8 p1) p2)), .second, .unset, .unset] [(.double FP.dconst0)])) t
                                  refine XS.dstore X206.here hx rfl (hb hby at_49) rfl (l' := #[.val (.int p0), .val (.int p1), .val (.int p2), .val (.int (13 : Int32)), .val (.ref s_NDCG), .val (.double (v0_8 p1)), .second, .val (.double (b2_7 (v0_8 p1) p2)), .second, .val (.double FP.dconst0), .second]) rfl ?_
                                  show Steps p.tables e below (T206.setTop (mkF m 51 #[.val (.int p0), .val (.int p1), .val (.int p2), .val (.int (13 : Int32)), .val (.ref s_NDCG), .val (.double (v0_8 p1)), .second, .val (.double (b2_7 (v0_8 p1) p2)), .second, .val (.double FP.dconst0), .second] [])) t
                                  refine XS.goto X206.here hx rfl (pc0 := 51) (pc' := 61) rfl (hb hby at_51) (by decide) (by decide) ?_
                                  show Steps p.tables e below (T206.setTop (mkF m 61 #[.val (.int p0), .val (.int p1), .val (.int p2), .val (.int (13 : Int32)), .val (.ref s_NDCG), .val (.double (v0_8 p1)), .second, .val (.double (b2_7 (v0_8 p1) p2)), .second, .val (.double FP.dconst0), .second] [])) t
                                  have hq210 : (b0_64 p1 p2) = FP.dconst0 := by rw [b0_64, if_pos hc208]
                                  rw [hq210] at k
                                  exact k
                                · refine XS.ifYes X206.here hx rfl (pc0 := 45) (pc' := 54) rfl (hb hby at_45) rfl (XT.i0_ne_t hc208) (by decide) (by decide) ?_
                                  show Steps p.tables e below (T206.setTop (mkF m 54 #[.val (.int p0), .val (.int p1), .val (.int p2), .val (.int (13 : Int32)), .val (.ref s_NDCG), .val (.double (v0_8 p1)), .second, .val (.double (b2_7 (v0_8 p1) p2)), .second, .unset, .unset] [])) t
                                  refine XS.dload X206.here hx rfl (hb hby at_54) rfl ?_
                                  show Steps p.tables e below (T206.setTop (mkF m 56 #[.val (.int p0), .val (.int p1), .val (.int p2), .val (.int (13 : Int32)), .val (.ref s_NDCG), .val (.double (v0_8 p1)), .second, .val (.double (b2_7 (v0_8 p1) p2)), .second, .unset, .unset] [(.double (v0_8 p1))])) t
                                  refine XS.iloadN X206.here hx rfl (hb hby at_56) rfl ?_
                                  show Steps p.tables e below (T206.setTop (mkF m 57 #[.val (.int p0), .val (.int p1), .val (.int p2), .val (.int (13 : Int32)), .val (.ref s_NDCG), .val (.double (v0_8 p1)), .second, .val (.double (b2_7 (v0_8 p1) p2)), .second, .unset, .unset] [(.int p2), (.double (v0_8 p1))])) t
                                  refine XS.i2dS X206.here hx rfl (hb hby at_57) rfl (v := (FP.i2d p2)) rfl ?_
                                  show Steps p.tables e below (T206.setTop (mkF m 58 #[.val (.int p0), .val (.int p1), .val (.int p2), .val (.int (13 : Int32)), .val (.ref s_NDCG), .val (.double (v0_8 p1)), .second, .val (.double (b2_7 (v0_8 p1) p2)), .second, .unset, .unset] [(.double (FP.i2d p2)), (.double (v0_8 p1))])) t
                                  refine XS.ddivS X206.here hx rfl (hb hby at_58) rfl (own_quo (own_sum p1) hc208) (v := (FP.ddiv (v0_8 p1) (FP.i2d p2))) rfl ?_
                                  show Steps p.tables e below (T206.setTop (mkF m 59 #[.val (.int p0), .val (.int p1), .val (.int p2), .val (.int (13 : Int32)), .val (.ref s_NDCG), .val (.double (v0_8 p1)), .second, .val (.double (b2_7 (v0_8 p1) p2)), .second, .unset, .unset] [(.double (FP.ddiv (v0_8 p1) (FP.i2d p2)))])) t
                                  show Steps p.tables e below (T206.setTop (mkF m 59 #[.val (.int p0), .val (.int p1), .val (.int p2), .val (.int (13 : Int32)), .val (.ref s_NDCG), .val (.double (v0_8 p1)), .second, .val (.double (b2_7 (v0_8 p1) p2)), .second, .unset, .unset] [(.double (v0_62 p1 p2))])) t
                                  refine XS.dstore X206.here hx rfl (hb hby at_59) rfl (l' := #[.val (.int p0), .val (.int p1), .val (.int p2), .val (.int (13 : Int32)), .val (.ref s_NDCG), .val (.double (v0_8 p1)), .second, .val (.double (b2_7 (v0_8 p1) p2)), .second, .val (.double (v0_62 p1 p2)), .second]) rfl ?_
                                  show Steps p.tables e below (T206.setTop (mkF m 61 #[.val (.int p0), .val (.int p1), .val (.int p2), .val (.int (13 : Int32)), .val (.ref s_NDCG), .val (.double (v0_8 p1)), .second, .val (.double (b2_7 (v0_8 p1) p2)), .second, .val (.double (v0_62 p1 p2)), .second] [])) t
                                  have hq211 : (b0_64 p1 p2) = (v0_62 p1 p2) := by rw [b0_64, if_neg hc208]
                                  rw [hq211] at k
                                  exact k
                              have go213 : ∀ t, Steps p.tables e below (T206.setTop (mkF m 74 #[.val (.int p0), .val (.int p1), .val (.int p2), .val (.int (13 : Int32)), .val (.ref s_NDCG), .val (.double (v0_8 p1)), .second, .val (.double (b2_7 (v0_8 p1) p2)), .second, .val (.double (b0_64 p1 p2)), .second] [(.int (b0_69 p1 p2))])) t → Steps p.tables e below (s₁.setTop (entryFrame m #[(.int p0), (.int p1), (.int p2)] maxLocals)) t := by
                                intro t k
                                refine go209 _ ?_
                                refine XS.dload X206.here hx rfl (hb hby at_61) rfl ?_
                                show Steps p.tables e below (T206.setTop (mkF m 63 #[.val (.int p0), .val (.int p1), .val (.int p2), .val (.int (13 : Int32)), .val (.ref s_NDCG), .val (.double (v0_8 p1)), .second, .val (.double (b2_7 (v0_8 p1) p2)), .second, .val (.double (b0_64 p1 p2)), .second] [(.double (b2_7 (v0_8 p1) p2))])) t
                                refine XS.dload X206.here hx rfl (hb hby at_63) rfl ?_
                                show Steps p.tables e below (T206.setTop (mkF m 65 #[.val (.int p0), .val (.int p1), .val (.int p2), .val (.int (13 : Int32)), .val (.ref s_NDCG), .val (.double (v0_8 p1)), .second, .val (.double (b2_7 (v0_8 p1) p2)), .second, .val (.double (b0_64 p1 p2)), .second] [(.double (b0_64 p1 p2)), (.double (b2_7 (v0_8 p1) p2))])) t
                                refine XS.dcmpS X206.here hx rfl (hb hby at_65) rfl (v := (cmpValue (FP.dcmp (b2_7 (v0_8 p1) p2) (b0_64 p1 p2)) .l)) rfl ?_
                                show Steps p.tables e below (T206.setTop (mkF m 66 #[.val (.int p0), .val (.int p1), .val (.int p2), .val (.int (13 : Int32)), .val (.ref s_NDCG), .val (.double (v0_8 p1)), .second, .val (.double (b2_7 (v0_8 p1) p2)), .second, .val (.double (b0_64 p1 p2)), .second] [(.int (cmpValue (FP.dcmp (b2_7 (v0_8 p1) p2) (b0_64 p1 p2)) .l))])) t
                                by_cases hc212 : (cmpValue (FP.dcmp (b2_7 (v0_8 p1) p2) (b0_64 p1 p2)) .l) = (0 : Int32)
                                · refine XS.ifNo X206.here hx rfl (hb hby at_66) rfl (XT.i0_ne_f hc212) ?_
                                  show Steps p.tables e below (T206.setTop (mkF m 69 #[.val (.int p0), .val (.int p1), .val (.int p2), .val (.int (13 : Int32)), .val (.ref s_NDCG), .val (.double (v0_8 p1)), .second, .val (.double (b2_7 (v0_8 p1) p2)), .second, .val (.double (b0_64 p1 p2)), .second] [])) t
                                  refine XS.iconst X206.here hx rfl (hb hby at_69) ?_
                                  show Steps p.tables e below (T206.setTop (mkF m 70 #[.val (.int p0), .val (.int p1), .val (.int p2), .val (.int (13 : Int32)), .val (.ref s_NDCG), .val (.double (v0_8 p1)), .second, .val (.double (b2_7 (v0_8 p1) p2)), .second, .val (.double (b0_64 p1 p2)), .second] [(.int (1 : Int32))])) t
                                  refine XS.goto X206.here hx rfl (pc0 := 70) (pc' := 74) rfl (hb hby at_70) (by decide) (by decide) ?_
                                  show Steps p.tables e below (T206.setTop (mkF m 74 #[.val (.int p0), .val (.int p1), .val (.int p2), .val (.int (13 : Int32)), .val (.ref s_NDCG), .val (.double (v0_8 p1)), .second, .val (.double (b2_7 (v0_8 p1) p2)), .second, .val (.double (b0_64 p1 p2)), .second] [(.int (1 : Int32))])) t
                                  have hq214 : (b0_69 p1 p2) = (1 : Int32) := by rw [b0_69, if_pos hc212]
                                  rw [hq214] at k
                                  exact k
                                · refine XS.ifYes X206.here hx rfl (pc0 := 66) (pc' := 73) rfl (hb hby at_66) rfl (XT.i0_ne_t hc212) (by decide) (by decide) ?_
                                  show Steps p.tables e below (T206.setTop (mkF m 73 #[.val (.int p0), .val (.int p1), .val (.int p2), .val (.int (13 : Int32)), .val (.ref s_NDCG), .val (.double (v0_8 p1)), .second, .val (.double (b2_7 (v0_8 p1) p2)), .second, .val (.double (b0_64 p1 p2)), .second] [])) t
                                  refine XS.iconst X206.here hx rfl (hb hby at_73) ?_
                                  show Steps p.tables e below (T206.setTop (mkF m 74 #[.val (.int p0), .val (.int p1), .val (.int p2), .val (.int (13 : Int32)), .val (.ref s_NDCG), .val (.double (v0_8 p1)), .second, .val (.double (b2_7 (v0_8 p1) p2)), .second, .val (.double (b0_64 p1 p2)), .second] [(.int (0 : Int32))])) t
                                  have hq215 : (b0_69 p1 p2) = (0 : Int32) := by rw [b0_69, if_neg hc212]
                                  rw [hq215] at k
                                  exact k
                              obtain ⟨fs, hr, hrun, hended, hW, hsame⟩ := X206.leave (v := some (.int (b0_69 p1 p2))) (fun h => by rw [Bd.returns] at h; cases h)
                              refine ⟨_, _, go213 _ (Jvm.RoadKit.retOut X206 hx Bd.returns (own_nz (by unfold b0_69; (repeat' split) <;> first | exact Or.inl rfl | exact Or.inr rfl)) (Or.inl ⟨rfl, Or.inr (Or.inl rfl), _, rfl⟩) (hb hby at_74) hr), hrun, hended, _, _, rfl, ?_, ⟨_, rfl⟩, hW, hsame.mono (by decide) (by decide)⟩
                              show Q0 _ _ p0 p1 p2 s_NUM_Q s_NUM_RET s_NDCG_CUT_10 s_RPREC s_P_5 s_P_10 s_P_20 s_NUM_REL_RET s_RECALL_10 s_NUM_REL s_MAP s_RECIP_RANK s_BPREF s_NDCG s_RECALL_100 h0 _ (T206.setFrames fs).heap _
                              have hE : (T206.setFrames fs).heap = h0 := e206
                              rw [hE]
                              exact ⟨congrArg (fun z => some (Value.int z)) ((by rw [f0, if_neg hs3, if_neg hs17, if_neg hs29, if_neg hs41, if_neg hs53, if_neg hs72, if_neg hs88, if_neg hs104, if_neg hs120, if_neg hs136, if_neg hs152, if_neg hs168, if_neg hs184, if_pos hs200] : (b0_69 p1 p2) = (f0 p0 p1 p2)).trans (f0_one p0 p1 p2)), N206⟩
                            · by_cases hs216 : (v0_1 p0) = (14 : Int32)
                              · have go217 : ∀ t, Steps p.tables e below (s₁.setTop (mkF m 8 #[.val (.int p0), .val (.int p1), .val (.int p2), .val (.int (14 : Int32)), .unset, .unset, .unset, .unset, .unset, .unset, .unset] [])) t → Steps p.tables e below (s₁.setTop (entryFrame m #[(.int p0), (.int p1), (.int p2)] maxLocals)) t := by
                                  have q := go2
                                  rw [hs216] at q
                                  exact q
                                have go218 : ∀ t, Steps p.tables e below (s₁.setTop (mkF m 9 #[.val (.int p0), .val (.int p1), .val (.int p2), .val (.int (14 : Int32)), .unset, .unset, .unset, .unset, .unset, .unset, .unset] [(.int (14 : Int32))])) t → Steps p.tables e below (s₁.setTop (entryFrame m #[(.int p0), (.int p1), (.int p2)] maxLocals)) t := by
                                  intro t k
                                  refine go217 _ ?_
                                  refine XS.iloadN X0.here hx rfl (hb hby at_8) rfl ?_
                                  show Steps p.tables e below (s₁.setTop (mkF m 9 #[.val (.int p0), .val (.int p1), .val (.int p2), .val (.int (14 : Int32)), .unset, .unset, .unset, .unset, .unset, .unset, .unset] [(.int (14 : Int32))])) t
                                  exact k
                                obtain ⟨_, _, ⟨T219, L219, k219, n219⟩, -, X219, ⟨Lc219, hQ219, l219, y219, z219⟩, st219⟩ := Jvm.LawKit.callS X0 hx (y := (⟨"com/example/mirk/mirk/eval/MeasureOverAllPinLaw", "pick", "(I)Lcom/example/mirk/mirk/eval/Measure;"⟩ : MethodName)) hown (mvT hZ (hw _ (List.mem_of_getElem? (i := 1) rfl))) (mvT hZ (hw _ (List.mem_of_getElem? (i := 2) rfl))) (mvT hZ (hw _ (List.mem_of_getElem? (i := 3) rfl))) (mvT hZ (hw _ (List.mem_of_getElem? (i := 4) rfl))) (by decide) (backOf (W := 0) (rm1 l Z aZ hw [] (14 : Int32) s_NUM_Q s_NUM_RET s_NUM_REL s_NUM_REL_RET s_MAP s_RPREC s_BPREF s_RECIP_RANK s_P_5 s_P_10 s_P_20 s_RECALL_10 s_RECALL_100 s_NDCG s_NDCG_CUT_10 h0 n0 Z0 S_NUM_Q S_NUM_RET S_NUM_REL S_NUM_REL_RET S_MAP S_RPREC S_BPREF S_RECIP_RANK S_P_5 S_P_10 S_P_20 S_RECALL_10 S_RECALL_100 S_NDCG S_NDCG_CUT_10) hZ (hw _ (List.mem_of_getElem? (i := 4) rfl)) (hw _ (List.mem_of_getElem? (i := 3) rfl)) (by decide) (by decide)) (g := (mkF m 9 #[.val (.int p0), .val (.int p1), .val (.int p2), .val (.int (14 : Int32)), .unset, .unset, .unset, .unset, .unset, .unset, .unset] [(.int (14 : Int32))])) rfl (by rw [hml]; rfl) (argsL := [(.int (14 : Int32))]) (rest := []) (lenOf pd_89 rfl) rfl (by show 2 * 0 + _ ≤ _; exact Nat.le_of_eq rfl) (hb hby at_9) (fun _ _ => ⟨rfl, e0, (by decide : 0 + 0 ≤ _), (by decide : 0 + 0 ≤ _)⟩)
                                dsimp only [Pt.U, Pt.locs, Pt.cells, Pt.slots] at X219 l219 y219 z219 st219 hQ219
                                subst l219 y219 z219
                                obtain ⟨rfl, N219q, e219⟩ := hQ219
                                have N219 := Fr.app N0 N219q
                                have go220 : ∀ t, Steps p.tables e below (T219.setTop (mkF m 12 #[.val (.int p0), .val (.int p1), .val (.int p2), .val (.int (14 : Int32)), .unset, .unset, .unset, .unset, .unset, .unset, .unset] [(.ref s_NDCG_CUT_10)])) t → Steps p.tables e below (s₁.setTop (entryFrame m #[(.int p0), (.int p1), (.int p2)] maxLocals)) t := fun t k => go218 _ (st219 _ k)
                                have go221 : ∀ t, Steps p.tables e below (T219.setTop (mkF m 27 #[.val (.int p0), .val (.int p1), .val (.int p2), .val (.int (14 : Int32)), .val (.ref s_NDCG_CUT_10), .val (.double (v0_8 p1)), .second, .unset, .unset, .unset, .unset] [(.int p2), (.double (v0_8 p1)), (.ref s_NDCG_CUT_10)])) t → Steps p.tables e below (s₁.setTop (entryFrame m #[(.int p0), (.int p1), (.int p2)] maxLocals)) t := by
                                  intro t k
                                  refine go220 _ ?_
                                  refine XS.astore X219.here hx rfl (hb hby at_12) rfl rfl (l' := #[.val (.int p0), .val (.int p1), .val (.int p2), .val (.int (14 : Int32)), .val (.ref s_NDCG_CUT_10), .unset, .unset, .unset, .unset, .unset, .unset]) rfl ?_
                                  show Steps p.tables e below (T219.setTop (mkF m 14 #[.val (.int p0), .val (.int p1), .val (.int p2), .val (.int (14 : Int32)), .val (.ref s_NDCG_CUT_10), .unset, .unset, .unset, .unset, .unset, .unset] [])) t
                                  refine XS.iloadN X219.here hx rfl (hb hby at_14) rfl ?_
                                  show Steps p.tables e below (T219.setTop (mkF m 15 #[.val (.int p0), .val (.int p1), .val (.int p2), .val (.int (14 : Int32)), .val (.ref s_NDCG_CUT_10), .unset, .unset, .unset, .unset, .unset, .unset] [(.int p1)])) t
                                  refine XS.i2dS X219.here hx rfl (hb hby at_15) rfl (v := (FP.i2d p1)) rfl ?_
                                  show Steps p.tables e below (T219.setTop (mkF m 16 #[.val (.int p0), .val (.int p1), .val (.int p2), .val (.int (14 : Int32)), .val (.ref s_NDCG_CUT_10), .unset, .unset, .unset, .unset, .unset, .unset] [(.double (FP.i2d p1))])) t
                                  refine X219.ldc2DoubleC hx hown (mvT hZ (hw _ (List.mem_of_getElem? (i := 8) rfl))) (g := (mkF m 16 #[.val (.int p0), .val (.int p1), .val (.int p2), .val (.int (14 : Int32)), .val (.ref s_NDCG_CUT_10), .unset, .unset, .unset, .unset, .unset, .unset] [(.double (FP.i2d p1))])) rfl (hb hby at_16) _ ?_
                                  show Steps p.tables e below (T219.setTop (mkF m 19 #[.val (.int p0), .val (.int p1), .val (.int p2), .val (.int (14 : Int32)), .val (.ref s_NDCG_CUT_10), .unset, .unset, .unset, .unset, .unset, .unset] [(.double (4598175219545276416 : UInt64)), (.double (FP.i2d p1))])) t
                                  refine XS.dmulS X219.here hx rfl (hb hby at_19) rfl (own_sum p1) (v := (FP.dmul (FP.i2d p1) (4598175219545276416 : UInt64))) rfl ?_
                                  show Steps p.tables e below (T219.setTop (mkF m 20 #[.val (.int p0), .val (.int p1), .val (.int p2), .val (.int (14 : Int32)), .val (.ref s_NDCG_CUT_10), .unset, .unset, .unset, .unset, .unset, .unset] [(.double (FP.dmul (FP.i2d p1) (4598175219545276416 : UInt64)))])) t
                                  show Steps p.tables e below (T219.setTop (mkF m 20 #[.val (.int p0), .val (.int p1), .val (.int p2), .val (.int (14 : Int32)), .val (.ref s_NDCG_CUT_10), .unset, .unset, .unset, .unset, .unset, .unset] [(.double (v0_8 p1))])) t
                                  refine XS.dstore X219.here hx rfl (hb hby at_20) rfl (l' := #[.val (.int p0), .val (.int p1), .val (.int p2), .val (.int (14 : Int32)), .val (.ref s_NDCG_CUT_10), .val (.double (v0_8 p1)), .second, .unset, .unset, .unset, .unset]) rfl ?_
                                  show Steps p.tables e below (T219.setTop (mkF m 22 #[.val (.int p0), .val (.int p1), .val (.int p2), .val (.int (14 : Int32)), .val (.ref s_NDCG_CUT_10), .val (.double (v0_8 p1)), .second, .unset, .unset, .unset, .unset] [])) t
                                  refine XS.aload X219.here hx rfl (hb hby at_22) rfl rfl ?_
                                  show Steps p.tables e below (T219.setTop (mkF m 24 #[.val (.int p0), .val (.int p1), .val (.int p2), .val (.int (14 : Int32)), .val (.ref s_NDCG_CUT_10), .val (.double (v0_8 p1)), .second, .unset, .unset, .unset, .unset] [(.ref s_NDCG_CUT_10)])) t
                                  refine XS.dload X219.here hx rfl (hb hby at_24) rfl ?_
                                  show Steps p.tables e below (T219.setTop (mkF m 26 #[.val (.int p0), .val (.int p1), .val (.int p2), .val (.int (14 : Int32)), .val (.ref s_NDCG_CUT_10), .val (.double (v0_8 p1)), .second, .unset, .unset, .unset, .unset] [(.double (v0_8 p1)), (.ref s_NDCG_CUT_10)])) t
                                  refine XS.iloadN X219.here hx rfl (hb hby at_26) rfl ?_
                                  show Steps p.tables e below (T219.setTop (mkF m 27 #[.val (.int p0), .val (.int p1), .val (.int p2), .val (.int (14 : Int32)), .val (.ref s_NDCG_CUT_10), .val (.double (v0_8 p1)), .second, .unset, .unset, .unset, .unset] [(.int p2), (.double (v0_8 p1)), (.ref s_NDCG_CUT_10)])) t
                                  exact k
                                obtain ⟨cq222, kq222, q222a, q222b, q222c⟩ := isOf hZ e219 E_NDCG_CUT_10
                                obtain ⟨_, _, ⟨T222, L222, k222, n222⟩, -, X222, ⟨Lc222, hQ222, l222, y222, z222⟩, st222⟩ := X219.virtualBack hx (y := (⟨"com/example/mirk/mirk/eval/Measure", "overAll", "(DI)D"⟩ : MethodName)) (z := (⟨"com/example/mirk/mirk/eval/Measure", "overAll", "(DI)D"⟩ : MethodName)) hown (mvT hZ (hw _ (List.mem_of_getElem? (i := 9) rfl))) (mvT hZ (hw _ (List.mem_of_getElem? (i := 10) rfl))) (notFace_of_selects (args := #[]) (mvT hZ (hw _ (List.mem_of_getElem? (i := 12) rfl)))) (mvT hZ (hw _ (List.mem_of_getElem? (i := 12) rfl))) (mvT hZ (hw _ (List.mem_of_getElem? (i := 11) rfl))) (by decide) (backOf (W := 0) (rm2 l Z aZ hw [] s_NDCG_CUT_10 (v0_8 p1) p2 (0 : Int32) h0 n0 Z0 F_NDCG_CUT_10_count (own_sum p1)) hZ (hw _ (List.mem_of_getElem? (i := 13) rfl)) (hw _ (List.mem_of_getElem? (i := 6) rfl)) (by decide) (by decide)) q222a q222c (g := (mkF m 27 #[.val (.int p0), .val (.int p1), .val (.int p2), .val (.int (14 : Int32)), .val (.ref s_NDCG_CUT_10), .val (.double (v0_8 p1)), .second, .unset, .unset, .unset, .unset] [(.int p2), (.double (v0_8 p1)), (.ref s_NDCG_CUT_10)])) rfl (by rw [hml]; rfl) (Steps.refl _) (argsL := [(.double (v0_8 p1)), (.int p2)]) (rest := []) (lenOf pd_91 rfl) rfl (by show 2 * 0 + _ ≤ _; exact Nat.le_of_eq rfl) (hb hby at_27) (fun _ _ => ⟨rfl, e219, (by decide : 0 + 0 ≤ _), (by decide : 0 + 0 ≤ _)⟩)
                                dsimp only [Pt.U, Pt.locs, Pt.cells, Pt.slots] at X222 l222 y222 z222 st222 hQ222
                                subst l222 y222 z222
                                obtain ⟨rfl, N222q, e222⟩ := hQ222
                                have N222 := Fr.app N219 N222q
                                have go223 : ∀ t, Steps p.tables e below (T222.setTop (mkF m 30 #[.val (.int p0), .val (.int p1), .val (.int p2), .val (.int (14 : Int32)), .val (.ref s_NDCG_CUT_10), .val (.double (v0_8 p1)), .second, .unset, .unset, .unset, .unset] [(.double (b2_7 (v0_8 p1) p2))])) t → Steps p.tables e below (s₁.setTop (entryFrame m #[(.int p0), (.int p1), (.int p2)] maxLocals)) t := fun t k => go221 _ (st222.trans k)
                                have go225 : ∀ t, Steps p.tables e below (T222.setTop (mkF m 61 #[.val (.int p0), .val (.int p1), .val (.int p2), .val (.int (14 : Int32)), .val (.ref s_NDCG_CUT_10), .val (.double (v0_8 p1)), .second, .val (.double (b2_7 (v0_8 p1) p2)), .second, .val (.double (b0_64 p1 p2)), .second] [])) t → Steps p.tables e below (s₁.setTop (entryFrame m #[(.int p0), (.int p1), (.int p2)] maxLocals)) t := by
                                  intro t k
                                  refine go223 _ ?_
                                  refine XS.dstore X222.here hx rfl (hb hby at_30) rfl (l' := #[.val (.int p0), .val (.int p1), .val (.int p2), .val (.int (14 : Int32)), .val (.ref s_NDCG_CUT_10), .val (.double (v0_8 p1)), .second, .val (.double (b2_7 (v0_8 p1) p2)), .second, .unset, .unset]) rfl ?_
                                  show Steps p.tables e below (T222.setTop (mkF m 32 #[.val (.int p0), .val (.int p1), .val (.int p2), .val (.int (14 : Int32)), .val (.ref s_NDCG_CUT_10), .val (.double (v0_8 p1)), .second, .val (.double (b2_7 (v0_8 p1) p2)), .second, .unset, .unset] [])) t
                                  refine XS.iloadN X222.here hx rfl (hb hby at_32) rfl ?_
                                  show Steps p.tables e below (T222.setTop (mkF m 33 #[.val (.int p0), .val (.int p1), .val (.int p2), .val (.int (14 : Int32)), .val (.ref s_NDCG_CUT_10), .val (.double (v0_8 p1)), .second, .val (.double (b2_7 (v0_8 p1) p2)), .second, .unset, .unset] [(.int (14 : Int32))])) t
                                  refine XS.iconst X222.here hx rfl (hb hby at_33) ?_
                                  show Steps p.tables e below (T222.setTop (mkF m 34 #[.val (.int p0), .val (.int p1), .val (.int p2), .val (.int (14 : Int32)), .val (.ref s_NDCG_CUT_10), .val (.double (v0_8 p1)), .second, .val (.double (b2_7 (v0_8 p1) p2)), .second, .unset, .unset] [(.int (4 : Int32)), (.int (14 : Int32))])) t
                                  refine XS.icmpYes X222.here hx rfl (pc0 := 34) (pc' := 44) rfl (hb hby at_34) rfl (XT.ii_ge_t (by decide : ¬ ((14 : Int32) < (4 : Int32)))) (by decide) (by decide) ?_
                                  show Steps p.tables e below (T222.setTop (mkF m 44 #[.val (.int p0), .val (.int p1), .val (.int p2), .val (.int (14 : Int32)), .val (.ref s_NDCG_CUT_10), .val (.double (v0_8 p1)), .second, .val (.double (b2_7 (v0_8 p1) p2)), .second, .unset, .unset] [])) t
                                  refine XS.iloadN X222.here hx rfl (hb hby at_44) rfl ?_
                                  show Steps p.tables e below (T222.setTop (mkF m 45 #[.val (.int p0), .val (.int p1), .val (.int p2), .val (.int (14 : Int32)), .val (.ref s_NDCG_CUT_10), .val (.double (v0_8 p1)), .second, .val (.double (b2_7 (v0_8 p1) p2)), .second, .unset, .unset] [(.int p2)])) t
                                  by_cases hc224 : p2 = (0 : Int32)
                                  · refine XS.ifNo X222.here hx rfl (hb hby at_45) rfl (XT.i0_ne_f hc224) ?_
                                    show Steps p.tables e below (T222.setTop (mkF m 48 #[.val (.int p0), .val (.int p1), .val (.int p2), .val (.int (14 : Int32)), .val (.ref s_NDCG_CUT_10), .val (.double (v0_8 p1)), .second, .val (.double (b2_7 (v0_8 p1) p2)), .second, .unset, .unset] [])) t
                                    refine XS.dconst0 X222.here hx rfl (hb hby at_48) (v := FP.dconst0) rfl ?_
                                    show Steps p.tables e below (T222.setTop (mkF m 49 #[.val (.int p0), .val (.int p1), .val (.int p2), .val (.int (14 : Int32)), .val (.ref s_NDCG_CUT_10), .val (.double (v0_8 p1)), .second, .val (.double (b2_7 (v0_8 p1) p2)), .second, .unset, .unset] [(.double FP.dconst0)])) t
                                    refine XS.dstore X222.here hx rfl (hb hby at_49) rfl (l' := #[.val (.int p0), .val (.int p1), .val (.int p2), .val (.int (14 : Int32)), .val (.ref s_NDCG_CUT_10), .val (.double (v0_8 p1)), .second, .val (.double (b2_7 (v0_8 p1) p2)), .second, .val (.double FP.dconst0), .second]) rfl ?_
                                    show Steps p.tables e below (T222.setTop (mkF m 51 #[.val (.int p0), .val (.int p1), .val (.int p2), .val (.int (14 : Int32)), .val (.ref s_NDCG_CUT_10), .val (.double (v0_8 p1)), .second, .val (.double (b2_7 (v0_8 p1) p2)), .second, .val (.double FP.dconst0), .second] [])) t
                                    refine XS.goto X222.here hx rfl (pc0 := 51) (pc' := 61) rfl (hb hby at_51) (by decide) (by decide) ?_
                                    show Steps p.tables e below (T222.setTop (mkF m 61 #[.val (.int p0), .val (.int p1), .val (.int p2), .val (.int (14 : Int32)), .val (.ref s_NDCG_CUT_10), .val (.double (v0_8 p1)), .second, .val (.double (b2_7 (v0_8 p1) p2)), .second, .val (.double FP.dconst0), .second] [])) t
                                    have hq226 : (b0_64 p1 p2) = FP.dconst0 := by rw [b0_64, if_pos hc224]
                                    rw [hq226] at k
                                    exact k
                                  · refine XS.ifYes X222.here hx rfl (pc0 := 45) (pc' := 54) rfl (hb hby at_45) rfl (XT.i0_ne_t hc224) (by decide) (by decide) ?_
                                    show Steps p.tables e below (T222.setTop (mkF m 54 #[.val (.int p0), .val (.int p1), .val (.int p2), .val (.int (14 : Int32)), .val (.ref s_NDCG_CUT_10), .val (.double (v0_8 p1)), .second, .val (.double (b2_7 (v0_8 p1) p2)), .second, .unset, .unset] [])) t
                                    refine XS.dload X222.here hx rfl (hb hby at_54) rfl ?_
                                    show Steps p.tables e below (T222.setTop (mkF m 56 #[.val (.int p0), .val (.int p1), .val (.int p2), .val (.int (14 : Int32)), .val (.ref s_NDCG_CUT_10), .val (.double (v0_8 p1)), .second, .val (.double (b2_7 (v0_8 p1) p2)), .second, .unset, .unset] [(.double (v0_8 p1))])) t
                                    refine XS.iloadN X222.here hx rfl (hb hby at_56) rfl ?_
                                    show Steps p.tables e below (T222.setTop (mkF m 57 #[.val (.int p0), .val (.int p1), .val (.int p2), .val (.int (14 : Int32)), .val (.ref s_NDCG_CUT_10), .val (.double (v0_8 p1)), .second, .val (.double (b2_7 (v0_8 p1) p2)), .second, .unset, .unset] [(.int p2), (.double (v0_8 p1))])) t
                                    refine XS.i2dS X222.here hx rfl (hb hby at_57) rfl (v := (FP.i2d p2)) rfl ?_
                                    show Steps p.tables e below (T222.setTop (mkF m 58 #[.val (.int p0), .val (.int p1), .val (.int p2), .val (.int (14 : Int32)), .val (.ref s_NDCG_CUT_10), .val (.double (v0_8 p1)), .second, .val (.double (b2_7 (v0_8 p1) p2)), .second, .unset, .unset] [(.double (FP.i2d p2)), (.double (v0_8 p1))])) t
                                    refine XS.ddivS X222.here hx rfl (hb hby at_58) rfl (own_quo (own_sum p1) hc224) (v := (FP.ddiv (v0_8 p1) (FP.i2d p2))) rfl ?_
                                    show Steps p.tables e below (T222.setTop (mkF m 59 #[.val (.int p0), .val (.int p1), .val (.int p2), .val (.int (14 : Int32)), .val (.ref s_NDCG_CUT_10), .val (.double (v0_8 p1)), .second, .val (.double (b2_7 (v0_8 p1) p2)), .second, .unset, .unset] [(.double (FP.ddiv (v0_8 p1) (FP.i2d p2)))])) t
                                    show Steps p.tables e below (T222.setTop (mkF m 59 #[.val (.int p0), .val (.int p1), .val (.int p2), .val (.int (14 : Int32)), .val (.ref s_NDCG_CUT_10), .val (.double (v0_8 p1)), .second, .val (.double (b2_7 (v0_8 p1) p2)), .second, .unset, .unset] [(.double (v0_62 p1 p2))])) t
                                    refine XS.dstore X222.here hx rfl (hb hby at_59) rfl (l' := #[.val (.int p0), .val (.int p1), .val (.int p2), .val (.int (14 : Int32)), .val (.ref s_NDCG_CUT_10), .val (.double (v0_8 p1)), .second, .val (.double (b2_7 (v0_8 p1) p2)), .second, .val (.double (v0_62 p1 p2)), .second]) rfl ?_
                                    show Steps p.tables e below (T222.setTop (mkF m 61 #[.val (.int p0), .val (.int p1), .val (.int p2), .val (.int (14 : Int32)), .val (.ref s_NDCG_CUT_10), .val (.double (v0_8 p1)), .second, .val (.double (b2_7 (v0_8 p1) p2)), .second, .val (.double (v0_62 p1 p2)), .second] [])) t
                                    have hq227 : (b0_64 p1 p2) = (v0_62 p1 p2) := by rw [b0_64, if_neg hc224]
                                    rw [hq227] at k
                                    exact k
                                have go229 : ∀ t, Steps p.tables e below (T222.setTop (mkF m 74 #[.val (.int p0), .val (.int p1), .val (.int p2), .val (.int (14 : Int32)), .val (.ref s_NDCG_CUT_10), .val (.double (v0_8 p1)), .second, .val (.double (b2_7 (v0_8 p1) p2)), .second, .val (.double (b0_64 p1 p2)), .second] [(.int (b0_69 p1 p2))])) t → Steps p.tables e below (s₁.setTop (entryFrame m #[(.int p0), (.int p1), (.int p2)] maxLocals)) t := by
                                  intro t k
                                  refine go225 _ ?_
                                  refine XS.dload X222.here hx rfl (hb hby at_61) rfl ?_
                                  show Steps p.tables e below (T222.setTop (mkF m 63 #[.val (.int p0), .val (.int p1), .val (.int p2), .val (.int (14 : Int32)), .val (.ref s_NDCG_CUT_10), .val (.double (v0_8 p1)), .second, .val (.double (b2_7 (v0_8 p1) p2)), .second, .val (.double (b0_64 p1 p2)), .second] [(.double (b2_7 (v0_8 p1) p2))])) t
                                  refine XS.dload X222.here hx rfl (hb hby at_63) rfl ?_
                                  show Steps p.tables e below (T222.setTop (mkF m 65 #[.val (.int p0), .val (.int p1), .val (.int p2), .val (.int (14 : Int32)), .val (.ref s_NDCG_CUT_10), .val (.double (v0_8 p1)), .second, .val (.double (b2_7 (v0_8 p1) p2)), .second, .val (.double (b0_64 p1 p2)), .second] [(.double (b0_64 p1 p2)), (.double (b2_7 (v0_8 p1) p2))])) t
                                  refine XS.dcmpS X222.here hx rfl (hb hby at_65) rfl (v := (cmpValue (FP.dcmp (b2_7 (v0_8 p1) p2) (b0_64 p1 p2)) .l)) rfl ?_
                                  show Steps p.tables e below (T222.setTop (mkF m 66 #[.val (.int p0), .val (.int p1), .val (.int p2), .val (.int (14 : Int32)), .val (.ref s_NDCG_CUT_10), .val (.double (v0_8 p1)), .second, .val (.double (b2_7 (v0_8 p1) p2)), .second, .val (.double (b0_64 p1 p2)), .second] [(.int (cmpValue (FP.dcmp (b2_7 (v0_8 p1) p2) (b0_64 p1 p2)) .l))])) t
                                  by_cases hc228 : (cmpValue (FP.dcmp (b2_7 (v0_8 p1) p2) (b0_64 p1 p2)) .l) = (0 : Int32)
                                  · refine XS.ifNo X222.here hx rfl (hb hby at_66) rfl (XT.i0_ne_f hc228) ?_
                                    show Steps p.tables e below (T222.setTop (mkF m 69 #[.val (.int p0), .val (.int p1), .val (.int p2), .val (.int (14 : Int32)), .val (.ref s_NDCG_CUT_10), .val (.double (v0_8 p1)), .second, .val (.double (b2_7 (v0_8 p1) p2)), .second, .val (.double (b0_64 p1 p2)), .second] [])) t
                                    refine XS.iconst X222.here hx rfl (hb hby at_69) ?_
                                    show Steps p.tables e below (T222.setTop (mkF m 70 #[.val (.int p0), .val (.int p1), .val (.int p2), .val (.int (14 : Int32)), .val (.ref s_NDCG_CUT_10), .val (.double (v0_8 p1)), .second, .val (.double (b2_7 (v0_8 p1) p2)), .second, .val (.double (b0_64 p1 p2)), .second] [(.int (1 : Int32))])) t
                                    refine XS.goto X222.here hx rfl (pc0 := 70) (pc' := 74) rfl (hb hby at_70) (by decide) (by decide) ?_
                                    show Steps p.tables e below (T222.setTop (mkF m 74 #[.val (.int p0), .val (.int p1), .val (.int p2), .val (.int (14 : Int32)), .val (.ref s_NDCG_CUT_10), .val (.double (v0_8 p1)), .second, .val (.double (b2_7 (v0_8 p1) p2)), .second, .val (.double (b0_64 p1 p2)), .second] [(.int (1 : Int32))])) t
                                    have hq230 : (b0_69 p1 p2) = (1 : Int32) := by rw [b0_69, if_pos hc228]
                                    rw [hq230] at k
                                    exact k
                                  · refine XS.ifYes X222.here hx rfl (pc0 := 66) (pc' := 73) rfl (hb hby at_66) rfl (XT.i0_ne_t hc228) (by decide) (by decide) ?_
                                    show Steps p.tables e below (T222.setTop (mkF m 73 #[.val (.int p0), .val (.int p1), .val (.int p2), .val (.int (14 : Int32)), .val (.ref s_NDCG_CUT_10), .val (.double (v0_8 p1)), .second, .val (.double (b2_7 (v0_8 p1) p2)), .second, .val (.double (b0_64 p1 p2)), .second] [])) t
                                    refine XS.iconst X222.here hx rfl (hb hby at_73) ?_
                                    show Steps p.tables e below (T222.setTop (mkF m 74 #[.val (.int p0), .val (.int p1), .val (.int p2), .val (.int (14 : Int32)), .val (.ref s_NDCG_CUT_10), .val (.double (v0_8 p1)), .second, .val (.double (b2_7 (v0_8 p1) p2)), .second, .val (.double (b0_64 p1 p2)), .second] [(.int (0 : Int32))])) t
                                    have hq231 : (b0_69 p1 p2) = (0 : Int32) := by rw [b0_69, if_neg hc228]
                                    rw [hq231] at k
                                    exact k
                                obtain ⟨fs, hr, hrun, hended, hW, hsame⟩ := X222.leave (v := some (.int (b0_69 p1 p2))) (fun h => by rw [Bd.returns] at h; cases h)
                                refine ⟨_, _, go229 _ (Jvm.RoadKit.retOut X222 hx Bd.returns (own_nz (by unfold b0_69; (repeat' split) <;> first | exact Or.inl rfl | exact Or.inr rfl)) (Or.inl ⟨rfl, Or.inr (Or.inl rfl), _, rfl⟩) (hb hby at_74) hr), hrun, hended, _, _, rfl, ?_, ⟨_, rfl⟩, hW, hsame.mono (by decide) (by decide)⟩
                                show Q0 _ _ p0 p1 p2 s_NUM_Q s_NUM_RET s_NDCG_CUT_10 s_RPREC s_P_5 s_P_10 s_P_20 s_NUM_REL_RET s_RECALL_10 s_NUM_REL s_MAP s_RECIP_RANK s_BPREF s_NDCG s_RECALL_100 h0 _ (T222.setFrames fs).heap _
                                have hE : (T222.setFrames fs).heap = h0 := e222
                                rw [hE]
                                exact ⟨congrArg (fun z => some (Value.int z)) ((by rw [f0, if_neg hs3, if_neg hs17, if_neg hs29, if_neg hs41, if_neg hs53, if_neg hs72, if_neg hs88, if_neg hs104, if_neg hs120, if_neg hs136, if_neg hs152, if_neg hs168, if_neg hs184, if_neg hs200, if_pos hs216] : (b0_69 p1 p2) = (f0 p0 p1 p2)).trans (f0_one p0 p1 p2)), N222⟩
                              · exact (own_dead15 p0 hs3 hs17 hs29 hs41 hs53 hs72 hs88 hs104 hs120 hs136 hs152 hs168 hs184 hs200 hs216).elim
set_option maxRecDepth 65536 in
set_option maxHeartbeats 40000000 in
theorem comes_1 {Post : Tables → Env → Array Value → State → Outcome → State → Prop} (hpost : ∀ tb e args s v u, (limb_1_1.after args s (.returned v) u = true ∧ limb_1_2.after args s (.returned v) u = true ∧ True) → FrameEnd s (.returned v) u (Jvm.fieldLocs frame_1_writes args s ++ Jvm.arrayLocs frame_1_arrays args s ++ Jvm.staticLocs frame_1_statics s) 0 0 → Post tb e args s (.returned v) u) :
    ArmFor flags0 classFile x code maxLocals ret World_1 tables_1 room_1 Calls_1 rest_1 Pre_1 Post := by
  intro l hfl _ _ p e ha hc hk s m args below hf hA hF happ hP
  obtain ⟨hcalls, hrest, hpre⟩ := hP
  obtain ⟨-, -, -, hnamed, -, -, -, hat⟩ := (Spec.applies_iff hf).mp happ
  obtain ⟨hg, hn⟩ := and_e (Cond.before_iff.mp (show (Jvm.Cond.and given_1 narrow_1).before args s = true from hpre))
  obtain ⟨hcount, hg1⟩ := and_e hg
  obtain ⟨ha0, hb0⟩ := and_e hg1
  obtain ⟨ha1, hb1⟩ := and_e hb0
  obtain ⟨w0, w1, w2, rfl⟩ : ∃ w0 w1 w2 : Value, args = #[w0, w1, w2] := by
    have hs : args.size = 3 := by simpa [Cond.value, given_1] using hcount
    obtain ⟨L⟩ := args
    match L, hs with
    | [w0, w1, w2], _ => exact ⟨w0, w1, w2, rfl⟩
  have hw := fun d (hd : d ∈ tables_1) => atoms_spec (ws := Jvm.Cond.code x code maxLocals ret :: tables_1) hat d (List.mem_cons_of_mem _ hd)
  have hfit : Fit s := fun {y c} hc i hi => by
    obtain ⟨ha, rfl⟩ := Array.getElem?_eq_some_iff.mp hc
    have q := List.all_eq_true.mp ((Array.all_eq_true_iff_forall_mem.mp hF) _ (Array.getElem_mem ha)) i (List.mem_range.mpr hi)
    simpa [Array.getElem?_eq_getElem hi] using q
  obtain ⟨i0, ei0⟩ := is_v ha0
  obtain rfl : w0 = (.int i0) := Option.some.inj ei0
  obtain ⟨i1, ei1⟩ := is_v ha1
  obtain rfl : w1 = (.int i1) := Option.some.inj ei1
  obtain ⟨i2, ei2⟩ := is_v hb1
  obtain rfl : w2 = (.int i2) := Option.some.inj ei2
  obtain ⟨na0, nb0⟩ := and_e hn
  obtain ⟨na1, nb1⟩ := and_e nb0
  obtain ⟨na2, nb2⟩ := and_e nb1
  obtain ⟨na3, nb3⟩ := and_e nb2
  obtain ⟨na4, nb4⟩ := and_e nb3
  obtain ⟨na5, nb5⟩ := and_e nb4
  obtain ⟨na6, nb6⟩ := and_e nb5
  obtain ⟨na7, nb7⟩ := and_e nb6
  obtain ⟨na8, nb8⟩ := and_e nb7
  obtain ⟨na9, nb9⟩ := and_e nb8
  obtain ⟨na10, nb10⟩ := and_e nb9
  obtain ⟨na11, nb11⟩ := and_e nb10
  obtain ⟨na12, nb12⟩ := and_e nb11
  obtain ⟨na13, nb13⟩ := and_e nb12
  obtain ⟨na14, nb14⟩ := and_e nb13
  obtain ⟨na15, nb15⟩ := and_e nb14
  obtain ⟨na16, nb16⟩ := and_e nb15
  obtain ⟨na17, nb17⟩ := and_e nb16
  obtain ⟨na18, nb18⟩ := and_e nb17
  obtain ⟨na19, nb19⟩ := and_e nb18
  obtain ⟨na20, nb20⟩ := and_e nb19
  obtain ⟨na21, nb21⟩ := and_e nb20
  obtain ⟨na22, nb22⟩ := and_e nb21
  obtain ⟨na23, nb23⟩ := and_e nb22
  obtain ⟨na24, nb24⟩ := and_e nb23
  obtain ⟨na25, nb25⟩ := and_e nb24
  obtain ⟨na26, nb26⟩ := and_e nb25
  obtain ⟨na27, nb27⟩ := and_e nb26
  obtain ⟨na28, nb28⟩ := and_e nb27
  obtain ⟨s_NUM_Q, ev_s_NUM_Q⟩ := exa_v na0
  have S_NUM_Q : Sta s s.heap "com/example/mirk/mirk/eval/Measure" "NUM_Q" "Lcom/example/mirk/mirk/eval/Measure;" (.ref s_NUM_Q) := Sta.start ev_s_NUM_Q (Or.inr ⟨(hw _ (List.mem_of_getElem? (i := 6) rfl)), (hw _ (List.mem_of_getElem? (i := 7) rfl))⟩)
  have E_NUM_Q : Exa s s.heap s_NUM_Q "com/example/mirk/mirk/eval/Measure" := Exa.start ev_s_NUM_Q na0
  have F_NUM_Q_count : Fld s s.heap s_NUM_Q "com/example/mirk/mirk/eval/Measure" "count" "Z" (.int (1 : Int32)) := Fld.start ((fld_at ev_s_NUM_Q).symm.trans (own_eqi na1))
  obtain ⟨s_NUM_RET, ev_s_NUM_RET⟩ := exa_v na2
  have S_NUM_RET : Sta s s.heap "com/example/mirk/mirk/eval/Measure" "NUM_RET" "Lcom/example/mirk/mirk/eval/Measure;" (.ref s_NUM_RET) := Sta.start ev_s_NUM_RET (Or.inr ⟨(hw _ (List.mem_of_getElem? (i := 6) rfl)), (hw _ (List.mem_of_getElem? (i := 17) rfl))⟩)
  have E_NUM_RET : Exa s s.heap s_NUM_RET "com/example/mirk/mirk/eval/Measure" := Exa.start ev_s_NUM_RET na2
  have F_NUM_RET_count : Fld s s.heap s_NUM_RET "com/example/mirk/mirk/eval/Measure" "count" "Z" (.int (1 : Int32)) := Fld.start ((fld_at ev_s_NUM_RET).symm.trans (own_eqi na3))
  obtain ⟨s_NDCG_CUT_10, ev_s_NDCG_CUT_10⟩ := exa_v na4
  have S_NDCG_CUT_10 : Sta s s.heap "com/example/mirk/mirk/eval/Measure" "NDCG_CUT_10" "Lcom/example/mirk/mirk/eval/Measure;" (.ref s_NDCG_CUT_10) := Sta.start ev_s_NDCG_CUT_10 (Or.inr ⟨(hw _ (List.mem_of_getElem? (i := 6) rfl)), (hw _ (List.mem_of_getElem? (i := 19) rfl))⟩)
  have E_NDCG_CUT_10 : Exa s s.heap s_NDCG_CUT_10 "com/example/mirk/mirk/eval/Measure" := Exa.start ev_s_NDCG_CUT_10 na4
  have F_NDCG_CUT_10_count : Fld s s.heap s_NDCG_CUT_10 "com/example/mirk/mirk/eval/Measure" "count" "Z" (.int (0 : Int32)) := Fld.start ((fld_at ev_s_NDCG_CUT_10).symm.trans (own_eqi na5))
  obtain ⟨s_RPREC, ev_s_RPREC⟩ := exa_v na6
  have S_RPREC : Sta s s.heap "com/example/mirk/mirk/eval/Measure" "RPREC" "Lcom/example/mirk/mirk/eval/Measure;" (.ref s_RPREC) := Sta.start ev_s_RPREC (Or.inr ⟨(hw _ (List.mem_of_getElem? (i := 6) rfl)), (hw _ (List.mem_of_getElem? (i := 21) rfl))⟩)
  have E_RPREC : Exa s s.heap s_RPREC "com/example/mirk/mirk/eval/Measure" := Exa.start ev_s_RPREC na6
  have F_RPREC_count : Fld s s.heap s_RPREC "com/example/mirk/mirk/eval/Measure" "count" "Z" (.int (0 : Int32)) := Fld.start ((fld_at ev_s_RPREC).symm.trans (own_eqi na7))
  obtain ⟨s_P_5, ev_s_P_5⟩ := exa_v na8
  have S_P_5 : Sta s s.heap "com/example/mirk/mirk/eval/Measure" "P_5" "Lcom/example/mirk/mirk/eval/Measure;" (.ref s_P_5) := Sta.start ev_s_P_5 (Or.inr ⟨(hw _ (List.mem_of_getElem? (i := 6) rfl)), (hw _ (List.mem_of_getElem? (i := 23) rfl))⟩)
  have E_P_5 : Exa s s.heap s_P_5 "com/example/mirk/mirk/eval/Measure" := Exa.start ev_s_P_5 na8
  have F_P_5_count : Fld s s.heap s_P_5 "com/example/mirk/mirk/eval/Measure" "count" "Z" (.int (0 : Int32)) := Fld.start ((fld_at ev_s_P_5).symm.trans (own_eqi na9))
  obtain ⟨s_P_10, ev_s_P_10⟩ := exa_v na10
  have S_P_10 : Sta s s.heap "com/example/mirk/mirk/eval/Measure" "P_10" "Lcom/example/mirk/mirk/eval/Measure;" (.ref s_P_10) := Sta.start ev_s_P_10 (Or.inr ⟨(hw _ (List.mem_of_getElem? (i := 6) rfl)), (hw _ (List.mem_of_getElem? (i := 25) rfl))⟩)
  have E_P_10 : Exa s s.heap s_P_10 "com/example/mirk/mirk/eval/Measure" := Exa.start ev_s_P_10 na10
  have F_P_10_count : Fld s s.heap s_P_10 "com/example/mirk/mirk/eval/Measure" "count" "Z" (.int (0 : Int32)) := Fld.start ((fld_at ev_s_P_10).symm.trans (own_eqi na11))
  obtain ⟨s_P_20, ev_s_P_20⟩ := exa_v na12
  have S_P_20 : Sta s s.heap "com/example/mirk/mirk/eval/Measure" "P_20" "Lcom/example/mirk/mirk/eval/Measure;" (.ref s_P_20) := Sta.start ev_s_P_20 (Or.inr ⟨(hw _ (List.mem_of_getElem? (i := 6) rfl)), (hw _ (List.mem_of_getElem? (i := 27) rfl))⟩)
  have E_P_20 : Exa s s.heap s_P_20 "com/example/mirk/mirk/eval/Measure" := Exa.start ev_s_P_20 na12
  have F_P_20_count : Fld s s.heap s_P_20 "com/example/mirk/mirk/eval/Measure" "count" "Z" (.int (0 : Int32)) := Fld.start ((fld_at ev_s_P_20).symm.trans (own_eqi na13))
  obtain ⟨s_NUM_REL_RET, ev_s_NUM_REL_RET⟩ := exa_v na14
  have S_NUM_REL_RET : Sta s s.heap "com/example/mirk/mirk/eval/Measure" "NUM_REL_RET" "Lcom/example/mirk/mirk/eval/Measure;" (.ref s_NUM_REL_RET) := Sta.start ev_s_NUM_REL_RET (Or.inr ⟨(hw _ (List.mem_of_getElem? (i := 6) rfl)), (hw _ (List.mem_of_getElem? (i := 29) rfl))⟩)
  have E_NUM_REL_RET : Exa s s.heap s_NUM_REL_RET "com/example/mirk/mirk/eval/Measure" := Exa.start ev_s_NUM_REL_RET na14
  have F_NUM_REL_RET_count : Fld s s.heap s_NUM_REL_RET "com/example/mirk/mirk/eval/Measure" "count" "Z" (.int (1 : Int32)) := Fld.start ((fld_at ev_s_NUM_REL_RET).symm.trans (own_eqi na15))
  obtain ⟨s_RECALL_10, ev_s_RECALL_10⟩ := exa_v na16
  have S_RECALL_10 : Sta s s.heap "com/example/mirk/mirk/eval/Measure" "RECALL_10" "Lcom/example/mirk/mirk/eval/Measure;" (.ref s_RECALL_10) := Sta.start ev_s_RECALL_10 (Or.inr ⟨(hw _ (List.mem_of_getElem? (i := 6) rfl)), (hw _ (List.mem_of_getElem? (i := 31) rfl))⟩)
  have E_RECALL_10 : Exa s s.heap s_RECALL_10 "com/example/mirk/mirk/eval/Measure" := Exa.start ev_s_RECALL_10 na16
  have F_RECALL_10_count : Fld s s.heap s_RECALL_10 "com/example/mirk/mirk/eval/Measure" "count" "Z" (.int (0 : Int32)) := Fld.start ((fld_at ev_s_RECALL_10).symm.trans (own_eqi na17))
  obtain ⟨s_NUM_REL, ev_s_NUM_REL⟩ := exa_v na18
  have S_NUM_REL : Sta s s.heap "com/example/mirk/mirk/eval/Measure" "NUM_REL" "Lcom/example/mirk/mirk/eval/Measure;" (.ref s_NUM_REL) := Sta.start ev_s_NUM_REL (Or.inr ⟨(hw _ (List.mem_of_getElem? (i := 6) rfl)), (hw _ (List.mem_of_getElem? (i := 33) rfl))⟩)
  have E_NUM_REL : Exa s s.heap s_NUM_REL "com/example/mirk/mirk/eval/Measure" := Exa.start ev_s_NUM_REL na18
  have F_NUM_REL_count : Fld s s.heap s_NUM_REL "com/example/mirk/mirk/eval/Measure" "count" "Z" (.int (1 : Int32)) := Fld.start ((fld_at ev_s_NUM_REL).symm.trans (own_eqi na19))
  obtain ⟨s_MAP, ev_s_MAP⟩ := exa_v na20
  have S_MAP : Sta s s.heap "com/example/mirk/mirk/eval/Measure" "MAP" "Lcom/example/mirk/mirk/eval/Measure;" (.ref s_MAP) := Sta.start ev_s_MAP (Or.inr ⟨(hw _ (List.mem_of_getElem? (i := 6) rfl)), (hw _ (List.mem_of_getElem? (i := 35) rfl))⟩)
  have E_MAP : Exa s s.heap s_MAP "com/example/mirk/mirk/eval/Measure" := Exa.start ev_s_MAP na20
  have F_MAP_count : Fld s s.heap s_MAP "com/example/mirk/mirk/eval/Measure" "count" "Z" (.int (0 : Int32)) := Fld.start ((fld_at ev_s_MAP).symm.trans (own_eqi na21))
  obtain ⟨s_RECIP_RANK, ev_s_RECIP_RANK⟩ := exa_v na22
  have S_RECIP_RANK : Sta s s.heap "com/example/mirk/mirk/eval/Measure" "RECIP_RANK" "Lcom/example/mirk/mirk/eval/Measure;" (.ref s_RECIP_RANK) := Sta.start ev_s_RECIP_RANK (Or.inr ⟨(hw _ (List.mem_of_getElem? (i := 6) rfl)), (hw _ (List.mem_of_getElem? (i := 37) rfl))⟩)
  have E_RECIP_RANK : Exa s s.heap s_RECIP_RANK "com/example/mirk/mirk/eval/Measure" := Exa.start ev_s_RECIP_RANK na22
  have F_RECIP_RANK_count : Fld s s.heap s_RECIP_RANK "com/example/mirk/mirk/eval/Measure" "count" "Z" (.int (0 : Int32)) := Fld.start ((fld_at ev_s_RECIP_RANK).symm.trans (own_eqi na23))
  obtain ⟨s_BPREF, ev_s_BPREF⟩ := exa_v na24
  have S_BPREF : Sta s s.heap "com/example/mirk/mirk/eval/Measure" "BPREF" "Lcom/example/mirk/mirk/eval/Measure;" (.ref s_BPREF) := Sta.start ev_s_BPREF (Or.inr ⟨(hw _ (List.mem_of_getElem? (i := 6) rfl)), (hw _ (List.mem_of_getElem? (i := 39) rfl))⟩)
  have E_BPREF : Exa s s.heap s_BPREF "com/example/mirk/mirk/eval/Measure" := Exa.start ev_s_BPREF na24
  have F_BPREF_count : Fld s s.heap s_BPREF "com/example/mirk/mirk/eval/Measure" "count" "Z" (.int (0 : Int32)) := Fld.start ((fld_at ev_s_BPREF).symm.trans (own_eqi na25))
  obtain ⟨s_NDCG, ev_s_NDCG⟩ := exa_v na26
  have S_NDCG : Sta s s.heap "com/example/mirk/mirk/eval/Measure" "NDCG" "Lcom/example/mirk/mirk/eval/Measure;" (.ref s_NDCG) := Sta.start ev_s_NDCG (Or.inr ⟨(hw _ (List.mem_of_getElem? (i := 6) rfl)), (hw _ (List.mem_of_getElem? (i := 41) rfl))⟩)
  have E_NDCG : Exa s s.heap s_NDCG "com/example/mirk/mirk/eval/Measure" := Exa.start ev_s_NDCG na26
  have F_NDCG_count : Fld s s.heap s_NDCG "com/example/mirk/mirk/eval/Measure" "count" "Z" (.int (0 : Int32)) := Fld.start ((fld_at ev_s_NDCG).symm.trans (own_eqi na27))
  obtain ⟨s_RECALL_100, ev_s_RECALL_100⟩ := exa_v na28
  have S_RECALL_100 : Sta s s.heap "com/example/mirk/mirk/eval/Measure" "RECALL_100" "Lcom/example/mirk/mirk/eval/Measure;" (.ref s_RECALL_100) := Sta.start ev_s_RECALL_100 (Or.inr ⟨(hw _ (List.mem_of_getElem? (i := 6) rfl)), (hw _ (List.mem_of_getElem? (i := 43) rfl))⟩)
  have E_RECALL_100 : Exa s s.heap s_RECALL_100 "com/example/mirk/mirk/eval/Measure" := Exa.start ev_s_RECALL_100 na28
  have F_RECALL_100_count : Fld s s.heap s_RECALL_100 "com/example/mirk/mirk/eval/Measure" "count" "Z" (.int (0 : Int32)) := Fld.start ((fld_at ev_s_RECALL_100).symm.trans (own_eqi nb28))
  obtain ⟨n, o, h1, h2, h3, _, L, rfl, ⟨rfl, N⟩, hq⟩ := rm0 l s _ hw tables_1 i0 i1 i2 s_NUM_Q s_NUM_RET s_NDCG_CUT_10 s_RPREC s_P_5 s_P_10 s_P_20 s_NUM_REL_RET s_RECALL_10 s_NUM_REL s_MAP s_RECIP_RANK s_BPREF s_NDCG s_RECALL_100 s.heap s.heap.size (Nat.le_refl _) S_NUM_Q E_NUM_Q F_NUM_Q_count S_NUM_RET E_NUM_RET F_NUM_RET_count S_NDCG_CUT_10 E_NDCG_CUT_10 F_NDCG_CUT_10_count S_RPREC E_RPREC F_RPREC_count S_P_5 E_P_5 F_P_5_count S_P_10 E_P_10 F_P_10_count S_P_20 E_P_20 F_P_20_count S_NUM_REL_RET E_NUM_REL_RET F_NUM_REL_RET_count S_RECALL_10 E_RECALL_10 F_RECALL_10_count S_NUM_REL E_NUM_REL F_NUM_REL_count S_MAP E_MAP F_MAP_count S_RECIP_RANK E_RECIP_RANK F_RECIP_RANK_count S_BPREF E_BPREF F_BPREF_count S_NDCG E_NDCG F_NDCG_count S_RECALL_100 E_RECALL_100 F_RECALL_100_count p e ha hc hk s m _ below hf ((Spec.applies_iff_loose hf).mp happ).1 ⟨rfl, State.Warmed39.refl s, rfl⟩ trivial
  refine ⟨n, _, h1, h2, h3, hpost _ _ _ _ _ _ ⟨Cond.after_iff.mpr rfl, Cond.after_iff.mpr (eq_i res_at (Term.int_eval (1)) rfl), trivial⟩ ⟨hq.1, hq.2.1, (hq.2.2.sift fun y hy => Or.inr (N y hy)).mono (by decide) (by decide)⟩⟩
theorem main_1_1 : Claimed_1_1 := comes_1 fun _ _ _ _ _ _ h hF => ⟨h.1, hF⟩
theorem main_1_2 : Claimed_1_2 := comes_1 fun _ _ _ _ _ _ h hF => ⟨h.2.1, hF⟩
end Jvm.Pilot.@@N@@
namespace Jvm.Pilot.@@N@@
open Jvm Jvm.ClassFile Sem Op Lib Jvm.Free Jvm.Stand Jvm.Pilot.@@N@@.Jvm.D
/-! MADE BY PROGRAM (witnessworld.py) out of the Statement's table words and the real class files: 12 classes; the members and pool entries that the words name. The judged class is class 1, her method 2. -/
namespace start1
open Jvm.ClassFile
def u (s : String) : CpInfo := .utf8 (stringToUtf16 s)
/-- a pool by its gaps: so many unusable entries, then the entry; so many at the end -/
def gap : Nat → List CpInfo → List CpInfo
  | 0, r => r
  | n + 1, r => .unusable :: gap n r
def poolList (es : List (Nat × CpInfo)) (last : Nat) : List CpInfo := es.foldr (fun e r => gap e.1 (e.2 :: r)) (gap last [])
def pool (es : List (Nat × CpInfo)) (last : Nat) : Array CpInfo := ⟨poolList es last⟩
def fileOf (pool : Array CpInfo) (this : Nat) (attrs : Array Attribute := #[]) (ms : Array MethodInfo := #[]) (fl : Nat := 33) (sup : Nat := 0) (ifs : Array Nat := #[]) (fds : Array FieldInfo := #[]) : ClassFile where
  minorVersion := 0
  majorVersion := 65
  constantPool := pool
  accessFlags := fl
  thisClass := this
  superClass := sup
  interfaces := ifs
  fields := fds
  methods := ms
  attributes := attrs
def plain (name : String) (sup : Option ClassId) : Class where
  name := name
  kind := .ordinary
  loader := none
  accessFlags := 33
  super := sup
  interfaces := #[]
  cf := none
  fields := #[]
  methods := #[]
  instanceTypes := #[]
  staticTypes := #[]
  resolved := #[]
  callSites := []
  init := .initialized
  statics := none
  mirror := none

def pool0 : Array CpInfo := pool [(5, u "<init>"), (0, u "()V"), (1, .class_ 10), (1, u "java/lang/Object")] 113

def k0m0 : Method := { name := "<init>", desc := "()V", sig := { parameters := [], returnType := none }, accessFlags := 1, code := none }
/-- java/lang/Object -/
def k0 : Class := { plain "java/lang/Object" none with
  accessFlags := 33
  interfaces := #[]
  cf := some (fileOf pool0 8 #[] #[{ accessFlags := 1, nameIndex := 5, descriptorIndex := 6, attributes := #[] }] 33 0 #[] #[])
  fields := #[]
  methods := #[k0m0]
  instanceTypes := #[]
  staticTypes := #[]
  resolved := Array.replicate 124 none
  statics := none }

def pool1 : Array CpInfo := pool [(2, .class_ 4), (1, u "java/lang/Object"), (0, u "<init>"), (0, u "()V"), (0, .fieldref 8 9), (0, .class_ 10), (0, .nameAndType 11 12), (0, u "com/example/mirk/mirk/eval/Measure"), (0, u "NUM_Q"), (0, u "Lcom/example/mirk/mirk/eval/Measure;"), (0, .fieldref 8 14), (0, .nameAndType 15 12), (0, u "NUM_RET"), (0, .fieldref 8 17), (0, .nameAndType 18 12), (0, u "NUM_REL"), (0, .fieldref 8 20), (0, .nameAndType 21 12), (0, u "NUM_REL_RET"), (0, .fieldref 8 23), (0, .nameAndType 24 12), (0, u "MAP"), (0, .fieldref 8 26), (0, .nameAndType 27 12), (0, u "RPREC"), (0, .fieldref 8 29), (0, .nameAndType 30 12), (0, u "BPREF"), (0, .fieldref 8 32), (0, .nameAndType 33 12), (0, u "RECIP_RANK"), (0, .fieldref 8 35), (0, .nameAndType 36 12), (0, u "P_5"), (0, .fieldref 8 38), (0, .nameAndType 39 12), (0, u "P_10"), (0, .fieldref 8 41), (0, .nameAndType 42 12), (0, u "P_20"), (0, .fieldref 8 44), (0, .nameAndType 45 12), (0, u "RECALL_10"), (0, .fieldref 8 47), (0, .nameAndType 48 12), (0, u "RECALL_100"), (0, .fieldref 8 50), (0, .nameAndType 51 12), (0, u "NDCG"), (0, .fieldref 8 53), (0, .nameAndType 54 12), (0, u "NDCG_CUT_10"), (0, .integer 2147483647), (0, .methodref 57 58), (0, .class_ 59), (0, .nameAndType 60 61), (0, u "com/example/mirk/mirk/eval/MeasureOverAllPinLaw"), (0, u "pick"), (0, u "(I)Lcom/example/mirk/mirk/eval/Measure;"), (0, .double 4598175219545276416), (1, .methodref 8 65), (0, .nameAndType 66 67), (0, u "overAll"), (0, u "(DI)D"), (3, u "law"), (0, u "(III)Z")] 2

def k1m0 : Method := { name := "<init>", desc := "()V", sig := { parameters := [], returnType := none }, accessFlags := 2, code := none }
def k1c1 : Code := { maxStack := 2, maxLocals := 1, code := method_2_code, exceptionTable := #[], attributes := #[] }
def k1m1 : Method := { name := "pick", desc := "(I)Lcom/example/mirk/mirk/eval/Measure;", sig := { parameters := [.int], returnType := some (.object "com/example/mirk/mirk/eval/Measure") }, accessFlags := 10, code := some k1c1 }
def k1c2 : Code := { maxStack := 4, maxLocals := 11, code := code, exceptionTable := #[], attributes := #[] }
def k1m2 : Method := { name := "law", desc := "(III)Z", sig := { parameters := [.int, .int, .int], returnType := some .boolean }, accessFlags := 9, code := some k1c2 }
/-- com/example/mirk/mirk/eval/MeasureOverAllPinLaw -/
def k1 : Class := { plain "com/example/mirk/mirk/eval/MeasureOverAllPinLaw" (some 0) with
  accessFlags := 49
  interfaces := #[]
  cf := some (fileOf pool1 57 #[] #[{ accessFlags := 2, nameIndex := 5, descriptorIndex := 6, attributes := #[] }, { accessFlags := 10, nameIndex := 60, descriptorIndex := 61, attributes := #[] }, { accessFlags := 9, nameIndex := 71, descriptorIndex := 72, attributes := #[] }] 49 2 #[] #[])
  fields := #[]
  methods := #[k1m0, k1m1, k1m2]
  instanceTypes := #[]
  staticTypes := #[]
  resolved := Array.replicate 75 none
  statics := none }

def pool2 : Array CpInfo := pool [(1, .class_ 2), (0, u "java/lang/constant/Constable"), (0, .class_ 4), (0, u "java/lang/Object")] 6

/-- java/lang/constant/Constable -/
def k2 : Class := { plain "java/lang/constant/Constable" (some 0) with
  accessFlags := 1537
  interfaces := #[]
  cf := some (fileOf pool2 1 #[] #[] 1537 3 #[] #[])
  fields := #[]
  methods := #[]
  instanceTypes := #[]
  staticTypes := #[]
  resolved := Array.replicate 11 none
  statics := none }

def pool3 : Array CpInfo := pool [(1, .class_ 2), (0, u "java/lang/Comparable"), (0, .class_ 4), (0, u "java/lang/Object")] 7

/-- java/lang/Comparable -/
def k3 : Class := { plain "java/lang/Comparable" (some 0) with
  accessFlags := 1537
  interfaces := #[]
  cf := some (fileOf pool3 1 #[] #[] 1537 3 #[] #[])
  fields := #[]
  methods := #[]
  instanceTypes := #[]
  staticTypes := #[]
  resolved := Array.replicate 12 none
  statics := none }

def pool4 : Array CpInfo := pool [(1, .class_ 2), (0, u "java/io/Serializable"), (0, .class_ 4), (0, u "java/lang/Object")] 2

/-- java/io/Serializable -/
def k4 : Class := { plain "java/io/Serializable" (some 0) with
  accessFlags := 1537
  interfaces := #[]
  cf := some (fileOf pool4 1 #[] #[] 1537 3 #[] #[])
  fields := #[]
  methods := #[]
  instanceTypes := #[]
  staticTypes := #[]
  resolved := Array.replicate 7 none
  statics := none }

def pool5 : Array CpInfo := pool [(2, .class_ 4), (1, u "java/lang/Enum"), (0, u "name"), (0, u "Ljava/lang/String;"), (2, u "ordinal"), (0, u "I"), (1, .class_ 14), (1, u "java/lang/Object"), (4, u "hash"), (86, .class_ 108), (1, u "java/lang/Enum$EnumDesc"), (2, .class_ 112), (0, u "java/lang/constant/Constable"), (0, .class_ 114), (0, u "java/lang/Comparable"), (0, .class_ 116), (0, u "java/io/Serializable")] 87

/-- java/lang/Enum -/
def k5 : Class := { plain "java/lang/Enum" (some 0) with
  accessFlags := 1057
  interfaces := #[2, 3, 4]
  cf := some (fileOf pool5 2 #[.nestMembers #[106]] #[] 1057 12 #[111, 113, 115] #[{ accessFlags := 18, nameIndex := 5, descriptorIndex := 6, attributes := #[] }, { accessFlags := 18, nameIndex := 9, descriptorIndex := 10, attributes := #[] }, { accessFlags := 2, nameIndex := 19, descriptorIndex := 10, attributes := #[] }])
  fields := #[{ name := "name", type := (.object "java/lang/String"), accessFlags := 18, slot := 0, constantValue := 0 }, { name := "ordinal", type := .int, accessFlags := 18, slot := 1, constantValue := 0 }, { name := "hash", type := .int, accessFlags := 2, slot := 2, constantValue := 0 }]
  methods := #[]
  instanceTypes := #[(.object "java/lang/String"), .int, .int]
  staticTypes := #[]
  resolved := Array.replicate 204 none
  statics := none }

def pool6 : Array CpInfo := pool [(1, .class_ 2), (0, u "com/example/mirk/mirk/eval/Measure"), (2, u "NUM_Q"), (0, u "Lcom/example/mirk/mirk/eval/Measure;"), (2, u "NUM_RET"), (2, u "NUM_REL"), (2, u "NUM_REL_RET"), (2, u "MAP"), (2, u "RPREC"), (2, u "BPREF"), (2, u "RECIP_RANK"), (2, u "P_5"), (2, u "P_10"), (2, u "P_20"), (2, u "RECALL_10"), (2, u "RECALL_100"), (2, u "NDCG"), (2, u "NDCG_CUT_10"), (2, u "$VALUES"), (0, u "[Lcom/example/mirk/mirk/eval/Measure;"), (6, .class_ 61), (1, u "java/lang/Enum"), (8, u "label"), (0, u "Ljava/lang/String;"), (0, .fieldref 1 73), (0, .nameAndType 74 75), (0, u "count"), (0, u "Z"), (2, u "value"), (0, u "Ljava/util/function/ToDoubleFunction;"), (124, u "overAll"), (0, u "(DI)D")] 82

def k6c0 : Code := { maxStack := 4, maxLocals := 4, code := prog_10_method_9_code, exceptionTable := #[], attributes := #[] }
def k6m0 : Method := { name := "overAll", desc := "(DI)D", sig := { parameters := [.double, .int], returnType := some .double }, accessFlags := 0, code := some k6c0 }
/-- com/example/mirk/mirk/eval/Measure -/
def k6 : Class := { plain "com/example/mirk/mirk/eval/Measure" (some 5) with
  accessFlags := 16433
  interfaces := #[]
  cf := some (fileOf pool6 1 #[] #[{ accessFlags := 0, nameIndex := 204, descriptorIndex := 205, attributes := #[] }] 16433 59 #[] #[{ accessFlags := 16409, nameIndex := 5, descriptorIndex := 6, attributes := #[] }, { accessFlags := 16409, nameIndex := 9, descriptorIndex := 6, attributes := #[] }, { accessFlags := 16409, nameIndex := 12, descriptorIndex := 6, attributes := #[] }, { accessFlags := 16409, nameIndex := 15, descriptorIndex := 6, attributes := #[] }, { accessFlags := 16409, nameIndex := 18, descriptorIndex := 6, attributes := #[] }, { accessFlags := 16409, nameIndex := 21, descriptorIndex := 6, attributes := #[] }, { accessFlags := 16409, nameIndex := 24, descriptorIndex := 6, attributes := #[] }, { accessFlags := 16409, nameIndex := 27, descriptorIndex := 6, attributes := #[] }, { accessFlags := 16409, nameIndex := 30, descriptorIndex := 6, attributes := #[] }, { accessFlags := 16409, nameIndex := 33, descriptorIndex := 6, attributes := #[] }, { accessFlags := 16409, nameIndex := 36, descriptorIndex := 6, attributes := #[] }, { accessFlags := 16409, nameIndex := 39, descriptorIndex := 6, attributes := #[] }, { accessFlags := 16409, nameIndex := 42, descriptorIndex := 6, attributes := #[] }, { accessFlags := 16409, nameIndex := 45, descriptorIndex := 6, attributes := #[] }, { accessFlags := 16409, nameIndex := 48, descriptorIndex := 6, attributes := #[] }, { accessFlags := 18, nameIndex := 70, descriptorIndex := 71, attributes := #[] }, { accessFlags := 18, nameIndex := 74, descriptorIndex := 75, attributes := #[] }, { accessFlags := 18, nameIndex := 78, descriptorIndex := 79, attributes := #[] }, { accessFlags := 4122, nameIndex := 51, descriptorIndex := 52, attributes := #[] }])
  fields := #[{ name := "NUM_Q", type := (.object "com/example/mirk/mirk/eval/Measure"), accessFlags := 16409, slot := 0, constantValue := 0 }, { name := "NUM_RET", type := (.object "com/example/mirk/mirk/eval/Measure"), accessFlags := 16409, slot := 1, constantValue := 0 }, { name := "NUM_REL", type := (.object "com/example/mirk/mirk/eval/Measure"), accessFlags := 16409, slot := 2, constantValue := 0 }, { name := "NUM_REL_RET", type := (.object "com/example/mirk/mirk/eval/Measure"), accessFlags := 16409, slot := 3, constantValue := 0 }, { name := "MAP", type := (.object "com/example/mirk/mirk/eval/Measure"), accessFlags := 16409, slot := 4, constantValue := 0 }, { name := "RPREC", type := (.object "com/example/mirk/mirk/eval/Measure"), accessFlags := 16409, slot := 5, constantValue := 0 }, { name := "BPREF", type := (.object "com/example/mirk/mirk/eval/Measure"), accessFlags := 16409, slot := 6, constantValue := 0 }, { name := "RECIP_RANK", type := (.object "com/example/mirk/mirk/eval/Measure"), accessFlags := 16409, slot := 7, constantValue := 0 }, { name := "P_5", type := (.object "com/example/mirk/mirk/eval/Measure"), accessFlags := 16409, slot := 8, constantValue := 0 }, { name := "P_10", type := (.object "com/example/mirk/mirk/eval/Measure"), accessFlags := 16409, slot := 9, constantValue := 0 }, { name := "P_20", type := (.object "com/example/mirk/mirk/eval/Measure"), accessFlags := 16409, slot := 10, constantValue := 0 }, { name := "RECALL_10", type := (.object "com/example/mirk/mirk/eval/Measure"), accessFlags := 16409, slot := 11, constantValue := 0 }, { name := "RECALL_100", type := (.object "com/example/mirk/mirk/eval/Measure"), accessFlags := 16409, slot := 12, constantValue := 0 }, { name := "NDCG", type := (.object "com/example/mirk/mirk/eval/Measure"), accessFlags := 16409, slot := 13, constantValue := 0 }, { name := "NDCG_CUT_10", type := (.object "com/example/mirk/mirk/eval/Measure"), accessFlags := 16409, slot := 14, constantValue := 0 }, { name := "label", type := (.object "java/lang/String"), accessFlags := 18, slot := 3, constantValue := 0 }, { name := "count", type := .boolean, accessFlags := 18, slot := 4, constantValue := 0 }, { name := "value", type := (.object "java/util/function/ToDoubleFunction"), accessFlags := 18, slot := 5, constantValue := 0 }, { name := "$VALUES", type := (.array (.object "com/example/mirk/mirk/eval/Measure")), accessFlags := 4122, slot := 15, constantValue := 0 }]
  methods := #[k6m0]
  instanceTypes := #[(.object "java/lang/String"), .int, .int, (.object "java/lang/String"), .boolean, (.object "java/util/function/ToDoubleFunction")]
  staticTypes := #[(.object "com/example/mirk/mirk/eval/Measure"), (.object "com/example/mirk/mirk/eval/Measure"), (.object "com/example/mirk/mirk/eval/Measure"), (.object "com/example/mirk/mirk/eval/Measure"), (.object "com/example/mirk/mirk/eval/Measure"), (.object "com/example/mirk/mirk/eval/Measure"), (.object "com/example/mirk/mirk/eval/Measure"), (.object "com/example/mirk/mirk/eval/Measure"), (.object "com/example/mirk/mirk/eval/Measure"), (.object "com/example/mirk/mirk/eval/Measure"), (.object "com/example/mirk/mirk/eval/Measure"), (.object "com/example/mirk/mirk/eval/Measure"), (.object "com/example/mirk/mirk/eval/Measure"), (.object "com/example/mirk/mirk/eval/Measure"), (.object "com/example/mirk/mirk/eval/Measure"), (.array (.object "com/example/mirk/mirk/eval/Measure"))]
  resolved := Array.replicate 288 none
  statics := some 0 }

def pool7 : Array CpInfo := pool [(1, u "java/lang/Cloneable"), (0, .class_ 1), (0, u "java/lang/Object"), (0, .class_ 3)] 3

/-- java/lang/Cloneable -/
def k7 : Class := { plain "java/lang/Cloneable" (some 0) with
  accessFlags := 1537
  interfaces := #[]
  cf := some (fileOf pool7 2 #[] #[] 1537 4 #[] #[])
  fields := #[]
  methods := #[]
  instanceTypes := #[]
  staticTypes := #[]
  resolved := Array.replicate 8 none
  statics := none }

/-- the primitive byte -/
def k8 : Class := { plain "byte" none with kind := .primitive 'B', accessFlags := 0x411 }
/-- [B -/
def k9 : Class := { plain "[B" (some 0) with kind := .array 8 .byte, interfaces := #[7, 4], accessFlags := 1041 }

/-- the primitive int -/
def k10 : Class := { plain "int" none with kind := .primitive 'I', accessFlags := 0x411 }
/-- [I -/
def k11 : Class := { plain "[I" (some 0) with kind := .array 10 .int, interfaces := #[7, 4], accessFlags := 1041 }

def heap : Heap := #[{ cls := 6, slots := #[.ref 1, .ref 2, .ref 10, .ref 8, .ref 11, .ref 4, .ref 13, .ref 12, .ref 5, .ref 6, .ref 7, .ref 9, .ref 15, .ref 14, .ref 3, .null], vm := .statics 6 },
  { cls := 6, slots := #[.null, .int 0, .int 0, .null, .int (1), .null], vm := .none },
  { cls := 6, slots := #[.null, .int 0, .int 0, .null, .int (1), .null], vm := .none },
  { cls := 6, slots := #[.null, .int 0, .int 0, .null, .int (0), .null], vm := .none },
  { cls := 6, slots := #[.null, .int 0, .int 0, .null, .int (0), .null], vm := .none },
  { cls := 6, slots := #[.null, .int 0, .int 0, .null, .int (0), .null], vm := .none },
  { cls := 6, slots := #[.null, .int 0, .int 0, .null, .int (0), .null], vm := .none },
  { cls := 6, slots := #[.null, .int 0, .int 0, .null, .int (0), .null], vm := .none },
  { cls := 6, slots := #[.null, .int 0, .int 0, .null, .int (1), .null], vm := .none },
  { cls := 6, slots := #[.null, .int 0, .int 0, .null, .int (0), .null], vm := .none },
  { cls := 6, slots := #[.null, .int 0, .int 0, .null, .int (1), .null], vm := .none },
  { cls := 6, slots := #[.null, .int 0, .int 0, .null, .int (0), .null], vm := .none },
  { cls := 6, slots := #[.null, .int 0, .int 0, .null, .int (0), .null], vm := .none },
  { cls := 6, slots := #[.null, .int 0, .int 0, .null, .int (0), .null], vm := .none },
  { cls := 6, slots := #[.null, .int 0, .int 0, .null, .int (0), .null], vm := .none },
  { cls := 6, slots := #[.null, .int 0, .int 0, .null, .int (0), .null], vm := .none }]
def classes : Array Class := #[k0, k1, k2, k3, k4, k5, k6, k7, k8, k9, k10, k11]
def interned : List (Array UInt16 × Addr) := []
def slotsUsed : Nat := 106
def theMethod : MethodId := ⟨1, 2⟩
def args0 : Array Value := #[.int 5, .int 3, .int 2]
def aboutOver (below : List Frame) : State where
  vm := { classes := classes, interned := interned.toArray }
  heap := heap
  slotsUsed := slotsUsed
  threads := #[{ frames := .invoking theMethod args0 :: below }]
def below0 : List Frame := [.native { method := ⟨0, 0⟩, args := #[] }]
def about1 : State := aboutOver below0
def p0 : Program := .bare "" "" ""
def e0 : Env := launch0.env 0 0 0
theorem w_frames : about1.frames = Frame.invoking theMethod args0 :: below0 := rfl
set_option maxRecDepth 65536 in
theorem w_args : argsFit about1.vm theMethod args0 = true := by decide +kernel
set_option maxRecDepth 65536 in
theorem w_heap : heapFits about1 = true := by decide +kernel
set_option maxRecDepth 65536 in
theorem w_runnable : about1.curStatus? = some .runnable := by decide +kernel
set_option maxRecDepth 65536 in
theorem w_alone : about1.alone = true := by decide +kernel
set_option maxRecDepth 65536 in
theorem w_named : about1.methodNamed? x = some theMethod := by decide +kernel
set_option maxRecDepth 65536 in
theorem w_hears : about1.hears theMethod below0 = true := by decide +kernel
set_option maxRecDepth 65536 in
theorem w_ripe : about1.ripe theMethod args0 below0 = true := by decide +kernel
theorem w_running : about1.status = .running := rfl
set_option maxRecDepth 65536 in
theorem w_room : about1.hasRoom e0.platform room_1 = true :=
  launch0.hasRoom_least _ room_1 (by decide +kernel) (by decide +kernel) (by decide +kernel) (by decide +kernel) (by decide +kernel) (by decide +kernel)
theorem allAtoms_all (ts : List Jvm.Cond) (a : Array Jvm.Value) (st : Jvm.State) : (allAtoms ts).before a st = ts.all (fun c => c.before a st) := by
  induction ts with
  | nil => rfl
  | cons c t ih =>
    show (Jvm.Cond.and c (allAtoms t)).before a st = _
    rw [Jvm.Cond.before_and, ih, List.all_cons]
def words1 : List Jvm.Cond := Jvm.Cond.code x code maxLocals ret :: tables_1
/-- a 'code' word, met by the world's own term for the bytes: nothing is compared byte by byte -/
theorem code_word {y : MethodName} {bytes : ByteArray} {mx : Nat} {rt : Option FieldType} {a : Array Value} {s : State} {m : MethodId} {meth : Method} {c : Code} (h1 : s.methodNamed? y = some m) (h2 : s.vm.method? m = some meth) (h3 : meth.code = some c) (h4 : c.code = bytes)
    (h5 : (c.maxLocals == mx && c.exceptionTable.isEmpty && decide (c.maxStack ≤ mostOperands) && decide (meth.sig.returnType = rt) && !meth.locks && decide (parseMethodDescriptor y.desc = some meth.sig)) = true) : (Jvm.Cond.code y bytes mx rt).before a s = true := by
  simp only [Bool.and_eq_true, beq_iff_eq, Bool.not_eq_true', decide_eq_true_eq] at h5
  obtain ⟨⟨⟨⟨⟨g1, g2⟩, g3⟩, g4⟩, g5⟩, g6⟩ := h5
  simp [Cond.before, Cond.holds, Cond.value, h1, h2, h3, h4, g1, g2, g3, g4, g5, g6]
def isCode : Jvm.Cond → Bool
  | .code _ _ _ _ => true
  | _ => false
theorem all_split {L : List Jvm.Cond} {P : Jvm.Cond → Bool} (h1 : L.all (fun c => isCode c || P c) = true) (h2 : ∀ c ∈ L.filter isCode, P c = true) : L.all P = true := by
  refine List.all_eq_true.mpr fun c hc => ?_
  have h := List.all_eq_true.mp h1 c hc
  rcases Bool.eq_false_or_eq_true (isCode c) with hi | hi
  · exact h2 c (List.mem_filter.mpr ⟨hc, hi⟩)
  · simpa [hi] using h
set_option maxRecDepth 65536 in
theorem w_c0 : (Jvm.Cond.code x code maxLocals ret).before args0 about1 = true := code_word (m := ⟨1, 2⟩) (meth := k1m2) (c := k1c2) (by decide +kernel) rfl rfl rfl (by decide +kernel)
set_option maxRecDepth 65536 in
theorem w_c1 : (Jvm.Cond.code ({ cls := "com/example/mirk/mirk/eval/MeasureOverAllPinLaw", name := "pick", desc := "(I)Lcom/example/mirk/mirk/eval/Measure;" } : Jvm.MethodName) method_2_code (1 : Nat) (Option.some (Jvm.ClassFile.FieldType.object "com/example/mirk/mirk/eval/Measure"))).before args0 about1 = true := code_word (m := ⟨1, 1⟩) (meth := k1m1) (c := k1c1) (by decide +kernel) rfl rfl rfl (by decide +kernel)
set_option maxRecDepth 65536 in
theorem w_c2 : (Jvm.Cond.code ({ cls := "com/example/mirk/mirk/eval/Measure", name := "overAll", desc := "(DI)D" } : Jvm.MethodName) prog_10_method_9_code (4 : Nat) (Option.some Jvm.ClassFile.FieldType.double)).before args0 about1 = true := code_word (m := ⟨6, 0⟩) (meth := k6m0) (c := k6c0) (by decide +kernel) rfl rfl rfl (by decide +kernel)
def codes1 : List Jvm.Cond := [Jvm.Cond.code x code maxLocals ret, Jvm.Cond.code ({ cls := "com/example/mirk/mirk/eval/MeasureOverAllPinLaw", name := "pick", desc := "(I)Lcom/example/mirk/mirk/eval/Measure;" } : Jvm.MethodName) method_2_code (1 : Nat) (Option.some (Jvm.ClassFile.FieldType.object "com/example/mirk/mirk/eval/Measure")), Jvm.Cond.code ({ cls := "com/example/mirk/mirk/eval/Measure", name := "overAll", desc := "(DI)D" } : Jvm.MethodName) prog_10_method_9_code (4 : Nat) (Option.some Jvm.ClassFile.FieldType.double)]
set_option maxRecDepth 65536 in
theorem codes_eq : words1.filter isCode = codes1 := rfl
theorem w_codes : ∀ c ∈ words1.filter isCode, c.before args0 about1 = true := by
  rw [codes_eq]
  intro c hc
  simp only [codes1, List.mem_cons, List.not_mem_nil, or_false] at hc
  rcases hc with rfl | rfl | rfl
  · exact w_c0
  · exact w_c1
  · exact w_c2
set_option maxRecDepth 65536 in
theorem w_t1 : (words1.take 24).all (fun c => isCode c || c.before args0 about1) = true := by decide +kernel
set_option maxRecDepth 65536 in
theorem w_t2 : (words1.drop 24).all (fun c => isCode c || c.before args0 about1) = true := by decide +kernel
theorem w_tables : (allAtoms (Jvm.Cond.code x code maxLocals ret :: tables_1)).before args0 about1 = true := by
  rw [allAtoms_all]
  show words1.all (fun c => c.before args0 about1) = true
  refine all_split ?_ w_codes
  rw [← List.take_append_drop 24 words1, List.all_append, w_t1, w_t2]
  rfl
set_option maxRecDepth 65536 in
theorem w_case : (Jvm.Cond.and given_1 narrow_1).before args0 about1 = true := by decide +kernel
theorem w_applies : (headSpec (Jvm.Cond.code x code maxLocals ret :: tables_1) room_1).applies x e0.platform about1 = true :=
  (Spec.applies_iff w_frames).mpr ⟨w_running, w_runnable, w_alone, w_named, w_hears, w_ripe, w_room, w_tables⟩
theorem atStart : AtStart classFile x code maxLocals ret World_1 tables_1 room_1 Calls_1 rest_1 Pre_1 launch0 p0 e0 about1 theMethod args0 below0 :=
  ⟨lists_1, trivial, launch0.admits_env _ _ _, launch0.least_env, fairChoices_fair.cas, fairChoices_fair.clock, w_frames, w_args, w_heap, w_applies, trivial, trivial, w_case⟩
end start1
theorem witness_1 : WitnessClaimed_1 := ⟨start1.p0, start1.e0, start1.about1, start1.theMethod, start1.args0, start1.below0, start1.atStart⟩
end Jvm.Pilot.@@N@@
