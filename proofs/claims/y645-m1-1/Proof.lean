import JvmDerived
import JvmDerived.Pilot.@@N@@Statement
import JvmDerived.Pilot.@@N@@Code
set_option linter.unusedVariables false
set_option linter.unusedSimpArgs false
namespace Jvm.Pilot.@@N@@
open Jvm Jvm.ClassFile Sem Op Lib Jvm.Free Jvm.Stand Jvm.LawKit Jvm.RoadKit Bundle Jvm.Pilot.@@N@@.Jvm.D
theorem own_exa_ns {Z : State} {h : Heap} {a : Addr} {C : String} (E : Exa Z h a C) : ∀ c : Cell, h[a]? = some c → c.vm.isStatics = false := fun c hc => by
  obtain ⟨cell, k, h1, -, -, h4, -⟩ := E
  rw [h1] at hc; cases hc; exact h4
theorem own_sta_keep {Z : State} {h h' : Heap} {C n d : String} {v : Value} {ws : List Addr} (F : Sta Z h C n d v) (K : Keep h h' ws) (q : ∀ x ∈ ws, ∀ c : Cell, h[x]? = some c → c.vm.isStatics = false) : Sta Z h' C n d v := by
  obtain ⟨cf, i, k, f, st, cell, h1, h2, h3, h4, h5, h6, h7⟩ := F
  exact ⟨cf, i, k, f, st, cell, h1, h2, h3, h4, K.2.1 st cell h5 (fun hm => by have := q st hm cell h5; rw [h6] at this; cases this), h6, h7⟩
theorem own_ins_keep {Z : State} {h h' : Heap} {a : Addr} {C : String} {b : Bool} {ws : List Addr} (F : Ins Z h a C b) (K : Keep h h' ws) : Ins Z h' a C b := by
  obtain ⟨cell, cT, h1, h2, h3⟩ := F
  obtain ⟨c', q1, q2, q3, -⟩ := K.2.2 a cell h1
  exact ⟨c', cT, q1, h2, by rw [q3, q2]; exact h3⟩
theorem own_ne {r c : Int32} (k : Int) (hc : c.toInt = k) (h : ¬ r = c) : ¬ r.toInt = k := fun e => h (Int32.toInt_inj.mp (e.trans hc.symm))
theorem own_cat1 {v : Value} (h : v.isRef = true) : 2 * 0 + ([v].map fun v => v.category).sum ≤ 1 := by simp [XT.cat1 h]
theorem own_nz {z : Int32} (h : z = 0 ∨ z = 1) : narrow .boolean (.int z) = .int z := by rcases h with rfl | rfl <;> rfl
def own_e6 (j : Int32) : Int32 := if j = 0 then 2400000 else if j = 1 then 2500000 else if j = 2 then 5150000 else if j = 3 then 5924000 else if j = 4 then 5925000 else 7125000
theorem own_e6_at (j : Int32) (h0 : ¬ j < 0) (h1 : j < 6) : ([(.int (2400000 : Int32)), (.int (2500000 : Int32)), (.int (5150000 : Int32)), (.int (5924000 : Int32)), (.int (5925000 : Int32)), (.int (7125000 : Int32))] : List Value).getD j.toNatClampNeg (.int (0 : Int32)) = .int (own_e6 j) := by
  have hc : j = 0 ∨ j = 1 ∨ j = 2 ∨ j = 3 ∨ j = 4 ∨ j = 5 := by
    simp only [← Int32.toInt_inj]; rw [Int32.lt_iff_toInt_lt] at h0 h1
    have e0 : (0 : Int32).toInt = 0 := rfl
    have e1 : (1 : Int32).toInt = 1 := rfl
    have e2 : (2 : Int32).toInt = 2 := rfl
    have e3 : (3 : Int32).toInt = 3 := rfl
    have e4 : (4 : Int32).toInt = 4 := rfl
    have e5 : (5 : Int32).toInt = 5 := rfl
    have e6 : (6 : Int32).toInt = 6 := rfl
    omega
  rcases hc with rfl | rfl | rfl | rfl | rfl | rfl <;> rfl
theorem own_m7 (x : Int32) : ¬ (x &&& 7) < 0 := by
  have h := c_mask x 7 3 (by decide) (by decide)
  rw [Int32.lt_iff_toInt_lt, h]
  have e0 : (0 : Int32).toInt = 0 := rfl
  omega
theorem own_eqi {a : Term} {args : Array Value} {s : State} {k : Int32} (h : (Jvm.Cond.eq a (Term.int k)).value args s none s [] = some true) : a.eval args s none [] s = some (.int k) := by
  cases ha : a.eval args s none [] s with
  | none => simp [Cond.value, ha] at h
  | some x => cases x <;> simp [Cond.value, ha, Term.eval] at h ⊢; exact h
theorem own_eqr {a b : Term} {args : Array Value} {s : State} {y : Addr} (hb : b.eval args s none [] s = some (.ref y)) (h : (Jvm.Cond.eq a b).value args s none s [] = some true) : a.eval args s none [] s = some (.ref y) := by
  cases ha : a.eval args s none [] s with
  | none => simp [Cond.value, ha] at h
  | some x => cases x <;> simp [Cond.value, ha, hb] at h ⊢; exact h
theorem own_len {t : Term} {args : Array Value} {s : State} {n : Int32} {x : Addr} {c : Cell} {ty : FieldType} (h : (Term.length t).eval args s none [] s = some (.int n)) (ht : t.eval args s none [] s = some (.ref x)) (A : Arr s s.heap x c ty) : c.slots.size < 2 ^ 31 ∧ c.slots.size.toInt32 = n := by
  have ha : s.arrayAt? x = some c := Arr.fin (Vm.Alike.refl _) A
  simp only [Term.eval, ht, ha, Option.bind_eq_bind, Option.bind_some] at h
  split at h
  · rename_i hl; simp at h; exact ⟨hl, h⟩
  · cases h
theorem d1_0 : decode prog_2_method_5_code 0 = .ok (.getstatic 53, 3) := by decide +kernel
theorem d1_3 : decode prog_2_method_5_code 3 = .ok (.astore_n 1, 1) := by decide +kernel
theorem d1_4 : decode prog_2_method_5_code 4 = .ok (.aload_n 1, 1) := by decide +kernel
theorem d1_5 : decode prog_2_method_5_code 5 = .ok (.arraylength, 1) := by decide +kernel
theorem d1_6 : decode prog_2_method_5_code 6 = .ok (.istore_n 2, 1) := by decide +kernel
theorem d1_7 : decode prog_2_method_5_code 7 = .ok (.iconst 0, 1) := by decide +kernel
theorem d1_8 : decode prog_2_method_5_code 8 = .ok (.istore_n 3, 1) := by decide +kernel
theorem d1_9 : decode prog_2_method_5_code 9 = .ok (.iload_n 3, 1) := by decide +kernel
theorem d1_10 : decode prog_2_method_5_code 10 = .ok (.iload_n 2, 1) := by decide +kernel
theorem d1_11 : decode prog_2_method_5_code 11 = .ok (.if_icmp .ge 35, 3) := by decide +kernel
theorem d1_14 : decode prog_2_method_5_code 14 = .ok (.aload_n 1, 1) := by decide +kernel
theorem d1_15 : decode prog_2_method_5_code 15 = .ok (.iload_n 3, 1) := by decide +kernel
theorem d1_16 : decode prog_2_method_5_code 16 = .ok (.aaload, 1) := by decide +kernel
theorem d1_17 : decode prog_2_method_5_code 17 = .ok (.astore 4, 2) := by decide +kernel
theorem d1_19 : decode prog_2_method_5_code 19 = .ok (.iload_n 0, 1) := by decide +kernel
theorem d1_20 : decode prog_2_method_5_code 20 = .ok (.aload 4, 2) := by decide +kernel
theorem d1_22 : decode prog_2_method_5_code 22 = .ok (.getfield 36, 3) := by decide +kernel
theorem d1_25 : decode prog_2_method_5_code 25 = .ok (.if_icmp .lt 15, 3) := by decide +kernel
theorem d1_40 : decode prog_2_method_5_code 40 = .ok (.iinc 3 1, 3) := by decide +kernel
theorem d1_43 : decode prog_2_method_5_code 43 = .ok (.goto (-34), 3) := by decide +kernel
theorem d1_46 : decode prog_2_method_5_code 46 = .ok (.aconst_null, 1) := by decide +kernel
theorem d1_47 : decode prog_2_method_5_code 47 = .ok (.areturn, 1) := by decide +kernel
theorem d1_28 : decode prog_2_method_5_code 28 = .ok (.iload_n 0, 1) := by decide +kernel
theorem d1_29 : decode prog_2_method_5_code 29 = .ok (.aload 4, 2) := by decide +kernel
theorem d1_31 : decode prog_2_method_5_code 31 = .ok (.getfield 40, 3) := by decide +kernel
theorem d1_34 : decode prog_2_method_5_code 34 = .ok (.if_icmp .gt 6, 3) := by decide +kernel
theorem d1_37 : decode prog_2_method_5_code 37 = .ok (.aload 4, 2) := by decide +kernel
theorem d1_39 : decode prog_2_method_5_code 39 = .ok (.areturn, 1) := by decide +kernel
theorem pn_28 : plainName "com/example/probe/probe/Band" = true := by first | (simp [plainName, overriddenIn]; done) | decide +kernel
def f1 (p0 : Int32) (s_GHZ_2_4 : Addr) (s_GHZ_5 : Addr) (s_GHZ_6 : Addr) : Value := (if p0 < (2400000 : Int32) then (if p0 < (5150000 : Int32) then (if p0 < (5925000 : Int32) then (.null : Value) else (if (7125000 : Int32) < p0 then (.null : Value) else ((.ref s_GHZ_6) : Value))) else (if (5924000 : Int32) < p0 then (if p0 < (5925000 : Int32) then (.null : Value) else (if (7125000 : Int32) < p0 then (.null : Value) else ((.ref s_GHZ_6) : Value))) else ((.ref s_GHZ_5) : Value))) else (if (2500000 : Int32) < p0 then (if p0 < (5150000 : Int32) then (if p0 < (5925000 : Int32) then (.null : Value) else (if (7125000 : Int32) < p0 then (.null : Value) else ((.ref s_GHZ_6) : Value))) else (if (5924000 : Int32) < p0 then (if p0 < (5925000 : Int32) then (.null : Value) else (if (7125000 : Int32) < p0 then (.null : Value) else ((.ref s_GHZ_6) : Value))) else ((.ref s_GHZ_5) : Value))) else ((.ref s_GHZ_2_4) : Value)))
def Q1 (Z : State) (n0 : Nat) (p0 : Int32) (s_ALL : Addr) (s_GHZ_2_4 : Addr) (s_GHZ_5 : Addr) (s_GHZ_6 : Addr) (k_s_ALL : ClassId) (h0 : Heap) (v : Option Value) (h : Heap) (L : List Loc) : Prop := v = some (f1 p0 s_GHZ_2_4 s_GHZ_5 s_GHZ_6) ∧ Fr n0 L ∧ h = h0
theorem ef1 (m : MethodId) (p0 : Int32) : entryFrame m #[(.int p0)] 5 = mkF m 0 #[.val (.int p0), .unset, .unset, .unset, .unset] [] := by first | (simp [entryFrame, mkF, argsToLocals, Value.category]; done) | rfl
set_option maxRecDepth 65536 in
set_option maxHeartbeats 40000000 in
theorem rm1 (l : Launch) (Z : State) (aZ : Array Value) (hw : ∀ d ∈ tables_1, d.before aZ Z = true) (ws : List Jvm.Cond) (p0 : Int32) (s_ALL : Addr) (s_GHZ_2_4 : Addr) (s_GHZ_5 : Addr) (s_GHZ_6 : Addr) (k_s_ALL : ClassId) (h0 : Heap) (n0 : Nat) (Z0 : n0 ≤ h0.size) (S_ALL : Sta Z h0 "com/example/probe/probe/Band" "ALL" "[Lcom/example/probe/probe/Band;" (.ref s_ALL)) (E_GHZ_2_4 : Exa Z h0 s_GHZ_2_4 "com/example/probe/probe/Band") (F_GHZ_2_4_lowestKhz : Fld Z h0 s_GHZ_2_4 "com/example/probe/probe/Band" "lowestKhz" "I" (.int (2400000 : Int32))) (F_GHZ_2_4_highestKhz : Fld Z h0 s_GHZ_2_4 "com/example/probe/probe/Band" "highestKhz" "I" (.int (2500000 : Int32))) (E_GHZ_5 : Exa Z h0 s_GHZ_5 "com/example/probe/probe/Band") (F_GHZ_5_lowestKhz : Fld Z h0 s_GHZ_5 "com/example/probe/probe/Band" "lowestKhz" "I" (.int (5150000 : Int32))) (F_GHZ_5_highestKhz : Fld Z h0 s_GHZ_5 "com/example/probe/probe/Band" "highestKhz" "I" (.int (5924000 : Int32))) (E_GHZ_6 : Exa Z h0 s_GHZ_6 "com/example/probe/probe/Band") (F_GHZ_6_lowestKhz : Fld Z h0 s_GHZ_6 "com/example/probe/probe/Band" "lowestKhz" "I" (.int (5925000 : Int32))) (F_GHZ_6_highestKhz : Fld Z h0 s_GHZ_6 "com/example/probe/probe/Band" "highestKhz" "I" (.int (7125000 : Int32))) (V_ALL : Arv Z h0 s_ALL k_s_ALL (.object "com/example/probe/probe/Band") (3 : Int32) [(.ref s_GHZ_2_4), (.ref s_GHZ_5), (.ref s_GHZ_6)] .null) :
    MetFree l (⟨"com/example/probe/probe/Band", "in", "(I)Lcom/example/probe/probe/Band;"⟩ : MethodName) (head1 (Jvm.Cond.code (⟨"com/example/probe/probe/Band", "in", "(I)Lcom/example/probe/probe/Band;"⟩ : MethodName) prog_2_method_5_code 5 (some (.object "com/example/probe/probe/Band")) :: ws) ({ frames := 0, cells := 0, slots := 0, locals := 0 } : Room)) (fun a U => a = #[(.int p0)] ∧ Z.Warmed39 U.vm ∧ U.heap = h0) (fun _ _ _ _ _ => True) (fun _ U o U' => ∃ v L, o = .returned v ∧ Q1 Z n0 p0 s_ALL s_GHZ_2_4 s_GHZ_5 s_GHZ_6 k_s_ALL h0 v U'.heap L ∧ FrameEnd U o U' L ({ frames := 0, cells := 0, slots := 0, locals := 0 } : Room).cells ({ frames := 0, cells := 0, slots := 0, locals := 0 } : Room).slots) := by
  refine MetFree.of_bodySF (plainFor_of_name pn_28) hisR ?_
  intro p e s m args below meth c s₁ Bd hml0 hP hK
  obtain ⟨rfl, hZ, hh⟩ := hP
  have hx := Bd.exec
  have hby := Bd.bytes
  have hml : c.maxLocals = 5 := hml0
  have hown : s.vm.findClass "com/example/probe/probe/Band" = some m.cls := findClass_of_methodNamed Bd.named
  have hnm := (name_of_methodNamed Bd.named Bd.method).1
  have X0 : Stand p l e ({ frames := 0, cells := 0, slots := 0, locals := 0 } : Room) s m #[(.int p0)] below meth c s₁ [] 0 0 := Stand.of_body Bd
  have e0 : s₁.heap = h0 := by rw [← hh, Bd.state]; rfl
  have N0 := Fr.nil n0
  have K0 : Keep h0 h0 [] := Keep.refl _ _
  have go0 : ∀ t, Steps p.tables e below (s₁.setTop (mkF m 0 #[.val (.int p0), .unset, .unset, .unset, .unset] [])) t → Steps p.tables e below (s₁.setTop (entryFrame m #[(.int p0)] 5)) t := fun t k => castTop (ef1 m p0) k
  obtain ⟨T1, X1, e1, st1⟩ := getS2 X0 hx hZ hown (host := "") (Or.inl (hw _ (List.mem_of_getElem? (i := 11) rfl))) Via.refl e0 S_ALL (g := (mkF m 0 #[.val (.int p0), .unset, .unset, .unset, .unset] [])) rfl (hb hby d1_0)
  have go2 : ∀ t, Steps p.tables e below (T1.setTop (mkF m 3 #[.val (.int p0), .unset, .unset, .unset, .unset] [(.ref s_ALL)])) t → Steps p.tables e below (s₁.setTop (entryFrame m #[(.int p0)] 5)) t := fun t k => go0 _ (st1 _ k)
  obtain ⟨cl3, Ar3, q3, S3, N3, H3, G3⟩ := id V_ALL
  have go4 : ∀ t, Steps p.tables e below (T1.setTop (mkF m 22 #[.val (.int p0), .val (.ref s_ALL), .val (.int (3 : Int32)), .val (.int (0 : Int32)), .val (.ref s_GHZ_2_4)] [(.ref s_GHZ_2_4), (.int p0)])) t → Steps p.tables e below (s₁.setTop (entryFrame m #[(.int p0)] 5)) t := by
    intro t k
    refine go2 _ ?_
    refine XS.astoreN X1.here hx rfl (hb hby d1_3) rfl rfl (l' := #[.val (.int p0), .val (.ref s_ALL), .unset, .unset, .unset]) rfl ?_
    show Steps p.tables e below (T1.setTop (mkF m 4 #[.val (.int p0), .val (.ref s_ALL), .unset, .unset, .unset] [])) t
    refine XS.aloadN X1.here hx rfl (hb hby d1_4) rfl rfl ?_
    show Steps p.tables e below (T1.setTop (mkF m 5 #[.val (.int p0), .val (.ref s_ALL), .unset, .unset, .unset] [(.ref s_ALL)])) t
    refine X1.arraylength hx (by rw [e1]; exact Ar3.1) (State.isArrayOf_alike hZ.alike Ar3.2.1) (g := (mkF m 5 #[.val (.int p0), .val (.ref s_ALL), .unset, .unset, .unset] [(.ref s_ALL)])) rfl rfl (hb hby d1_5) _ ?_
    rw [len_of S3 N3]
    show Steps p.tables e below (T1.setTop (mkF m 6 #[.val (.int p0), .val (.ref s_ALL), .unset, .unset, .unset] [(.int (3 : Int32))])) t
    refine XS.istoreN X1.here hx rfl (hb hby d1_6) rfl (l' := #[.val (.int p0), .val (.ref s_ALL), .val (.int (3 : Int32)), .unset, .unset]) rfl ?_
    show Steps p.tables e below (T1.setTop (mkF m 7 #[.val (.int p0), .val (.ref s_ALL), .val (.int (3 : Int32)), .unset, .unset] [])) t
    refine XS.iconst X1.here hx rfl (hb hby d1_7) ?_
    show Steps p.tables e below (T1.setTop (mkF m 8 #[.val (.int p0), .val (.ref s_ALL), .val (.int (3 : Int32)), .unset, .unset] [(.int (0 : Int32))])) t
    refine XS.istoreN X1.here hx rfl (hb hby d1_8) rfl (l' := #[.val (.int p0), .val (.ref s_ALL), .val (.int (3 : Int32)), .val (.int (0 : Int32)), .unset]) rfl ?_
    show Steps p.tables e below (T1.setTop (mkF m 9 #[.val (.int p0), .val (.ref s_ALL), .val (.int (3 : Int32)), .val (.int (0 : Int32)), .unset] [])) t
    refine XS.iloadN X1.here hx rfl (hb hby d1_9) rfl ?_
    show Steps p.tables e below (T1.setTop (mkF m 10 #[.val (.int p0), .val (.ref s_ALL), .val (.int (3 : Int32)), .val (.int (0 : Int32)), .unset] [(.int (0 : Int32))])) t
    refine XS.iloadN X1.here hx rfl (hb hby d1_10) rfl ?_
    show Steps p.tables e below (T1.setTop (mkF m 11 #[.val (.int p0), .val (.ref s_ALL), .val (.int (3 : Int32)), .val (.int (0 : Int32)), .unset] [(.int (3 : Int32)), (.int (0 : Int32))])) t
    refine XS.icmpNo X1.here hx rfl (hb hby d1_11) rfl (XT.ii_ge_f (by decide : ((0 : Int32) < (3 : Int32)))) ?_
    show Steps p.tables e below (T1.setTop (mkF m 14 #[.val (.int p0), .val (.ref s_ALL), .val (.int (3 : Int32)), .val (.int (0 : Int32)), .unset] [])) t
    refine XS.aloadN X1.here hx rfl (hb hby d1_14) rfl rfl ?_
    show Steps p.tables e below (T1.setTop (mkF m 15 #[.val (.int p0), .val (.ref s_ALL), .val (.int (3 : Int32)), .val (.int (0 : Int32)), .unset] [(.ref s_ALL)])) t
    refine XS.iloadN X1.here hx rfl (hb hby d1_15) rfl ?_
    show Steps p.tables e below (T1.setTop (mkF m 16 #[.val (.int p0), .val (.ref s_ALL), .val (.int (3 : Int32)), .val (.int (0 : Int32)), .unset] [(.int (0 : Int32)), (.ref s_ALL)])) t
    refine X1.aaload hx (j := (0 : Int32)) (v := (.ref s_GHZ_2_4)) (by rw [e1]; exact Ar3.1) (State.isArrayOf_alike hZ.alike Ar3.2.1) rfl Ar3.2.2 (inb_of S3 ⟨by decide, by decide⟩) (Has.at H3 (inb_of S3 ⟨by decide, by decide⟩) rfl) (g := (mkF m 16 #[.val (.int p0), .val (.ref s_ALL), .val (.int (3 : Int32)), .val (.int (0 : Int32)), .unset] [(.int (0 : Int32)), (.ref s_ALL)])) rfl rfl (hb hby d1_16) _ ?_
    show Steps p.tables e below (T1.setTop (mkF m 17 #[.val (.int p0), .val (.ref s_ALL), .val (.int (3 : Int32)), .val (.int (0 : Int32)), .unset] [(.ref s_GHZ_2_4)])) t
    refine XS.astore X1.here hx rfl (hb hby d1_17) rfl rfl (l' := #[.val (.int p0), .val (.ref s_ALL), .val (.int (3 : Int32)), .val (.int (0 : Int32)), .val (.ref s_GHZ_2_4)]) rfl ?_
    show Steps p.tables e below (T1.setTop (mkF m 19 #[.val (.int p0), .val (.ref s_ALL), .val (.int (3 : Int32)), .val (.int (0 : Int32)), .val (.ref s_GHZ_2_4)] [])) t
    refine XS.iloadN X1.here hx rfl (hb hby d1_19) rfl ?_
    show Steps p.tables e below (T1.setTop (mkF m 20 #[.val (.int p0), .val (.ref s_ALL), .val (.int (3 : Int32)), .val (.int (0 : Int32)), .val (.ref s_GHZ_2_4)] [(.int p0)])) t
    refine XS.aload X1.here hx rfl (hb hby d1_20) rfl rfl ?_
    show Steps p.tables e below (T1.setTop (mkF m 22 #[.val (.int p0), .val (.ref s_ALL), .val (.int (3 : Int32)), .val (.int (0 : Int32)), .val (.ref s_GHZ_2_4)] [(.ref s_GHZ_2_4), (.int p0)])) t
    exact k
  obtain ⟨T5, X5, e5, st5⟩ := getF X1 hx hZ hown (host := "") (Or.inl (hw _ (List.mem_of_getElem? (i := 14) rfl))) Via.refl e1 F_GHZ_2_4_lowestKhz (g := (mkF m 22 #[.val (.int p0), .val (.ref s_ALL), .val (.int (3 : Int32)), .val (.int (0 : Int32)), .val (.ref s_GHZ_2_4)] [(.ref s_GHZ_2_4), (.int p0)])) rfl rfl (hb hby d1_22)
  have go6 : ∀ t, Steps p.tables e below (T5.setTop (mkF m 25 #[.val (.int p0), .val (.ref s_ALL), .val (.int (3 : Int32)), .val (.int (0 : Int32)), .val (.ref s_GHZ_2_4)] [(.int (2400000 : Int32)), (.int p0)])) t → Steps p.tables e below (s₁.setTop (entryFrame m #[(.int p0)] 5)) t := fun t k => go4 _ (st5 _ k)
  by_cases hs7 : p0 < (2400000 : Int32)
  · have go8 : ∀ t, Steps p.tables e below (T5.setTop (mkF m 22 #[.val (.int p0), .val (.ref s_ALL), .val (.int (3 : Int32)), .val (.int (1 : Int32)), .val (.ref s_GHZ_5)] [(.ref s_GHZ_5), (.int p0)])) t → Steps p.tables e below (s₁.setTop (entryFrame m #[(.int p0)] 5)) t := by
      intro t k
      refine go6 _ ?_
      refine XS.icmpYes X5.here hx rfl (pc0 := 25) (pc' := 40) rfl (hb hby d1_25) rfl (XT.ii_lt_t hs7) (by decide) (by decide) ?_
      show Steps p.tables e below (T5.setTop (mkF m 40 #[.val (.int p0), .val (.ref s_ALL), .val (.int (3 : Int32)), .val (.int (0 : Int32)), .val (.ref s_GHZ_2_4)] [])) t
      refine XS.iinc X5.here hx rfl (hb hby d1_40) rfl (l' := #[.val (.int p0), .val (.ref s_ALL), .val (.int (3 : Int32)), .val (.int (1 : Int32)), .val (.ref s_GHZ_2_4)]) rfl ?_
      show Steps p.tables e below (T5.setTop (mkF m 43 #[.val (.int p0), .val (.ref s_ALL), .val (.int (3 : Int32)), .val (.int (1 : Int32)), .val (.ref s_GHZ_2_4)] [])) t
      refine XS.goto X5.here hx rfl (pc0 := 43) (pc' := 9) rfl (hb hby d1_43) (by decide) (by decide) ?_
      show Steps p.tables e below (T5.setTop (mkF m 9 #[.val (.int p0), .val (.ref s_ALL), .val (.int (3 : Int32)), .val (.int (1 : Int32)), .val (.ref s_GHZ_2_4)] [])) t
      refine XS.iloadN X5.here hx rfl (hb hby d1_9) rfl ?_
      show Steps p.tables e below (T5.setTop (mkF m 10 #[.val (.int p0), .val (.ref s_ALL), .val (.int (3 : Int32)), .val (.int (1 : Int32)), .val (.ref s_GHZ_2_4)] [(.int (1 : Int32))])) t
      refine XS.iloadN X5.here hx rfl (hb hby d1_10) rfl ?_
      show Steps p.tables e below (T5.setTop (mkF m 11 #[.val (.int p0), .val (.ref s_ALL), .val (.int (3 : Int32)), .val (.int (1 : Int32)), .val (.ref s_GHZ_2_4)] [(.int (3 : Int32)), (.int (1 : Int32))])) t
      refine XS.icmpNo X5.here hx rfl (hb hby d1_11) rfl (XT.ii_ge_f (by decide : ((1 : Int32) < (3 : Int32)))) ?_
      show Steps p.tables e below (T5.setTop (mkF m 14 #[.val (.int p0), .val (.ref s_ALL), .val (.int (3 : Int32)), .val (.int (1 : Int32)), .val (.ref s_GHZ_2_4)] [])) t
      refine XS.aloadN X5.here hx rfl (hb hby d1_14) rfl rfl ?_
      show Steps p.tables e below (T5.setTop (mkF m 15 #[.val (.int p0), .val (.ref s_ALL), .val (.int (3 : Int32)), .val (.int (1 : Int32)), .val (.ref s_GHZ_2_4)] [(.ref s_ALL)])) t
      refine XS.iloadN X5.here hx rfl (hb hby d1_15) rfl ?_
      show Steps p.tables e below (T5.setTop (mkF m 16 #[.val (.int p0), .val (.ref s_ALL), .val (.int (3 : Int32)), .val (.int (1 : Int32)), .val (.ref s_GHZ_2_4)] [(.int (1 : Int32)), (.ref s_ALL)])) t
      refine X5.aaload hx (j := (1 : Int32)) (v := (.ref s_GHZ_5)) (by rw [e5]; exact Ar3.1) (State.isArrayOf_alike hZ.alike Ar3.2.1) rfl Ar3.2.2 (inb_of S3 ⟨by decide, by decide⟩) (Has.at H3 (inb_of S3 ⟨by decide, by decide⟩) rfl) (g := (mkF m 16 #[.val (.int p0), .val (.ref s_ALL), .val (.int (3 : Int32)), .val (.int (1 : Int32)), .val (.ref s_GHZ_2_4)] [(.int (1 : Int32)), (.ref s_ALL)])) rfl rfl (hb hby d1_16) _ ?_
      show Steps p.tables e below (T5.setTop (mkF m 17 #[.val (.int p0), .val (.ref s_ALL), .val (.int (3 : Int32)), .val (.int (1 : Int32)), .val (.ref s_GHZ_2_4)] [(.ref s_GHZ_5)])) t
      refine XS.astore X5.here hx rfl (hb hby d1_17) rfl rfl (l' := #[.val (.int p0), .val (.ref s_ALL), .val (.int (3 : Int32)), .val (.int (1 : Int32)), .val (.ref s_GHZ_5)]) rfl ?_
      show Steps p.tables e below (T5.setTop (mkF m 19 #[.val (.int p0), .val (.ref s_ALL), .val (.int (3 : Int32)), .val (.int (1 : Int32)), .val (.ref s_GHZ_5)] [])) t
      refine XS.iloadN X5.here hx rfl (hb hby d1_19) rfl ?_
      show Steps p.tables e below (T5.setTop (mkF m 20 #[.val (.int p0), .val (.ref s_ALL), .val (.int (3 : Int32)), .val (.int (1 : Int32)), .val (.ref s_GHZ_5)] [(.int p0)])) t
      refine XS.aload X5.here hx rfl (hb hby d1_20) rfl rfl ?_
      show Steps p.tables e below (T5.setTop (mkF m 22 #[.val (.int p0), .val (.ref s_ALL), .val (.int (3 : Int32)), .val (.int (1 : Int32)), .val (.ref s_GHZ_5)] [(.ref s_GHZ_5), (.int p0)])) t
      exact k
    obtain ⟨T9, X9, e9, st9⟩ := getF X5 hx hZ hown (host := "") (Or.inl (hw _ (List.mem_of_getElem? (i := 14) rfl))) Via.refl e5 F_GHZ_5_lowestKhz (g := (mkF m 22 #[.val (.int p0), .val (.ref s_ALL), .val (.int (3 : Int32)), .val (.int (1 : Int32)), .val (.ref s_GHZ_5)] [(.ref s_GHZ_5), (.int p0)])) rfl rfl (hb hby d1_22)
    have go10 : ∀ t, Steps p.tables e below (T9.setTop (mkF m 25 #[.val (.int p0), .val (.ref s_ALL), .val (.int (3 : Int32)), .val (.int (1 : Int32)), .val (.ref s_GHZ_5)] [(.int (5150000 : Int32)), (.int p0)])) t → Steps p.tables e below (s₁.setTop (entryFrame m #[(.int p0)] 5)) t := fun t k => go8 _ (st9 _ k)
    by_cases hs11 : p0 < (5150000 : Int32)
    · have go12 : ∀ t, Steps p.tables e below (T9.setTop (mkF m 22 #[.val (.int p0), .val (.ref s_ALL), .val (.int (3 : Int32)), .val (.int (2 : Int32)), .val (.ref s_GHZ_6)] [(.ref s_GHZ_6), (.int p0)])) t → Steps p.tables e below (s₁.setTop (entryFrame m #[(.int p0)] 5)) t := by
        intro t k
        refine go10 _ ?_
        refine XS.icmpYes X9.here hx rfl (pc0 := 25) (pc' := 40) rfl (hb hby d1_25) rfl (XT.ii_lt_t hs11) (by decide) (by decide) ?_
        show Steps p.tables e below (T9.setTop (mkF m 40 #[.val (.int p0), .val (.ref s_ALL), .val (.int (3 : Int32)), .val (.int (1 : Int32)), .val (.ref s_GHZ_5)] [])) t
        refine XS.iinc X9.here hx rfl (hb hby d1_40) rfl (l' := #[.val (.int p0), .val (.ref s_ALL), .val (.int (3 : Int32)), .val (.int (2 : Int32)), .val (.ref s_GHZ_5)]) rfl ?_
        show Steps p.tables e below (T9.setTop (mkF m 43 #[.val (.int p0), .val (.ref s_ALL), .val (.int (3 : Int32)), .val (.int (2 : Int32)), .val (.ref s_GHZ_5)] [])) t
        refine XS.goto X9.here hx rfl (pc0 := 43) (pc' := 9) rfl (hb hby d1_43) (by decide) (by decide) ?_
        show Steps p.tables e below (T9.setTop (mkF m 9 #[.val (.int p0), .val (.ref s_ALL), .val (.int (3 : Int32)), .val (.int (2 : Int32)), .val (.ref s_GHZ_5)] [])) t
        refine XS.iloadN X9.here hx rfl (hb hby d1_9) rfl ?_
        show Steps p.tables e below (T9.setTop (mkF m 10 #[.val (.int p0), .val (.ref s_ALL), .val (.int (3 : Int32)), .val (.int (2 : Int32)), .val (.ref s_GHZ_5)] [(.int (2 : Int32))])) t
        refine XS.iloadN X9.here hx rfl (hb hby d1_10) rfl ?_
        show Steps p.tables e below (T9.setTop (mkF m 11 #[.val (.int p0), .val (.ref s_ALL), .val (.int (3 : Int32)), .val (.int (2 : Int32)), .val (.ref s_GHZ_5)] [(.int (3 : Int32)), (.int (2 : Int32))])) t
        refine XS.icmpNo X9.here hx rfl (hb hby d1_11) rfl (XT.ii_ge_f (by decide : ((2 : Int32) < (3 : Int32)))) ?_
        show Steps p.tables e below (T9.setTop (mkF m 14 #[.val (.int p0), .val (.ref s_ALL), .val (.int (3 : Int32)), .val (.int (2 : Int32)), .val (.ref s_GHZ_5)] [])) t
        refine XS.aloadN X9.here hx rfl (hb hby d1_14) rfl rfl ?_
        show Steps p.tables e below (T9.setTop (mkF m 15 #[.val (.int p0), .val (.ref s_ALL), .val (.int (3 : Int32)), .val (.int (2 : Int32)), .val (.ref s_GHZ_5)] [(.ref s_ALL)])) t
        refine XS.iloadN X9.here hx rfl (hb hby d1_15) rfl ?_
        show Steps p.tables e below (T9.setTop (mkF m 16 #[.val (.int p0), .val (.ref s_ALL), .val (.int (3 : Int32)), .val (.int (2 : Int32)), .val (.ref s_GHZ_5)] [(.int (2 : Int32)), (.ref s_ALL)])) t
        refine X9.aaload hx (j := (2 : Int32)) (v := (.ref s_GHZ_6)) (by rw [e9]; exact Ar3.1) (State.isArrayOf_alike hZ.alike Ar3.2.1) rfl Ar3.2.2 (inb_of S3 ⟨by decide, by decide⟩) (Has.at H3 (inb_of S3 ⟨by decide, by decide⟩) rfl) (g := (mkF m 16 #[.val (.int p0), .val (.ref s_ALL), .val (.int (3 : Int32)), .val (.int (2 : Int32)), .val (.ref s_GHZ_5)] [(.int (2 : Int32)), (.ref s_ALL)])) rfl rfl (hb hby d1_16) _ ?_
        show Steps p.tables e below (T9.setTop (mkF m 17 #[.val (.int p0), .val (.ref s_ALL), .val (.int (3 : Int32)), .val (.int (2 : Int32)), .val (.ref s_GHZ_5)] [(.ref s_GHZ_6)])) t
        refine XS.astore X9.here hx rfl (hb hby d1_17) rfl rfl (l' := #[.val (.int p0), .val (.ref s_ALL), .val (.int (3 : Int32)), .val (.int (2 : Int32)), .val (.ref s_GHZ_6)]) rfl ?_
        show Steps p.tables e below (T9.setTop (mkF m 19 #[.val (.int p0), .val (.ref s_ALL), .val (.int (3 : Int32)), .val (.int (2 : Int32)), .val (.ref s_GHZ_6)] [])) t
        refine XS.iloadN X9.here hx rfl (hb hby d1_19) rfl ?_
        show Steps p.tables e below (T9.setTop (mkF m 20 #[.val (.int p0), .val (.ref s_ALL), .val (.int (3 : Int32)), .val (.int (2 : Int32)), .val (.ref s_GHZ_6)] [(.int p0)])) t
        refine XS.aload X9.here hx rfl (hb hby d1_20) rfl rfl ?_
        show Steps p.tables e below (T9.setTop (mkF m 22 #[.val (.int p0), .val (.ref s_ALL), .val (.int (3 : Int32)), .val (.int (2 : Int32)), .val (.ref s_GHZ_6)] [(.ref s_GHZ_6), (.int p0)])) t
        exact k
      obtain ⟨T13, X13, e13, st13⟩ := getF X9 hx hZ hown (host := "") (Or.inl (hw _ (List.mem_of_getElem? (i := 14) rfl))) Via.refl e9 F_GHZ_6_lowestKhz (g := (mkF m 22 #[.val (.int p0), .val (.ref s_ALL), .val (.int (3 : Int32)), .val (.int (2 : Int32)), .val (.ref s_GHZ_6)] [(.ref s_GHZ_6), (.int p0)])) rfl rfl (hb hby d1_22)
      have go14 : ∀ t, Steps p.tables e below (T13.setTop (mkF m 25 #[.val (.int p0), .val (.ref s_ALL), .val (.int (3 : Int32)), .val (.int (2 : Int32)), .val (.ref s_GHZ_6)] [(.int (5925000 : Int32)), (.int p0)])) t → Steps p.tables e below (s₁.setTop (entryFrame m #[(.int p0)] 5)) t := fun t k => go12 _ (st13 _ k)
      by_cases hs15 : p0 < (5925000 : Int32)
      · have go16 : ∀ t, Steps p.tables e below (T13.setTop (mkF m 47 #[.val (.int p0), .val (.ref s_ALL), .val (.int (3 : Int32)), .val (.int (3 : Int32)), .val (.ref s_GHZ_6)] [.null])) t → Steps p.tables e below (s₁.setTop (entryFrame m #[(.int p0)] 5)) t := by
          intro t k
          refine go14 _ ?_
          refine XS.icmpYes X13.here hx rfl (pc0 := 25) (pc' := 40) rfl (hb hby d1_25) rfl (XT.ii_lt_t hs15) (by decide) (by decide) ?_
          show Steps p.tables e below (T13.setTop (mkF m 40 #[.val (.int p0), .val (.ref s_ALL), .val (.int (3 : Int32)), .val (.int (2 : Int32)), .val (.ref s_GHZ_6)] [])) t
          refine XS.iinc X13.here hx rfl (hb hby d1_40) rfl (l' := #[.val (.int p0), .val (.ref s_ALL), .val (.int (3 : Int32)), .val (.int (3 : Int32)), .val (.ref s_GHZ_6)]) rfl ?_
          show Steps p.tables e below (T13.setTop (mkF m 43 #[.val (.int p0), .val (.ref s_ALL), .val (.int (3 : Int32)), .val (.int (3 : Int32)), .val (.ref s_GHZ_6)] [])) t
          refine XS.goto X13.here hx rfl (pc0 := 43) (pc' := 9) rfl (hb hby d1_43) (by decide) (by decide) ?_
          show Steps p.tables e below (T13.setTop (mkF m 9 #[.val (.int p0), .val (.ref s_ALL), .val (.int (3 : Int32)), .val (.int (3 : Int32)), .val (.ref s_GHZ_6)] [])) t
          refine XS.iloadN X13.here hx rfl (hb hby d1_9) rfl ?_
          show Steps p.tables e below (T13.setTop (mkF m 10 #[.val (.int p0), .val (.ref s_ALL), .val (.int (3 : Int32)), .val (.int (3 : Int32)), .val (.ref s_GHZ_6)] [(.int (3 : Int32))])) t
          refine XS.iloadN X13.here hx rfl (hb hby d1_10) rfl ?_
          show Steps p.tables e below (T13.setTop (mkF m 11 #[.val (.int p0), .val (.ref s_ALL), .val (.int (3 : Int32)), .val (.int (3 : Int32)), .val (.ref s_GHZ_6)] [(.int (3 : Int32)), (.int (3 : Int32))])) t
          refine XS.icmpYes X13.here hx rfl (pc0 := 11) (pc' := 46) rfl (hb hby d1_11) rfl (XT.ii_ge_t (by decide : ¬ ((3 : Int32) < (3 : Int32)))) (by decide) (by decide) ?_
          show Steps p.tables e below (T13.setTop (mkF m 46 #[.val (.int p0), .val (.ref s_ALL), .val (.int (3 : Int32)), .val (.int (3 : Int32)), .val (.ref s_GHZ_6)] [])) t
          refine XS.aconstNull X13.here hx rfl (hb hby d1_46) ?_
          show Steps p.tables e below (T13.setTop (mkF m 47 #[.val (.int p0), .val (.ref s_ALL), .val (.int (3 : Int32)), .val (.int (3 : Int32)), .val (.ref s_GHZ_6)] [.null])) t
          exact k
        obtain ⟨fs, hr, hrun, hended, hW, hsame⟩ := X13.leave (v := some .null) (fun h => by rw [Bd.returns] at h; cases h)
        refine ⟨_, _, go16 _ (Jvm.RoadKit.retOut X13 hx Bd.returns rfl (Or.inr (Or.inr (Or.inr (Or.inr ⟨rfl, rfl, rfl⟩)))) (hb hby d1_47) hr), hrun, hended, _, _, rfl, ?_, ⟨_, rfl⟩, hW, hsame.mono (by decide) (by decide)⟩
        show Q1 _ _ p0 s_ALL s_GHZ_2_4 s_GHZ_5 s_GHZ_6 k_s_ALL h0 _ (T13.setFrames fs).heap _
        have hE : (T13.setFrames fs).heap = h0 := e13
        rw [hE]
        exact ⟨by rw [f1, if_pos hs7, if_pos hs11, if_pos hs15], N0, rfl⟩
      · have go17 : ∀ t, Steps p.tables e below (T13.setTop (mkF m 31 #[.val (.int p0), .val (.ref s_ALL), .val (.int (3 : Int32)), .val (.int (2 : Int32)), .val (.ref s_GHZ_6)] [(.ref s_GHZ_6), (.int p0)])) t → Steps p.tables e below (s₁.setTop (entryFrame m #[(.int p0)] 5)) t := by
          intro t k
          refine go14 _ ?_
          refine XS.icmpNo X13.here hx rfl (hb hby d1_25) rfl (XT.ii_lt_f hs15) ?_
          show Steps p.tables e below (T13.setTop (mkF m 28 #[.val (.int p0), .val (.ref s_ALL), .val (.int (3 : Int32)), .val (.int (2 : Int32)), .val (.ref s_GHZ_6)] [])) t
          refine XS.iloadN X13.here hx rfl (hb hby d1_28) rfl ?_
          show Steps p.tables e below (T13.setTop (mkF m 29 #[.val (.int p0), .val (.ref s_ALL), .val (.int (3 : Int32)), .val (.int (2 : Int32)), .val (.ref s_GHZ_6)] [(.int p0)])) t
          refine XS.aload X13.here hx rfl (hb hby d1_29) rfl rfl ?_
          show Steps p.tables e below (T13.setTop (mkF m 31 #[.val (.int p0), .val (.ref s_ALL), .val (.int (3 : Int32)), .val (.int (2 : Int32)), .val (.ref s_GHZ_6)] [(.ref s_GHZ_6), (.int p0)])) t
          exact k
        obtain ⟨T18, X18, e18, st18⟩ := getF X13 hx hZ hown (host := "") (Or.inl (hw _ (List.mem_of_getElem? (i := 16) rfl))) Via.refl e13 F_GHZ_6_highestKhz (g := (mkF m 31 #[.val (.int p0), .val (.ref s_ALL), .val (.int (3 : Int32)), .val (.int (2 : Int32)), .val (.ref s_GHZ_6)] [(.ref s_GHZ_6), (.int p0)])) rfl rfl (hb hby d1_31)
        have go19 : ∀ t, Steps p.tables e below (T18.setTop (mkF m 34 #[.val (.int p0), .val (.ref s_ALL), .val (.int (3 : Int32)), .val (.int (2 : Int32)), .val (.ref s_GHZ_6)] [(.int (7125000 : Int32)), (.int p0)])) t → Steps p.tables e below (s₁.setTop (entryFrame m #[(.int p0)] 5)) t := fun t k => go17 _ (st18 _ k)
        by_cases hs20 : (7125000 : Int32) < p0
        · have go21 : ∀ t, Steps p.tables e below (T18.setTop (mkF m 47 #[.val (.int p0), .val (.ref s_ALL), .val (.int (3 : Int32)), .val (.int (3 : Int32)), .val (.ref s_GHZ_6)] [.null])) t → Steps p.tables e below (s₁.setTop (entryFrame m #[(.int p0)] 5)) t := by
            intro t k
            refine go19 _ ?_
            refine XS.icmpYes X18.here hx rfl (pc0 := 34) (pc' := 40) rfl (hb hby d1_34) rfl (XT.ii_gt_t hs20) (by decide) (by decide) ?_
            show Steps p.tables e below (T18.setTop (mkF m 40 #[.val (.int p0), .val (.ref s_ALL), .val (.int (3 : Int32)), .val (.int (2 : Int32)), .val (.ref s_GHZ_6)] [])) t
            refine XS.iinc X18.here hx rfl (hb hby d1_40) rfl (l' := #[.val (.int p0), .val (.ref s_ALL), .val (.int (3 : Int32)), .val (.int (3 : Int32)), .val (.ref s_GHZ_6)]) rfl ?_
            show Steps p.tables e below (T18.setTop (mkF m 43 #[.val (.int p0), .val (.ref s_ALL), .val (.int (3 : Int32)), .val (.int (3 : Int32)), .val (.ref s_GHZ_6)] [])) t
            refine XS.goto X18.here hx rfl (pc0 := 43) (pc' := 9) rfl (hb hby d1_43) (by decide) (by decide) ?_
            show Steps p.tables e below (T18.setTop (mkF m 9 #[.val (.int p0), .val (.ref s_ALL), .val (.int (3 : Int32)), .val (.int (3 : Int32)), .val (.ref s_GHZ_6)] [])) t
            refine XS.iloadN X18.here hx rfl (hb hby d1_9) rfl ?_
            show Steps p.tables e below (T18.setTop (mkF m 10 #[.val (.int p0), .val (.ref s_ALL), .val (.int (3 : Int32)), .val (.int (3 : Int32)), .val (.ref s_GHZ_6)] [(.int (3 : Int32))])) t
            refine XS.iloadN X18.here hx rfl (hb hby d1_10) rfl ?_
            show Steps p.tables e below (T18.setTop (mkF m 11 #[.val (.int p0), .val (.ref s_ALL), .val (.int (3 : Int32)), .val (.int (3 : Int32)), .val (.ref s_GHZ_6)] [(.int (3 : Int32)), (.int (3 : Int32))])) t
            refine XS.icmpYes X18.here hx rfl (pc0 := 11) (pc' := 46) rfl (hb hby d1_11) rfl (XT.ii_ge_t (by decide : ¬ ((3 : Int32) < (3 : Int32)))) (by decide) (by decide) ?_
            show Steps p.tables e below (T18.setTop (mkF m 46 #[.val (.int p0), .val (.ref s_ALL), .val (.int (3 : Int32)), .val (.int (3 : Int32)), .val (.ref s_GHZ_6)] [])) t
            refine XS.aconstNull X18.here hx rfl (hb hby d1_46) ?_
            show Steps p.tables e below (T18.setTop (mkF m 47 #[.val (.int p0), .val (.ref s_ALL), .val (.int (3 : Int32)), .val (.int (3 : Int32)), .val (.ref s_GHZ_6)] [.null])) t
            exact k
          obtain ⟨fs, hr, hrun, hended, hW, hsame⟩ := X18.leave (v := some .null) (fun h => by rw [Bd.returns] at h; cases h)
          refine ⟨_, _, go21 _ (Jvm.RoadKit.retOut X18 hx Bd.returns rfl (Or.inr (Or.inr (Or.inr (Or.inr ⟨rfl, rfl, rfl⟩)))) (hb hby d1_47) hr), hrun, hended, _, _, rfl, ?_, ⟨_, rfl⟩, hW, hsame.mono (by decide) (by decide)⟩
          show Q1 _ _ p0 s_ALL s_GHZ_2_4 s_GHZ_5 s_GHZ_6 k_s_ALL h0 _ (T18.setFrames fs).heap _
          have hE : (T18.setFrames fs).heap = h0 := e18
          rw [hE]
          exact ⟨by rw [f1, if_pos hs7, if_pos hs11, if_neg hs15, if_pos hs20], N0, rfl⟩
        · have go22 : ∀ t, Steps p.tables e below (T18.setTop (mkF m 39 #[.val (.int p0), .val (.ref s_ALL), .val (.int (3 : Int32)), .val (.int (2 : Int32)), .val (.ref s_GHZ_6)] [(.ref s_GHZ_6)])) t → Steps p.tables e below (s₁.setTop (entryFrame m #[(.int p0)] 5)) t := by
            intro t k
            refine go19 _ ?_
            refine XS.icmpNo X18.here hx rfl (hb hby d1_34) rfl (XT.ii_gt_f hs20) ?_
            show Steps p.tables e below (T18.setTop (mkF m 37 #[.val (.int p0), .val (.ref s_ALL), .val (.int (3 : Int32)), .val (.int (2 : Int32)), .val (.ref s_GHZ_6)] [])) t
            refine XS.aload X18.here hx rfl (hb hby d1_37) rfl rfl ?_
            show Steps p.tables e below (T18.setTop (mkF m 39 #[.val (.int p0), .val (.ref s_ALL), .val (.int (3 : Int32)), .val (.int (2 : Int32)), .val (.ref s_GHZ_6)] [(.ref s_GHZ_6)])) t
            exact k
          obtain ⟨fs, hr, hrun, hended, hW, hsame⟩ := X18.leave (v := some (.ref s_GHZ_6)) (fun h => by rw [Bd.returns] at h; cases h)
          refine ⟨_, _, go22 _ (Jvm.RoadKit.retOut X18 hx Bd.returns rfl (Or.inr (Or.inr (Or.inr (Or.inr ⟨rfl, rfl, rfl⟩)))) (hb hby d1_39) hr), hrun, hended, _, _, rfl, ?_, ⟨_, rfl⟩, hW, hsame.mono (by decide) (by decide)⟩
          show Q1 _ _ p0 s_ALL s_GHZ_2_4 s_GHZ_5 s_GHZ_6 k_s_ALL h0 _ (T18.setFrames fs).heap _
          have hE : (T18.setFrames fs).heap = h0 := e18
          rw [hE]
          exact ⟨by rw [f1, if_pos hs7, if_pos hs11, if_neg hs15, if_neg hs20], N0, rfl⟩
    · have go23 : ∀ t, Steps p.tables e below (T9.setTop (mkF m 31 #[.val (.int p0), .val (.ref s_ALL), .val (.int (3 : Int32)), .val (.int (1 : Int32)), .val (.ref s_GHZ_5)] [(.ref s_GHZ_5), (.int p0)])) t → Steps p.tables e below (s₁.setTop (entryFrame m #[(.int p0)] 5)) t := by
        intro t k
        refine go10 _ ?_
        refine XS.icmpNo X9.here hx rfl (hb hby d1_25) rfl (XT.ii_lt_f hs11) ?_
        show Steps p.tables e below (T9.setTop (mkF m 28 #[.val (.int p0), .val (.ref s_ALL), .val (.int (3 : Int32)), .val (.int (1 : Int32)), .val (.ref s_GHZ_5)] [])) t
        refine XS.iloadN X9.here hx rfl (hb hby d1_28) rfl ?_
        show Steps p.tables e below (T9.setTop (mkF m 29 #[.val (.int p0), .val (.ref s_ALL), .val (.int (3 : Int32)), .val (.int (1 : Int32)), .val (.ref s_GHZ_5)] [(.int p0)])) t
        refine XS.aload X9.here hx rfl (hb hby d1_29) rfl rfl ?_
        show Steps p.tables e below (T9.setTop (mkF m 31 #[.val (.int p0), .val (.ref s_ALL), .val (.int (3 : Int32)), .val (.int (1 : Int32)), .val (.ref s_GHZ_5)] [(.ref s_GHZ_5), (.int p0)])) t
        exact k
      obtain ⟨T24, X24, e24, st24⟩ := getF X9 hx hZ hown (host := "") (Or.inl (hw _ (List.mem_of_getElem? (i := 16) rfl))) Via.refl e9 F_GHZ_5_highestKhz (g := (mkF m 31 #[.val (.int p0), .val (.ref s_ALL), .val (.int (3 : Int32)), .val (.int (1 : Int32)), .val (.ref s_GHZ_5)] [(.ref s_GHZ_5), (.int p0)])) rfl rfl (hb hby d1_31)
      have go25 : ∀ t, Steps p.tables e below (T24.setTop (mkF m 34 #[.val (.int p0), .val (.ref s_ALL), .val (.int (3 : Int32)), .val (.int (1 : Int32)), .val (.ref s_GHZ_5)] [(.int (5924000 : Int32)), (.int p0)])) t → Steps p.tables e below (s₁.setTop (entryFrame m #[(.int p0)] 5)) t := fun t k => go23 _ (st24 _ k)
      by_cases hs26 : (5924000 : Int32) < p0
      · have go27 : ∀ t, Steps p.tables e below (T24.setTop (mkF m 22 #[.val (.int p0), .val (.ref s_ALL), .val (.int (3 : Int32)), .val (.int (2 : Int32)), .val (.ref s_GHZ_6)] [(.ref s_GHZ_6), (.int p0)])) t → Steps p.tables e below (s₁.setTop (entryFrame m #[(.int p0)] 5)) t := by
          intro t k
          refine go25 _ ?_
          refine XS.icmpYes X24.here hx rfl (pc0 := 34) (pc' := 40) rfl (hb hby d1_34) rfl (XT.ii_gt_t hs26) (by decide) (by decide) ?_
          show Steps p.tables e below (T24.setTop (mkF m 40 #[.val (.int p0), .val (.ref s_ALL), .val (.int (3 : Int32)), .val (.int (1 : Int32)), .val (.ref s_GHZ_5)] [])) t
          refine XS.iinc X24.here hx rfl (hb hby d1_40) rfl (l' := #[.val (.int p0), .val (.ref s_ALL), .val (.int (3 : Int32)), .val (.int (2 : Int32)), .val (.ref s_GHZ_5)]) rfl ?_
          show Steps p.tables e below (T24.setTop (mkF m 43 #[.val (.int p0), .val (.ref s_ALL), .val (.int (3 : Int32)), .val (.int (2 : Int32)), .val (.ref s_GHZ_5)] [])) t
          refine XS.goto X24.here hx rfl (pc0 := 43) (pc' := 9) rfl (hb hby d1_43) (by decide) (by decide) ?_
          show Steps p.tables e below (T24.setTop (mkF m 9 #[.val (.int p0), .val (.ref s_ALL), .val (.int (3 : Int32)), .val (.int (2 : Int32)), .val (.ref s_GHZ_5)] [])) t
          refine XS.iloadN X24.here hx rfl (hb hby d1_9) rfl ?_
          show Steps p.tables e below (T24.setTop (mkF m 10 #[.val (.int p0), .val (.ref s_ALL), .val (.int (3 : Int32)), .val (.int (2 : Int32)), .val (.ref s_GHZ_5)] [(.int (2 : Int32))])) t
          refine XS.iloadN X24.here hx rfl (hb hby d1_10) rfl ?_
          show Steps p.tables e below (T24.setTop (mkF m 11 #[.val (.int p0), .val (.ref s_ALL), .val (.int (3 : Int32)), .val (.int (2 : Int32)), .val (.ref s_GHZ_5)] [(.int (3 : Int32)), (.int (2 : Int32))])) t
          refine XS.icmpNo X24.here hx rfl (hb hby d1_11) rfl (XT.ii_ge_f (by decide : ((2 : Int32) < (3 : Int32)))) ?_
          show Steps p.tables e below (T24.setTop (mkF m 14 #[.val (.int p0), .val (.ref s_ALL), .val (.int (3 : Int32)), .val (.int (2 : Int32)), .val (.ref s_GHZ_5)] [])) t
          refine XS.aloadN X24.here hx rfl (hb hby d1_14) rfl rfl ?_
          show Steps p.tables e below (T24.setTop (mkF m 15 #[.val (.int p0), .val (.ref s_ALL), .val (.int (3 : Int32)), .val (.int (2 : Int32)), .val (.ref s_GHZ_5)] [(.ref s_ALL)])) t
          refine XS.iloadN X24.here hx rfl (hb hby d1_15) rfl ?_
          show Steps p.tables e below (T24.setTop (mkF m 16 #[.val (.int p0), .val (.ref s_ALL), .val (.int (3 : Int32)), .val (.int (2 : Int32)), .val (.ref s_GHZ_5)] [(.int (2 : Int32)), (.ref s_ALL)])) t
          refine X24.aaload hx (j := (2 : Int32)) (v := (.ref s_GHZ_6)) (by rw [e24]; exact Ar3.1) (State.isArrayOf_alike hZ.alike Ar3.2.1) rfl Ar3.2.2 (inb_of S3 ⟨by decide, by decide⟩) (Has.at H3 (inb_of S3 ⟨by decide, by decide⟩) rfl) (g := (mkF m 16 #[.val (.int p0), .val (.ref s_ALL), .val (.int (3 : Int32)), .val (.int (2 : Int32)), .val (.ref s_GHZ_5)] [(.int (2 : Int32)), (.ref s_ALL)])) rfl rfl (hb hby d1_16) _ ?_
          show Steps p.tables e below (T24.setTop (mkF m 17 #[.val (.int p0), .val (.ref s_ALL), .val (.int (3 : Int32)), .val (.int (2 : Int32)), .val (.ref s_GHZ_5)] [(.ref s_GHZ_6)])) t
          refine XS.astore X24.here hx rfl (hb hby d1_17) rfl rfl (l' := #[.val (.int p0), .val (.ref s_ALL), .val (.int (3 : Int32)), .val (.int (2 : Int32)), .val (.ref s_GHZ_6)]) rfl ?_
          show Steps p.tables e below (T24.setTop (mkF m 19 #[.val (.int p0), .val (.ref s_ALL), .val (.int (3 : Int32)), .val (.int (2 : Int32)), .val (.ref s_GHZ_6)] [])) t
          refine XS.iloadN X24.here hx rfl (hb hby d1_19) rfl ?_
          show Steps p.tables e below (T24.setTop (mkF m 20 #[.val (.int p0), .val (.ref s_ALL), .val (.int (3 : Int32)), .val (.int (2 : Int32)), .val (.ref s_GHZ_6)] [(.int p0)])) t
          refine XS.aload X24.here hx rfl (hb hby d1_20) rfl rfl ?_
          show Steps p.tables e below (T24.setTop (mkF m 22 #[.val (.int p0), .val (.ref s_ALL), .val (.int (3 : Int32)), .val (.int (2 : Int32)), .val (.ref s_GHZ_6)] [(.ref s_GHZ_6), (.int p0)])) t
          exact k
        obtain ⟨T28, X28, e28, st28⟩ := getF X24 hx hZ hown (host := "") (Or.inl (hw _ (List.mem_of_getElem? (i := 14) rfl))) Via.refl e24 F_GHZ_6_lowestKhz (g := (mkF m 22 #[.val (.int p0), .val (.ref s_ALL), .val (.int (3 : Int32)), .val (.int (2 : Int32)), .val (.ref s_GHZ_6)] [(.ref s_GHZ_6), (.int p0)])) rfl rfl (hb hby d1_22)
        have go29 : ∀ t, Steps p.tables e below (T28.setTop (mkF m 25 #[.val (.int p0), .val (.ref s_ALL), .val (.int (3 : Int32)), .val (.int (2 : Int32)), .val (.ref s_GHZ_6)] [(.int (5925000 : Int32)), (.int p0)])) t → Steps p.tables e below (s₁.setTop (entryFrame m #[(.int p0)] 5)) t := fun t k => go27 _ (st28 _ k)
        by_cases hs30 : p0 < (5925000 : Int32)
        · have go31 : ∀ t, Steps p.tables e below (T28.setTop (mkF m 47 #[.val (.int p0), .val (.ref s_ALL), .val (.int (3 : Int32)), .val (.int (3 : Int32)), .val (.ref s_GHZ_6)] [.null])) t → Steps p.tables e below (s₁.setTop (entryFrame m #[(.int p0)] 5)) t := by
            intro t k
            refine go29 _ ?_
            refine XS.icmpYes X28.here hx rfl (pc0 := 25) (pc' := 40) rfl (hb hby d1_25) rfl (XT.ii_lt_t hs30) (by decide) (by decide) ?_
            show Steps p.tables e below (T28.setTop (mkF m 40 #[.val (.int p0), .val (.ref s_ALL), .val (.int (3 : Int32)), .val (.int (2 : Int32)), .val (.ref s_GHZ_6)] [])) t
            refine XS.iinc X28.here hx rfl (hb hby d1_40) rfl (l' := #[.val (.int p0), .val (.ref s_ALL), .val (.int (3 : Int32)), .val (.int (3 : Int32)), .val (.ref s_GHZ_6)]) rfl ?_
            show Steps p.tables e below (T28.setTop (mkF m 43 #[.val (.int p0), .val (.ref s_ALL), .val (.int (3 : Int32)), .val (.int (3 : Int32)), .val (.ref s_GHZ_6)] [])) t
            refine XS.goto X28.here hx rfl (pc0 := 43) (pc' := 9) rfl (hb hby d1_43) (by decide) (by decide) ?_
            show Steps p.tables e below (T28.setTop (mkF m 9 #[.val (.int p0), .val (.ref s_ALL), .val (.int (3 : Int32)), .val (.int (3 : Int32)), .val (.ref s_GHZ_6)] [])) t
            refine XS.iloadN X28.here hx rfl (hb hby d1_9) rfl ?_
            show Steps p.tables e below (T28.setTop (mkF m 10 #[.val (.int p0), .val (.ref s_ALL), .val (.int (3 : Int32)), .val (.int (3 : Int32)), .val (.ref s_GHZ_6)] [(.int (3 : Int32))])) t
            refine XS.iloadN X28.here hx rfl (hb hby d1_10) rfl ?_
            show Steps p.tables e below (T28.setTop (mkF m 11 #[.val (.int p0), .val (.ref s_ALL), .val (.int (3 : Int32)), .val (.int (3 : Int32)), .val (.ref s_GHZ_6)] [(.int (3 : Int32)), (.int (3 : Int32))])) t
            refine XS.icmpYes X28.here hx rfl (pc0 := 11) (pc' := 46) rfl (hb hby d1_11) rfl (XT.ii_ge_t (by decide : ¬ ((3 : Int32) < (3 : Int32)))) (by decide) (by decide) ?_
            show Steps p.tables e below (T28.setTop (mkF m 46 #[.val (.int p0), .val (.ref s_ALL), .val (.int (3 : Int32)), .val (.int (3 : Int32)), .val (.ref s_GHZ_6)] [])) t
            refine XS.aconstNull X28.here hx rfl (hb hby d1_46) ?_
            show Steps p.tables e below (T28.setTop (mkF m 47 #[.val (.int p0), .val (.ref s_ALL), .val (.int (3 : Int32)), .val (.int (3 : Int32)), .val (.ref s_GHZ_6)] [.null])) t
            exact k
          obtain ⟨fs, hr, hrun, hended, hW, hsame⟩ := X28.leave (v := some .null) (fun h => by rw [Bd.returns] at h; cases h)
          refine ⟨_, _, go31 _ (Jvm.RoadKit.retOut X28 hx Bd.returns rfl (Or.inr (Or.inr (Or.inr (Or.inr ⟨rfl, rfl, rfl⟩)))) (hb hby d1_47) hr), hrun, hended, _, _, rfl, ?_, ⟨_, rfl⟩, hW, hsame.mono (by decide) (by decide)⟩
          show Q1 _ _ p0 s_ALL s_GHZ_2_4 s_GHZ_5 s_GHZ_6 k_s_ALL h0 _ (T28.setFrames fs).heap _
          have hE : (T28.setFrames fs).heap = h0 := e28
          rw [hE]
          exact ⟨by rw [f1, if_pos hs7, if_neg hs11, if_pos hs26, if_pos hs30], N0, rfl⟩
        · have go32 : ∀ t, Steps p.tables e below (T28.setTop (mkF m 31 #[.val (.int p0), .val (.ref s_ALL), .val (.int (3 : Int32)), .val (.int (2 : Int32)), .val (.ref s_GHZ_6)] [(.ref s_GHZ_6), (.int p0)])) t → Steps p.tables e below (s₁.setTop (entryFrame m #[(.int p0)] 5)) t := by
            intro t k
            refine go29 _ ?_
            refine XS.icmpNo X28.here hx rfl (hb hby d1_25) rfl (XT.ii_lt_f hs30) ?_
            show Steps p.tables e below (T28.setTop (mkF m 28 #[.val (.int p0), .val (.ref s_ALL), .val (.int (3 : Int32)), .val (.int (2 : Int32)), .val (.ref s_GHZ_6)] [])) t
            refine XS.iloadN X28.here hx rfl (hb hby d1_28) rfl ?_
            show Steps p.tables e below (T28.setTop (mkF m 29 #[.val (.int p0), .val (.ref s_ALL), .val (.int (3 : Int32)), .val (.int (2 : Int32)), .val (.ref s_GHZ_6)] [(.int p0)])) t
            refine XS.aload X28.here hx rfl (hb hby d1_29) rfl rfl ?_
            show Steps p.tables e below (T28.setTop (mkF m 31 #[.val (.int p0), .val (.ref s_ALL), .val (.int (3 : Int32)), .val (.int (2 : Int32)), .val (.ref s_GHZ_6)] [(.ref s_GHZ_6), (.int p0)])) t
            exact k
          obtain ⟨T33, X33, e33, st33⟩ := getF X28 hx hZ hown (host := "") (Or.inl (hw _ (List.mem_of_getElem? (i := 16) rfl))) Via.refl e28 F_GHZ_6_highestKhz (g := (mkF m 31 #[.val (.int p0), .val (.ref s_ALL), .val (.int (3 : Int32)), .val (.int (2 : Int32)), .val (.ref s_GHZ_6)] [(.ref s_GHZ_6), (.int p0)])) rfl rfl (hb hby d1_31)
          have go34 : ∀ t, Steps p.tables e below (T33.setTop (mkF m 34 #[.val (.int p0), .val (.ref s_ALL), .val (.int (3 : Int32)), .val (.int (2 : Int32)), .val (.ref s_GHZ_6)] [(.int (7125000 : Int32)), (.int p0)])) t → Steps p.tables e below (s₁.setTop (entryFrame m #[(.int p0)] 5)) t := fun t k => go32 _ (st33 _ k)
          by_cases hs35 : (7125000 : Int32) < p0
          · have go36 : ∀ t, Steps p.tables e below (T33.setTop (mkF m 47 #[.val (.int p0), .val (.ref s_ALL), .val (.int (3 : Int32)), .val (.int (3 : Int32)), .val (.ref s_GHZ_6)] [.null])) t → Steps p.tables e below (s₁.setTop (entryFrame m #[(.int p0)] 5)) t := by
              intro t k
              refine go34 _ ?_
              refine XS.icmpYes X33.here hx rfl (pc0 := 34) (pc' := 40) rfl (hb hby d1_34) rfl (XT.ii_gt_t hs35) (by decide) (by decide) ?_
              show Steps p.tables e below (T33.setTop (mkF m 40 #[.val (.int p0), .val (.ref s_ALL), .val (.int (3 : Int32)), .val (.int (2 : Int32)), .val (.ref s_GHZ_6)] [])) t
              refine XS.iinc X33.here hx rfl (hb hby d1_40) rfl (l' := #[.val (.int p0), .val (.ref s_ALL), .val (.int (3 : Int32)), .val (.int (3 : Int32)), .val (.ref s_GHZ_6)]) rfl ?_
              show Steps p.tables e below (T33.setTop (mkF m 43 #[.val (.int p0), .val (.ref s_ALL), .val (.int (3 : Int32)), .val (.int (3 : Int32)), .val (.ref s_GHZ_6)] [])) t
              refine XS.goto X33.here hx rfl (pc0 := 43) (pc' := 9) rfl (hb hby d1_43) (by decide) (by decide) ?_
              show Steps p.tables e below (T33.setTop (mkF m 9 #[.val (.int p0), .val (.ref s_ALL), .val (.int (3 : Int32)), .val (.int (3 : Int32)), .val (.ref s_GHZ_6)] [])) t
              refine XS.iloadN X33.here hx rfl (hb hby d1_9) rfl ?_
              show Steps p.tables e below (T33.setTop (mkF m 10 #[.val (.int p0), .val (.ref s_ALL), .val (.int (3 : Int32)), .val (.int (3 : Int32)), .val (.ref s_GHZ_6)] [(.int (3 : Int32))])) t
              refine XS.iloadN X33.here hx rfl (hb hby d1_10) rfl ?_
              show Steps p.tables e below (T33.setTop (mkF m 11 #[.val (.int p0), .val (.ref s_ALL), .val (.int (3 : Int32)), .val (.int (3 : Int32)), .val (.ref s_GHZ_6)] [(.int (3 : Int32)), (.int (3 : Int32))])) t
              refine XS.icmpYes X33.here hx rfl (pc0 := 11) (pc' := 46) rfl (hb hby d1_11) rfl (XT.ii_ge_t (by decide : ¬ ((3 : Int32) < (3 : Int32)))) (by decide) (by decide) ?_
              show Steps p.tables e below (T33.setTop (mkF m 46 #[.val (.int p0), .val (.ref s_ALL), .val (.int (3 : Int32)), .val (.int (3 : Int32)), .val (.ref s_GHZ_6)] [])) t
              refine XS.aconstNull X33.here hx rfl (hb hby d1_46) ?_
              show Steps p.tables e below (T33.setTop (mkF m 47 #[.val (.int p0), .val (.ref s_ALL), .val (.int (3 : Int32)), .val (.int (3 : Int32)), .val (.ref s_GHZ_6)] [.null])) t
              exact k
            obtain ⟨fs, hr, hrun, hended, hW, hsame⟩ := X33.leave (v := some .null) (fun h => by rw [Bd.returns] at h; cases h)
            refine ⟨_, _, go36 _ (Jvm.RoadKit.retOut X33 hx Bd.returns rfl (Or.inr (Or.inr (Or.inr (Or.inr ⟨rfl, rfl, rfl⟩)))) (hb hby d1_47) hr), hrun, hended, _, _, rfl, ?_, ⟨_, rfl⟩, hW, hsame.mono (by decide) (by decide)⟩
            show Q1 _ _ p0 s_ALL s_GHZ_2_4 s_GHZ_5 s_GHZ_6 k_s_ALL h0 _ (T33.setFrames fs).heap _
            have hE : (T33.setFrames fs).heap = h0 := e33
            rw [hE]
            exact ⟨by rw [f1, if_pos hs7, if_neg hs11, if_pos hs26, if_neg hs30, if_pos hs35], N0, rfl⟩
          · have go37 : ∀ t, Steps p.tables e below (T33.setTop (mkF m 39 #[.val (.int p0), .val (.ref s_ALL), .val (.int (3 : Int32)), .val (.int (2 : Int32)), .val (.ref s_GHZ_6)] [(.ref s_GHZ_6)])) t → Steps p.tables e below (s₁.setTop (entryFrame m #[(.int p0)] 5)) t := by
              intro t k
              refine go34 _ ?_
              refine XS.icmpNo X33.here hx rfl (hb hby d1_34) rfl (XT.ii_gt_f hs35) ?_
              show Steps p.tables e below (T33.setTop (mkF m 37 #[.val (.int p0), .val (.ref s_ALL), .val (.int (3 : Int32)), .val (.int (2 : Int32)), .val (.ref s_GHZ_6)] [])) t
              refine XS.aload X33.here hx rfl (hb hby d1_37) rfl rfl ?_
              show Steps p.tables e below (T33.setTop (mkF m 39 #[.val (.int p0), .val (.ref s_ALL), .val (.int (3 : Int32)), .val (.int (2 : Int32)), .val (.ref s_GHZ_6)] [(.ref s_GHZ_6)])) t
              exact k
            obtain ⟨fs, hr, hrun, hended, hW, hsame⟩ := X33.leave (v := some (.ref s_GHZ_6)) (fun h => by rw [Bd.returns] at h; cases h)
            refine ⟨_, _, go37 _ (Jvm.RoadKit.retOut X33 hx Bd.returns rfl (Or.inr (Or.inr (Or.inr (Or.inr ⟨rfl, rfl, rfl⟩)))) (hb hby d1_39) hr), hrun, hended, _, _, rfl, ?_, ⟨_, rfl⟩, hW, hsame.mono (by decide) (by decide)⟩
            show Q1 _ _ p0 s_ALL s_GHZ_2_4 s_GHZ_5 s_GHZ_6 k_s_ALL h0 _ (T33.setFrames fs).heap _
            have hE : (T33.setFrames fs).heap = h0 := e33
            rw [hE]
            exact ⟨by rw [f1, if_pos hs7, if_neg hs11, if_pos hs26, if_neg hs30, if_neg hs35], N0, rfl⟩
      · have go38 : ∀ t, Steps p.tables e below (T24.setTop (mkF m 39 #[.val (.int p0), .val (.ref s_ALL), .val (.int (3 : Int32)), .val (.int (1 : Int32)), .val (.ref s_GHZ_5)] [(.ref s_GHZ_5)])) t → Steps p.tables e below (s₁.setTop (entryFrame m #[(.int p0)] 5)) t := by
          intro t k
          refine go25 _ ?_
          refine XS.icmpNo X24.here hx rfl (hb hby d1_34) rfl (XT.ii_gt_f hs26) ?_
          show Steps p.tables e below (T24.setTop (mkF m 37 #[.val (.int p0), .val (.ref s_ALL), .val (.int (3 : Int32)), .val (.int (1 : Int32)), .val (.ref s_GHZ_5)] [])) t
          refine XS.aload X24.here hx rfl (hb hby d1_37) rfl rfl ?_
          show Steps p.tables e below (T24.setTop (mkF m 39 #[.val (.int p0), .val (.ref s_ALL), .val (.int (3 : Int32)), .val (.int (1 : Int32)), .val (.ref s_GHZ_5)] [(.ref s_GHZ_5)])) t
          exact k
        obtain ⟨fs, hr, hrun, hended, hW, hsame⟩ := X24.leave (v := some (.ref s_GHZ_5)) (fun h => by rw [Bd.returns] at h; cases h)
        refine ⟨_, _, go38 _ (Jvm.RoadKit.retOut X24 hx Bd.returns rfl (Or.inr (Or.inr (Or.inr (Or.inr ⟨rfl, rfl, rfl⟩)))) (hb hby d1_39) hr), hrun, hended, _, _, rfl, ?_, ⟨_, rfl⟩, hW, hsame.mono (by decide) (by decide)⟩
        show Q1 _ _ p0 s_ALL s_GHZ_2_4 s_GHZ_5 s_GHZ_6 k_s_ALL h0 _ (T24.setFrames fs).heap _
        have hE : (T24.setFrames fs).heap = h0 := e24
        rw [hE]
        exact ⟨by rw [f1, if_pos hs7, if_neg hs11, if_neg hs26], N0, rfl⟩
  · have go39 : ∀ t, Steps p.tables e below (T5.setTop (mkF m 31 #[.val (.int p0), .val (.ref s_ALL), .val (.int (3 : Int32)), .val (.int (0 : Int32)), .val (.ref s_GHZ_2_4)] [(.ref s_GHZ_2_4), (.int p0)])) t → Steps p.tables e below (s₁.setTop (entryFrame m #[(.int p0)] 5)) t := by
      intro t k
      refine go6 _ ?_
      refine XS.icmpNo X5.here hx rfl (hb hby d1_25) rfl (XT.ii_lt_f hs7) ?_
      show Steps p.tables e below (T5.setTop (mkF m 28 #[.val (.int p0), .val (.ref s_ALL), .val (.int (3 : Int32)), .val (.int (0 : Int32)), .val (.ref s_GHZ_2_4)] [])) t
      refine XS.iloadN X5.here hx rfl (hb hby d1_28) rfl ?_
      show Steps p.tables e below (T5.setTop (mkF m 29 #[.val (.int p0), .val (.ref s_ALL), .val (.int (3 : Int32)), .val (.int (0 : Int32)), .val (.ref s_GHZ_2_4)] [(.int p0)])) t
      refine XS.aload X5.here hx rfl (hb hby d1_29) rfl rfl ?_
      show Steps p.tables e below (T5.setTop (mkF m 31 #[.val (.int p0), .val (.ref s_ALL), .val (.int (3 : Int32)), .val (.int (0 : Int32)), .val (.ref s_GHZ_2_4)] [(.ref s_GHZ_2_4), (.int p0)])) t
      exact k
    obtain ⟨T40, X40, e40, st40⟩ := getF X5 hx hZ hown (host := "") (Or.inl (hw _ (List.mem_of_getElem? (i := 16) rfl))) Via.refl e5 F_GHZ_2_4_highestKhz (g := (mkF m 31 #[.val (.int p0), .val (.ref s_ALL), .val (.int (3 : Int32)), .val (.int (0 : Int32)), .val (.ref s_GHZ_2_4)] [(.ref s_GHZ_2_4), (.int p0)])) rfl rfl (hb hby d1_31)
    have go41 : ∀ t, Steps p.tables e below (T40.setTop (mkF m 34 #[.val (.int p0), .val (.ref s_ALL), .val (.int (3 : Int32)), .val (.int (0 : Int32)), .val (.ref s_GHZ_2_4)] [(.int (2500000 : Int32)), (.int p0)])) t → Steps p.tables e below (s₁.setTop (entryFrame m #[(.int p0)] 5)) t := fun t k => go39 _ (st40 _ k)
    by_cases hs42 : (2500000 : Int32) < p0
    · have go43 : ∀ t, Steps p.tables e below (T40.setTop (mkF m 22 #[.val (.int p0), .val (.ref s_ALL), .val (.int (3 : Int32)), .val (.int (1 : Int32)), .val (.ref s_GHZ_5)] [(.ref s_GHZ_5), (.int p0)])) t → Steps p.tables e below (s₁.setTop (entryFrame m #[(.int p0)] 5)) t := by
        intro t k
        refine go41 _ ?_
        refine XS.icmpYes X40.here hx rfl (pc0 := 34) (pc' := 40) rfl (hb hby d1_34) rfl (XT.ii_gt_t hs42) (by decide) (by decide) ?_
        show Steps p.tables e below (T40.setTop (mkF m 40 #[.val (.int p0), .val (.ref s_ALL), .val (.int (3 : Int32)), .val (.int (0 : Int32)), .val (.ref s_GHZ_2_4)] [])) t
        refine XS.iinc X40.here hx rfl (hb hby d1_40) rfl (l' := #[.val (.int p0), .val (.ref s_ALL), .val (.int (3 : Int32)), .val (.int (1 : Int32)), .val (.ref s_GHZ_2_4)]) rfl ?_
        show Steps p.tables e below (T40.setTop (mkF m 43 #[.val (.int p0), .val (.ref s_ALL), .val (.int (3 : Int32)), .val (.int (1 : Int32)), .val (.ref s_GHZ_2_4)] [])) t
        refine XS.goto X40.here hx rfl (pc0 := 43) (pc' := 9) rfl (hb hby d1_43) (by decide) (by decide) ?_
        show Steps p.tables e below (T40.setTop (mkF m 9 #[.val (.int p0), .val (.ref s_ALL), .val (.int (3 : Int32)), .val (.int (1 : Int32)), .val (.ref s_GHZ_2_4)] [])) t
        refine XS.iloadN X40.here hx rfl (hb hby d1_9) rfl ?_
        show Steps p.tables e below (T40.setTop (mkF m 10 #[.val (.int p0), .val (.ref s_ALL), .val (.int (3 : Int32)), .val (.int (1 : Int32)), .val (.ref s_GHZ_2_4)] [(.int (1 : Int32))])) t
        refine XS.iloadN X40.here hx rfl (hb hby d1_10) rfl ?_
        show Steps p.tables e below (T40.setTop (mkF m 11 #[.val (.int p0), .val (.ref s_ALL), .val (.int (3 : Int32)), .val (.int (1 : Int32)), .val (.ref s_GHZ_2_4)] [(.int (3 : Int32)), (.int (1 : Int32))])) t
        refine XS.icmpNo X40.here hx rfl (hb hby d1_11) rfl (XT.ii_ge_f (by decide : ((1 : Int32) < (3 : Int32)))) ?_
        show Steps p.tables e below (T40.setTop (mkF m 14 #[.val (.int p0), .val (.ref s_ALL), .val (.int (3 : Int32)), .val (.int (1 : Int32)), .val (.ref s_GHZ_2_4)] [])) t
        refine XS.aloadN X40.here hx rfl (hb hby d1_14) rfl rfl ?_
        show Steps p.tables e below (T40.setTop (mkF m 15 #[.val (.int p0), .val (.ref s_ALL), .val (.int (3 : Int32)), .val (.int (1 : Int32)), .val (.ref s_GHZ_2_4)] [(.ref s_ALL)])) t
        refine XS.iloadN X40.here hx rfl (hb hby d1_15) rfl ?_
        show Steps p.tables e below (T40.setTop (mkF m 16 #[.val (.int p0), .val (.ref s_ALL), .val (.int (3 : Int32)), .val (.int (1 : Int32)), .val (.ref s_GHZ_2_4)] [(.int (1 : Int32)), (.ref s_ALL)])) t
        refine X40.aaload hx (j := (1 : Int32)) (v := (.ref s_GHZ_5)) (by rw [e40]; exact Ar3.1) (State.isArrayOf_alike hZ.alike Ar3.2.1) rfl Ar3.2.2 (inb_of S3 ⟨by decide, by decide⟩) (Has.at H3 (inb_of S3 ⟨by decide, by decide⟩) rfl) (g := (mkF m 16 #[.val (.int p0), .val (.ref s_ALL), .val (.int (3 : Int32)), .val (.int (1 : Int32)), .val (.ref s_GHZ_2_4)] [(.int (1 : Int32)), (.ref s_ALL)])) rfl rfl (hb hby d1_16) _ ?_
        show Steps p.tables e below (T40.setTop (mkF m 17 #[.val (.int p0), .val (.ref s_ALL), .val (.int (3 : Int32)), .val (.int (1 : Int32)), .val (.ref s_GHZ_2_4)] [(.ref s_GHZ_5)])) t
        refine XS.astore X40.here hx rfl (hb hby d1_17) rfl rfl (l' := #[.val (.int p0), .val (.ref s_ALL), .val (.int (3 : Int32)), .val (.int (1 : Int32)), .val (.ref s_GHZ_5)]) rfl ?_
        show Steps p.tables e below (T40.setTop (mkF m 19 #[.val (.int p0), .val (.ref s_ALL), .val (.int (3 : Int32)), .val (.int (1 : Int32)), .val (.ref s_GHZ_5)] [])) t
        refine XS.iloadN X40.here hx rfl (hb hby d1_19) rfl ?_
        show Steps p.tables e below (T40.setTop (mkF m 20 #[.val (.int p0), .val (.ref s_ALL), .val (.int (3 : Int32)), .val (.int (1 : Int32)), .val (.ref s_GHZ_5)] [(.int p0)])) t
        refine XS.aload X40.here hx rfl (hb hby d1_20) rfl rfl ?_
        show Steps p.tables e below (T40.setTop (mkF m 22 #[.val (.int p0), .val (.ref s_ALL), .val (.int (3 : Int32)), .val (.int (1 : Int32)), .val (.ref s_GHZ_5)] [(.ref s_GHZ_5), (.int p0)])) t
        exact k
      obtain ⟨T44, X44, e44, st44⟩ := getF X40 hx hZ hown (host := "") (Or.inl (hw _ (List.mem_of_getElem? (i := 14) rfl))) Via.refl e40 F_GHZ_5_lowestKhz (g := (mkF m 22 #[.val (.int p0), .val (.ref s_ALL), .val (.int (3 : Int32)), .val (.int (1 : Int32)), .val (.ref s_GHZ_5)] [(.ref s_GHZ_5), (.int p0)])) rfl rfl (hb hby d1_22)
      have go45 : ∀ t, Steps p.tables e below (T44.setTop (mkF m 25 #[.val (.int p0), .val (.ref s_ALL), .val (.int (3 : Int32)), .val (.int (1 : Int32)), .val (.ref s_GHZ_5)] [(.int (5150000 : Int32)), (.int p0)])) t → Steps p.tables e below (s₁.setTop (entryFrame m #[(.int p0)] 5)) t := fun t k => go43 _ (st44 _ k)
      by_cases hs46 : p0 < (5150000 : Int32)
      · have go47 : ∀ t, Steps p.tables e below (T44.setTop (mkF m 22 #[.val (.int p0), .val (.ref s_ALL), .val (.int (3 : Int32)), .val (.int (2 : Int32)), .val (.ref s_GHZ_6)] [(.ref s_GHZ_6), (.int p0)])) t → Steps p.tables e below (s₁.setTop (entryFrame m #[(.int p0)] 5)) t := by
          intro t k
          refine go45 _ ?_
          refine XS.icmpYes X44.here hx rfl (pc0 := 25) (pc' := 40) rfl (hb hby d1_25) rfl (XT.ii_lt_t hs46) (by decide) (by decide) ?_
          show Steps p.tables e below (T44.setTop (mkF m 40 #[.val (.int p0), .val (.ref s_ALL), .val (.int (3 : Int32)), .val (.int (1 : Int32)), .val (.ref s_GHZ_5)] [])) t
          refine XS.iinc X44.here hx rfl (hb hby d1_40) rfl (l' := #[.val (.int p0), .val (.ref s_ALL), .val (.int (3 : Int32)), .val (.int (2 : Int32)), .val (.ref s_GHZ_5)]) rfl ?_
          show Steps p.tables e below (T44.setTop (mkF m 43 #[.val (.int p0), .val (.ref s_ALL), .val (.int (3 : Int32)), .val (.int (2 : Int32)), .val (.ref s_GHZ_5)] [])) t
          refine XS.goto X44.here hx rfl (pc0 := 43) (pc' := 9) rfl (hb hby d1_43) (by decide) (by decide) ?_
          show Steps p.tables e below (T44.setTop (mkF m 9 #[.val (.int p0), .val (.ref s_ALL), .val (.int (3 : Int32)), .val (.int (2 : Int32)), .val (.ref s_GHZ_5)] [])) t
          refine XS.iloadN X44.here hx rfl (hb hby d1_9) rfl ?_
          show Steps p.tables e below (T44.setTop (mkF m 10 #[.val (.int p0), .val (.ref s_ALL), .val (.int (3 : Int32)), .val (.int (2 : Int32)), .val (.ref s_GHZ_5)] [(.int (2 : Int32))])) t
          refine XS.iloadN X44.here hx rfl (hb hby d1_10) rfl ?_
          show Steps p.tables e below (T44.setTop (mkF m 11 #[.val (.int p0), .val (.ref s_ALL), .val (.int (3 : Int32)), .val (.int (2 : Int32)), .val (.ref s_GHZ_5)] [(.int (3 : Int32)), (.int (2 : Int32))])) t
          refine XS.icmpNo X44.here hx rfl (hb hby d1_11) rfl (XT.ii_ge_f (by decide : ((2 : Int32) < (3 : Int32)))) ?_
          show Steps p.tables e below (T44.setTop (mkF m 14 #[.val (.int p0), .val (.ref s_ALL), .val (.int (3 : Int32)), .val (.int (2 : Int32)), .val (.ref s_GHZ_5)] [])) t
          refine XS.aloadN X44.here hx rfl (hb hby d1_14) rfl rfl ?_
          show Steps p.tables e below (T44.setTop (mkF m 15 #[.val (.int p0), .val (.ref s_ALL), .val (.int (3 : Int32)), .val (.int (2 : Int32)), .val (.ref s_GHZ_5)] [(.ref s_ALL)])) t
          refine XS.iloadN X44.here hx rfl (hb hby d1_15) rfl ?_
          show Steps p.tables e below (T44.setTop (mkF m 16 #[.val (.int p0), .val (.ref s_ALL), .val (.int (3 : Int32)), .val (.int (2 : Int32)), .val (.ref s_GHZ_5)] [(.int (2 : Int32)), (.ref s_ALL)])) t
          refine X44.aaload hx (j := (2 : Int32)) (v := (.ref s_GHZ_6)) (by rw [e44]; exact Ar3.1) (State.isArrayOf_alike hZ.alike Ar3.2.1) rfl Ar3.2.2 (inb_of S3 ⟨by decide, by decide⟩) (Has.at H3 (inb_of S3 ⟨by decide, by decide⟩) rfl) (g := (mkF m 16 #[.val (.int p0), .val (.ref s_ALL), .val (.int (3 : Int32)), .val (.int (2 : Int32)), .val (.ref s_GHZ_5)] [(.int (2 : Int32)), (.ref s_ALL)])) rfl rfl (hb hby d1_16) _ ?_
          show Steps p.tables e below (T44.setTop (mkF m 17 #[.val (.int p0), .val (.ref s_ALL), .val (.int (3 : Int32)), .val (.int (2 : Int32)), .val (.ref s_GHZ_5)] [(.ref s_GHZ_6)])) t
          refine XS.astore X44.here hx rfl (hb hby d1_17) rfl rfl (l' := #[.val (.int p0), .val (.ref s_ALL), .val (.int (3 : Int32)), .val (.int (2 : Int32)), .val (.ref s_GHZ_6)]) rfl ?_
          show Steps p.tables e below (T44.setTop (mkF m 19 #[.val (.int p0), .val (.ref s_ALL), .val (.int (3 : Int32)), .val (.int (2 : Int32)), .val (.ref s_GHZ_6)] [])) t
          refine XS.iloadN X44.here hx rfl (hb hby d1_19) rfl ?_
          show Steps p.tables e below (T44.setTop (mkF m 20 #[.val (.int p0), .val (.ref s_ALL), .val (.int (3 : Int32)), .val (.int (2 : Int32)), .val (.ref s_GHZ_6)] [(.int p0)])) t
          refine XS.aload X44.here hx rfl (hb hby d1_20) rfl rfl ?_
          show Steps p.tables e below (T44.setTop (mkF m 22 #[.val (.int p0), .val (.ref s_ALL), .val (.int (3 : Int32)), .val (.int (2 : Int32)), .val (.ref s_GHZ_6)] [(.ref s_GHZ_6), (.int p0)])) t
          exact k
        obtain ⟨T48, X48, e48, st48⟩ := getF X44 hx hZ hown (host := "") (Or.inl (hw _ (List.mem_of_getElem? (i := 14) rfl))) Via.refl e44 F_GHZ_6_lowestKhz (g := (mkF m 22 #[.val (.int p0), .val (.ref s_ALL), .val (.int (3 : Int32)), .val (.int (2 : Int32)), .val (.ref s_GHZ_6)] [(.ref s_GHZ_6), (.int p0)])) rfl rfl (hb hby d1_22)
        have go49 : ∀ t, Steps p.tables e below (T48.setTop (mkF m 25 #[.val (.int p0), .val (.ref s_ALL), .val (.int (3 : Int32)), .val (.int (2 : Int32)), .val (.ref s_GHZ_6)] [(.int (5925000 : Int32)), (.int p0)])) t → Steps p.tables e below (s₁.setTop (entryFrame m #[(.int p0)] 5)) t := fun t k => go47 _ (st48 _ k)
        by_cases hs50 : p0 < (5925000 : Int32)
        · have go51 : ∀ t, Steps p.tables e below (T48.setTop (mkF m 47 #[.val (.int p0), .val (.ref s_ALL), .val (.int (3 : Int32)), .val (.int (3 : Int32)), .val (.ref s_GHZ_6)] [.null])) t → Steps p.tables e below (s₁.setTop (entryFrame m #[(.int p0)] 5)) t := by
            intro t k
            refine go49 _ ?_
            refine XS.icmpYes X48.here hx rfl (pc0 := 25) (pc' := 40) rfl (hb hby d1_25) rfl (XT.ii_lt_t hs50) (by decide) (by decide) ?_
            show Steps p.tables e below (T48.setTop (mkF m 40 #[.val (.int p0), .val (.ref s_ALL), .val (.int (3 : Int32)), .val (.int (2 : Int32)), .val (.ref s_GHZ_6)] [])) t
            refine XS.iinc X48.here hx rfl (hb hby d1_40) rfl (l' := #[.val (.int p0), .val (.ref s_ALL), .val (.int (3 : Int32)), .val (.int (3 : Int32)), .val (.ref s_GHZ_6)]) rfl ?_
            show Steps p.tables e below (T48.setTop (mkF m 43 #[.val (.int p0), .val (.ref s_ALL), .val (.int (3 : Int32)), .val (.int (3 : Int32)), .val (.ref s_GHZ_6)] [])) t
            refine XS.goto X48.here hx rfl (pc0 := 43) (pc' := 9) rfl (hb hby d1_43) (by decide) (by decide) ?_
            show Steps p.tables e below (T48.setTop (mkF m 9 #[.val (.int p0), .val (.ref s_ALL), .val (.int (3 : Int32)), .val (.int (3 : Int32)), .val (.ref s_GHZ_6)] [])) t
            refine XS.iloadN X48.here hx rfl (hb hby d1_9) rfl ?_
            show Steps p.tables e below (T48.setTop (mkF m 10 #[.val (.int p0), .val (.ref s_ALL), .val (.int (3 : Int32)), .val (.int (3 : Int32)), .val (.ref s_GHZ_6)] [(.int (3 : Int32))])) t
            refine XS.iloadN X48.here hx rfl (hb hby d1_10) rfl ?_
            show Steps p.tables e below (T48.setTop (mkF m 11 #[.val (.int p0), .val (.ref s_ALL), .val (.int (3 : Int32)), .val (.int (3 : Int32)), .val (.ref s_GHZ_6)] [(.int (3 : Int32)), (.int (3 : Int32))])) t
            refine XS.icmpYes X48.here hx rfl (pc0 := 11) (pc' := 46) rfl (hb hby d1_11) rfl (XT.ii_ge_t (by decide : ¬ ((3 : Int32) < (3 : Int32)))) (by decide) (by decide) ?_
            show Steps p.tables e below (T48.setTop (mkF m 46 #[.val (.int p0), .val (.ref s_ALL), .val (.int (3 : Int32)), .val (.int (3 : Int32)), .val (.ref s_GHZ_6)] [])) t
            refine XS.aconstNull X48.here hx rfl (hb hby d1_46) ?_
            show Steps p.tables e below (T48.setTop (mkF m 47 #[.val (.int p0), .val (.ref s_ALL), .val (.int (3 : Int32)), .val (.int (3 : Int32)), .val (.ref s_GHZ_6)] [.null])) t
            exact k
          obtain ⟨fs, hr, hrun, hended, hW, hsame⟩ := X48.leave (v := some .null) (fun h => by rw [Bd.returns] at h; cases h)
          refine ⟨_, _, go51 _ (Jvm.RoadKit.retOut X48 hx Bd.returns rfl (Or.inr (Or.inr (Or.inr (Or.inr ⟨rfl, rfl, rfl⟩)))) (hb hby d1_47) hr), hrun, hended, _, _, rfl, ?_, ⟨_, rfl⟩, hW, hsame.mono (by decide) (by decide)⟩
          show Q1 _ _ p0 s_ALL s_GHZ_2_4 s_GHZ_5 s_GHZ_6 k_s_ALL h0 _ (T48.setFrames fs).heap _
          have hE : (T48.setFrames fs).heap = h0 := e48
          rw [hE]
          exact ⟨by rw [f1, if_neg hs7, if_pos hs42, if_pos hs46, if_pos hs50], N0, rfl⟩
        · have go52 : ∀ t, Steps p.tables e below (T48.setTop (mkF m 31 #[.val (.int p0), .val (.ref s_ALL), .val (.int (3 : Int32)), .val (.int (2 : Int32)), .val (.ref s_GHZ_6)] [(.ref s_GHZ_6), (.int p0)])) t → Steps p.tables e below (s₁.setTop (entryFrame m #[(.int p0)] 5)) t := by
            intro t k
            refine go49 _ ?_
            refine XS.icmpNo X48.here hx rfl (hb hby d1_25) rfl (XT.ii_lt_f hs50) ?_
            show Steps p.tables e below (T48.setTop (mkF m 28 #[.val (.int p0), .val (.ref s_ALL), .val (.int (3 : Int32)), .val (.int (2 : Int32)), .val (.ref s_GHZ_6)] [])) t
            refine XS.iloadN X48.here hx rfl (hb hby d1_28) rfl ?_
            show Steps p.tables e below (T48.setTop (mkF m 29 #[.val (.int p0), .val (.ref s_ALL), .val (.int (3 : Int32)), .val (.int (2 : Int32)), .val (.ref s_GHZ_6)] [(.int p0)])) t
            refine XS.aload X48.here hx rfl (hb hby d1_29) rfl rfl ?_
            show Steps p.tables e below (T48.setTop (mkF m 31 #[.val (.int p0), .val (.ref s_ALL), .val (.int (3 : Int32)), .val (.int (2 : Int32)), .val (.ref s_GHZ_6)] [(.ref s_GHZ_6), (.int p0)])) t
            exact k
          obtain ⟨T53, X53, e53, st53⟩ := getF X48 hx hZ hown (host := "") (Or.inl (hw _ (List.mem_of_getElem? (i := 16) rfl))) Via.refl e48 F_GHZ_6_highestKhz (g := (mkF m 31 #[.val (.int p0), .val (.ref s_ALL), .val (.int (3 : Int32)), .val (.int (2 : Int32)), .val (.ref s_GHZ_6)] [(.ref s_GHZ_6), (.int p0)])) rfl rfl (hb hby d1_31)
          have go54 : ∀ t, Steps p.tables e below (T53.setTop (mkF m 34 #[.val (.int p0), .val (.ref s_ALL), .val (.int (3 : Int32)), .val (.int (2 : Int32)), .val (.ref s_GHZ_6)] [(.int (7125000 : Int32)), (.int p0)])) t → Steps p.tables e below (s₁.setTop (entryFrame m #[(.int p0)] 5)) t := fun t k => go52 _ (st53 _ k)
          by_cases hs55 : (7125000 : Int32) < p0
          · have go56 : ∀ t, Steps p.tables e below (T53.setTop (mkF m 47 #[.val (.int p0), .val (.ref s_ALL), .val (.int (3 : Int32)), .val (.int (3 : Int32)), .val (.ref s_GHZ_6)] [.null])) t → Steps p.tables e below (s₁.setTop (entryFrame m #[(.int p0)] 5)) t := by
              intro t k
              refine go54 _ ?_
              refine XS.icmpYes X53.here hx rfl (pc0 := 34) (pc' := 40) rfl (hb hby d1_34) rfl (XT.ii_gt_t hs55) (by decide) (by decide) ?_
              show Steps p.tables e below (T53.setTop (mkF m 40 #[.val (.int p0), .val (.ref s_ALL), .val (.int (3 : Int32)), .val (.int (2 : Int32)), .val (.ref s_GHZ_6)] [])) t
              refine XS.iinc X53.here hx rfl (hb hby d1_40) rfl (l' := #[.val (.int p0), .val (.ref s_ALL), .val (.int (3 : Int32)), .val (.int (3 : Int32)), .val (.ref s_GHZ_6)]) rfl ?_
              show Steps p.tables e below (T53.setTop (mkF m 43 #[.val (.int p0), .val (.ref s_ALL), .val (.int (3 : Int32)), .val (.int (3 : Int32)), .val (.ref s_GHZ_6)] [])) t
              refine XS.goto X53.here hx rfl (pc0 := 43) (pc' := 9) rfl (hb hby d1_43) (by decide) (by decide) ?_
              show Steps p.tables e below (T53.setTop (mkF m 9 #[.val (.int p0), .val (.ref s_ALL), .val (.int (3 : Int32)), .val (.int (3 : Int32)), .val (.ref s_GHZ_6)] [])) t
              refine XS.iloadN X53.here hx rfl (hb hby d1_9) rfl ?_
              show Steps p.tables e below (T53.setTop (mkF m 10 #[.val (.int p0), .val (.ref s_ALL), .val (.int (3 : Int32)), .val (.int (3 : Int32)), .val (.ref s_GHZ_6)] [(.int (3 : Int32))])) t
              refine XS.iloadN X53.here hx rfl (hb hby d1_10) rfl ?_
              show Steps p.tables e below (T53.setTop (mkF m 11 #[.val (.int p0), .val (.ref s_ALL), .val (.int (3 : Int32)), .val (.int (3 : Int32)), .val (.ref s_GHZ_6)] [(.int (3 : Int32)), (.int (3 : Int32))])) t
              refine XS.icmpYes X53.here hx rfl (pc0 := 11) (pc' := 46) rfl (hb hby d1_11) rfl (XT.ii_ge_t (by decide : ¬ ((3 : Int32) < (3 : Int32)))) (by decide) (by decide) ?_
              show Steps p.tables e below (T53.setTop (mkF m 46 #[.val (.int p0), .val (.ref s_ALL), .val (.int (3 : Int32)), .val (.int (3 : Int32)), .val (.ref s_GHZ_6)] [])) t
              refine XS.aconstNull X53.here hx rfl (hb hby d1_46) ?_
              show Steps p.tables e below (T53.setTop (mkF m 47 #[.val (.int p0), .val (.ref s_ALL), .val (.int (3 : Int32)), .val (.int (3 : Int32)), .val (.ref s_GHZ_6)] [.null])) t
              exact k
            obtain ⟨fs, hr, hrun, hended, hW, hsame⟩ := X53.leave (v := some .null) (fun h => by rw [Bd.returns] at h; cases h)
            refine ⟨_, _, go56 _ (Jvm.RoadKit.retOut X53 hx Bd.returns rfl (Or.inr (Or.inr (Or.inr (Or.inr ⟨rfl, rfl, rfl⟩)))) (hb hby d1_47) hr), hrun, hended, _, _, rfl, ?_, ⟨_, rfl⟩, hW, hsame.mono (by decide) (by decide)⟩
            show Q1 _ _ p0 s_ALL s_GHZ_2_4 s_GHZ_5 s_GHZ_6 k_s_ALL h0 _ (T53.setFrames fs).heap _
            have hE : (T53.setFrames fs).heap = h0 := e53
            rw [hE]
            exact ⟨by rw [f1, if_neg hs7, if_pos hs42, if_pos hs46, if_neg hs50, if_pos hs55], N0, rfl⟩
          · have go57 : ∀ t, Steps p.tables e below (T53.setTop (mkF m 39 #[.val (.int p0), .val (.ref s_ALL), .val (.int (3 : Int32)), .val (.int (2 : Int32)), .val (.ref s_GHZ_6)] [(.ref s_GHZ_6)])) t → Steps p.tables e below (s₁.setTop (entryFrame m #[(.int p0)] 5)) t := by
              intro t k
              refine go54 _ ?_
              refine XS.icmpNo X53.here hx rfl (hb hby d1_34) rfl (XT.ii_gt_f hs55) ?_
              show Steps p.tables e below (T53.setTop (mkF m 37 #[.val (.int p0), .val (.ref s_ALL), .val (.int (3 : Int32)), .val (.int (2 : Int32)), .val (.ref s_GHZ_6)] [])) t
              refine XS.aload X53.here hx rfl (hb hby d1_37) rfl rfl ?_
              show Steps p.tables e below (T53.setTop (mkF m 39 #[.val (.int p0), .val (.ref s_ALL), .val (.int (3 : Int32)), .val (.int (2 : Int32)), .val (.ref s_GHZ_6)] [(.ref s_GHZ_6)])) t
              exact k
            obtain ⟨fs, hr, hrun, hended, hW, hsame⟩ := X53.leave (v := some (.ref s_GHZ_6)) (fun h => by rw [Bd.returns] at h; cases h)
            refine ⟨_, _, go57 _ (Jvm.RoadKit.retOut X53 hx Bd.returns rfl (Or.inr (Or.inr (Or.inr (Or.inr ⟨rfl, rfl, rfl⟩)))) (hb hby d1_39) hr), hrun, hended, _, _, rfl, ?_, ⟨_, rfl⟩, hW, hsame.mono (by decide) (by decide)⟩
            show Q1 _ _ p0 s_ALL s_GHZ_2_4 s_GHZ_5 s_GHZ_6 k_s_ALL h0 _ (T53.setFrames fs).heap _
            have hE : (T53.setFrames fs).heap = h0 := e53
            rw [hE]
            exact ⟨by rw [f1, if_neg hs7, if_pos hs42, if_pos hs46, if_neg hs50, if_neg hs55], N0, rfl⟩
      · have go58 : ∀ t, Steps p.tables e below (T44.setTop (mkF m 31 #[.val (.int p0), .val (.ref s_ALL), .val (.int (3 : Int32)), .val (.int (1 : Int32)), .val (.ref s_GHZ_5)] [(.ref s_GHZ_5), (.int p0)])) t → Steps p.tables e below (s₁.setTop (entryFrame m #[(.int p0)] 5)) t := by
          intro t k
          refine go45 _ ?_
          refine XS.icmpNo X44.here hx rfl (hb hby d1_25) rfl (XT.ii_lt_f hs46) ?_
          show Steps p.tables e below (T44.setTop (mkF m 28 #[.val (.int p0), .val (.ref s_ALL), .val (.int (3 : Int32)), .val (.int (1 : Int32)), .val (.ref s_GHZ_5)] [])) t
          refine XS.iloadN X44.here hx rfl (hb hby d1_28) rfl ?_
          show Steps p.tables e below (T44.setTop (mkF m 29 #[.val (.int p0), .val (.ref s_ALL), .val (.int (3 : Int32)), .val (.int (1 : Int32)), .val (.ref s_GHZ_5)] [(.int p0)])) t
          refine XS.aload X44.here hx rfl (hb hby d1_29) rfl rfl ?_
          show Steps p.tables e below (T44.setTop (mkF m 31 #[.val (.int p0), .val (.ref s_ALL), .val (.int (3 : Int32)), .val (.int (1 : Int32)), .val (.ref s_GHZ_5)] [(.ref s_GHZ_5), (.int p0)])) t
          exact k
        obtain ⟨T59, X59, e59, st59⟩ := getF X44 hx hZ hown (host := "") (Or.inl (hw _ (List.mem_of_getElem? (i := 16) rfl))) Via.refl e44 F_GHZ_5_highestKhz (g := (mkF m 31 #[.val (.int p0), .val (.ref s_ALL), .val (.int (3 : Int32)), .val (.int (1 : Int32)), .val (.ref s_GHZ_5)] [(.ref s_GHZ_5), (.int p0)])) rfl rfl (hb hby d1_31)
        have go60 : ∀ t, Steps p.tables e below (T59.setTop (mkF m 34 #[.val (.int p0), .val (.ref s_ALL), .val (.int (3 : Int32)), .val (.int (1 : Int32)), .val (.ref s_GHZ_5)] [(.int (5924000 : Int32)), (.int p0)])) t → Steps p.tables e below (s₁.setTop (entryFrame m #[(.int p0)] 5)) t := fun t k => go58 _ (st59 _ k)
        by_cases hs61 : (5924000 : Int32) < p0
        · have go62 : ∀ t, Steps p.tables e below (T59.setTop (mkF m 22 #[.val (.int p0), .val (.ref s_ALL), .val (.int (3 : Int32)), .val (.int (2 : Int32)), .val (.ref s_GHZ_6)] [(.ref s_GHZ_6), (.int p0)])) t → Steps p.tables e below (s₁.setTop (entryFrame m #[(.int p0)] 5)) t := by
            intro t k
            refine go60 _ ?_
            refine XS.icmpYes X59.here hx rfl (pc0 := 34) (pc' := 40) rfl (hb hby d1_34) rfl (XT.ii_gt_t hs61) (by decide) (by decide) ?_
            show Steps p.tables e below (T59.setTop (mkF m 40 #[.val (.int p0), .val (.ref s_ALL), .val (.int (3 : Int32)), .val (.int (1 : Int32)), .val (.ref s_GHZ_5)] [])) t
            refine XS.iinc X59.here hx rfl (hb hby d1_40) rfl (l' := #[.val (.int p0), .val (.ref s_ALL), .val (.int (3 : Int32)), .val (.int (2 : Int32)), .val (.ref s_GHZ_5)]) rfl ?_
            show Steps p.tables e below (T59.setTop (mkF m 43 #[.val (.int p0), .val (.ref s_ALL), .val (.int (3 : Int32)), .val (.int (2 : Int32)), .val (.ref s_GHZ_5)] [])) t
            refine XS.goto X59.here hx rfl (pc0 := 43) (pc' := 9) rfl (hb hby d1_43) (by decide) (by decide) ?_
            show Steps p.tables e below (T59.setTop (mkF m 9 #[.val (.int p0), .val (.ref s_ALL), .val (.int (3 : Int32)), .val (.int (2 : Int32)), .val (.ref s_GHZ_5)] [])) t
            refine XS.iloadN X59.here hx rfl (hb hby d1_9) rfl ?_
            show Steps p.tables e below (T59.setTop (mkF m 10 #[.val (.int p0), .val (.ref s_ALL), .val (.int (3 : Int32)), .val (.int (2 : Int32)), .val (.ref s_GHZ_5)] [(.int (2 : Int32))])) t
            refine XS.iloadN X59.here hx rfl (hb hby d1_10) rfl ?_
            show Steps p.tables e below (T59.setTop (mkF m 11 #[.val (.int p0), .val (.ref s_ALL), .val (.int (3 : Int32)), .val (.int (2 : Int32)), .val (.ref s_GHZ_5)] [(.int (3 : Int32)), (.int (2 : Int32))])) t
            refine XS.icmpNo X59.here hx rfl (hb hby d1_11) rfl (XT.ii_ge_f (by decide : ((2 : Int32) < (3 : Int32)))) ?_
            show Steps p.tables e below (T59.setTop (mkF m 14 #[.val (.int p0), .val (.ref s_ALL), .val (.int (3 : Int32)), .val (.int (2 : Int32)), .val (.ref s_GHZ_5)] [])) t
            refine XS.aloadN X59.here hx rfl (hb hby d1_14) rfl rfl ?_
            show Steps p.tables e below (T59.setTop (mkF m 15 #[.val (.int p0), .val (.ref s_ALL), .val (.int (3 : Int32)), .val (.int (2 : Int32)), .val (.ref s_GHZ_5)] [(.ref s_ALL)])) t
            refine XS.iloadN X59.here hx rfl (hb hby d1_15) rfl ?_
            show Steps p.tables e below (T59.setTop (mkF m 16 #[.val (.int p0), .val (.ref s_ALL), .val (.int (3 : Int32)), .val (.int (2 : Int32)), .val (.ref s_GHZ_5)] [(.int (2 : Int32)), (.ref s_ALL)])) t
            refine X59.aaload hx (j := (2 : Int32)) (v := (.ref s_GHZ_6)) (by rw [e59]; exact Ar3.1) (State.isArrayOf_alike hZ.alike Ar3.2.1) rfl Ar3.2.2 (inb_of S3 ⟨by decide, by decide⟩) (Has.at H3 (inb_of S3 ⟨by decide, by decide⟩) rfl) (g := (mkF m 16 #[.val (.int p0), .val (.ref s_ALL), .val (.int (3 : Int32)), .val (.int (2 : Int32)), .val (.ref s_GHZ_5)] [(.int (2 : Int32)), (.ref s_ALL)])) rfl rfl (hb hby d1_16) _ ?_
            show Steps p.tables e below (T59.setTop (mkF m 17 #[.val (.int p0), .val (.ref s_ALL), .val (.int (3 : Int32)), .val (.int (2 : Int32)), .val (.ref s_GHZ_5)] [(.ref s_GHZ_6)])) t
            refine XS.astore X59.here hx rfl (hb hby d1_17) rfl rfl (l' := #[.val (.int p0), .val (.ref s_ALL), .val (.int (3 : Int32)), .val (.int (2 : Int32)), .val (.ref s_GHZ_6)]) rfl ?_
            show Steps p.tables e below (T59.setTop (mkF m 19 #[.val (.int p0), .val (.ref s_ALL), .val (.int (3 : Int32)), .val (.int (2 : Int32)), .val (.ref s_GHZ_6)] [])) t
            refine XS.iloadN X59.here hx rfl (hb hby d1_19) rfl ?_
            show Steps p.tables e below (T59.setTop (mkF m 20 #[.val (.int p0), .val (.ref s_ALL), .val (.int (3 : Int32)), .val (.int (2 : Int32)), .val (.ref s_GHZ_6)] [(.int p0)])) t
            refine XS.aload X59.here hx rfl (hb hby d1_20) rfl rfl ?_
            show Steps p.tables e below (T59.setTop (mkF m 22 #[.val (.int p0), .val (.ref s_ALL), .val (.int (3 : Int32)), .val (.int (2 : Int32)), .val (.ref s_GHZ_6)] [(.ref s_GHZ_6), (.int p0)])) t
            exact k
          obtain ⟨T63, X63, e63, st63⟩ := getF X59 hx hZ hown (host := "") (Or.inl (hw _ (List.mem_of_getElem? (i := 14) rfl))) Via.refl e59 F_GHZ_6_lowestKhz (g := (mkF m 22 #[.val (.int p0), .val (.ref s_ALL), .val (.int (3 : Int32)), .val (.int (2 : Int32)), .val (.ref s_GHZ_6)] [(.ref s_GHZ_6), (.int p0)])) rfl rfl (hb hby d1_22)
          have go64 : ∀ t, Steps p.tables e below (T63.setTop (mkF m 25 #[.val (.int p0), .val (.ref s_ALL), .val (.int (3 : Int32)), .val (.int (2 : Int32)), .val (.ref s_GHZ_6)] [(.int (5925000 : Int32)), (.int p0)])) t → Steps p.tables e below (s₁.setTop (entryFrame m #[(.int p0)] 5)) t := fun t k => go62 _ (st63 _ k)
          by_cases hs65 : p0 < (5925000 : Int32)
          · have go66 : ∀ t, Steps p.tables e below (T63.setTop (mkF m 47 #[.val (.int p0), .val (.ref s_ALL), .val (.int (3 : Int32)), .val (.int (3 : Int32)), .val (.ref s_GHZ_6)] [.null])) t → Steps p.tables e below (s₁.setTop (entryFrame m #[(.int p0)] 5)) t := by
              intro t k
              refine go64 _ ?_
              refine XS.icmpYes X63.here hx rfl (pc0 := 25) (pc' := 40) rfl (hb hby d1_25) rfl (XT.ii_lt_t hs65) (by decide) (by decide) ?_
              show Steps p.tables e below (T63.setTop (mkF m 40 #[.val (.int p0), .val (.ref s_ALL), .val (.int (3 : Int32)), .val (.int (2 : Int32)), .val (.ref s_GHZ_6)] [])) t
              refine XS.iinc X63.here hx rfl (hb hby d1_40) rfl (l' := #[.val (.int p0), .val (.ref s_ALL), .val (.int (3 : Int32)), .val (.int (3 : Int32)), .val (.ref s_GHZ_6)]) rfl ?_
              show Steps p.tables e below (T63.setTop (mkF m 43 #[.val (.int p0), .val (.ref s_ALL), .val (.int (3 : Int32)), .val (.int (3 : Int32)), .val (.ref s_GHZ_6)] [])) t
              refine XS.goto X63.here hx rfl (pc0 := 43) (pc' := 9) rfl (hb hby d1_43) (by decide) (by decide) ?_
              show Steps p.tables e below (T63.setTop (mkF m 9 #[.val (.int p0), .val (.ref s_ALL), .val (.int (3 : Int32)), .val (.int (3 : Int32)), .val (.ref s_GHZ_6)] [])) t
              refine XS.iloadN X63.here hx rfl (hb hby d1_9) rfl ?_
              show Steps p.tables e below (T63.setTop (mkF m 10 #[.val (.int p0), .val (.ref s_ALL), .val (.int (3 : Int32)), .val (.int (3 : Int32)), .val (.ref s_GHZ_6)] [(.int (3 : Int32))])) t
              refine XS.iloadN X63.here hx rfl (hb hby d1_10) rfl ?_
              show Steps p.tables e below (T63.setTop (mkF m 11 #[.val (.int p0), .val (.ref s_ALL), .val (.int (3 : Int32)), .val (.int (3 : Int32)), .val (.ref s_GHZ_6)] [(.int (3 : Int32)), (.int (3 : Int32))])) t
              refine XS.icmpYes X63.here hx rfl (pc0 := 11) (pc' := 46) rfl (hb hby d1_11) rfl (XT.ii_ge_t (by decide : ¬ ((3 : Int32) < (3 : Int32)))) (by decide) (by decide) ?_
              show Steps p.tables e below (T63.setTop (mkF m 46 #[.val (.int p0), .val (.ref s_ALL), .val (.int (3 : Int32)), .val (.int (3 : Int32)), .val (.ref s_GHZ_6)] [])) t
              refine XS.aconstNull X63.here hx rfl (hb hby d1_46) ?_
              show Steps p.tables e below (T63.setTop (mkF m 47 #[.val (.int p0), .val (.ref s_ALL), .val (.int (3 : Int32)), .val (.int (3 : Int32)), .val (.ref s_GHZ_6)] [.null])) t
              exact k
            obtain ⟨fs, hr, hrun, hended, hW, hsame⟩ := X63.leave (v := some .null) (fun h => by rw [Bd.returns] at h; cases h)
            refine ⟨_, _, go66 _ (Jvm.RoadKit.retOut X63 hx Bd.returns rfl (Or.inr (Or.inr (Or.inr (Or.inr ⟨rfl, rfl, rfl⟩)))) (hb hby d1_47) hr), hrun, hended, _, _, rfl, ?_, ⟨_, rfl⟩, hW, hsame.mono (by decide) (by decide)⟩
            show Q1 _ _ p0 s_ALL s_GHZ_2_4 s_GHZ_5 s_GHZ_6 k_s_ALL h0 _ (T63.setFrames fs).heap _
            have hE : (T63.setFrames fs).heap = h0 := e63
            rw [hE]
            exact ⟨by rw [f1, if_neg hs7, if_pos hs42, if_neg hs46, if_pos hs61, if_pos hs65], N0, rfl⟩
          · have go67 : ∀ t, Steps p.tables e below (T63.setTop (mkF m 31 #[.val (.int p0), .val (.ref s_ALL), .val (.int (3 : Int32)), .val (.int (2 : Int32)), .val (.ref s_GHZ_6)] [(.ref s_GHZ_6), (.int p0)])) t → Steps p.tables e below (s₁.setTop (entryFrame m #[(.int p0)] 5)) t := by
              intro t k
              refine go64 _ ?_
              refine XS.icmpNo X63.here hx rfl (hb hby d1_25) rfl (XT.ii_lt_f hs65) ?_
              show Steps p.tables e below (T63.setTop (mkF m 28 #[.val (.int p0), .val (.ref s_ALL), .val (.int (3 : Int32)), .val (.int (2 : Int32)), .val (.ref s_GHZ_6)] [])) t
              refine XS.iloadN X63.here hx rfl (hb hby d1_28) rfl ?_
              show Steps p.tables e below (T63.setTop (mkF m 29 #[.val (.int p0), .val (.ref s_ALL), .val (.int (3 : Int32)), .val (.int (2 : Int32)), .val (.ref s_GHZ_6)] [(.int p0)])) t
              refine XS.aload X63.here hx rfl (hb hby d1_29) rfl rfl ?_
              show Steps p.tables e below (T63.setTop (mkF m 31 #[.val (.int p0), .val (.ref s_ALL), .val (.int (3 : Int32)), .val (.int (2 : Int32)), .val (.ref s_GHZ_6)] [(.ref s_GHZ_6), (.int p0)])) t
              exact k
            obtain ⟨T68, X68, e68, st68⟩ := getF X63 hx hZ hown (host := "") (Or.inl (hw _ (List.mem_of_getElem? (i := 16) rfl))) Via.refl e63 F_GHZ_6_highestKhz (g := (mkF m 31 #[.val (.int p0), .val (.ref s_ALL), .val (.int (3 : Int32)), .val (.int (2 : Int32)), .val (.ref s_GHZ_6)] [(.ref s_GHZ_6), (.int p0)])) rfl rfl (hb hby d1_31)
            have go69 : ∀ t, Steps p.tables e below (T68.setTop (mkF m 34 #[.val (.int p0), .val (.ref s_ALL), .val (.int (3 : Int32)), .val (.int (2 : Int32)), .val (.ref s_GHZ_6)] [(.int (7125000 : Int32)), (.int p0)])) t → Steps p.tables e below (s₁.setTop (entryFrame m #[(.int p0)] 5)) t := fun t k => go67 _ (st68 _ k)
            by_cases hs70 : (7125000 : Int32) < p0
            · have go71 : ∀ t, Steps p.tables e below (T68.setTop (mkF m 47 #[.val (.int p0), .val (.ref s_ALL), .val (.int (3 : Int32)), .val (.int (3 : Int32)), .val (.ref s_GHZ_6)] [.null])) t → Steps p.tables e below (s₁.setTop (entryFrame m #[(.int p0)] 5)) t := by
                intro t k
                refine go69 _ ?_
                refine XS.icmpYes X68.here hx rfl (pc0 := 34) (pc' := 40) rfl (hb hby d1_34) rfl (XT.ii_gt_t hs70) (by decide) (by decide) ?_
                show Steps p.tables e below (T68.setTop (mkF m 40 #[.val (.int p0), .val (.ref s_ALL), .val (.int (3 : Int32)), .val (.int (2 : Int32)), .val (.ref s_GHZ_6)] [])) t
                refine XS.iinc X68.here hx rfl (hb hby d1_40) rfl (l' := #[.val (.int p0), .val (.ref s_ALL), .val (.int (3 : Int32)), .val (.int (3 : Int32)), .val (.ref s_GHZ_6)]) rfl ?_
                show Steps p.tables e below (T68.setTop (mkF m 43 #[.val (.int p0), .val (.ref s_ALL), .val (.int (3 : Int32)), .val (.int (3 : Int32)), .val (.ref s_GHZ_6)] [])) t
                refine XS.goto X68.here hx rfl (pc0 := 43) (pc' := 9) rfl (hb hby d1_43) (by decide) (by decide) ?_
                show Steps p.tables e below (T68.setTop (mkF m 9 #[.val (.int p0), .val (.ref s_ALL), .val (.int (3 : Int32)), .val (.int (3 : Int32)), .val (.ref s_GHZ_6)] [])) t
                refine XS.iloadN X68.here hx rfl (hb hby d1_9) rfl ?_
                show Steps p.tables e below (T68.setTop (mkF m 10 #[.val (.int p0), .val (.ref s_ALL), .val (.int (3 : Int32)), .val (.int (3 : Int32)), .val (.ref s_GHZ_6)] [(.int (3 : Int32))])) t
                refine XS.iloadN X68.here hx rfl (hb hby d1_10) rfl ?_
                show Steps p.tables e below (T68.setTop (mkF m 11 #[.val (.int p0), .val (.ref s_ALL), .val (.int (3 : Int32)), .val (.int (3 : Int32)), .val (.ref s_GHZ_6)] [(.int (3 : Int32)), (.int (3 : Int32))])) t
                refine XS.icmpYes X68.here hx rfl (pc0 := 11) (pc' := 46) rfl (hb hby d1_11) rfl (XT.ii_ge_t (by decide : ¬ ((3 : Int32) < (3 : Int32)))) (by decide) (by decide) ?_
                show Steps p.tables e below (T68.setTop (mkF m 46 #[.val (.int p0), .val (.ref s_ALL), .val (.int (3 : Int32)), .val (.int (3 : Int32)), .val (.ref s_GHZ_6)] [])) t
                refine XS.aconstNull X68.here hx rfl (hb hby d1_46) ?_
                show Steps p.tables e below (T68.setTop (mkF m 47 #[.val (.int p0), .val (.ref s_ALL), .val (.int (3 : Int32)), .val (.int (3 : Int32)), .val (.ref s_GHZ_6)] [.null])) t
                exact k
              obtain ⟨fs, hr, hrun, hended, hW, hsame⟩ := X68.leave (v := some .null) (fun h => by rw [Bd.returns] at h; cases h)
              refine ⟨_, _, go71 _ (Jvm.RoadKit.retOut X68 hx Bd.returns rfl (Or.inr (Or.inr (Or.inr (Or.inr ⟨rfl, rfl, rfl⟩)))) (hb hby d1_47) hr), hrun, hended, _, _, rfl, ?_, ⟨_, rfl⟩, hW, hsame.mono (by decide) (by decide)⟩
              show Q1 _ _ p0 s_ALL s_GHZ_2_4 s_GHZ_5 s_GHZ_6 k_s_ALL h0 _ (T68.setFrames fs).heap _
              have hE : (T68.setFrames fs).heap = h0 := e68
              rw [hE]
              exact ⟨by rw [f1, if_neg hs7, if_pos hs42, if_neg hs46, if_pos hs61, if_neg hs65, if_pos hs70], N0, rfl⟩
            · have go72 : ∀ t, Steps p.tables e below (T68.setTop (mkF m 39 #[.val (.int p0), .val (.ref s_ALL), .val (.int (3 : Int32)), .val (.int (2 : Int32)), .val (.ref s_GHZ_6)] [(.ref s_GHZ_6)])) t → Steps p.tables e below (s₁.setTop (entryFrame m #[(.int p0)] 5)) t := by
                intro t k
                refine go69 _ ?_
                refine XS.icmpNo X68.here hx rfl (hb hby d1_34) rfl (XT.ii_gt_f hs70) ?_
                show Steps p.tables e below (T68.setTop (mkF m 37 #[.val (.int p0), .val (.ref s_ALL), .val (.int (3 : Int32)), .val (.int (2 : Int32)), .val (.ref s_GHZ_6)] [])) t
                refine XS.aload X68.here hx rfl (hb hby d1_37) rfl rfl ?_
                show Steps p.tables e below (T68.setTop (mkF m 39 #[.val (.int p0), .val (.ref s_ALL), .val (.int (3 : Int32)), .val (.int (2 : Int32)), .val (.ref s_GHZ_6)] [(.ref s_GHZ_6)])) t
                exact k
              obtain ⟨fs, hr, hrun, hended, hW, hsame⟩ := X68.leave (v := some (.ref s_GHZ_6)) (fun h => by rw [Bd.returns] at h; cases h)
              refine ⟨_, _, go72 _ (Jvm.RoadKit.retOut X68 hx Bd.returns rfl (Or.inr (Or.inr (Or.inr (Or.inr ⟨rfl, rfl, rfl⟩)))) (hb hby d1_39) hr), hrun, hended, _, _, rfl, ?_, ⟨_, rfl⟩, hW, hsame.mono (by decide) (by decide)⟩
              show Q1 _ _ p0 s_ALL s_GHZ_2_4 s_GHZ_5 s_GHZ_6 k_s_ALL h0 _ (T68.setFrames fs).heap _
              have hE : (T68.setFrames fs).heap = h0 := e68
              rw [hE]
              exact ⟨by rw [f1, if_neg hs7, if_pos hs42, if_neg hs46, if_pos hs61, if_neg hs65, if_neg hs70], N0, rfl⟩
        · have go73 : ∀ t, Steps p.tables e below (T59.setTop (mkF m 39 #[.val (.int p0), .val (.ref s_ALL), .val (.int (3 : Int32)), .val (.int (1 : Int32)), .val (.ref s_GHZ_5)] [(.ref s_GHZ_5)])) t → Steps p.tables e below (s₁.setTop (entryFrame m #[(.int p0)] 5)) t := by
            intro t k
            refine go60 _ ?_
            refine XS.icmpNo X59.here hx rfl (hb hby d1_34) rfl (XT.ii_gt_f hs61) ?_
            show Steps p.tables e below (T59.setTop (mkF m 37 #[.val (.int p0), .val (.ref s_ALL), .val (.int (3 : Int32)), .val (.int (1 : Int32)), .val (.ref s_GHZ_5)] [])) t
            refine XS.aload X59.here hx rfl (hb hby d1_37) rfl rfl ?_
            show Steps p.tables e below (T59.setTop (mkF m 39 #[.val (.int p0), .val (.ref s_ALL), .val (.int (3 : Int32)), .val (.int (1 : Int32)), .val (.ref s_GHZ_5)] [(.ref s_GHZ_5)])) t
            exact k
          obtain ⟨fs, hr, hrun, hended, hW, hsame⟩ := X59.leave (v := some (.ref s_GHZ_5)) (fun h => by rw [Bd.returns] at h; cases h)
          refine ⟨_, _, go73 _ (Jvm.RoadKit.retOut X59 hx Bd.returns rfl (Or.inr (Or.inr (Or.inr (Or.inr ⟨rfl, rfl, rfl⟩)))) (hb hby d1_39) hr), hrun, hended, _, _, rfl, ?_, ⟨_, rfl⟩, hW, hsame.mono (by decide) (by decide)⟩
          show Q1 _ _ p0 s_ALL s_GHZ_2_4 s_GHZ_5 s_GHZ_6 k_s_ALL h0 _ (T59.setFrames fs).heap _
          have hE : (T59.setFrames fs).heap = h0 := e59
          rw [hE]
          exact ⟨by rw [f1, if_neg hs7, if_pos hs42, if_neg hs46, if_neg hs61], N0, rfl⟩
    · have go74 : ∀ t, Steps p.tables e below (T40.setTop (mkF m 39 #[.val (.int p0), .val (.ref s_ALL), .val (.int (3 : Int32)), .val (.int (0 : Int32)), .val (.ref s_GHZ_2_4)] [(.ref s_GHZ_2_4)])) t → Steps p.tables e below (s₁.setTop (entryFrame m #[(.int p0)] 5)) t := by
        intro t k
        refine go41 _ ?_
        refine XS.icmpNo X40.here hx rfl (hb hby d1_34) rfl (XT.ii_gt_f hs42) ?_
        show Steps p.tables e below (T40.setTop (mkF m 37 #[.val (.int p0), .val (.ref s_ALL), .val (.int (3 : Int32)), .val (.int (0 : Int32)), .val (.ref s_GHZ_2_4)] [])) t
        refine XS.aload X40.here hx rfl (hb hby d1_37) rfl rfl ?_
        show Steps p.tables e below (T40.setTop (mkF m 39 #[.val (.int p0), .val (.ref s_ALL), .val (.int (3 : Int32)), .val (.int (0 : Int32)), .val (.ref s_GHZ_2_4)] [(.ref s_GHZ_2_4)])) t
        exact k
      obtain ⟨fs, hr, hrun, hended, hW, hsame⟩ := X40.leave (v := some (.ref s_GHZ_2_4)) (fun h => by rw [Bd.returns] at h; cases h)
      refine ⟨_, _, go74 _ (Jvm.RoadKit.retOut X40 hx Bd.returns rfl (Or.inr (Or.inr (Or.inr (Or.inr ⟨rfl, rfl, rfl⟩)))) (hb hby d1_39) hr), hrun, hended, _, _, rfl, ?_, ⟨_, rfl⟩, hW, hsame.mono (by decide) (by decide)⟩
      show Q1 _ _ p0 s_ALL s_GHZ_2_4 s_GHZ_5 s_GHZ_6 k_s_ALL h0 _ (T40.setFrames fs).heap _
      have hE : (T40.setFrames fs).heap = h0 := e40
      rw [hE]
      exact ⟨by rw [f1, if_neg hs7, if_neg hs42], N0, rfl⟩
theorem f1_ref (p0 : Int32) (s_GHZ_2_4 : Addr) (s_GHZ_5 : Addr) (s_GHZ_6 : Addr) : (f1 p0 s_GHZ_2_4 s_GHZ_5 s_GHZ_6).isRef = true := by unfold f1; (repeat' split) <;> rfl
theorem d2_0 : decode method_2_code 0 = .ok (.iload_n 0, 1) := by decide +kernel
theorem d2_1 : decode method_2_code 1 = .ok (.ldc 7, 2) := by decide +kernel
theorem d2_3 : decode method_2_code 3 = .ok (.if_icmp .lt 13, 3) := by decide +kernel
theorem d2_16 : decode method_2_code 16 = .ok (.iload_n 0, 1) := by decide +kernel
theorem d2_17 : decode method_2_code 17 = .ok (.ldc 15, 2) := by decide +kernel
theorem d2_19 : decode method_2_code 19 = .ok (.if_icmp .lt 13, 3) := by decide +kernel
theorem d2_32 : decode method_2_code 32 = .ok (.iload_n 0, 1) := by decide +kernel
theorem d2_33 : decode method_2_code 33 = .ok (.ldc 20, 2) := by decide +kernel
theorem d2_35 : decode method_2_code 35 = .ok (.if_icmp .lt 13, 3) := by decide +kernel
theorem d2_48 : decode method_2_code 48 = .ok (.aconst_null, 1) := by decide +kernel
theorem d2_49 : decode method_2_code 49 = .ok (.areturn, 1) := by decide +kernel
theorem d2_38 : decode method_2_code 38 = .ok (.iload_n 0, 1) := by decide +kernel
theorem d2_39 : decode method_2_code 39 = .ok (.ldc 21, 2) := by decide +kernel
theorem d2_41 : decode method_2_code 41 = .ok (.if_icmp .gt 7, 3) := by decide +kernel
theorem d2_44 : decode method_2_code 44 = .ok (.getstatic 22, 3) := by decide +kernel
theorem d2_47 : decode method_2_code 47 = .ok (.areturn, 1) := by decide +kernel
theorem d2_22 : decode method_2_code 22 = .ok (.iload_n 0, 1) := by decide +kernel
theorem d2_23 : decode method_2_code 23 = .ok (.ldc 16, 2) := by decide +kernel
theorem d2_25 : decode method_2_code 25 = .ok (.if_icmp .gt 7, 3) := by decide +kernel
theorem d2_28 : decode method_2_code 28 = .ok (.getstatic 17, 3) := by decide +kernel
theorem d2_31 : decode method_2_code 31 = .ok (.areturn, 1) := by decide +kernel
theorem d2_6 : decode method_2_code 6 = .ok (.iload_n 0, 1) := by decide +kernel
theorem d2_7 : decode method_2_code 7 = .ok (.ldc 8, 2) := by decide +kernel
theorem d2_9 : decode method_2_code 9 = .ok (.if_icmp .gt 7, 3) := by decide +kernel
theorem d2_12 : decode method_2_code 12 = .ok (.getstatic 9, 3) := by decide +kernel
theorem d2_15 : decode method_2_code 15 = .ok (.areturn, 1) := by decide +kernel
theorem pn_55 : plainName "com/example/probe/probe/BandInPinLaw" = true := by first | (simp [plainName, overriddenIn]; done) | decide +kernel
def f2 (p0 : Int32) (s_GHZ_2_4 : Addr) (s_GHZ_5 : Addr) (s_GHZ_6 : Addr) : Value := (if p0 < (2400000 : Int32) then (if p0 < (5150000 : Int32) then (if p0 < (5925000 : Int32) then (.null : Value) else (if (7125000 : Int32) < p0 then (.null : Value) else ((.ref s_GHZ_6) : Value))) else (if (5924000 : Int32) < p0 then (if p0 < (5925000 : Int32) then (.null : Value) else (if (7125000 : Int32) < p0 then (.null : Value) else ((.ref s_GHZ_6) : Value))) else ((.ref s_GHZ_5) : Value))) else (if (2500000 : Int32) < p0 then (if p0 < (5150000 : Int32) then (if p0 < (5925000 : Int32) then (.null : Value) else (if (7125000 : Int32) < p0 then (.null : Value) else ((.ref s_GHZ_6) : Value))) else (if (5924000 : Int32) < p0 then (if p0 < (5925000 : Int32) then (.null : Value) else (if (7125000 : Int32) < p0 then (.null : Value) else ((.ref s_GHZ_6) : Value))) else ((.ref s_GHZ_5) : Value))) else ((.ref s_GHZ_2_4) : Value)))
def Q2 (Z : State) (n0 : Nat) (p0 : Int32) (s_GHZ_2_4 : Addr) (s_GHZ_5 : Addr) (s_GHZ_6 : Addr) (h0 : Heap) (v : Option Value) (h : Heap) (L : List Loc) : Prop := v = some (f2 p0 s_GHZ_2_4 s_GHZ_5 s_GHZ_6) ∧ Fr n0 L ∧ h = h0
theorem ef2 (m : MethodId) (p0 : Int32) : entryFrame m #[(.int p0)] 1 = mkF m 0 #[.val (.int p0)] [] := by first | (simp [entryFrame, mkF, argsToLocals, Value.category]; done) | rfl
set_option maxRecDepth 65536 in
set_option maxHeartbeats 40000000 in
theorem rm2 (l : Launch) (Z : State) (aZ : Array Value) (hw : ∀ d ∈ tables_1, d.before aZ Z = true) (ws : List Jvm.Cond) (p0 : Int32) (s_GHZ_2_4 : Addr) (s_GHZ_5 : Addr) (s_GHZ_6 : Addr) (h0 : Heap) (n0 : Nat) (Z0 : n0 ≤ h0.size) (S_GHZ_2_4 : Sta Z h0 "com/example/probe/probe/Band" "GHZ_2_4" "Lcom/example/probe/probe/Band;" (.ref s_GHZ_2_4)) (S_GHZ_5 : Sta Z h0 "com/example/probe/probe/Band" "GHZ_5" "Lcom/example/probe/probe/Band;" (.ref s_GHZ_5)) (S_GHZ_6 : Sta Z h0 "com/example/probe/probe/Band" "GHZ_6" "Lcom/example/probe/probe/Band;" (.ref s_GHZ_6)) :
    MetFree l (⟨"com/example/probe/probe/BandInPinLaw", "expected", "(I)Lcom/example/probe/probe/Band;"⟩ : MethodName) (head1 (Jvm.Cond.code (⟨"com/example/probe/probe/BandInPinLaw", "expected", "(I)Lcom/example/probe/probe/Band;"⟩ : MethodName) method_2_code 1 (some (.object "com/example/probe/probe/Band")) :: ws) ({ frames := 0, cells := 0, slots := 0, locals := 0 } : Room)) (fun a U => a = #[(.int p0)] ∧ Z.Warmed39 U.vm ∧ U.heap = h0) (fun _ _ _ _ _ => True) (fun _ U o U' => ∃ v L, o = .returned v ∧ Q2 Z n0 p0 s_GHZ_2_4 s_GHZ_5 s_GHZ_6 h0 v U'.heap L ∧ FrameEnd U o U' L ({ frames := 0, cells := 0, slots := 0, locals := 0 } : Room).cells ({ frames := 0, cells := 0, slots := 0, locals := 0 } : Room).slots) := by
  refine MetFree.of_bodySF (plainFor_of_name pn_55) hisR ?_
  intro p e s m args below meth c s₁ Bd hml0 hP hK
  obtain ⟨rfl, hZ, hh⟩ := hP
  have hx := Bd.exec
  have hby := Bd.bytes
  have hml : c.maxLocals = 1 := hml0
  have hown : s.vm.findClass "com/example/probe/probe/BandInPinLaw" = some m.cls := findClass_of_methodNamed Bd.named
  have hnm := (name_of_methodNamed Bd.named Bd.method).1
  have X0 : Stand p l e ({ frames := 0, cells := 0, slots := 0, locals := 0 } : Room) s m #[(.int p0)] below meth c s₁ [] 0 0 := Stand.of_body Bd
  have e0 : s₁.heap = h0 := by rw [← hh, Bd.state]; rfl
  have N0 := Fr.nil n0
  have K0 : Keep h0 h0 [] := Keep.refl _ _
  have go0 : ∀ t, Steps p.tables e below (s₁.setTop (mkF m 0 #[.val (.int p0)] [])) t → Steps p.tables e below (s₁.setTop (entryFrame m #[(.int p0)] 1)) t := fun t k => castTop (ef2 m p0) k
  have go1 : ∀ t, Steps p.tables e below (s₁.setTop (mkF m 3 #[.val (.int p0)] [(.int (2400000 : Int32)), (.int p0)])) t → Steps p.tables e below (s₁.setTop (entryFrame m #[(.int p0)] 1)) t := by
    intro t k
    refine go0 _ ?_
    refine XS.iloadN X0.here hx rfl (hb hby d2_0) rfl ?_
    show Steps p.tables e below (s₁.setTop (mkF m 1 #[.val (.int p0)] [(.int p0)])) t
    refine X0.ldcInt hx hown (mvT hZ (hw _ (List.mem_of_getElem? (i := 1) rfl))) (g := (mkF m 1 #[.val (.int p0)] [(.int p0)])) rfl (hb hby d2_1) _ ?_
    show Steps p.tables e below (s₁.setTop (mkF m 3 #[.val (.int p0)] [(.int (2400000 : Int32)), (.int p0)])) t
    exact k
  by_cases hs2 : p0 < (2400000 : Int32)
  · have go3 : ∀ t, Steps p.tables e below (s₁.setTop (mkF m 19 #[.val (.int p0)] [(.int (5150000 : Int32)), (.int p0)])) t → Steps p.tables e below (s₁.setTop (entryFrame m #[(.int p0)] 1)) t := by
      intro t k
      refine go1 _ ?_
      refine XS.icmpYes X0.here hx rfl (pc0 := 3) (pc' := 16) rfl (hb hby d2_3) rfl (XT.ii_lt_t hs2) (by decide) (by decide) ?_
      show Steps p.tables e below (s₁.setTop (mkF m 16 #[.val (.int p0)] [])) t
      refine XS.iloadN X0.here hx rfl (hb hby d2_16) rfl ?_
      show Steps p.tables e below (s₁.setTop (mkF m 17 #[.val (.int p0)] [(.int p0)])) t
      refine X0.ldcInt hx hown (mvT hZ (hw _ (List.mem_of_getElem? (i := 3) rfl))) (g := (mkF m 17 #[.val (.int p0)] [(.int p0)])) rfl (hb hby d2_17) _ ?_
      show Steps p.tables e below (s₁.setTop (mkF m 19 #[.val (.int p0)] [(.int (5150000 : Int32)), (.int p0)])) t
      exact k
    by_cases hs4 : p0 < (5150000 : Int32)
    · have go5 : ∀ t, Steps p.tables e below (s₁.setTop (mkF m 35 #[.val (.int p0)] [(.int (5925000 : Int32)), (.int p0)])) t → Steps p.tables e below (s₁.setTop (entryFrame m #[(.int p0)] 1)) t := by
        intro t k
        refine go3 _ ?_
        refine XS.icmpYes X0.here hx rfl (pc0 := 19) (pc' := 32) rfl (hb hby d2_19) rfl (XT.ii_lt_t hs4) (by decide) (by decide) ?_
        show Steps p.tables e below (s₁.setTop (mkF m 32 #[.val (.int p0)] [])) t
        refine XS.iloadN X0.here hx rfl (hb hby d2_32) rfl ?_
        show Steps p.tables e below (s₁.setTop (mkF m 33 #[.val (.int p0)] [(.int p0)])) t
        refine X0.ldcInt hx hown (mvT hZ (hw _ (List.mem_of_getElem? (i := 5) rfl))) (g := (mkF m 33 #[.val (.int p0)] [(.int p0)])) rfl (hb hby d2_33) _ ?_
        show Steps p.tables e below (s₁.setTop (mkF m 35 #[.val (.int p0)] [(.int (5925000 : Int32)), (.int p0)])) t
        exact k
      by_cases hs6 : p0 < (5925000 : Int32)
      · have go7 : ∀ t, Steps p.tables e below (s₁.setTop (mkF m 49 #[.val (.int p0)] [.null])) t → Steps p.tables e below (s₁.setTop (entryFrame m #[(.int p0)] 1)) t := by
          intro t k
          refine go5 _ ?_
          refine XS.icmpYes X0.here hx rfl (pc0 := 35) (pc' := 48) rfl (hb hby d2_35) rfl (XT.ii_lt_t hs6) (by decide) (by decide) ?_
          show Steps p.tables e below (s₁.setTop (mkF m 48 #[.val (.int p0)] [])) t
          refine XS.aconstNull X0.here hx rfl (hb hby d2_48) ?_
          show Steps p.tables e below (s₁.setTop (mkF m 49 #[.val (.int p0)] [.null])) t
          exact k
        obtain ⟨fs, hr, hrun, hended, hW, hsame⟩ := X0.leave (v := some .null) (fun h => by rw [Bd.returns] at h; cases h)
        refine ⟨_, _, go7 _ (Jvm.RoadKit.retOut X0 hx Bd.returns rfl (Or.inr (Or.inr (Or.inr (Or.inr ⟨rfl, rfl, rfl⟩)))) (hb hby d2_49) hr), hrun, hended, _, _, rfl, ?_, ⟨_, rfl⟩, hW, hsame.mono (by decide) (by decide)⟩
        show Q2 _ _ p0 s_GHZ_2_4 s_GHZ_5 s_GHZ_6 h0 _ (s₁.setFrames fs).heap _
        have hE : (s₁.setFrames fs).heap = h0 := e0
        rw [hE]
        exact ⟨by rw [f2, if_pos hs2, if_pos hs4, if_pos hs6], N0, rfl⟩
      · have go8 : ∀ t, Steps p.tables e below (s₁.setTop (mkF m 41 #[.val (.int p0)] [(.int (7125000 : Int32)), (.int p0)])) t → Steps p.tables e below (s₁.setTop (entryFrame m #[(.int p0)] 1)) t := by
          intro t k
          refine go5 _ ?_
          refine XS.icmpNo X0.here hx rfl (hb hby d2_35) rfl (XT.ii_lt_f hs6) ?_
          show Steps p.tables e below (s₁.setTop (mkF m 38 #[.val (.int p0)] [])) t
          refine XS.iloadN X0.here hx rfl (hb hby d2_38) rfl ?_
          show Steps p.tables e below (s₁.setTop (mkF m 39 #[.val (.int p0)] [(.int p0)])) t
          refine X0.ldcInt hx hown (mvT hZ (hw _ (List.mem_of_getElem? (i := 6) rfl))) (g := (mkF m 39 #[.val (.int p0)] [(.int p0)])) rfl (hb hby d2_39) _ ?_
          show Steps p.tables e below (s₁.setTop (mkF m 41 #[.val (.int p0)] [(.int (7125000 : Int32)), (.int p0)])) t
          exact k
        by_cases hs9 : (7125000 : Int32) < p0
        · have go10 : ∀ t, Steps p.tables e below (s₁.setTop (mkF m 49 #[.val (.int p0)] [.null])) t → Steps p.tables e below (s₁.setTop (entryFrame m #[(.int p0)] 1)) t := by
            intro t k
            refine go8 _ ?_
            refine XS.icmpYes X0.here hx rfl (pc0 := 41) (pc' := 48) rfl (hb hby d2_41) rfl (XT.ii_gt_t hs9) (by decide) (by decide) ?_
            show Steps p.tables e below (s₁.setTop (mkF m 48 #[.val (.int p0)] [])) t
            refine XS.aconstNull X0.here hx rfl (hb hby d2_48) ?_
            show Steps p.tables e below (s₁.setTop (mkF m 49 #[.val (.int p0)] [.null])) t
            exact k
          obtain ⟨fs, hr, hrun, hended, hW, hsame⟩ := X0.leave (v := some .null) (fun h => by rw [Bd.returns] at h; cases h)
          refine ⟨_, _, go10 _ (Jvm.RoadKit.retOut X0 hx Bd.returns rfl (Or.inr (Or.inr (Or.inr (Or.inr ⟨rfl, rfl, rfl⟩)))) (hb hby d2_49) hr), hrun, hended, _, _, rfl, ?_, ⟨_, rfl⟩, hW, hsame.mono (by decide) (by decide)⟩
          show Q2 _ _ p0 s_GHZ_2_4 s_GHZ_5 s_GHZ_6 h0 _ (s₁.setFrames fs).heap _
          have hE : (s₁.setFrames fs).heap = h0 := e0
          rw [hE]
          exact ⟨by rw [f2, if_pos hs2, if_pos hs4, if_neg hs6, if_pos hs9], N0, rfl⟩
        · have go11 : ∀ t, Steps p.tables e below (s₁.setTop (mkF m 44 #[.val (.int p0)] [])) t → Steps p.tables e below (s₁.setTop (entryFrame m #[(.int p0)] 1)) t := by
            intro t k
            refine go8 _ ?_
            refine XS.icmpNo X0.here hx rfl (hb hby d2_41) rfl (XT.ii_gt_f hs9) ?_
            show Steps p.tables e below (s₁.setTop (mkF m 44 #[.val (.int p0)] [])) t
            exact k
          obtain ⟨T12, X12, e12, st12⟩ := getS2 X0 hx hZ hown (host := "") (Or.inl (hw _ (List.mem_of_getElem? (i := 25) rfl))) Via.refl e0 S_GHZ_6 (g := (mkF m 44 #[.val (.int p0)] [])) rfl (hb hby d2_44)
          have go13 : ∀ t, Steps p.tables e below (T12.setTop (mkF m 47 #[.val (.int p0)] [(.ref s_GHZ_6)])) t → Steps p.tables e below (s₁.setTop (entryFrame m #[(.int p0)] 1)) t := fun t k => go11 _ (st12 _ k)
          obtain ⟨fs, hr, hrun, hended, hW, hsame⟩ := X12.leave (v := some (.ref s_GHZ_6)) (fun h => by rw [Bd.returns] at h; cases h)
          refine ⟨_, _, go13 _ (Jvm.RoadKit.retOut X12 hx Bd.returns rfl (Or.inr (Or.inr (Or.inr (Or.inr ⟨rfl, rfl, rfl⟩)))) (hb hby d2_47) hr), hrun, hended, _, _, rfl, ?_, ⟨_, rfl⟩, hW, hsame.mono (by decide) (by decide)⟩
          show Q2 _ _ p0 s_GHZ_2_4 s_GHZ_5 s_GHZ_6 h0 _ (T12.setFrames fs).heap _
          have hE : (T12.setFrames fs).heap = h0 := e12
          rw [hE]
          exact ⟨by rw [f2, if_pos hs2, if_pos hs4, if_neg hs6, if_neg hs9], N0, rfl⟩
    · have go14 : ∀ t, Steps p.tables e below (s₁.setTop (mkF m 25 #[.val (.int p0)] [(.int (5924000 : Int32)), (.int p0)])) t → Steps p.tables e below (s₁.setTop (entryFrame m #[(.int p0)] 1)) t := by
        intro t k
        refine go3 _ ?_
        refine XS.icmpNo X0.here hx rfl (hb hby d2_19) rfl (XT.ii_lt_f hs4) ?_
        show Steps p.tables e below (s₁.setTop (mkF m 22 #[.val (.int p0)] [])) t
        refine XS.iloadN X0.here hx rfl (hb hby d2_22) rfl ?_
        show Steps p.tables e below (s₁.setTop (mkF m 23 #[.val (.int p0)] [(.int p0)])) t
        refine X0.ldcInt hx hown (mvT hZ (hw _ (List.mem_of_getElem? (i := 4) rfl))) (g := (mkF m 23 #[.val (.int p0)] [(.int p0)])) rfl (hb hby d2_23) _ ?_
        show Steps p.tables e below (s₁.setTop (mkF m 25 #[.val (.int p0)] [(.int (5924000 : Int32)), (.int p0)])) t
        exact k
      by_cases hs15 : (5924000 : Int32) < p0
      · have go16 : ∀ t, Steps p.tables e below (s₁.setTop (mkF m 35 #[.val (.int p0)] [(.int (5925000 : Int32)), (.int p0)])) t → Steps p.tables e below (s₁.setTop (entryFrame m #[(.int p0)] 1)) t := by
          intro t k
          refine go14 _ ?_
          refine XS.icmpYes X0.here hx rfl (pc0 := 25) (pc' := 32) rfl (hb hby d2_25) rfl (XT.ii_gt_t hs15) (by decide) (by decide) ?_
          show Steps p.tables e below (s₁.setTop (mkF m 32 #[.val (.int p0)] [])) t
          refine XS.iloadN X0.here hx rfl (hb hby d2_32) rfl ?_
          show Steps p.tables e below (s₁.setTop (mkF m 33 #[.val (.int p0)] [(.int p0)])) t
          refine X0.ldcInt hx hown (mvT hZ (hw _ (List.mem_of_getElem? (i := 5) rfl))) (g := (mkF m 33 #[.val (.int p0)] [(.int p0)])) rfl (hb hby d2_33) _ ?_
          show Steps p.tables e below (s₁.setTop (mkF m 35 #[.val (.int p0)] [(.int (5925000 : Int32)), (.int p0)])) t
          exact k
        by_cases hs17 : p0 < (5925000 : Int32)
        · have go18 : ∀ t, Steps p.tables e below (s₁.setTop (mkF m 49 #[.val (.int p0)] [.null])) t → Steps p.tables e below (s₁.setTop (entryFrame m #[(.int p0)] 1)) t := by
            intro t k
            refine go16 _ ?_
            refine XS.icmpYes X0.here hx rfl (pc0 := 35) (pc' := 48) rfl (hb hby d2_35) rfl (XT.ii_lt_t hs17) (by decide) (by decide) ?_
            show Steps p.tables e below (s₁.setTop (mkF m 48 #[.val (.int p0)] [])) t
            refine XS.aconstNull X0.here hx rfl (hb hby d2_48) ?_
            show Steps p.tables e below (s₁.setTop (mkF m 49 #[.val (.int p0)] [.null])) t
            exact k
          obtain ⟨fs, hr, hrun, hended, hW, hsame⟩ := X0.leave (v := some .null) (fun h => by rw [Bd.returns] at h; cases h)
          refine ⟨_, _, go18 _ (Jvm.RoadKit.retOut X0 hx Bd.returns rfl (Or.inr (Or.inr (Or.inr (Or.inr ⟨rfl, rfl, rfl⟩)))) (hb hby d2_49) hr), hrun, hended, _, _, rfl, ?_, ⟨_, rfl⟩, hW, hsame.mono (by decide) (by decide)⟩
          show Q2 _ _ p0 s_GHZ_2_4 s_GHZ_5 s_GHZ_6 h0 _ (s₁.setFrames fs).heap _
          have hE : (s₁.setFrames fs).heap = h0 := e0
          rw [hE]
          exact ⟨by rw [f2, if_pos hs2, if_neg hs4, if_pos hs15, if_pos hs17], N0, rfl⟩
        · have go19 : ∀ t, Steps p.tables e below (s₁.setTop (mkF m 41 #[.val (.int p0)] [(.int (7125000 : Int32)), (.int p0)])) t → Steps p.tables e below (s₁.setTop (entryFrame m #[(.int p0)] 1)) t := by
            intro t k
            refine go16 _ ?_
            refine XS.icmpNo X0.here hx rfl (hb hby d2_35) rfl (XT.ii_lt_f hs17) ?_
            show Steps p.tables e below (s₁.setTop (mkF m 38 #[.val (.int p0)] [])) t
            refine XS.iloadN X0.here hx rfl (hb hby d2_38) rfl ?_
            show Steps p.tables e below (s₁.setTop (mkF m 39 #[.val (.int p0)] [(.int p0)])) t
            refine X0.ldcInt hx hown (mvT hZ (hw _ (List.mem_of_getElem? (i := 6) rfl))) (g := (mkF m 39 #[.val (.int p0)] [(.int p0)])) rfl (hb hby d2_39) _ ?_
            show Steps p.tables e below (s₁.setTop (mkF m 41 #[.val (.int p0)] [(.int (7125000 : Int32)), (.int p0)])) t
            exact k
          by_cases hs20 : (7125000 : Int32) < p0
          · have go21 : ∀ t, Steps p.tables e below (s₁.setTop (mkF m 49 #[.val (.int p0)] [.null])) t → Steps p.tables e below (s₁.setTop (entryFrame m #[(.int p0)] 1)) t := by
              intro t k
              refine go19 _ ?_
              refine XS.icmpYes X0.here hx rfl (pc0 := 41) (pc' := 48) rfl (hb hby d2_41) rfl (XT.ii_gt_t hs20) (by decide) (by decide) ?_
              show Steps p.tables e below (s₁.setTop (mkF m 48 #[.val (.int p0)] [])) t
              refine XS.aconstNull X0.here hx rfl (hb hby d2_48) ?_
              show Steps p.tables e below (s₁.setTop (mkF m 49 #[.val (.int p0)] [.null])) t
              exact k
            obtain ⟨fs, hr, hrun, hended, hW, hsame⟩ := X0.leave (v := some .null) (fun h => by rw [Bd.returns] at h; cases h)
            refine ⟨_, _, go21 _ (Jvm.RoadKit.retOut X0 hx Bd.returns rfl (Or.inr (Or.inr (Or.inr (Or.inr ⟨rfl, rfl, rfl⟩)))) (hb hby d2_49) hr), hrun, hended, _, _, rfl, ?_, ⟨_, rfl⟩, hW, hsame.mono (by decide) (by decide)⟩
            show Q2 _ _ p0 s_GHZ_2_4 s_GHZ_5 s_GHZ_6 h0 _ (s₁.setFrames fs).heap _
            have hE : (s₁.setFrames fs).heap = h0 := e0
            rw [hE]
            exact ⟨by rw [f2, if_pos hs2, if_neg hs4, if_pos hs15, if_neg hs17, if_pos hs20], N0, rfl⟩
          · have go22 : ∀ t, Steps p.tables e below (s₁.setTop (mkF m 44 #[.val (.int p0)] [])) t → Steps p.tables e below (s₁.setTop (entryFrame m #[(.int p0)] 1)) t := by
              intro t k
              refine go19 _ ?_
              refine XS.icmpNo X0.here hx rfl (hb hby d2_41) rfl (XT.ii_gt_f hs20) ?_
              show Steps p.tables e below (s₁.setTop (mkF m 44 #[.val (.int p0)] [])) t
              exact k
            obtain ⟨T23, X23, e23, st23⟩ := getS2 X0 hx hZ hown (host := "") (Or.inl (hw _ (List.mem_of_getElem? (i := 25) rfl))) Via.refl e0 S_GHZ_6 (g := (mkF m 44 #[.val (.int p0)] [])) rfl (hb hby d2_44)
            have go24 : ∀ t, Steps p.tables e below (T23.setTop (mkF m 47 #[.val (.int p0)] [(.ref s_GHZ_6)])) t → Steps p.tables e below (s₁.setTop (entryFrame m #[(.int p0)] 1)) t := fun t k => go22 _ (st23 _ k)
            obtain ⟨fs, hr, hrun, hended, hW, hsame⟩ := X23.leave (v := some (.ref s_GHZ_6)) (fun h => by rw [Bd.returns] at h; cases h)
            refine ⟨_, _, go24 _ (Jvm.RoadKit.retOut X23 hx Bd.returns rfl (Or.inr (Or.inr (Or.inr (Or.inr ⟨rfl, rfl, rfl⟩)))) (hb hby d2_47) hr), hrun, hended, _, _, rfl, ?_, ⟨_, rfl⟩, hW, hsame.mono (by decide) (by decide)⟩
            show Q2 _ _ p0 s_GHZ_2_4 s_GHZ_5 s_GHZ_6 h0 _ (T23.setFrames fs).heap _
            have hE : (T23.setFrames fs).heap = h0 := e23
            rw [hE]
            exact ⟨by rw [f2, if_pos hs2, if_neg hs4, if_pos hs15, if_neg hs17, if_neg hs20], N0, rfl⟩
      · have go25 : ∀ t, Steps p.tables e below (s₁.setTop (mkF m 28 #[.val (.int p0)] [])) t → Steps p.tables e below (s₁.setTop (entryFrame m #[(.int p0)] 1)) t := by
          intro t k
          refine go14 _ ?_
          refine XS.icmpNo X0.here hx rfl (hb hby d2_25) rfl (XT.ii_gt_f hs15) ?_
          show Steps p.tables e below (s₁.setTop (mkF m 28 #[.val (.int p0)] [])) t
          exact k
        obtain ⟨T26, X26, e26, st26⟩ := getS2 X0 hx hZ hown (host := "") (Or.inl (hw _ (List.mem_of_getElem? (i := 23) rfl))) Via.refl e0 S_GHZ_5 (g := (mkF m 28 #[.val (.int p0)] [])) rfl (hb hby d2_28)
        have go27 : ∀ t, Steps p.tables e below (T26.setTop (mkF m 31 #[.val (.int p0)] [(.ref s_GHZ_5)])) t → Steps p.tables e below (s₁.setTop (entryFrame m #[(.int p0)] 1)) t := fun t k => go25 _ (st26 _ k)
        obtain ⟨fs, hr, hrun, hended, hW, hsame⟩ := X26.leave (v := some (.ref s_GHZ_5)) (fun h => by rw [Bd.returns] at h; cases h)
        refine ⟨_, _, go27 _ (Jvm.RoadKit.retOut X26 hx Bd.returns rfl (Or.inr (Or.inr (Or.inr (Or.inr ⟨rfl, rfl, rfl⟩)))) (hb hby d2_31) hr), hrun, hended, _, _, rfl, ?_, ⟨_, rfl⟩, hW, hsame.mono (by decide) (by decide)⟩
        show Q2 _ _ p0 s_GHZ_2_4 s_GHZ_5 s_GHZ_6 h0 _ (T26.setFrames fs).heap _
        have hE : (T26.setFrames fs).heap = h0 := e26
        rw [hE]
        exact ⟨by rw [f2, if_pos hs2, if_neg hs4, if_neg hs15], N0, rfl⟩
  · have go28 : ∀ t, Steps p.tables e below (s₁.setTop (mkF m 9 #[.val (.int p0)] [(.int (2500000 : Int32)), (.int p0)])) t → Steps p.tables e below (s₁.setTop (entryFrame m #[(.int p0)] 1)) t := by
      intro t k
      refine go1 _ ?_
      refine XS.icmpNo X0.here hx rfl (hb hby d2_3) rfl (XT.ii_lt_f hs2) ?_
      show Steps p.tables e below (s₁.setTop (mkF m 6 #[.val (.int p0)] [])) t
      refine XS.iloadN X0.here hx rfl (hb hby d2_6) rfl ?_
      show Steps p.tables e below (s₁.setTop (mkF m 7 #[.val (.int p0)] [(.int p0)])) t
      refine X0.ldcInt hx hown (mvT hZ (hw _ (List.mem_of_getElem? (i := 2) rfl))) (g := (mkF m 7 #[.val (.int p0)] [(.int p0)])) rfl (hb hby d2_7) _ ?_
      show Steps p.tables e below (s₁.setTop (mkF m 9 #[.val (.int p0)] [(.int (2500000 : Int32)), (.int p0)])) t
      exact k
    by_cases hs29 : (2500000 : Int32) < p0
    · have go30 : ∀ t, Steps p.tables e below (s₁.setTop (mkF m 19 #[.val (.int p0)] [(.int (5150000 : Int32)), (.int p0)])) t → Steps p.tables e below (s₁.setTop (entryFrame m #[(.int p0)] 1)) t := by
        intro t k
        refine go28 _ ?_
        refine XS.icmpYes X0.here hx rfl (pc0 := 9) (pc' := 16) rfl (hb hby d2_9) rfl (XT.ii_gt_t hs29) (by decide) (by decide) ?_
        show Steps p.tables e below (s₁.setTop (mkF m 16 #[.val (.int p0)] [])) t
        refine XS.iloadN X0.here hx rfl (hb hby d2_16) rfl ?_
        show Steps p.tables e below (s₁.setTop (mkF m 17 #[.val (.int p0)] [(.int p0)])) t
        refine X0.ldcInt hx hown (mvT hZ (hw _ (List.mem_of_getElem? (i := 3) rfl))) (g := (mkF m 17 #[.val (.int p0)] [(.int p0)])) rfl (hb hby d2_17) _ ?_
        show Steps p.tables e below (s₁.setTop (mkF m 19 #[.val (.int p0)] [(.int (5150000 : Int32)), (.int p0)])) t
        exact k
      by_cases hs31 : p0 < (5150000 : Int32)
      · have go32 : ∀ t, Steps p.tables e below (s₁.setTop (mkF m 35 #[.val (.int p0)] [(.int (5925000 : Int32)), (.int p0)])) t → Steps p.tables e below (s₁.setTop (entryFrame m #[(.int p0)] 1)) t := by
          intro t k
          refine go30 _ ?_
          refine XS.icmpYes X0.here hx rfl (pc0 := 19) (pc' := 32) rfl (hb hby d2_19) rfl (XT.ii_lt_t hs31) (by decide) (by decide) ?_
          show Steps p.tables e below (s₁.setTop (mkF m 32 #[.val (.int p0)] [])) t
          refine XS.iloadN X0.here hx rfl (hb hby d2_32) rfl ?_
          show Steps p.tables e below (s₁.setTop (mkF m 33 #[.val (.int p0)] [(.int p0)])) t
          refine X0.ldcInt hx hown (mvT hZ (hw _ (List.mem_of_getElem? (i := 5) rfl))) (g := (mkF m 33 #[.val (.int p0)] [(.int p0)])) rfl (hb hby d2_33) _ ?_
          show Steps p.tables e below (s₁.setTop (mkF m 35 #[.val (.int p0)] [(.int (5925000 : Int32)), (.int p0)])) t
          exact k
        by_cases hs33 : p0 < (5925000 : Int32)
        · have go34 : ∀ t, Steps p.tables e below (s₁.setTop (mkF m 49 #[.val (.int p0)] [.null])) t → Steps p.tables e below (s₁.setTop (entryFrame m #[(.int p0)] 1)) t := by
            intro t k
            refine go32 _ ?_
            refine XS.icmpYes X0.here hx rfl (pc0 := 35) (pc' := 48) rfl (hb hby d2_35) rfl (XT.ii_lt_t hs33) (by decide) (by decide) ?_
            show Steps p.tables e below (s₁.setTop (mkF m 48 #[.val (.int p0)] [])) t
            refine XS.aconstNull X0.here hx rfl (hb hby d2_48) ?_
            show Steps p.tables e below (s₁.setTop (mkF m 49 #[.val (.int p0)] [.null])) t
            exact k
          obtain ⟨fs, hr, hrun, hended, hW, hsame⟩ := X0.leave (v := some .null) (fun h => by rw [Bd.returns] at h; cases h)
          refine ⟨_, _, go34 _ (Jvm.RoadKit.retOut X0 hx Bd.returns rfl (Or.inr (Or.inr (Or.inr (Or.inr ⟨rfl, rfl, rfl⟩)))) (hb hby d2_49) hr), hrun, hended, _, _, rfl, ?_, ⟨_, rfl⟩, hW, hsame.mono (by decide) (by decide)⟩
          show Q2 _ _ p0 s_GHZ_2_4 s_GHZ_5 s_GHZ_6 h0 _ (s₁.setFrames fs).heap _
          have hE : (s₁.setFrames fs).heap = h0 := e0
          rw [hE]
          exact ⟨by rw [f2, if_neg hs2, if_pos hs29, if_pos hs31, if_pos hs33], N0, rfl⟩
        · have go35 : ∀ t, Steps p.tables e below (s₁.setTop (mkF m 41 #[.val (.int p0)] [(.int (7125000 : Int32)), (.int p0)])) t → Steps p.tables e below (s₁.setTop (entryFrame m #[(.int p0)] 1)) t := by
            intro t k
            refine go32 _ ?_
            refine XS.icmpNo X0.here hx rfl (hb hby d2_35) rfl (XT.ii_lt_f hs33) ?_
            show Steps p.tables e below (s₁.setTop (mkF m 38 #[.val (.int p0)] [])) t
            refine XS.iloadN X0.here hx rfl (hb hby d2_38) rfl ?_
            show Steps p.tables e below (s₁.setTop (mkF m 39 #[.val (.int p0)] [(.int p0)])) t
            refine X0.ldcInt hx hown (mvT hZ (hw _ (List.mem_of_getElem? (i := 6) rfl))) (g := (mkF m 39 #[.val (.int p0)] [(.int p0)])) rfl (hb hby d2_39) _ ?_
            show Steps p.tables e below (s₁.setTop (mkF m 41 #[.val (.int p0)] [(.int (7125000 : Int32)), (.int p0)])) t
            exact k
          by_cases hs36 : (7125000 : Int32) < p0
          · have go37 : ∀ t, Steps p.tables e below (s₁.setTop (mkF m 49 #[.val (.int p0)] [.null])) t → Steps p.tables e below (s₁.setTop (entryFrame m #[(.int p0)] 1)) t := by
              intro t k
              refine go35 _ ?_
              refine XS.icmpYes X0.here hx rfl (pc0 := 41) (pc' := 48) rfl (hb hby d2_41) rfl (XT.ii_gt_t hs36) (by decide) (by decide) ?_
              show Steps p.tables e below (s₁.setTop (mkF m 48 #[.val (.int p0)] [])) t
              refine XS.aconstNull X0.here hx rfl (hb hby d2_48) ?_
              show Steps p.tables e below (s₁.setTop (mkF m 49 #[.val (.int p0)] [.null])) t
              exact k
            obtain ⟨fs, hr, hrun, hended, hW, hsame⟩ := X0.leave (v := some .null) (fun h => by rw [Bd.returns] at h; cases h)
            refine ⟨_, _, go37 _ (Jvm.RoadKit.retOut X0 hx Bd.returns rfl (Or.inr (Or.inr (Or.inr (Or.inr ⟨rfl, rfl, rfl⟩)))) (hb hby d2_49) hr), hrun, hended, _, _, rfl, ?_, ⟨_, rfl⟩, hW, hsame.mono (by decide) (by decide)⟩
            show Q2 _ _ p0 s_GHZ_2_4 s_GHZ_5 s_GHZ_6 h0 _ (s₁.setFrames fs).heap _
            have hE : (s₁.setFrames fs).heap = h0 := e0
            rw [hE]
            exact ⟨by rw [f2, if_neg hs2, if_pos hs29, if_pos hs31, if_neg hs33, if_pos hs36], N0, rfl⟩
          · have go38 : ∀ t, Steps p.tables e below (s₁.setTop (mkF m 44 #[.val (.int p0)] [])) t → Steps p.tables e below (s₁.setTop (entryFrame m #[(.int p0)] 1)) t := by
              intro t k
              refine go35 _ ?_
              refine XS.icmpNo X0.here hx rfl (hb hby d2_41) rfl (XT.ii_gt_f hs36) ?_
              show Steps p.tables e below (s₁.setTop (mkF m 44 #[.val (.int p0)] [])) t
              exact k
            obtain ⟨T39, X39, e39, st39⟩ := getS2 X0 hx hZ hown (host := "") (Or.inl (hw _ (List.mem_of_getElem? (i := 25) rfl))) Via.refl e0 S_GHZ_6 (g := (mkF m 44 #[.val (.int p0)] [])) rfl (hb hby d2_44)
            have go40 : ∀ t, Steps p.tables e below (T39.setTop (mkF m 47 #[.val (.int p0)] [(.ref s_GHZ_6)])) t → Steps p.tables e below (s₁.setTop (entryFrame m #[(.int p0)] 1)) t := fun t k => go38 _ (st39 _ k)
            obtain ⟨fs, hr, hrun, hended, hW, hsame⟩ := X39.leave (v := some (.ref s_GHZ_6)) (fun h => by rw [Bd.returns] at h; cases h)
            refine ⟨_, _, go40 _ (Jvm.RoadKit.retOut X39 hx Bd.returns rfl (Or.inr (Or.inr (Or.inr (Or.inr ⟨rfl, rfl, rfl⟩)))) (hb hby d2_47) hr), hrun, hended, _, _, rfl, ?_, ⟨_, rfl⟩, hW, hsame.mono (by decide) (by decide)⟩
            show Q2 _ _ p0 s_GHZ_2_4 s_GHZ_5 s_GHZ_6 h0 _ (T39.setFrames fs).heap _
            have hE : (T39.setFrames fs).heap = h0 := e39
            rw [hE]
            exact ⟨by rw [f2, if_neg hs2, if_pos hs29, if_pos hs31, if_neg hs33, if_neg hs36], N0, rfl⟩
      · have go41 : ∀ t, Steps p.tables e below (s₁.setTop (mkF m 25 #[.val (.int p0)] [(.int (5924000 : Int32)), (.int p0)])) t → Steps p.tables e below (s₁.setTop (entryFrame m #[(.int p0)] 1)) t := by
          intro t k
          refine go30 _ ?_
          refine XS.icmpNo X0.here hx rfl (hb hby d2_19) rfl (XT.ii_lt_f hs31) ?_
          show Steps p.tables e below (s₁.setTop (mkF m 22 #[.val (.int p0)] [])) t
          refine XS.iloadN X0.here hx rfl (hb hby d2_22) rfl ?_
          show Steps p.tables e below (s₁.setTop (mkF m 23 #[.val (.int p0)] [(.int p0)])) t
          refine X0.ldcInt hx hown (mvT hZ (hw _ (List.mem_of_getElem? (i := 4) rfl))) (g := (mkF m 23 #[.val (.int p0)] [(.int p0)])) rfl (hb hby d2_23) _ ?_
          show Steps p.tables e below (s₁.setTop (mkF m 25 #[.val (.int p0)] [(.int (5924000 : Int32)), (.int p0)])) t
          exact k
        by_cases hs42 : (5924000 : Int32) < p0
        · have go43 : ∀ t, Steps p.tables e below (s₁.setTop (mkF m 35 #[.val (.int p0)] [(.int (5925000 : Int32)), (.int p0)])) t → Steps p.tables e below (s₁.setTop (entryFrame m #[(.int p0)] 1)) t := by
            intro t k
            refine go41 _ ?_
            refine XS.icmpYes X0.here hx rfl (pc0 := 25) (pc' := 32) rfl (hb hby d2_25) rfl (XT.ii_gt_t hs42) (by decide) (by decide) ?_
            show Steps p.tables e below (s₁.setTop (mkF m 32 #[.val (.int p0)] [])) t
            refine XS.iloadN X0.here hx rfl (hb hby d2_32) rfl ?_
            show Steps p.tables e below (s₁.setTop (mkF m 33 #[.val (.int p0)] [(.int p0)])) t
            refine X0.ldcInt hx hown (mvT hZ (hw _ (List.mem_of_getElem? (i := 5) rfl))) (g := (mkF m 33 #[.val (.int p0)] [(.int p0)])) rfl (hb hby d2_33) _ ?_
            show Steps p.tables e below (s₁.setTop (mkF m 35 #[.val (.int p0)] [(.int (5925000 : Int32)), (.int p0)])) t
            exact k
          by_cases hs44 : p0 < (5925000 : Int32)
          · have go45 : ∀ t, Steps p.tables e below (s₁.setTop (mkF m 49 #[.val (.int p0)] [.null])) t → Steps p.tables e below (s₁.setTop (entryFrame m #[(.int p0)] 1)) t := by
              intro t k
              refine go43 _ ?_
              refine XS.icmpYes X0.here hx rfl (pc0 := 35) (pc' := 48) rfl (hb hby d2_35) rfl (XT.ii_lt_t hs44) (by decide) (by decide) ?_
              show Steps p.tables e below (s₁.setTop (mkF m 48 #[.val (.int p0)] [])) t
              refine XS.aconstNull X0.here hx rfl (hb hby d2_48) ?_
              show Steps p.tables e below (s₁.setTop (mkF m 49 #[.val (.int p0)] [.null])) t
              exact k
            obtain ⟨fs, hr, hrun, hended, hW, hsame⟩ := X0.leave (v := some .null) (fun h => by rw [Bd.returns] at h; cases h)
            refine ⟨_, _, go45 _ (Jvm.RoadKit.retOut X0 hx Bd.returns rfl (Or.inr (Or.inr (Or.inr (Or.inr ⟨rfl, rfl, rfl⟩)))) (hb hby d2_49) hr), hrun, hended, _, _, rfl, ?_, ⟨_, rfl⟩, hW, hsame.mono (by decide) (by decide)⟩
            show Q2 _ _ p0 s_GHZ_2_4 s_GHZ_5 s_GHZ_6 h0 _ (s₁.setFrames fs).heap _
            have hE : (s₁.setFrames fs).heap = h0 := e0
            rw [hE]
            exact ⟨by rw [f2, if_neg hs2, if_pos hs29, if_neg hs31, if_pos hs42, if_pos hs44], N0, rfl⟩
          · have go46 : ∀ t, Steps p.tables e below (s₁.setTop (mkF m 41 #[.val (.int p0)] [(.int (7125000 : Int32)), (.int p0)])) t → Steps p.tables e below (s₁.setTop (entryFrame m #[(.int p0)] 1)) t := by
              intro t k
              refine go43 _ ?_
              refine XS.icmpNo X0.here hx rfl (hb hby d2_35) rfl (XT.ii_lt_f hs44) ?_
              show Steps p.tables e below (s₁.setTop (mkF m 38 #[.val (.int p0)] [])) t
              refine XS.iloadN X0.here hx rfl (hb hby d2_38) rfl ?_
              show Steps p.tables e below (s₁.setTop (mkF m 39 #[.val (.int p0)] [(.int p0)])) t
              refine X0.ldcInt hx hown (mvT hZ (hw _ (List.mem_of_getElem? (i := 6) rfl))) (g := (mkF m 39 #[.val (.int p0)] [(.int p0)])) rfl (hb hby d2_39) _ ?_
              show Steps p.tables e below (s₁.setTop (mkF m 41 #[.val (.int p0)] [(.int (7125000 : Int32)), (.int p0)])) t
              exact k
            by_cases hs47 : (7125000 : Int32) < p0
            · have go48 : ∀ t, Steps p.tables e below (s₁.setTop (mkF m 49 #[.val (.int p0)] [.null])) t → Steps p.tables e below (s₁.setTop (entryFrame m #[(.int p0)] 1)) t := by
                intro t k
                refine go46 _ ?_
                refine XS.icmpYes X0.here hx rfl (pc0 := 41) (pc' := 48) rfl (hb hby d2_41) rfl (XT.ii_gt_t hs47) (by decide) (by decide) ?_
                show Steps p.tables e below (s₁.setTop (mkF m 48 #[.val (.int p0)] [])) t
                refine XS.aconstNull X0.here hx rfl (hb hby d2_48) ?_
                show Steps p.tables e below (s₁.setTop (mkF m 49 #[.val (.int p0)] [.null])) t
                exact k
              obtain ⟨fs, hr, hrun, hended, hW, hsame⟩ := X0.leave (v := some .null) (fun h => by rw [Bd.returns] at h; cases h)
              refine ⟨_, _, go48 _ (Jvm.RoadKit.retOut X0 hx Bd.returns rfl (Or.inr (Or.inr (Or.inr (Or.inr ⟨rfl, rfl, rfl⟩)))) (hb hby d2_49) hr), hrun, hended, _, _, rfl, ?_, ⟨_, rfl⟩, hW, hsame.mono (by decide) (by decide)⟩
              show Q2 _ _ p0 s_GHZ_2_4 s_GHZ_5 s_GHZ_6 h0 _ (s₁.setFrames fs).heap _
              have hE : (s₁.setFrames fs).heap = h0 := e0
              rw [hE]
              exact ⟨by rw [f2, if_neg hs2, if_pos hs29, if_neg hs31, if_pos hs42, if_neg hs44, if_pos hs47], N0, rfl⟩
            · have go49 : ∀ t, Steps p.tables e below (s₁.setTop (mkF m 44 #[.val (.int p0)] [])) t → Steps p.tables e below (s₁.setTop (entryFrame m #[(.int p0)] 1)) t := by
                intro t k
                refine go46 _ ?_
                refine XS.icmpNo X0.here hx rfl (hb hby d2_41) rfl (XT.ii_gt_f hs47) ?_
                show Steps p.tables e below (s₁.setTop (mkF m 44 #[.val (.int p0)] [])) t
                exact k
              obtain ⟨T50, X50, e50, st50⟩ := getS2 X0 hx hZ hown (host := "") (Or.inl (hw _ (List.mem_of_getElem? (i := 25) rfl))) Via.refl e0 S_GHZ_6 (g := (mkF m 44 #[.val (.int p0)] [])) rfl (hb hby d2_44)
              have go51 : ∀ t, Steps p.tables e below (T50.setTop (mkF m 47 #[.val (.int p0)] [(.ref s_GHZ_6)])) t → Steps p.tables e below (s₁.setTop (entryFrame m #[(.int p0)] 1)) t := fun t k => go49 _ (st50 _ k)
              obtain ⟨fs, hr, hrun, hended, hW, hsame⟩ := X50.leave (v := some (.ref s_GHZ_6)) (fun h => by rw [Bd.returns] at h; cases h)
              refine ⟨_, _, go51 _ (Jvm.RoadKit.retOut X50 hx Bd.returns rfl (Or.inr (Or.inr (Or.inr (Or.inr ⟨rfl, rfl, rfl⟩)))) (hb hby d2_47) hr), hrun, hended, _, _, rfl, ?_, ⟨_, rfl⟩, hW, hsame.mono (by decide) (by decide)⟩
              show Q2 _ _ p0 s_GHZ_2_4 s_GHZ_5 s_GHZ_6 h0 _ (T50.setFrames fs).heap _
              have hE : (T50.setFrames fs).heap = h0 := e50
              rw [hE]
              exact ⟨by rw [f2, if_neg hs2, if_pos hs29, if_neg hs31, if_pos hs42, if_neg hs44, if_neg hs47], N0, rfl⟩
        · have go52 : ∀ t, Steps p.tables e below (s₁.setTop (mkF m 28 #[.val (.int p0)] [])) t → Steps p.tables e below (s₁.setTop (entryFrame m #[(.int p0)] 1)) t := by
            intro t k
            refine go41 _ ?_
            refine XS.icmpNo X0.here hx rfl (hb hby d2_25) rfl (XT.ii_gt_f hs42) ?_
            show Steps p.tables e below (s₁.setTop (mkF m 28 #[.val (.int p0)] [])) t
            exact k
          obtain ⟨T53, X53, e53, st53⟩ := getS2 X0 hx hZ hown (host := "") (Or.inl (hw _ (List.mem_of_getElem? (i := 23) rfl))) Via.refl e0 S_GHZ_5 (g := (mkF m 28 #[.val (.int p0)] [])) rfl (hb hby d2_28)
          have go54 : ∀ t, Steps p.tables e below (T53.setTop (mkF m 31 #[.val (.int p0)] [(.ref s_GHZ_5)])) t → Steps p.tables e below (s₁.setTop (entryFrame m #[(.int p0)] 1)) t := fun t k => go52 _ (st53 _ k)
          obtain ⟨fs, hr, hrun, hended, hW, hsame⟩ := X53.leave (v := some (.ref s_GHZ_5)) (fun h => by rw [Bd.returns] at h; cases h)
          refine ⟨_, _, go54 _ (Jvm.RoadKit.retOut X53 hx Bd.returns rfl (Or.inr (Or.inr (Or.inr (Or.inr ⟨rfl, rfl, rfl⟩)))) (hb hby d2_31) hr), hrun, hended, _, _, rfl, ?_, ⟨_, rfl⟩, hW, hsame.mono (by decide) (by decide)⟩
          show Q2 _ _ p0 s_GHZ_2_4 s_GHZ_5 s_GHZ_6 h0 _ (T53.setFrames fs).heap _
          have hE : (T53.setFrames fs).heap = h0 := e53
          rw [hE]
          exact ⟨by rw [f2, if_neg hs2, if_pos hs29, if_neg hs31, if_neg hs42], N0, rfl⟩
    · have go55 : ∀ t, Steps p.tables e below (s₁.setTop (mkF m 12 #[.val (.int p0)] [])) t → Steps p.tables e below (s₁.setTop (entryFrame m #[(.int p0)] 1)) t := by
        intro t k
        refine go28 _ ?_
        refine XS.icmpNo X0.here hx rfl (hb hby d2_9) rfl (XT.ii_gt_f hs29) ?_
        show Steps p.tables e below (s₁.setTop (mkF m 12 #[.val (.int p0)] [])) t
        exact k
      obtain ⟨T56, X56, e56, st56⟩ := getS2 X0 hx hZ hown (host := "") (Or.inl (hw _ (List.mem_of_getElem? (i := 26) rfl))) Via.refl e0 S_GHZ_2_4 (g := (mkF m 12 #[.val (.int p0)] [])) rfl (hb hby d2_12)
      have go57 : ∀ t, Steps p.tables e below (T56.setTop (mkF m 15 #[.val (.int p0)] [(.ref s_GHZ_2_4)])) t → Steps p.tables e below (s₁.setTop (entryFrame m #[(.int p0)] 1)) t := fun t k => go55 _ (st56 _ k)
      obtain ⟨fs, hr, hrun, hended, hW, hsame⟩ := X56.leave (v := some (.ref s_GHZ_2_4)) (fun h => by rw [Bd.returns] at h; cases h)
      refine ⟨_, _, go57 _ (Jvm.RoadKit.retOut X56 hx Bd.returns rfl (Or.inr (Or.inr (Or.inr (Or.inr ⟨rfl, rfl, rfl⟩)))) (hb hby d2_15) hr), hrun, hended, _, _, rfl, ?_, ⟨_, rfl⟩, hW, hsame.mono (by decide) (by decide)⟩
      show Q2 _ _ p0 s_GHZ_2_4 s_GHZ_5 s_GHZ_6 h0 _ (T56.setFrames fs).heap _
      have hE : (T56.setFrames fs).heap = h0 := e56
      rw [hE]
      exact ⟨by rw [f2, if_neg hs2, if_neg hs29], N0, rfl⟩
theorem f2_ref (p0 : Int32) (s_GHZ_2_4 : Addr) (s_GHZ_5 : Addr) (s_GHZ_6 : Addr) : (f2 p0 s_GHZ_2_4 s_GHZ_5 s_GHZ_6).isRef = true := by unfold f2; (repeat' split) <;> rfl
theorem pd_58 : parseMethodDescriptor "(I)Lcom/example/probe/probe/Band;" = some ⟨[.int], some (.object "com/example/probe/probe/Band")⟩ := by decide +kernel
def v0_139 (p0 : Int32) (p1 : Int32) : Int32 := ((own_e6 (p1 &&& (7 : Int32))) + (p0 % (3 : Int32)))
def b0_141 (p0 : Int32) (p1 : Int32) : Int32 := (if (p1 &&& (7 : Int32)) < (6 : Int32) then (v0_139 p0 p1) else p0)
def b0_152 (p0 : Int32) (p1 : Int32) (s_GHZ_2_4 : Addr) (s_GHZ_5 : Addr) (s_GHZ_6 : Addr) : Int32 := (if ((f1 (b0_141 p0 p1) s_GHZ_2_4 s_GHZ_5 s_GHZ_6) : Value) = (f2 (b0_141 p0 p1) s_GHZ_2_4 s_GHZ_5 s_GHZ_6) then (1 : Int32) else (0 : Int32))
def f0 (p0 : Int32) (p1 : Int32) (s_GHZ_2_4 : Addr) (s_GHZ_5 : Addr) (s_GHZ_6 : Addr) : Int32 := (b0_152 p0 p1 s_GHZ_2_4 s_GHZ_5 s_GHZ_6)
theorem f0_one (p0 : Int32) (p1 : Int32) (s_GHZ_2_4 : Addr) (s_GHZ_5 : Addr) (s_GHZ_6 : Addr) : f0 p0 p1 s_GHZ_2_4 s_GHZ_5 s_GHZ_6 = 1 := by
  unfold f0 b0_152
  exact if_pos rfl
def Q0 (Z : State) (n0 : Nat) (p0 : Int32) (p1 : Int32) (s_ALL : Addr) (s_GHZ_2_4 : Addr) (s_GHZ_5 : Addr) (s_GHZ_6 : Addr) (k_s_ALL : ClassId) (h0 : Heap) (v : Option Value) (h : Heap) (L : List Loc) : Prop := v = some (.int 1) ∧ Fr n0 L
theorem ef0 (m : MethodId) (p0 : Int32) (p1 : Int32) : entryFrame m #[(.int p0), (.int p1)] maxLocals = mkF m 0 #[.val (.int p0), .val (.int p1), .unset, .unset, .unset, .unset] [] := by first | (simp [entryFrame, mkF, argsToLocals, Value.category, maxLocals]; done) | rfl
set_option maxRecDepth 65536 in
set_option maxHeartbeats 40000000 in
theorem rm0 (l : Launch) (Z : State) (aZ : Array Value) (hw : ∀ d ∈ tables_1, d.before aZ Z = true) (ws : List Jvm.Cond) (p0 : Int32) (p1 : Int32) (s_ALL : Addr) (s_GHZ_2_4 : Addr) (s_GHZ_5 : Addr) (s_GHZ_6 : Addr) (k_s_ALL : ClassId) (h0 : Heap) (n0 : Nat) (Z0 : n0 ≤ h0.size) (S_ALL : Sta Z h0 "com/example/probe/probe/Band" "ALL" "[Lcom/example/probe/probe/Band;" (.ref s_ALL)) (S_GHZ_2_4 : Sta Z h0 "com/example/probe/probe/Band" "GHZ_2_4" "Lcom/example/probe/probe/Band;" (.ref s_GHZ_2_4)) (E_GHZ_2_4 : Exa Z h0 s_GHZ_2_4 "com/example/probe/probe/Band") (F_GHZ_2_4_lowestKhz : Fld Z h0 s_GHZ_2_4 "com/example/probe/probe/Band" "lowestKhz" "I" (.int (2400000 : Int32))) (F_GHZ_2_4_highestKhz : Fld Z h0 s_GHZ_2_4 "com/example/probe/probe/Band" "highestKhz" "I" (.int (2500000 : Int32))) (S_GHZ_5 : Sta Z h0 "com/example/probe/probe/Band" "GHZ_5" "Lcom/example/probe/probe/Band;" (.ref s_GHZ_5)) (E_GHZ_5 : Exa Z h0 s_GHZ_5 "com/example/probe/probe/Band") (F_GHZ_5_lowestKhz : Fld Z h0 s_GHZ_5 "com/example/probe/probe/Band" "lowestKhz" "I" (.int (5150000 : Int32))) (F_GHZ_5_highestKhz : Fld Z h0 s_GHZ_5 "com/example/probe/probe/Band" "highestKhz" "I" (.int (5924000 : Int32))) (S_GHZ_6 : Sta Z h0 "com/example/probe/probe/Band" "GHZ_6" "Lcom/example/probe/probe/Band;" (.ref s_GHZ_6)) (E_GHZ_6 : Exa Z h0 s_GHZ_6 "com/example/probe/probe/Band") (F_GHZ_6_lowestKhz : Fld Z h0 s_GHZ_6 "com/example/probe/probe/Band" "lowestKhz" "I" (.int (5925000 : Int32))) (F_GHZ_6_highestKhz : Fld Z h0 s_GHZ_6 "com/example/probe/probe/Band" "highestKhz" "I" (.int (7125000 : Int32))) (V_ALL : Arv Z h0 s_ALL k_s_ALL (.object "com/example/probe/probe/Band") (3 : Int32) [(.ref s_GHZ_2_4), (.ref s_GHZ_5), (.ref s_GHZ_6)] .null) :
    MetFree l x (head1 (Jvm.Cond.code x code maxLocals ret :: ws) room_1) (fun a U => a = #[(.int p0), (.int p1)] ∧ Z.Warmed39 U.vm ∧ U.heap = h0) (fun _ _ _ _ _ => True) (fun _ U o U' => ∃ v L, o = .returned v ∧ Q0 Z n0 p0 p1 s_ALL s_GHZ_2_4 s_GHZ_5 s_GHZ_6 k_s_ALL h0 v U'.heap L ∧ FrameEnd U o U' L room_1.cells room_1.slots) := by
  refine MetFree.of_bodySF (plainFor_of_name pn_55) hisR ?_
  intro p e s m args below meth c s₁ Bd hml0 hP hK
  obtain ⟨rfl, hZ, hh⟩ := hP
  have hx := Bd.exec
  have hby := Bd.bytes
  have hml : c.maxLocals = 6 := hml0
  have hown : s.vm.findClass "com/example/probe/probe/BandInPinLaw" = some m.cls := findClass_of_methodNamed Bd.named
  have hnm := (name_of_methodNamed Bd.named Bd.method).1
  have X0 : Stand p l e room_1 s m #[(.int p0), (.int p1)] below meth c s₁ [] 0 0 := Stand.of_body Bd
  have e0 : s₁.heap = h0 := by rw [← hh, Bd.state]; rfl
  have N0 := Fr.nil n0
  have K0 : Keep h0 h0 [] := Keep.refl _ _
  have go0 : ∀ t, Steps p.tables e below (s₁.setTop (mkF m 0 #[.val (.int p0), .val (.int p1), .unset, .unset, .unset, .unset] [])) t → Steps p.tables e below (s₁.setTop (entryFrame m #[(.int p0), (.int p1)] maxLocals)) t := fun t k => castTop (ef0 m p0 p1) k
  have go1 : ∀ t, Steps p.tables e below (s₁.setTop (mkF m 2 #[.val (.int p0), .val (.int p1), .unset, .unset, .unset, .unset] [(.int (6 : Int32))])) t → Steps p.tables e below (s₁.setTop (entryFrame m #[(.int p0), (.int p1)] maxLocals)) t := by
    intro t k
    refine go0 _ ?_
    refine XS.bipush X0.here hx rfl (hb hby at_0) ?_
    show Steps p.tables e below (s₁.setTop (mkF m 2 #[.val (.int p0), .val (.int p1), .unset, .unset, .unset, .unset] [(.int (6 : Int32))])) t
    exact k
  obtain ⟨T2, h2, k2, X2, e2, E2, A2, st2⟩ := newP X0 hx hZ (hw _ (List.mem_of_getElem? (i := 0) rfl)) e0 (g := (mkF m 2 #[.val (.int p0), .val (.int p1), .unset, .unset, .unset, .unset] [(.int (6 : Int32))])) rfl (hb hby at_2) rfl (by decide) (cap := 6) (by decide) (by decide) (by decide) (by decide)
  obtain ⟨b2, g2⟩ : ∃ z, z = h0.size := ⟨_, rfl⟩
  rw [← g2] at A2 st2
  have ne3 : s_GHZ_2_4 ≠ b2 := Nat.ne_of_lt (Nat.lt_of_lt_of_le E_GHZ_2_4.lt (Nat.le_of_eq g2.symm))
  have ne4 : s_GHZ_5 ≠ b2 := Nat.ne_of_lt (Nat.lt_of_lt_of_le E_GHZ_5.lt (Nat.le_of_eq g2.symm))
  have ne5 : s_GHZ_6 ≠ b2 := Nat.ne_of_lt (Nat.lt_of_lt_of_le E_GHZ_6.lt (Nat.le_of_eq g2.symm))
  have ne6 : s_ALL ≠ b2 := Nat.ne_of_lt (Nat.lt_of_lt_of_le V_ALL.lt (Nat.le_of_eq g2.symm))
  have low2 : n0 ≤ b2 := Nat.le_trans Z0 (Nat.le_of_eq g2.symm)
  have fsh2 : h0.size ≤ b2 := Nat.le_trans K0.1 (Nat.le_of_eq g2.symm)
  have K2 : Keep h0 h2 [] := K0.ext E2
  have Zs2 : n0 ≤ h2.size := Nat.le_trans Z0 E2.1
  have go7 : ∀ t, Steps p.tables e below (T2.setTop (mkF m 4 #[.val (.int p0), .val (.int p1), .unset, .unset, .unset, .unset] [(.ref b2)])) t → Steps p.tables e below (s₁.setTop (entryFrame m #[(.int p0), (.int p1)] maxLocals)) t := fun t k => go1 _ (st2 _ k)
  have F8 : Sta Z h2 "com/example/probe/probe/Band" "ALL" "[Lcom/example/probe/probe/Band;" (.ref s_ALL) := S_ALL.ext E2
  have F9 : Sta Z h2 "com/example/probe/probe/Band" "GHZ_2_4" "Lcom/example/probe/probe/Band;" (.ref s_GHZ_2_4) := S_GHZ_2_4.ext E2
  have F10 : Exa Z h2 s_GHZ_2_4 "com/example/probe/probe/Band" := E_GHZ_2_4.ext E2
  have F11 : Fld Z h2 s_GHZ_2_4 "com/example/probe/probe/Band" "lowestKhz" "I" (.int (2400000 : Int32)) := F_GHZ_2_4_lowestKhz.ext E2
  have F12 : Fld Z h2 s_GHZ_2_4 "com/example/probe/probe/Band" "highestKhz" "I" (.int (2500000 : Int32)) := F_GHZ_2_4_highestKhz.ext E2
  have F13 : Sta Z h2 "com/example/probe/probe/Band" "GHZ_5" "Lcom/example/probe/probe/Band;" (.ref s_GHZ_5) := S_GHZ_5.ext E2
  have F14 : Exa Z h2 s_GHZ_5 "com/example/probe/probe/Band" := E_GHZ_5.ext E2
  have F15 : Fld Z h2 s_GHZ_5 "com/example/probe/probe/Band" "lowestKhz" "I" (.int (5150000 : Int32)) := F_GHZ_5_lowestKhz.ext E2
  have F16 : Fld Z h2 s_GHZ_5 "com/example/probe/probe/Band" "highestKhz" "I" (.int (5924000 : Int32)) := F_GHZ_5_highestKhz.ext E2
  have F17 : Sta Z h2 "com/example/probe/probe/Band" "GHZ_6" "Lcom/example/probe/probe/Band;" (.ref s_GHZ_6) := S_GHZ_6.ext E2
  have F18 : Exa Z h2 s_GHZ_6 "com/example/probe/probe/Band" := E_GHZ_6.ext E2
  have F19 : Fld Z h2 s_GHZ_6 "com/example/probe/probe/Band" "lowestKhz" "I" (.int (5925000 : Int32)) := F_GHZ_6_lowestKhz.ext E2
  have F20 : Fld Z h2 s_GHZ_6 "com/example/probe/probe/Band" "highestKhz" "I" (.int (7125000 : Int32)) := F_GHZ_6_highestKhz.ext E2
  have F21 : Arv Z h2 s_ALL k_s_ALL (.object "com/example/probe/probe/Band") (3 : Int32) [(.ref s_GHZ_2_4), (.ref s_GHZ_5), (.ref s_GHZ_6)] .null := V_ALL.ext E2
  have F22 : Arv Z h2 b2 k2 .int (6 : Int32) [(.int (0 : Int32)), (.int (0 : Int32)), (.int (0 : Int32)), (.int (0 : Int32)), (.int (0 : Int32)), (.int (0 : Int32))] (.int (0 : Int32)) := (Arv.new A2 (by decide)).pad (pad_rep [] (.int (0 : Int32)) 6)
  have go23 : ∀ t, Steps p.tables e below (T2.setTop (mkF m 8 #[.val (.int p0), .val (.int p1), .unset, .unset, .unset, .unset] [(.int (2400000 : Int32)), (.int (0 : Int32)), (.ref b2), (.ref b2)])) t → Steps p.tables e below (s₁.setTop (entryFrame m #[(.int p0), (.int p1)] maxLocals)) t := by
    intro t k
    refine go7 _ ?_
    refine XS.dup X2.here hx rfl (hb hby at_4) rfl rfl ?_
    show Steps p.tables e below (T2.setTop (mkF m 5 #[.val (.int p0), .val (.int p1), .unset, .unset, .unset, .unset] [(.ref b2), (.ref b2)])) t
    refine XS.iconst X2.here hx rfl (hb hby at_5) ?_
    show Steps p.tables e below (T2.setTop (mkF m 6 #[.val (.int p0), .val (.int p1), .unset, .unset, .unset, .unset] [(.int (0 : Int32)), (.ref b2), (.ref b2)])) t
    refine X2.ldcInt hx hown (mvT hZ (hw _ (List.mem_of_getElem? (i := 1) rfl))) (g := (mkF m 6 #[.val (.int p0), .val (.int p1), .unset, .unset, .unset, .unset] [(.int (0 : Int32)), (.ref b2), (.ref b2)])) rfl (hb hby at_6) _ ?_
    show Steps p.tables e below (T2.setTop (mkF m 8 #[.val (.int p0), .val (.int p1), .unset, .unset, .unset, .unset] [(.int (2400000 : Int32)), (.int (0 : Int32)), (.ref b2), (.ref b2)])) t
    exact k
  obtain ⟨cl25, Ar25, q25, S25, N25, H25, G25⟩ := id F22
  obtain ⟨T24, h24, X24, e24, W24, st24⟩ := stI X2 hx hZ e2 Ar25 (j := (0 : Int32)) (inb_of S25 ⟨by decide, by decide⟩) (g := (mkF m 8 #[.val (.int p0), .val (.int p1), .unset, .unset, .unset, .unset] [(.int (2400000 : Int32)), (.int (0 : Int32)), (.ref b2), (.ref b2)])) rfl rfl (hb hby at_8)
  have go26 : ∀ t, Steps p.tables e below (T24.setTop (mkF m 9 #[.val (.int p0), .val (.int p1), .unset, .unset, .unset, .unset] [(.ref b2)])) t → Steps p.tables e below (s₁.setTop (entryFrame m #[(.int p0), (.int p1)] maxLocals)) t := fun t k => go23 _ (st24 _ k)
  have N24 := Fr.snoc X24 N0 low2
  have K24 : Keep h0 h24 [] := K2.wr W24 (Or.inr fsh2)
  have Zs24 : n0 ≤ h24.size := Nat.le_trans Zs2 (Keep.of_wr W24).1
  have F27 : Sta Z h24 "com/example/probe/probe/Band" "ALL" "[Lcom/example/probe/probe/Band;" (.ref s_ALL) := F8.wr W24
  have F28 : Sta Z h24 "com/example/probe/probe/Band" "GHZ_2_4" "Lcom/example/probe/probe/Band;" (.ref s_GHZ_2_4) := F9.wr W24
  have F29 : Exa Z h24 s_GHZ_2_4 "com/example/probe/probe/Band" := F10.wr W24
  have F30 : Fld Z h24 s_GHZ_2_4 "com/example/probe/probe/Band" "lowestKhz" "I" (.int (2400000 : Int32)) := F11.other W24 (Or.inl ne3)
  have F31 : Fld Z h24 s_GHZ_2_4 "com/example/probe/probe/Band" "highestKhz" "I" (.int (2500000 : Int32)) := F12.other W24 (Or.inl ne3)
  have F32 : Sta Z h24 "com/example/probe/probe/Band" "GHZ_5" "Lcom/example/probe/probe/Band;" (.ref s_GHZ_5) := F13.wr W24
  have F33 : Exa Z h24 s_GHZ_5 "com/example/probe/probe/Band" := F14.wr W24
  have F34 : Fld Z h24 s_GHZ_5 "com/example/probe/probe/Band" "lowestKhz" "I" (.int (5150000 : Int32)) := F15.other W24 (Or.inl ne4)
  have F35 : Fld Z h24 s_GHZ_5 "com/example/probe/probe/Band" "highestKhz" "I" (.int (5924000 : Int32)) := F16.other W24 (Or.inl ne4)
  have F36 : Sta Z h24 "com/example/probe/probe/Band" "GHZ_6" "Lcom/example/probe/probe/Band;" (.ref s_GHZ_6) := F17.wr W24
  have F37 : Exa Z h24 s_GHZ_6 "com/example/probe/probe/Band" := F18.wr W24
  have F38 : Fld Z h24 s_GHZ_6 "com/example/probe/probe/Band" "lowestKhz" "I" (.int (5925000 : Int32)) := F19.other W24 (Or.inl ne5)
  have F39 : Fld Z h24 s_GHZ_6 "com/example/probe/probe/Band" "highestKhz" "I" (.int (7125000 : Int32)) := F20.other W24 (Or.inl ne5)
  have F40 : Arv Z h24 s_ALL k_s_ALL (.object "com/example/probe/probe/Band") (3 : Int32) [(.ref s_GHZ_2_4), (.ref s_GHZ_5), (.ref s_GHZ_6)] .null := F21.other W24 ne6
  have F41 : Arv Z h24 b2 k2 .int (6 : Int32) [(.int (2400000 : Int32)), (.int (0 : Int32)), (.int (0 : Int32)), (.int (0 : Int32)), (.int (0 : Int32)), (.int (0 : Int32))] (.int (0 : Int32)) := Arv.set Ar25 q25 S25 N25 H25 G25 rfl W24 0 rfl (Nat.le_of_ble_eq_true rfl)
  have go42 : ∀ t, Steps p.tables e below (T24.setTop (mkF m 13 #[.val (.int p0), .val (.int p1), .unset, .unset, .unset, .unset] [(.int (2500000 : Int32)), (.int (1 : Int32)), (.ref b2), (.ref b2)])) t → Steps p.tables e below (s₁.setTop (entryFrame m #[(.int p0), (.int p1)] maxLocals)) t := by
    intro t k
    refine go26 _ ?_
    refine XS.dup X24.here hx rfl (hb hby at_9) rfl rfl ?_
    show Steps p.tables e below (T24.setTop (mkF m 10 #[.val (.int p0), .val (.int p1), .unset, .unset, .unset, .unset] [(.ref b2), (.ref b2)])) t
    refine XS.iconst X24.here hx rfl (hb hby at_10) ?_
    show Steps p.tables e below (T24.setTop (mkF m 11 #[.val (.int p0), .val (.int p1), .unset, .unset, .unset, .unset] [(.int (1 : Int32)), (.ref b2), (.ref b2)])) t
    refine X24.ldcInt hx hown (mvT hZ (hw _ (List.mem_of_getElem? (i := 2) rfl))) (g := (mkF m 11 #[.val (.int p0), .val (.int p1), .unset, .unset, .unset, .unset] [(.int (1 : Int32)), (.ref b2), (.ref b2)])) rfl (hb hby at_11) _ ?_
    show Steps p.tables e below (T24.setTop (mkF m 13 #[.val (.int p0), .val (.int p1), .unset, .unset, .unset, .unset] [(.int (2500000 : Int32)), (.int (1 : Int32)), (.ref b2), (.ref b2)])) t
    exact k
  obtain ⟨cl44, Ar44, q44, S44, N44, H44, G44⟩ := id F41
  obtain ⟨T43, h43, X43, e43, W43, st43⟩ := stI X24 hx hZ e24 Ar44 (j := (1 : Int32)) (inb_of S44 ⟨by decide, by decide⟩) (g := (mkF m 13 #[.val (.int p0), .val (.int p1), .unset, .unset, .unset, .unset] [(.int (2500000 : Int32)), (.int (1 : Int32)), (.ref b2), (.ref b2)])) rfl rfl (hb hby at_13)
  have go45 : ∀ t, Steps p.tables e below (T43.setTop (mkF m 14 #[.val (.int p0), .val (.int p1), .unset, .unset, .unset, .unset] [(.ref b2)])) t → Steps p.tables e below (s₁.setTop (entryFrame m #[(.int p0), (.int p1)] maxLocals)) t := fun t k => go42 _ (st43 _ k)
  have N43 := Fr.snoc X43 N24 low2
  have K43 : Keep h0 h43 [] := K24.wr W43 (Or.inr fsh2)
  have Zs43 : n0 ≤ h43.size := Nat.le_trans Zs24 (Keep.of_wr W43).1
  have F46 : Sta Z h43 "com/example/probe/probe/Band" "ALL" "[Lcom/example/probe/probe/Band;" (.ref s_ALL) := F27.wr W43
  have F47 : Sta Z h43 "com/example/probe/probe/Band" "GHZ_2_4" "Lcom/example/probe/probe/Band;" (.ref s_GHZ_2_4) := F28.wr W43
  have F48 : Exa Z h43 s_GHZ_2_4 "com/example/probe/probe/Band" := F29.wr W43
  have F49 : Fld Z h43 s_GHZ_2_4 "com/example/probe/probe/Band" "lowestKhz" "I" (.int (2400000 : Int32)) := F30.other W43 (Or.inl ne3)
  have F50 : Fld Z h43 s_GHZ_2_4 "com/example/probe/probe/Band" "highestKhz" "I" (.int (2500000 : Int32)) := F31.other W43 (Or.inl ne3)
  have F51 : Sta Z h43 "com/example/probe/probe/Band" "GHZ_5" "Lcom/example/probe/probe/Band;" (.ref s_GHZ_5) := F32.wr W43
  have F52 : Exa Z h43 s_GHZ_5 "com/example/probe/probe/Band" := F33.wr W43
  have F53 : Fld Z h43 s_GHZ_5 "com/example/probe/probe/Band" "lowestKhz" "I" (.int (5150000 : Int32)) := F34.other W43 (Or.inl ne4)
  have F54 : Fld Z h43 s_GHZ_5 "com/example/probe/probe/Band" "highestKhz" "I" (.int (5924000 : Int32)) := F35.other W43 (Or.inl ne4)
  have F55 : Sta Z h43 "com/example/probe/probe/Band" "GHZ_6" "Lcom/example/probe/probe/Band;" (.ref s_GHZ_6) := F36.wr W43
  have F56 : Exa Z h43 s_GHZ_6 "com/example/probe/probe/Band" := F37.wr W43
  have F57 : Fld Z h43 s_GHZ_6 "com/example/probe/probe/Band" "lowestKhz" "I" (.int (5925000 : Int32)) := F38.other W43 (Or.inl ne5)
  have F58 : Fld Z h43 s_GHZ_6 "com/example/probe/probe/Band" "highestKhz" "I" (.int (7125000 : Int32)) := F39.other W43 (Or.inl ne5)
  have F59 : Arv Z h43 s_ALL k_s_ALL (.object "com/example/probe/probe/Band") (3 : Int32) [(.ref s_GHZ_2_4), (.ref s_GHZ_5), (.ref s_GHZ_6)] .null := F40.other W43 ne6
  have F60 : Arv Z h43 b2 k2 .int (6 : Int32) [(.int (2400000 : Int32)), (.int (2500000 : Int32)), (.int (0 : Int32)), (.int (0 : Int32)), (.int (0 : Int32)), (.int (0 : Int32))] (.int (0 : Int32)) := Arv.set Ar44 q44 S44 N44 H44 G44 rfl W43 1 rfl (Nat.le_of_ble_eq_true rfl)
  have go61 : ∀ t, Steps p.tables e below (T43.setTop (mkF m 18 #[.val (.int p0), .val (.int p1), .unset, .unset, .unset, .unset] [(.int (5150000 : Int32)), (.int (2 : Int32)), (.ref b2), (.ref b2)])) t → Steps p.tables e below (s₁.setTop (entryFrame m #[(.int p0), (.int p1)] maxLocals)) t := by
    intro t k
    refine go45 _ ?_
    refine XS.dup X43.here hx rfl (hb hby at_14) rfl rfl ?_
    show Steps p.tables e below (T43.setTop (mkF m 15 #[.val (.int p0), .val (.int p1), .unset, .unset, .unset, .unset] [(.ref b2), (.ref b2)])) t
    refine XS.iconst X43.here hx rfl (hb hby at_15) ?_
    show Steps p.tables e below (T43.setTop (mkF m 16 #[.val (.int p0), .val (.int p1), .unset, .unset, .unset, .unset] [(.int (2 : Int32)), (.ref b2), (.ref b2)])) t
    refine X43.ldcInt hx hown (mvT hZ (hw _ (List.mem_of_getElem? (i := 3) rfl))) (g := (mkF m 16 #[.val (.int p0), .val (.int p1), .unset, .unset, .unset, .unset] [(.int (2 : Int32)), (.ref b2), (.ref b2)])) rfl (hb hby at_16) _ ?_
    show Steps p.tables e below (T43.setTop (mkF m 18 #[.val (.int p0), .val (.int p1), .unset, .unset, .unset, .unset] [(.int (5150000 : Int32)), (.int (2 : Int32)), (.ref b2), (.ref b2)])) t
    exact k
  obtain ⟨cl63, Ar63, q63, S63, N63, H63, G63⟩ := id F60
  obtain ⟨T62, h62, X62, e62, W62, st62⟩ := stI X43 hx hZ e43 Ar63 (j := (2 : Int32)) (inb_of S63 ⟨by decide, by decide⟩) (g := (mkF m 18 #[.val (.int p0), .val (.int p1), .unset, .unset, .unset, .unset] [(.int (5150000 : Int32)), (.int (2 : Int32)), (.ref b2), (.ref b2)])) rfl rfl (hb hby at_18)
  have go64 : ∀ t, Steps p.tables e below (T62.setTop (mkF m 19 #[.val (.int p0), .val (.int p1), .unset, .unset, .unset, .unset] [(.ref b2)])) t → Steps p.tables e below (s₁.setTop (entryFrame m #[(.int p0), (.int p1)] maxLocals)) t := fun t k => go61 _ (st62 _ k)
  have N62 := Fr.snoc X62 N43 low2
  have K62 : Keep h0 h62 [] := K43.wr W62 (Or.inr fsh2)
  have Zs62 : n0 ≤ h62.size := Nat.le_trans Zs43 (Keep.of_wr W62).1
  have F65 : Sta Z h62 "com/example/probe/probe/Band" "ALL" "[Lcom/example/probe/probe/Band;" (.ref s_ALL) := F46.wr W62
  have F66 : Sta Z h62 "com/example/probe/probe/Band" "GHZ_2_4" "Lcom/example/probe/probe/Band;" (.ref s_GHZ_2_4) := F47.wr W62
  have F67 : Exa Z h62 s_GHZ_2_4 "com/example/probe/probe/Band" := F48.wr W62
  have F68 : Fld Z h62 s_GHZ_2_4 "com/example/probe/probe/Band" "lowestKhz" "I" (.int (2400000 : Int32)) := F49.other W62 (Or.inl ne3)
  have F69 : Fld Z h62 s_GHZ_2_4 "com/example/probe/probe/Band" "highestKhz" "I" (.int (2500000 : Int32)) := F50.other W62 (Or.inl ne3)
  have F70 : Sta Z h62 "com/example/probe/probe/Band" "GHZ_5" "Lcom/example/probe/probe/Band;" (.ref s_GHZ_5) := F51.wr W62
  have F71 : Exa Z h62 s_GHZ_5 "com/example/probe/probe/Band" := F52.wr W62
  have F72 : Fld Z h62 s_GHZ_5 "com/example/probe/probe/Band" "lowestKhz" "I" (.int (5150000 : Int32)) := F53.other W62 (Or.inl ne4)
  have F73 : Fld Z h62 s_GHZ_5 "com/example/probe/probe/Band" "highestKhz" "I" (.int (5924000 : Int32)) := F54.other W62 (Or.inl ne4)
  have F74 : Sta Z h62 "com/example/probe/probe/Band" "GHZ_6" "Lcom/example/probe/probe/Band;" (.ref s_GHZ_6) := F55.wr W62
  have F75 : Exa Z h62 s_GHZ_6 "com/example/probe/probe/Band" := F56.wr W62
  have F76 : Fld Z h62 s_GHZ_6 "com/example/probe/probe/Band" "lowestKhz" "I" (.int (5925000 : Int32)) := F57.other W62 (Or.inl ne5)
  have F77 : Fld Z h62 s_GHZ_6 "com/example/probe/probe/Band" "highestKhz" "I" (.int (7125000 : Int32)) := F58.other W62 (Or.inl ne5)
  have F78 : Arv Z h62 s_ALL k_s_ALL (.object "com/example/probe/probe/Band") (3 : Int32) [(.ref s_GHZ_2_4), (.ref s_GHZ_5), (.ref s_GHZ_6)] .null := F59.other W62 ne6
  have F79 : Arv Z h62 b2 k2 .int (6 : Int32) [(.int (2400000 : Int32)), (.int (2500000 : Int32)), (.int (5150000 : Int32)), (.int (0 : Int32)), (.int (0 : Int32)), (.int (0 : Int32))] (.int (0 : Int32)) := Arv.set Ar63 q63 S63 N63 H63 G63 rfl W62 2 rfl (Nat.le_of_ble_eq_true rfl)
  have go80 : ∀ t, Steps p.tables e below (T62.setTop (mkF m 23 #[.val (.int p0), .val (.int p1), .unset, .unset, .unset, .unset] [(.int (5924000 : Int32)), (.int (3 : Int32)), (.ref b2), (.ref b2)])) t → Steps p.tables e below (s₁.setTop (entryFrame m #[(.int p0), (.int p1)] maxLocals)) t := by
    intro t k
    refine go64 _ ?_
    refine XS.dup X62.here hx rfl (hb hby at_19) rfl rfl ?_
    show Steps p.tables e below (T62.setTop (mkF m 20 #[.val (.int p0), .val (.int p1), .unset, .unset, .unset, .unset] [(.ref b2), (.ref b2)])) t
    refine XS.iconst X62.here hx rfl (hb hby at_20) ?_
    show Steps p.tables e below (T62.setTop (mkF m 21 #[.val (.int p0), .val (.int p1), .unset, .unset, .unset, .unset] [(.int (3 : Int32)), (.ref b2), (.ref b2)])) t
    refine X62.ldcInt hx hown (mvT hZ (hw _ (List.mem_of_getElem? (i := 4) rfl))) (g := (mkF m 21 #[.val (.int p0), .val (.int p1), .unset, .unset, .unset, .unset] [(.int (3 : Int32)), (.ref b2), (.ref b2)])) rfl (hb hby at_21) _ ?_
    show Steps p.tables e below (T62.setTop (mkF m 23 #[.val (.int p0), .val (.int p1), .unset, .unset, .unset, .unset] [(.int (5924000 : Int32)), (.int (3 : Int32)), (.ref b2), (.ref b2)])) t
    exact k
  obtain ⟨cl82, Ar82, q82, S82, N82, H82, G82⟩ := id F79
  obtain ⟨T81, h81, X81, e81, W81, st81⟩ := stI X62 hx hZ e62 Ar82 (j := (3 : Int32)) (inb_of S82 ⟨by decide, by decide⟩) (g := (mkF m 23 #[.val (.int p0), .val (.int p1), .unset, .unset, .unset, .unset] [(.int (5924000 : Int32)), (.int (3 : Int32)), (.ref b2), (.ref b2)])) rfl rfl (hb hby at_23)
  have go83 : ∀ t, Steps p.tables e below (T81.setTop (mkF m 24 #[.val (.int p0), .val (.int p1), .unset, .unset, .unset, .unset] [(.ref b2)])) t → Steps p.tables e below (s₁.setTop (entryFrame m #[(.int p0), (.int p1)] maxLocals)) t := fun t k => go80 _ (st81 _ k)
  have N81 := Fr.snoc X81 N62 low2
  have K81 : Keep h0 h81 [] := K62.wr W81 (Or.inr fsh2)
  have Zs81 : n0 ≤ h81.size := Nat.le_trans Zs62 (Keep.of_wr W81).1
  have F84 : Sta Z h81 "com/example/probe/probe/Band" "ALL" "[Lcom/example/probe/probe/Band;" (.ref s_ALL) := F65.wr W81
  have F85 : Sta Z h81 "com/example/probe/probe/Band" "GHZ_2_4" "Lcom/example/probe/probe/Band;" (.ref s_GHZ_2_4) := F66.wr W81
  have F86 : Exa Z h81 s_GHZ_2_4 "com/example/probe/probe/Band" := F67.wr W81
  have F87 : Fld Z h81 s_GHZ_2_4 "com/example/probe/probe/Band" "lowestKhz" "I" (.int (2400000 : Int32)) := F68.other W81 (Or.inl ne3)
  have F88 : Fld Z h81 s_GHZ_2_4 "com/example/probe/probe/Band" "highestKhz" "I" (.int (2500000 : Int32)) := F69.other W81 (Or.inl ne3)
  have F89 : Sta Z h81 "com/example/probe/probe/Band" "GHZ_5" "Lcom/example/probe/probe/Band;" (.ref s_GHZ_5) := F70.wr W81
  have F90 : Exa Z h81 s_GHZ_5 "com/example/probe/probe/Band" := F71.wr W81
  have F91 : Fld Z h81 s_GHZ_5 "com/example/probe/probe/Band" "lowestKhz" "I" (.int (5150000 : Int32)) := F72.other W81 (Or.inl ne4)
  have F92 : Fld Z h81 s_GHZ_5 "com/example/probe/probe/Band" "highestKhz" "I" (.int (5924000 : Int32)) := F73.other W81 (Or.inl ne4)
  have F93 : Sta Z h81 "com/example/probe/probe/Band" "GHZ_6" "Lcom/example/probe/probe/Band;" (.ref s_GHZ_6) := F74.wr W81
  have F94 : Exa Z h81 s_GHZ_6 "com/example/probe/probe/Band" := F75.wr W81
  have F95 : Fld Z h81 s_GHZ_6 "com/example/probe/probe/Band" "lowestKhz" "I" (.int (5925000 : Int32)) := F76.other W81 (Or.inl ne5)
  have F96 : Fld Z h81 s_GHZ_6 "com/example/probe/probe/Band" "highestKhz" "I" (.int (7125000 : Int32)) := F77.other W81 (Or.inl ne5)
  have F97 : Arv Z h81 s_ALL k_s_ALL (.object "com/example/probe/probe/Band") (3 : Int32) [(.ref s_GHZ_2_4), (.ref s_GHZ_5), (.ref s_GHZ_6)] .null := F78.other W81 ne6
  have F98 : Arv Z h81 b2 k2 .int (6 : Int32) [(.int (2400000 : Int32)), (.int (2500000 : Int32)), (.int (5150000 : Int32)), (.int (5924000 : Int32)), (.int (0 : Int32)), (.int (0 : Int32))] (.int (0 : Int32)) := Arv.set Ar82 q82 S82 N82 H82 G82 rfl W81 3 rfl (Nat.le_of_ble_eq_true rfl)
  have go99 : ∀ t, Steps p.tables e below (T81.setTop (mkF m 28 #[.val (.int p0), .val (.int p1), .unset, .unset, .unset, .unset] [(.int (5925000 : Int32)), (.int (4 : Int32)), (.ref b2), (.ref b2)])) t → Steps p.tables e below (s₁.setTop (entryFrame m #[(.int p0), (.int p1)] maxLocals)) t := by
    intro t k
    refine go83 _ ?_
    refine XS.dup X81.here hx rfl (hb hby at_24) rfl rfl ?_
    show Steps p.tables e below (T81.setTop (mkF m 25 #[.val (.int p0), .val (.int p1), .unset, .unset, .unset, .unset] [(.ref b2), (.ref b2)])) t
    refine XS.iconst X81.here hx rfl (hb hby at_25) ?_
    show Steps p.tables e below (T81.setTop (mkF m 26 #[.val (.int p0), .val (.int p1), .unset, .unset, .unset, .unset] [(.int (4 : Int32)), (.ref b2), (.ref b2)])) t
    refine X81.ldcInt hx hown (mvT hZ (hw _ (List.mem_of_getElem? (i := 5) rfl))) (g := (mkF m 26 #[.val (.int p0), .val (.int p1), .unset, .unset, .unset, .unset] [(.int (4 : Int32)), (.ref b2), (.ref b2)])) rfl (hb hby at_26) _ ?_
    show Steps p.tables e below (T81.setTop (mkF m 28 #[.val (.int p0), .val (.int p1), .unset, .unset, .unset, .unset] [(.int (5925000 : Int32)), (.int (4 : Int32)), (.ref b2), (.ref b2)])) t
    exact k
  obtain ⟨cl101, Ar101, q101, S101, N101, H101, G101⟩ := id F98
  obtain ⟨T100, h100, X100, e100, W100, st100⟩ := stI X81 hx hZ e81 Ar101 (j := (4 : Int32)) (inb_of S101 ⟨by decide, by decide⟩) (g := (mkF m 28 #[.val (.int p0), .val (.int p1), .unset, .unset, .unset, .unset] [(.int (5925000 : Int32)), (.int (4 : Int32)), (.ref b2), (.ref b2)])) rfl rfl (hb hby at_28)
  have go102 : ∀ t, Steps p.tables e below (T100.setTop (mkF m 29 #[.val (.int p0), .val (.int p1), .unset, .unset, .unset, .unset] [(.ref b2)])) t → Steps p.tables e below (s₁.setTop (entryFrame m #[(.int p0), (.int p1)] maxLocals)) t := fun t k => go99 _ (st100 _ k)
  have N100 := Fr.snoc X100 N81 low2
  have K100 : Keep h0 h100 [] := K81.wr W100 (Or.inr fsh2)
  have Zs100 : n0 ≤ h100.size := Nat.le_trans Zs81 (Keep.of_wr W100).1
  have F103 : Sta Z h100 "com/example/probe/probe/Band" "ALL" "[Lcom/example/probe/probe/Band;" (.ref s_ALL) := F84.wr W100
  have F104 : Sta Z h100 "com/example/probe/probe/Band" "GHZ_2_4" "Lcom/example/probe/probe/Band;" (.ref s_GHZ_2_4) := F85.wr W100
  have F105 : Exa Z h100 s_GHZ_2_4 "com/example/probe/probe/Band" := F86.wr W100
  have F106 : Fld Z h100 s_GHZ_2_4 "com/example/probe/probe/Band" "lowestKhz" "I" (.int (2400000 : Int32)) := F87.other W100 (Or.inl ne3)
  have F107 : Fld Z h100 s_GHZ_2_4 "com/example/probe/probe/Band" "highestKhz" "I" (.int (2500000 : Int32)) := F88.other W100 (Or.inl ne3)
  have F108 : Sta Z h100 "com/example/probe/probe/Band" "GHZ_5" "Lcom/example/probe/probe/Band;" (.ref s_GHZ_5) := F89.wr W100
  have F109 : Exa Z h100 s_GHZ_5 "com/example/probe/probe/Band" := F90.wr W100
  have F110 : Fld Z h100 s_GHZ_5 "com/example/probe/probe/Band" "lowestKhz" "I" (.int (5150000 : Int32)) := F91.other W100 (Or.inl ne4)
  have F111 : Fld Z h100 s_GHZ_5 "com/example/probe/probe/Band" "highestKhz" "I" (.int (5924000 : Int32)) := F92.other W100 (Or.inl ne4)
  have F112 : Sta Z h100 "com/example/probe/probe/Band" "GHZ_6" "Lcom/example/probe/probe/Band;" (.ref s_GHZ_6) := F93.wr W100
  have F113 : Exa Z h100 s_GHZ_6 "com/example/probe/probe/Band" := F94.wr W100
  have F114 : Fld Z h100 s_GHZ_6 "com/example/probe/probe/Band" "lowestKhz" "I" (.int (5925000 : Int32)) := F95.other W100 (Or.inl ne5)
  have F115 : Fld Z h100 s_GHZ_6 "com/example/probe/probe/Band" "highestKhz" "I" (.int (7125000 : Int32)) := F96.other W100 (Or.inl ne5)
  have F116 : Arv Z h100 s_ALL k_s_ALL (.object "com/example/probe/probe/Band") (3 : Int32) [(.ref s_GHZ_2_4), (.ref s_GHZ_5), (.ref s_GHZ_6)] .null := F97.other W100 ne6
  have F117 : Arv Z h100 b2 k2 .int (6 : Int32) [(.int (2400000 : Int32)), (.int (2500000 : Int32)), (.int (5150000 : Int32)), (.int (5924000 : Int32)), (.int (5925000 : Int32)), (.int (0 : Int32))] (.int (0 : Int32)) := Arv.set Ar101 q101 S101 N101 H101 G101 rfl W100 4 rfl (Nat.le_of_ble_eq_true rfl)
  have go118 : ∀ t, Steps p.tables e below (T100.setTop (mkF m 33 #[.val (.int p0), .val (.int p1), .unset, .unset, .unset, .unset] [(.int (7125000 : Int32)), (.int (5 : Int32)), (.ref b2), (.ref b2)])) t → Steps p.tables e below (s₁.setTop (entryFrame m #[(.int p0), (.int p1)] maxLocals)) t := by
    intro t k
    refine go102 _ ?_
    refine XS.dup X100.here hx rfl (hb hby at_29) rfl rfl ?_
    show Steps p.tables e below (T100.setTop (mkF m 30 #[.val (.int p0), .val (.int p1), .unset, .unset, .unset, .unset] [(.ref b2), (.ref b2)])) t
    refine XS.iconst X100.here hx rfl (hb hby at_30) ?_
    show Steps p.tables e below (T100.setTop (mkF m 31 #[.val (.int p0), .val (.int p1), .unset, .unset, .unset, .unset] [(.int (5 : Int32)), (.ref b2), (.ref b2)])) t
    refine X100.ldcInt hx hown (mvT hZ (hw _ (List.mem_of_getElem? (i := 6) rfl))) (g := (mkF m 31 #[.val (.int p0), .val (.int p1), .unset, .unset, .unset, .unset] [(.int (5 : Int32)), (.ref b2), (.ref b2)])) rfl (hb hby at_31) _ ?_
    show Steps p.tables e below (T100.setTop (mkF m 33 #[.val (.int p0), .val (.int p1), .unset, .unset, .unset, .unset] [(.int (7125000 : Int32)), (.int (5 : Int32)), (.ref b2), (.ref b2)])) t
    exact k
  obtain ⟨cl120, Ar120, q120, S120, N120, H120, G120⟩ := id F117
  obtain ⟨T119, h119, X119, e119, W119, st119⟩ := stI X100 hx hZ e100 Ar120 (j := (5 : Int32)) (inb_of S120 ⟨by decide, by decide⟩) (g := (mkF m 33 #[.val (.int p0), .val (.int p1), .unset, .unset, .unset, .unset] [(.int (7125000 : Int32)), (.int (5 : Int32)), (.ref b2), (.ref b2)])) rfl rfl (hb hby at_33)
  have go121 : ∀ t, Steps p.tables e below (T119.setTop (mkF m 34 #[.val (.int p0), .val (.int p1), .unset, .unset, .unset, .unset] [(.ref b2)])) t → Steps p.tables e below (s₁.setTop (entryFrame m #[(.int p0), (.int p1)] maxLocals)) t := fun t k => go118 _ (st119 _ k)
  have N119 := Fr.snoc X119 N100 low2
  have K119 : Keep h0 h119 [] := K100.wr W119 (Or.inr fsh2)
  have Zs119 : n0 ≤ h119.size := Nat.le_trans Zs100 (Keep.of_wr W119).1
  have F122 : Sta Z h119 "com/example/probe/probe/Band" "ALL" "[Lcom/example/probe/probe/Band;" (.ref s_ALL) := F103.wr W119
  have F123 : Sta Z h119 "com/example/probe/probe/Band" "GHZ_2_4" "Lcom/example/probe/probe/Band;" (.ref s_GHZ_2_4) := F104.wr W119
  have F124 : Exa Z h119 s_GHZ_2_4 "com/example/probe/probe/Band" := F105.wr W119
  have F125 : Fld Z h119 s_GHZ_2_4 "com/example/probe/probe/Band" "lowestKhz" "I" (.int (2400000 : Int32)) := F106.other W119 (Or.inl ne3)
  have F126 : Fld Z h119 s_GHZ_2_4 "com/example/probe/probe/Band" "highestKhz" "I" (.int (2500000 : Int32)) := F107.other W119 (Or.inl ne3)
  have F127 : Sta Z h119 "com/example/probe/probe/Band" "GHZ_5" "Lcom/example/probe/probe/Band;" (.ref s_GHZ_5) := F108.wr W119
  have F128 : Exa Z h119 s_GHZ_5 "com/example/probe/probe/Band" := F109.wr W119
  have F129 : Fld Z h119 s_GHZ_5 "com/example/probe/probe/Band" "lowestKhz" "I" (.int (5150000 : Int32)) := F110.other W119 (Or.inl ne4)
  have F130 : Fld Z h119 s_GHZ_5 "com/example/probe/probe/Band" "highestKhz" "I" (.int (5924000 : Int32)) := F111.other W119 (Or.inl ne4)
  have F131 : Sta Z h119 "com/example/probe/probe/Band" "GHZ_6" "Lcom/example/probe/probe/Band;" (.ref s_GHZ_6) := F112.wr W119
  have F132 : Exa Z h119 s_GHZ_6 "com/example/probe/probe/Band" := F113.wr W119
  have F133 : Fld Z h119 s_GHZ_6 "com/example/probe/probe/Band" "lowestKhz" "I" (.int (5925000 : Int32)) := F114.other W119 (Or.inl ne5)
  have F134 : Fld Z h119 s_GHZ_6 "com/example/probe/probe/Band" "highestKhz" "I" (.int (7125000 : Int32)) := F115.other W119 (Or.inl ne5)
  have F135 : Arv Z h119 s_ALL k_s_ALL (.object "com/example/probe/probe/Band") (3 : Int32) [(.ref s_GHZ_2_4), (.ref s_GHZ_5), (.ref s_GHZ_6)] .null := F116.other W119 ne6
  have F136 : Arv Z h119 b2 k2 .int (6 : Int32) [(.int (2400000 : Int32)), (.int (2500000 : Int32)), (.int (5150000 : Int32)), (.int (5924000 : Int32)), (.int (5925000 : Int32)), (.int (7125000 : Int32))] (.int (0 : Int32)) := Arv.set Ar120 q120 S120 N120 H120 G120 rfl W119 5 rfl (Nat.le_of_ble_eq_true rfl)
  obtain ⟨cl138, Ar138, q138, S138, N138, H138, G138⟩ := id F136
  have go140 : ∀ t, Steps p.tables e below (T119.setTop (mkF m 61 #[.val (.int p0), .val (.int p1), .val (.ref b2), .val (.int (p1 &&& (7 : Int32))), .val (.int (b0_141 p0 p1)), .unset] [])) t → Steps p.tables e below (s₁.setTop (entryFrame m #[(.int p0), (.int p1)] maxLocals)) t := by
    intro t k
    refine go121 _ ?_
    refine XS.astoreN X119.here hx rfl (hb hby at_34) rfl rfl (l' := #[.val (.int p0), .val (.int p1), .val (.ref b2), .unset, .unset, .unset]) rfl ?_
    show Steps p.tables e below (T119.setTop (mkF m 35 #[.val (.int p0), .val (.int p1), .val (.ref b2), .unset, .unset, .unset] [])) t
    refine XS.iloadN X119.here hx rfl (hb hby at_35) rfl ?_
    show Steps p.tables e below (T119.setTop (mkF m 36 #[.val (.int p0), .val (.int p1), .val (.ref b2), .unset, .unset, .unset] [(.int p1)])) t
    refine XS.bipush X119.here hx rfl (hb hby at_36) ?_
    show Steps p.tables e below (T119.setTop (mkF m 38 #[.val (.int p0), .val (.int p1), .val (.ref b2), .unset, .unset, .unset] [(.int (7 : Int32)), (.int p1)])) t
    refine XS.iand X119.here hx rfl (hb hby at_38) rfl ?_
    show Steps p.tables e below (T119.setTop (mkF m 39 #[.val (.int p0), .val (.int p1), .val (.ref b2), .unset, .unset, .unset] [(.int (p1 &&& (7 : Int32)))])) t
    refine XS.istoreN X119.here hx rfl (hb hby at_39) rfl (l' := #[.val (.int p0), .val (.int p1), .val (.ref b2), .val (.int (p1 &&& (7 : Int32))), .unset, .unset]) rfl ?_
    show Steps p.tables e below (T119.setTop (mkF m 40 #[.val (.int p0), .val (.int p1), .val (.ref b2), .val (.int (p1 &&& (7 : Int32))), .unset, .unset] [])) t
    refine XS.iloadN X119.here hx rfl (hb hby at_40) rfl ?_
    show Steps p.tables e below (T119.setTop (mkF m 41 #[.val (.int p0), .val (.int p1), .val (.ref b2), .val (.int (p1 &&& (7 : Int32))), .unset, .unset] [(.int (p1 &&& (7 : Int32)))])) t
    refine XS.bipush X119.here hx rfl (hb hby at_41) ?_
    show Steps p.tables e below (T119.setTop (mkF m 43 #[.val (.int p0), .val (.int p1), .val (.ref b2), .val (.int (p1 &&& (7 : Int32))), .unset, .unset] [(.int (6 : Int32)), (.int (p1 &&& (7 : Int32)))])) t
    by_cases hc137 : (p1 &&& (7 : Int32)) < (6 : Int32)
    · refine XS.icmpNo X119.here hx rfl (hb hby at_43) rfl (XT.ii_ge_f hc137) ?_
      show Steps p.tables e below (T119.setTop (mkF m 46 #[.val (.int p0), .val (.int p1), .val (.ref b2), .val (.int (p1 &&& (7 : Int32))), .unset, .unset] [])) t
      refine XS.aloadN X119.here hx rfl (hb hby at_46) rfl rfl ?_
      show Steps p.tables e below (T119.setTop (mkF m 47 #[.val (.int p0), .val (.int p1), .val (.ref b2), .val (.int (p1 &&& (7 : Int32))), .unset, .unset] [(.ref b2)])) t
      refine XS.iloadN X119.here hx rfl (hb hby at_47) rfl ?_
      show Steps p.tables e below (T119.setTop (mkF m 48 #[.val (.int p0), .val (.int p1), .val (.ref b2), .val (.int (p1 &&& (7 : Int32))), .unset, .unset] [(.int (p1 &&& (7 : Int32))), (.ref b2)])) t
      refine X119.iaload hx (j := (p1 &&& (7 : Int32))) (v := (.int (own_e6 (p1 &&& (7 : Int32))))) (by rw [e119]; exact Ar138.1) (State.isArrayOf_alike hZ.alike Ar138.2.1) Ar138.2.2 (inb_of S138 ⟨own_m7 p1, hc137⟩) (Has.at H138 (inb_of S138 ⟨own_m7 p1, hc137⟩) (own_e6_at _ (own_m7 p1) hc137)) (g := (mkF m 48 #[.val (.int p0), .val (.int p1), .val (.ref b2), .val (.int (p1 &&& (7 : Int32))), .unset, .unset] [(.int (p1 &&& (7 : Int32))), (.ref b2)])) rfl rfl (hb hby at_48) _ ?_
      show Steps p.tables e below (T119.setTop (mkF m 49 #[.val (.int p0), .val (.int p1), .val (.ref b2), .val (.int (p1 &&& (7 : Int32))), .unset, .unset] [(.int (own_e6 (p1 &&& (7 : Int32))))])) t
      refine XS.iloadN X119.here hx rfl (hb hby at_49) rfl ?_
      show Steps p.tables e below (T119.setTop (mkF m 50 #[.val (.int p0), .val (.int p1), .val (.ref b2), .val (.int (p1 &&& (7 : Int32))), .unset, .unset] [(.int p0), (.int (own_e6 (p1 &&& (7 : Int32))))])) t
      refine XS.iconst X119.here hx rfl (hb hby at_50) ?_
      show Steps p.tables e below (T119.setTop (mkF m 51 #[.val (.int p0), .val (.int p1), .val (.ref b2), .val (.int (p1 &&& (7 : Int32))), .unset, .unset] [(.int (3 : Int32)), (.int p0), (.int (own_e6 (p1 &&& (7 : Int32))))])) t
      refine iremM X119 hx rfl (hb hby at_51) rfl (by decide) ?_
      show Steps p.tables e below (T119.setTop (mkF m 52 #[.val (.int p0), .val (.int p1), .val (.ref b2), .val (.int (p1 &&& (7 : Int32))), .unset, .unset] [(.int (p0 % (3 : Int32))), (.int (own_e6 (p1 &&& (7 : Int32))))])) t
      refine XS.iadd X119.here hx rfl (hb hby at_52) rfl ?_
      show Steps p.tables e below (T119.setTop (mkF m 53 #[.val (.int p0), .val (.int p1), .val (.ref b2), .val (.int (p1 &&& (7 : Int32))), .unset, .unset] [(.int ((own_e6 (p1 &&& (7 : Int32))) + (p0 % (3 : Int32))))])) t
      show Steps p.tables e below (T119.setTop (mkF m 53 #[.val (.int p0), .val (.int p1), .val (.ref b2), .val (.int (p1 &&& (7 : Int32))), .unset, .unset] [(.int (v0_139 p0 p1))])) t
      refine XS.istore X119.here hx rfl (hb hby at_53) rfl (l' := #[.val (.int p0), .val (.int p1), .val (.ref b2), .val (.int (p1 &&& (7 : Int32))), .val (.int (v0_139 p0 p1)), .unset]) rfl ?_
      show Steps p.tables e below (T119.setTop (mkF m 55 #[.val (.int p0), .val (.int p1), .val (.ref b2), .val (.int (p1 &&& (7 : Int32))), .val (.int (v0_139 p0 p1)), .unset] [])) t
      refine XS.goto X119.here hx rfl (pc0 := 55) (pc' := 61) rfl (hb hby at_55) (by decide) (by decide) ?_
      show Steps p.tables e below (T119.setTop (mkF m 61 #[.val (.int p0), .val (.int p1), .val (.ref b2), .val (.int (p1 &&& (7 : Int32))), .val (.int (v0_139 p0 p1)), .unset] [])) t
      have hq142 : (b0_141 p0 p1) = (v0_139 p0 p1) := by rw [b0_141, if_pos hc137]
      rw [hq142] at k
      exact k
    · refine XS.icmpYes X119.here hx rfl (pc0 := 43) (pc' := 58) rfl (hb hby at_43) rfl (XT.ii_ge_t hc137) (by decide) (by decide) ?_
      show Steps p.tables e below (T119.setTop (mkF m 58 #[.val (.int p0), .val (.int p1), .val (.ref b2), .val (.int (p1 &&& (7 : Int32))), .unset, .unset] [])) t
      refine XS.iloadN X119.here hx rfl (hb hby at_58) rfl ?_
      show Steps p.tables e below (T119.setTop (mkF m 59 #[.val (.int p0), .val (.int p1), .val (.ref b2), .val (.int (p1 &&& (7 : Int32))), .unset, .unset] [(.int p0)])) t
      refine XS.istore X119.here hx rfl (hb hby at_59) rfl (l' := #[.val (.int p0), .val (.int p1), .val (.ref b2), .val (.int (p1 &&& (7 : Int32))), .val (.int p0), .unset]) rfl ?_
      show Steps p.tables e below (T119.setTop (mkF m 61 #[.val (.int p0), .val (.int p1), .val (.ref b2), .val (.int (p1 &&& (7 : Int32))), .val (.int p0), .unset] [])) t
      have hq143 : (b0_141 p0 p1) = p0 := by rw [b0_141, if_neg hc137]
      rw [hq143] at k
      exact k
  have go144 : ∀ t, Steps p.tables e below (T119.setTop (mkF m 63 #[.val (.int p0), .val (.int p1), .val (.ref b2), .val (.int (p1 &&& (7 : Int32))), .val (.int (b0_141 p0 p1)), .unset] [(.int (b0_141 p0 p1))])) t → Steps p.tables e below (s₁.setTop (entryFrame m #[(.int p0), (.int p1)] maxLocals)) t := by
    intro t k
    refine go140 _ ?_
    refine XS.iload X119.here hx rfl (hb hby at_61) rfl ?_
    show Steps p.tables e below (T119.setTop (mkF m 63 #[.val (.int p0), .val (.int p1), .val (.ref b2), .val (.int (p1 &&& (7 : Int32))), .val (.int (b0_141 p0 p1)), .unset] [(.int (b0_141 p0 p1))])) t
    exact k
  obtain ⟨_, _, ⟨T145, L145, k145, n145⟩, -, X145, ⟨Lc145, hQ145, l145, y145, z145⟩, st145⟩ := Jvm.LawKit.callS X119 hx (y := (⟨"com/example/probe/probe/Band", "in", "(I)Lcom/example/probe/probe/Band;"⟩ : MethodName)) hown (mvT hZ (hw _ (List.mem_of_getElem? (i := 7) rfl))) (mvT hZ (hw _ (List.mem_of_getElem? (i := 8) rfl))) (mvT hZ (hw _ (List.mem_of_getElem? (i := 9) rfl))) (mvT hZ (hw _ (List.mem_of_getElem? (i := 10) rfl))) (by decide) (backOf (W := 0) (rm1 l Z aZ hw [] (b0_141 p0 p1) s_ALL s_GHZ_2_4 s_GHZ_5 s_GHZ_6 k_s_ALL h119 n0 Zs119 F122 F124 F125 F126 F128 F129 F130 F132 F133 F134 F135) hZ (hw _ (List.mem_of_getElem? (i := 10) rfl)) (hw _ (List.mem_of_getElem? (i := 9) rfl)) (by decide) (by decide)) (g := (mkF m 63 #[.val (.int p0), .val (.int p1), .val (.ref b2), .val (.int (p1 &&& (7 : Int32))), .val (.int (b0_141 p0 p1)), .unset] [(.int (b0_141 p0 p1))])) rfl (by rw [hml]; rfl) (argsL := [(.int (b0_141 p0 p1))]) (rest := []) (lenOf pd_58 rfl) rfl (by show 2 * 0 + _ ≤ _; exact Nat.le_of_eq rfl) (hb hby at_63) (fun _ _ => ⟨rfl, e119, (by decide : 1 + 0 ≤ _), (by decide : 6 + 0 ≤ _)⟩)
  dsimp only [Pt.U, Pt.locs, Pt.cells, Pt.slots] at X145 l145 y145 z145 st145 hQ145
  subst l145 y145 z145
  obtain ⟨rfl, N145q, e145⟩ := hQ145
  have N145 := Fr.app N119 N145q
  have go146 : ∀ t, Steps p.tables e below (T145.setTop (mkF m 66 #[.val (.int p0), .val (.int p1), .val (.ref b2), .val (.int (p1 &&& (7 : Int32))), .val (.int (b0_141 p0 p1)), .unset] [(f1 (b0_141 p0 p1) s_GHZ_2_4 s_GHZ_5 s_GHZ_6)])) t → Steps p.tables e below (s₁.setTop (entryFrame m #[(.int p0), (.int p1)] maxLocals)) t := fun t k => go144 _ (st145 _ k)
  have go147 : ∀ t, Steps p.tables e below (T145.setTop (mkF m 72 #[.val (.int p0), .val (.int p1), .val (.ref b2), .val (.int (p1 &&& (7 : Int32))), .val (.int (b0_141 p0 p1)), .val (f1 (b0_141 p0 p1) s_GHZ_2_4 s_GHZ_5 s_GHZ_6)] [(.int (b0_141 p0 p1)), (f1 (b0_141 p0 p1) s_GHZ_2_4 s_GHZ_5 s_GHZ_6)])) t → Steps p.tables e below (s₁.setTop (entryFrame m #[(.int p0), (.int p1)] maxLocals)) t := by
    intro t k
    refine go146 _ ?_
    refine XS.astore X145.here hx rfl (hb hby at_66) rfl (f1_ref (b0_141 p0 p1) s_GHZ_2_4 s_GHZ_5 s_GHZ_6) (l' := #[.val (.int p0), .val (.int p1), .val (.ref b2), .val (.int (p1 &&& (7 : Int32))), .val (.int (b0_141 p0 p1)), .val (f1 (b0_141 p0 p1) s_GHZ_2_4 s_GHZ_5 s_GHZ_6)]) (XS.store1 (o := .unset) rfl (Or.inl rfl) (XT.cat1 (f1_ref (b0_141 p0 p1) s_GHZ_2_4 s_GHZ_5 s_GHZ_6))) ?_
    show Steps p.tables e below (T145.setTop (mkF m 68 #[.val (.int p0), .val (.int p1), .val (.ref b2), .val (.int (p1 &&& (7 : Int32))), .val (.int (b0_141 p0 p1)), .val (f1 (b0_141 p0 p1) s_GHZ_2_4 s_GHZ_5 s_GHZ_6)] [])) t
    refine XS.aload X145.here hx rfl (hb hby at_68) rfl (f1_ref (b0_141 p0 p1) s_GHZ_2_4 s_GHZ_5 s_GHZ_6) ?_
    show Steps p.tables e below (T145.setTop (mkF m 70 #[.val (.int p0), .val (.int p1), .val (.ref b2), .val (.int (p1 &&& (7 : Int32))), .val (.int (b0_141 p0 p1)), .val (f1 (b0_141 p0 p1) s_GHZ_2_4 s_GHZ_5 s_GHZ_6)] [(f1 (b0_141 p0 p1) s_GHZ_2_4 s_GHZ_5 s_GHZ_6)])) t
    refine XS.iload X145.here hx rfl (hb hby at_70) rfl ?_
    show Steps p.tables e below (T145.setTop (mkF m 72 #[.val (.int p0), .val (.int p1), .val (.ref b2), .val (.int (p1 &&& (7 : Int32))), .val (.int (b0_141 p0 p1)), .val (f1 (b0_141 p0 p1) s_GHZ_2_4 s_GHZ_5 s_GHZ_6)] [(.int (b0_141 p0 p1)), (f1 (b0_141 p0 p1) s_GHZ_2_4 s_GHZ_5 s_GHZ_6)])) t
    exact k
  obtain ⟨_, _, ⟨T148, L148, k148, n148⟩, -, X148, ⟨Lc148, hQ148, l148, y148, z148⟩, st148⟩ := Jvm.LawKit.callS X145 hx (y := (⟨"com/example/probe/probe/BandInPinLaw", "expected", "(I)Lcom/example/probe/probe/Band;"⟩ : MethodName)) hown (mvT hZ (hw _ (List.mem_of_getElem? (i := 19) rfl))) (mvT hZ (hw _ (List.mem_of_getElem? (i := 20) rfl))) (mvT hZ (hw _ (List.mem_of_getElem? (i := 21) rfl))) (mvT hZ (hw _ (List.mem_of_getElem? (i := 22) rfl))) (by decide) (backOf (W := 1) (rm2 l Z aZ hw [] (b0_141 p0 p1) s_GHZ_2_4 s_GHZ_5 s_GHZ_6 h119 n0 Zs119 F123 F127 F131) hZ (hw _ (List.mem_of_getElem? (i := 22) rfl)) (hw _ (List.mem_of_getElem? (i := 21) rfl)) (by decide) (by decide)) (g := (mkF m 72 #[.val (.int p0), .val (.int p1), .val (.ref b2), .val (.int (p1 &&& (7 : Int32))), .val (.int (b0_141 p0 p1)), .val (f1 (b0_141 p0 p1) s_GHZ_2_4 s_GHZ_5 s_GHZ_6)] [(.int (b0_141 p0 p1)), (f1 (b0_141 p0 p1) s_GHZ_2_4 s_GHZ_5 s_GHZ_6)])) rfl (by rw [hml]; rfl) (argsL := [(.int (b0_141 p0 p1))]) (rest := [(f1 (b0_141 p0 p1) s_GHZ_2_4 s_GHZ_5 s_GHZ_6)]) (lenOf pd_58 rfl) rfl (own_cat1 (f1_ref (b0_141 p0 p1) s_GHZ_2_4 s_GHZ_5 s_GHZ_6)) (hb hby at_72) (fun _ _ => ⟨rfl, e145, (by decide : 1 + 0 ≤ _), (by decide : 6 + 0 ≤ _)⟩)
  dsimp only [Pt.U, Pt.locs, Pt.cells, Pt.slots] at X148 l148 y148 z148 st148 hQ148
  subst l148 y148 z148
  obtain ⟨rfl, N148q, e148⟩ := hQ148
  have N148 := Fr.app N145 N148q
  have go149 : ∀ t, Steps p.tables e below (T148.setTop (mkF m 75 #[.val (.int p0), .val (.int p1), .val (.ref b2), .val (.int (p1 &&& (7 : Int32))), .val (.int (b0_141 p0 p1)), .val (f1 (b0_141 p0 p1) s_GHZ_2_4 s_GHZ_5 s_GHZ_6)] [(f2 (b0_141 p0 p1) s_GHZ_2_4 s_GHZ_5 s_GHZ_6), (f1 (b0_141 p0 p1) s_GHZ_2_4 s_GHZ_5 s_GHZ_6)])) t → Steps p.tables e below (s₁.setTop (entryFrame m #[(.int p0), (.int p1)] maxLocals)) t := fun t k => go147 _ (st148 _ k)
  have go151 : ∀ t, Steps p.tables e below (T148.setTop (mkF m 83 #[.val (.int p0), .val (.int p1), .val (.ref b2), .val (.int (p1 &&& (7 : Int32))), .val (.int (b0_141 p0 p1)), .val (f1 (b0_141 p0 p1) s_GHZ_2_4 s_GHZ_5 s_GHZ_6)] [(.int (b0_152 p0 p1 s_GHZ_2_4 s_GHZ_5 s_GHZ_6))])) t → Steps p.tables e below (s₁.setTop (entryFrame m #[(.int p0), (.int p1)] maxLocals)) t := by
    intro t k
    refine go149 _ ?_
    by_cases hc150 : ((f1 (b0_141 p0 p1) s_GHZ_2_4 s_GHZ_5 s_GHZ_6) : Value) = (f2 (b0_141 p0 p1) s_GHZ_2_4 s_GHZ_5 s_GHZ_6)
    · refine Jvm.RoadKit.acmp (g := (mkF m 75 #[.val (.int p0), .val (.int p1), .val (.ref b2), .val (.int (p1 &&& (7 : Int32))), .val (.int (b0_141 p0 p1)), .val (f1 (b0_141 p0 p1) s_GHZ_2_4 s_GHZ_5 s_GHZ_6)] [(f2 (b0_141 p0 p1) s_GHZ_2_4 s_GHZ_5 s_GHZ_6), (f1 (b0_141 p0 p1) s_GHZ_2_4 s_GHZ_5 s_GHZ_6)])) X148 hx rfl (f1_ref (b0_141 p0 p1) s_GHZ_2_4 s_GHZ_5 s_GHZ_6) (f2_ref (b0_141 p0 p1) s_GHZ_2_4 s_GHZ_5 s_GHZ_6) (pc0 := 75) (pc' := 78) (same := true) rfl (hb hby at_75) rfl (decide_eq_true hc150) (by decide) (by decide) ?_
      show Steps p.tables e below (T148.setTop (mkF m 78 #[.val (.int p0), .val (.int p1), .val (.ref b2), .val (.int (p1 &&& (7 : Int32))), .val (.int (b0_141 p0 p1)), .val (f1 (b0_141 p0 p1) s_GHZ_2_4 s_GHZ_5 s_GHZ_6)] [])) t
      refine XS.iconst X148.here hx rfl (hb hby at_78) ?_
      show Steps p.tables e below (T148.setTop (mkF m 79 #[.val (.int p0), .val (.int p1), .val (.ref b2), .val (.int (p1 &&& (7 : Int32))), .val (.int (b0_141 p0 p1)), .val (f1 (b0_141 p0 p1) s_GHZ_2_4 s_GHZ_5 s_GHZ_6)] [(.int (1 : Int32))])) t
      refine XS.goto X148.here hx rfl (pc0 := 79) (pc' := 83) rfl (hb hby at_79) (by decide) (by decide) ?_
      show Steps p.tables e below (T148.setTop (mkF m 83 #[.val (.int p0), .val (.int p1), .val (.ref b2), .val (.int (p1 &&& (7 : Int32))), .val (.int (b0_141 p0 p1)), .val (f1 (b0_141 p0 p1) s_GHZ_2_4 s_GHZ_5 s_GHZ_6)] [(.int (1 : Int32))])) t
      have hq153 : (b0_152 p0 p1 s_GHZ_2_4 s_GHZ_5 s_GHZ_6) = (1 : Int32) := by rw [b0_152, if_pos hc150]
      rw [hq153] at k
      exact k
    · refine Jvm.RoadKit.acmp (g := (mkF m 75 #[.val (.int p0), .val (.int p1), .val (.ref b2), .val (.int (p1 &&& (7 : Int32))), .val (.int (b0_141 p0 p1)), .val (f1 (b0_141 p0 p1) s_GHZ_2_4 s_GHZ_5 s_GHZ_6)] [(f2 (b0_141 p0 p1) s_GHZ_2_4 s_GHZ_5 s_GHZ_6), (f1 (b0_141 p0 p1) s_GHZ_2_4 s_GHZ_5 s_GHZ_6)])) X148 hx rfl (f1_ref (b0_141 p0 p1) s_GHZ_2_4 s_GHZ_5 s_GHZ_6) (f2_ref (b0_141 p0 p1) s_GHZ_2_4 s_GHZ_5 s_GHZ_6) (pc0 := 75) (pc' := 82) (same := false) rfl (hb hby at_75) rfl (decide_eq_false hc150) (by decide) (by decide) ?_
      show Steps p.tables e below (T148.setTop (mkF m 82 #[.val (.int p0), .val (.int p1), .val (.ref b2), .val (.int (p1 &&& (7 : Int32))), .val (.int (b0_141 p0 p1)), .val (f1 (b0_141 p0 p1) s_GHZ_2_4 s_GHZ_5 s_GHZ_6)] [])) t
      refine XS.iconst X148.here hx rfl (hb hby at_82) ?_
      show Steps p.tables e below (T148.setTop (mkF m 83 #[.val (.int p0), .val (.int p1), .val (.ref b2), .val (.int (p1 &&& (7 : Int32))), .val (.int (b0_141 p0 p1)), .val (f1 (b0_141 p0 p1) s_GHZ_2_4 s_GHZ_5 s_GHZ_6)] [(.int (0 : Int32))])) t
      have hq154 : (b0_152 p0 p1 s_GHZ_2_4 s_GHZ_5 s_GHZ_6) = (0 : Int32) := by rw [b0_152, if_neg hc150]
      rw [hq154] at k
      exact k
  obtain ⟨fs, hr, hrun, hended, hW, hsame⟩ := X148.leave (v := some (.int (b0_152 p0 p1 s_GHZ_2_4 s_GHZ_5 s_GHZ_6))) (fun h => by rw [Bd.returns] at h; cases h)
  refine ⟨_, _, go151 _ (Jvm.RoadKit.retOut X148 hx Bd.returns (own_nz (by unfold b0_152; (repeat' split) <;> first | exact Or.inl rfl | exact Or.inr rfl)) (Or.inl ⟨rfl, Or.inr (Or.inl rfl), _, rfl⟩) (hb hby at_83) hr), hrun, hended, _, _, rfl, ?_, ⟨_, rfl⟩, hW, hsame.mono (by decide) (by decide)⟩
  show Q0 _ _ p0 p1 s_ALL s_GHZ_2_4 s_GHZ_5 s_GHZ_6 k_s_ALL h0 _ (T148.setFrames fs).heap _
  have hE : (T148.setFrames fs).heap = h119 := e148
  rw [hE]
  exact ⟨congrArg (fun z => some (Value.int z)) ((by rw [f0] : (b0_152 p0 p1 s_GHZ_2_4 s_GHZ_5 s_GHZ_6) = (f0 p0 p1 s_GHZ_2_4 s_GHZ_5 s_GHZ_6)).trans (f0_one p0 p1 s_GHZ_2_4 s_GHZ_5 s_GHZ_6)), N148⟩
set_option maxRecDepth 65536 in
set_option maxHeartbeats 40000000 in
theorem comes_1 {Post : Tables → Env → Array Value → State → Outcome → State → Prop} (hpost : ∀ tb e args s v u, (limb_1_1.after args s (.returned v) u = true ∧ limb_1_2.after args s (.returned v) u = true ∧ True) → FrameEnd s (.returned v) u (Jvm.fieldLocs frame_1_writes args s ++ Jvm.arrayLocs frame_1_arrays args s ++ Jvm.staticLocs frame_1_statics s) 16 128 → Post tb e args s (.returned v) u) :
    ArmFor flags0 classFile x code maxLocals ret World_1 tables_1 room_1 Calls_1 rest_1 Pre_1 Post := by
  intro l hfl _ _ p e ha hc hk s m args below hf hA hF happ hP
  obtain ⟨hcalls, hrest, hpre⟩ := hP
  obtain ⟨-, -, -, hnamed, -, -, -, hat⟩ := (Spec.applies_iff hf).mp happ
  obtain ⟨hg, hn⟩ := and_e (Cond.before_iff.mp (show (Jvm.Cond.and given_1 narrow_1).before args s = true from hpre))
  obtain ⟨hcount, hg1⟩ := and_e hg
  obtain ⟨ha0, hb0⟩ := and_e hg1
  obtain ⟨w0, w1, rfl⟩ : ∃ w0 w1 : Value, args = #[w0, w1] := by
    have hs : args.size = 2 := by simpa [Cond.value, given_1] using hcount
    obtain ⟨L⟩ := args
    match L, hs with
    | [w0, w1], _ => exact ⟨w0, w1, rfl⟩
  have hw := fun d (hd : d ∈ tables_1) => atoms_spec (ws := Jvm.Cond.code x code maxLocals ret :: tables_1) hat d (List.mem_cons_of_mem _ hd)
  have hfit : Fit s := fun {y c} hc i hi => by
    obtain ⟨ha, rfl⟩ := Array.getElem?_eq_some_iff.mp hc
    have q := List.all_eq_true.mp ((Array.all_eq_true_iff_forall_mem.mp hF) _ (Array.getElem_mem ha)) i (List.mem_range.mpr hi)
    simpa [Array.getElem?_eq_getElem hi] using q
  obtain ⟨i0, ei0⟩ := is_v ha0
  obtain rfl : w0 = (.int i0) := Option.some.inj ei0
  obtain ⟨i1, ei1⟩ := is_v hb0
  obtain rfl : w1 = (.int i1) := Option.some.inj ei1
  obtain ⟨na0, nb0⟩ := and_e hn
  obtain ⟨na1, nb1⟩ := and_e nb0
  obtain ⟨na2, nb2⟩ := and_e nb1
  obtain ⟨na3, nb3⟩ := and_e nb2
  obtain ⟨na4, nb4⟩ := and_e nb3
  obtain ⟨na5, nb5⟩ := and_e nb4
  obtain ⟨na6, nb6⟩ := and_e nb5
  obtain ⟨na7, nb7⟩ := and_e nb6
  obtain ⟨na8, nb8⟩ := and_e nb7
  obtain ⟨na9, nb9⟩ := and_e nb8
  obtain ⟨na10, nb10⟩ := and_e nb9
  obtain ⟨na11, nb11⟩ := and_e nb10
  obtain ⟨na12, nb12⟩ := and_e nb11
  obtain ⟨s_ALL, ev_s_ALL⟩ := arr_v na0
  have S_ALL : Sta s s.heap "com/example/probe/probe/Band" "ALL" "[Lcom/example/probe/probe/Band;" (.ref s_ALL) := Sta.start ev_s_ALL (Or.inr ⟨(hw _ (List.mem_of_getElem? (i := 9) rfl)), (hw _ (List.mem_of_getElem? (i := 12) rfl))⟩)
  obtain ⟨c_s_ALL, Ac_s_ALL⟩ := Arr.start ev_s_ALL na0
  obtain ⟨lt_s_ALL, le_s_ALL⟩ := own_len (own_eqi na1) ev_s_ALL Ac_s_ALL
  obtain ⟨s_GHZ_2_4, ev_s_GHZ_2_4⟩ := exa_v na2
  have S_GHZ_2_4 : Sta s s.heap "com/example/probe/probe/Band" "GHZ_2_4" "Lcom/example/probe/probe/Band;" (.ref s_GHZ_2_4) := Sta.start ev_s_GHZ_2_4 (Or.inr ⟨(hw _ (List.mem_of_getElem? (i := 9) rfl)), (hw _ (List.mem_of_getElem? (i := 13) rfl))⟩)
  have E_GHZ_2_4 : Exa s s.heap s_GHZ_2_4 "com/example/probe/probe/Band" := Exa.start ev_s_GHZ_2_4 na2
  have el0_s_ALL := (elem_in (own_eqr ev_s_GHZ_2_4 na3) ev_s_ALL (Term.int_eval _) Ac_s_ALL.1).2
  have F_GHZ_2_4_lowestKhz : Fld s s.heap s_GHZ_2_4 "com/example/probe/probe/Band" "lowestKhz" "I" (.int (2400000 : Int32)) := Fld.start ((fld_at ev_s_GHZ_2_4).symm.trans (own_eqi na4))
  have F_GHZ_2_4_highestKhz : Fld s s.heap s_GHZ_2_4 "com/example/probe/probe/Band" "highestKhz" "I" (.int (2500000 : Int32)) := Fld.start ((fld_at ev_s_GHZ_2_4).symm.trans (own_eqi na5))
  obtain ⟨s_GHZ_5, ev_s_GHZ_5⟩ := exa_v na6
  have S_GHZ_5 : Sta s s.heap "com/example/probe/probe/Band" "GHZ_5" "Lcom/example/probe/probe/Band;" (.ref s_GHZ_5) := Sta.start ev_s_GHZ_5 (Or.inr ⟨(hw _ (List.mem_of_getElem? (i := 9) rfl)), (hw _ (List.mem_of_getElem? (i := 18) rfl))⟩)
  have E_GHZ_5 : Exa s s.heap s_GHZ_5 "com/example/probe/probe/Band" := Exa.start ev_s_GHZ_5 na6
  have el1_s_ALL := (elem_in (own_eqr ev_s_GHZ_5 na7) ev_s_ALL (Term.int_eval _) Ac_s_ALL.1).2
  have F_GHZ_5_lowestKhz : Fld s s.heap s_GHZ_5 "com/example/probe/probe/Band" "lowestKhz" "I" (.int (5150000 : Int32)) := Fld.start ((fld_at ev_s_GHZ_5).symm.trans (own_eqi na8))
  have F_GHZ_5_highestKhz : Fld s s.heap s_GHZ_5 "com/example/probe/probe/Band" "highestKhz" "I" (.int (5924000 : Int32)) := Fld.start ((fld_at ev_s_GHZ_5).symm.trans (own_eqi na9))
  obtain ⟨s_GHZ_6, ev_s_GHZ_6⟩ := exa_v na10
  have S_GHZ_6 : Sta s s.heap "com/example/probe/probe/Band" "GHZ_6" "Lcom/example/probe/probe/Band;" (.ref s_GHZ_6) := Sta.start ev_s_GHZ_6 (Or.inr ⟨(hw _ (List.mem_of_getElem? (i := 9) rfl)), (hw _ (List.mem_of_getElem? (i := 24) rfl))⟩)
  have E_GHZ_6 : Exa s s.heap s_GHZ_6 "com/example/probe/probe/Band" := Exa.start ev_s_GHZ_6 na10
  have el2_s_ALL := (elem_in (own_eqr ev_s_GHZ_6 na11) ev_s_ALL (Term.int_eval _) Ac_s_ALL.1).2
  have F_GHZ_6_lowestKhz : Fld s s.heap s_GHZ_6 "com/example/probe/probe/Band" "lowestKhz" "I" (.int (5925000 : Int32)) := Fld.start ((fld_at ev_s_GHZ_6).symm.trans (own_eqi na12))
  have F_GHZ_6_highestKhz : Fld s s.heap s_GHZ_6 "com/example/probe/probe/Band" "highestKhz" "I" (.int (7125000 : Int32)) := Fld.start ((fld_at ev_s_GHZ_6).symm.trans (own_eqi nb12))
  have V_ALL : Arv s s.heap s_ALL c_s_ALL.cls (.object "com/example/probe/probe/Band") (3 : Int32) [(.ref s_GHZ_2_4), (.ref s_GHZ_5), (.ref s_GHZ_6)] .null := Arv.start hfit Ac_s_ALL lt_s_ALL le_s_ALL (by decide) rfl ⟨el0_s_ALL, el1_s_ALL, el2_s_ALL, trivial⟩
  obtain ⟨n, o, h1, h2, h3, _, L, rfl, ⟨rfl, N⟩, hq⟩ := rm0 l s _ hw tables_1 i0 i1 s_ALL s_GHZ_2_4 s_GHZ_5 s_GHZ_6 c_s_ALL.cls s.heap s.heap.size (Nat.le_refl _) S_ALL S_GHZ_2_4 E_GHZ_2_4 F_GHZ_2_4_lowestKhz F_GHZ_2_4_highestKhz S_GHZ_5 E_GHZ_5 F_GHZ_5_lowestKhz F_GHZ_5_highestKhz S_GHZ_6 E_GHZ_6 F_GHZ_6_lowestKhz F_GHZ_6_highestKhz V_ALL p e ha hc hk s m _ below hf ((Spec.applies_iff_loose hf).mp happ).1 ⟨rfl, State.Warmed39.refl s, rfl⟩ trivial
  refine ⟨n, _, h1, h2, h3, hpost _ _ _ _ _ _ ⟨Cond.after_iff.mpr rfl, Cond.after_iff.mpr (eq_i res_at (Term.int_eval (1)) rfl), trivial⟩ ⟨hq.1, hq.2.1, (hq.2.2.sift fun y hy => Or.inr (N y hy)).mono (by decide) (by decide)⟩⟩
theorem main_1_1 : Claimed_1_1 := comes_1 fun _ _ _ _ _ _ h hF => ⟨h.1, hF⟩
theorem main_1_2 : Claimed_1_2 := comes_1 fun _ _ _ _ _ _ h hF => ⟨h.2.1, hF⟩
end Jvm.Pilot.@@N@@
namespace Jvm.Pilot.@@N@@
open Jvm Jvm.ClassFile Sem Op Lib Jvm.Free Jvm.Stand Jvm.Pilot.@@N@@.Jvm.D
/-! MADE BY PROGRAM (witnessworld.py) out of the Statement's table words and the real class files: 13 classes; the members and pool entries that the words name. The judged class is class 1, her method 2. -/
namespace start1
open Jvm.ClassFile
def u (s : String) : CpInfo := .utf8 (stringToUtf16 s)
/-- a pool by its gaps: so many unusable entries, then the entry; so many at the end -/
def gap : Nat → List CpInfo → List CpInfo
  | 0, r => r
  | n + 1, r => .unusable :: gap n r
def poolList (es : List (Nat × CpInfo)) (last : Nat) : List CpInfo := es.foldr (fun e r => gap e.1 (e.2 :: r)) (gap last [])
def pool (es : List (Nat × CpInfo)) (last : Nat) : Array CpInfo := ⟨poolList es last⟩
def fileOf (pool : Array CpInfo) (this : Nat) (attrs : Array Attribute := #[]) (ms : Array MethodInfo := #[]) (fl : Nat := 33) (sup : Nat := 0) (ifs : Array Nat := #[]) (fds : Array FieldInfo := #[]) : ClassFile where
  minorVersion := 0
  majorVersion := 65
  constantPool := pool
  accessFlags := fl
  thisClass := this
  superClass := sup
  interfaces := ifs
  fields := fds
  methods := ms
  attributes := attrs
def plain (name : String) (sup : Option ClassId) : Class where
  name := name
  kind := .ordinary
  loader := none
  accessFlags := 33
  super := sup
  interfaces := #[]
  cf := none
  fields := #[]
  methods := #[]
  instanceTypes := #[]
  staticTypes := #[]
  resolved := #[]
  callSites := []
  init := .initialized
  statics := none
  mirror := none

def pool0 : Array CpInfo := pool [(5, u "<init>"), (0, u "()V"), (1, .class_ 10), (1, u "java/lang/Object")] 113

def k0m0 : Method := { name := "<init>", desc := "()V", sig := { parameters := [], returnType := none }, accessFlags := 1, code := none }
/-- java/lang/Object -/
def k0 : Class := { plain "java/lang/Object" none with
  accessFlags := 33
  interfaces := #[]
  cf := some (fileOf pool0 8 #[] #[{ accessFlags := 1, nameIndex := 5, descriptorIndex := 6, attributes := #[] }] 33 0 #[] #[])
  fields := #[]
  methods := #[k0m0]
  instanceTypes := #[]
  staticTypes := #[]
  resolved := Array.replicate 124 none
  statics := none }

def pool1 : Array CpInfo := pool [(2, .class_ 4), (1, u "java/lang/Object"), (0, u "<init>"), (0, u "()V"), (0, .integer 2400000), (0, .integer 2500000), (0, .fieldref 10 11), (0, .class_ 12), (0, .nameAndType 13 14), (0, u "com/example/probe/probe/Band"), (0, u "GHZ_2_4"), (0, u "Lcom/example/probe/probe/Band;"), (0, .integer 5150000), (0, .integer 5924000), (0, .fieldref 10 18), (0, .nameAndType 19 14), (0, u "GHZ_5"), (0, .integer 5925000), (0, .integer 7125000), (0, .fieldref 10 23), (0, .nameAndType 24 14), (0, u "GHZ_6"), (0, .methodref 10 26), (0, .nameAndType 27 28), (0, u "in"), (0, u "(I)Lcom/example/probe/probe/Band;"), (0, .methodref 30 31), (0, .class_ 32), (0, .nameAndType 33 28), (0, u "com/example/probe/probe/BandInPinLaw"), (0, u "expected"), (3, u "law"), (0, u "(II)Z")] 4

def k1m0 : Method := { name := "<init>", desc := "()V", sig := { parameters := [], returnType := none }, accessFlags := 1, code := none }
def k1c1 : Code := { maxStack := 2, maxLocals := 1, code := method_2_code, exceptionTable := #[], attributes := #[] }
def k1m1 : Method := { name := "expected", desc := "(I)Lcom/example/probe/probe/Band;", sig := { parameters := [.int], returnType := some (.object "com/example/probe/probe/Band") }, accessFlags := 10, code := some k1c1 }
def k1c2 : Code := { maxStack := 4, maxLocals := 6, code := code, exceptionTable := #[], attributes := #[] }
def k1m2 : Method := { name := "law", desc := "(II)Z", sig := { parameters := [.int, .int], returnType := some .boolean }, accessFlags := 9, code := some k1c2 }
/-- com/example/probe/probe/BandInPinLaw -/
def k1 : Class := { plain "com/example/probe/probe/BandInPinLaw" (some 0) with
  accessFlags := 49
  interfaces := #[]
  cf := some (fileOf pool1 30 #[] #[{ accessFlags := 1, nameIndex := 5, descriptorIndex := 6, attributes := #[] }, { accessFlags := 10, nameIndex := 33, descriptorIndex := 28, attributes := #[] }, { accessFlags := 9, nameIndex := 37, descriptorIndex := 38, attributes := #[] }] 49 2 #[] #[])
  fields := #[]
  methods := #[k1m0, k1m1, k1m2]
  instanceTypes := #[]
  staticTypes := #[]
  resolved := Array.replicate 43 none
  statics := none }

def pool2 : Array CpInfo := pool [(1, .class_ 2), (0, u "java/lang/constant/Constable"), (0, .class_ 4), (0, u "java/lang/Object")] 6

/-- java/lang/constant/Constable -/
def k2 : Class := { plain "java/lang/constant/Constable" (some 0) with
  accessFlags := 1537
  interfaces := #[]
  cf := some (fileOf pool2 1 #[] #[] 1537 3 #[] #[])
  fields := #[]
  methods := #[]
  instanceTypes := #[]
  staticTypes := #[]
  resolved := Array.replicate 11 none
  statics := none }

def pool3 : Array CpInfo := pool [(1, .class_ 2), (0, u "java/lang/Comparable"), (0, .class_ 4), (0, u "java/lang/Object")] 7

/-- java/lang/Comparable -/
def k3 : Class := { plain "java/lang/Comparable" (some 0) with
  accessFlags := 1537
  interfaces := #[]
  cf := some (fileOf pool3 1 #[] #[] 1537 3 #[] #[])
  fields := #[]
  methods := #[]
  instanceTypes := #[]
  staticTypes := #[]
  resolved := Array.replicate 12 none
  statics := none }

def pool4 : Array CpInfo := pool [(1, .class_ 2), (0, u "java/io/Serializable"), (0, .class_ 4), (0, u "java/lang/Object")] 2

/-- java/io/Serializable -/
def k4 : Class := { plain "java/io/Serializable" (some 0) with
  accessFlags := 1537
  interfaces := #[]
  cf := some (fileOf pool4 1 #[] #[] 1537 3 #[] #[])
  fields := #[]
  methods := #[]
  instanceTypes := #[]
  staticTypes := #[]
  resolved := Array.replicate 7 none
  statics := none }

def pool5 : Array CpInfo := pool [(2, .class_ 4), (1, u "java/lang/Enum"), (0, u "name"), (0, u "Ljava/lang/String;"), (2, u "ordinal"), (0, u "I"), (1, .class_ 14), (1, u "java/lang/Object"), (4, u "hash"), (86, .class_ 108), (1, u "java/lang/Enum$EnumDesc"), (2, .class_ 112), (0, u "java/lang/constant/Constable"), (0, .class_ 114), (0, u "java/lang/Comparable"), (0, .class_ 116), (0, u "java/io/Serializable")] 87

/-- java/lang/Enum -/
def k5 : Class := { plain "java/lang/Enum" (some 0) with
  accessFlags := 1057
  interfaces := #[2, 3, 4]
  cf := some (fileOf pool5 2 #[.nestMembers #[106]] #[] 1057 12 #[111, 113, 115] #[{ accessFlags := 18, nameIndex := 5, descriptorIndex := 6, attributes := #[] }, { accessFlags := 18, nameIndex := 9, descriptorIndex := 10, attributes := #[] }, { accessFlags := 2, nameIndex := 19, descriptorIndex := 10, attributes := #[] }])
  fields := #[{ name := "name", type := (.object "java/lang/String"), accessFlags := 18, slot := 0, constantValue := 0 }, { name := "ordinal", type := .int, accessFlags := 18, slot := 1, constantValue := 0 }, { name := "hash", type := .int, accessFlags := 2, slot := 2, constantValue := 0 }]
  methods := #[]
  instanceTypes := #[(.object "java/lang/String"), .int, .int]
  staticTypes := #[]
  resolved := Array.replicate 204 none
  statics := none }

def pool6 : Array CpInfo := pool [(1, .class_ 2), (0, u "com/example/probe/probe/Band"), (2, u "GHZ_2_4"), (0, u "Lcom/example/probe/probe/Band;"), (2, u "GHZ_5"), (2, u "GHZ_6"), (2, u "$VALUES"), (0, u "[Lcom/example/probe/probe/Band;"), (6, .class_ 25), (1, u "java/lang/Enum"), (8, u "key"), (0, u "Ljava/lang/String;"), (0, .fieldref 1 37), (0, .nameAndType 38 39), (0, u "lowestKhz"), (0, u "I"), (0, .fieldref 1 41), (0, .nameAndType 42 39), (0, u "highestKhz"), (2, u "in"), (0, u "(I)Lcom/example/probe/probe/Band;"), (6, .fieldref 1 54), (0, .nameAndType 55 16), (0, u "ALL")] 41

def k6c0 : Code := { maxStack := 2, maxLocals := 5, code := prog_2_method_5_code, exceptionTable := #[], attributes := #[] }
def k6m0 : Method := { name := "in", desc := "(I)Lcom/example/probe/probe/Band;", sig := { parameters := [.int], returnType := some (.object "com/example/probe/probe/Band") }, accessFlags := 8, code := some k6c0 }
/-- com/example/probe/probe/Band -/
def k6 : Class := { plain "com/example/probe/probe/Band" (some 5) with
  accessFlags := 16433
  interfaces := #[]
  cf := some (fileOf pool6 1 #[] #[{ accessFlags := 8, nameIndex := 45, descriptorIndex := 46, attributes := #[] }] 16433 23 #[] #[{ accessFlags := 16409, nameIndex := 5, descriptorIndex := 6, attributes := #[] }, { accessFlags := 16409, nameIndex := 9, descriptorIndex := 6, attributes := #[] }, { accessFlags := 16409, nameIndex := 12, descriptorIndex := 6, attributes := #[] }, { accessFlags := 26, nameIndex := 55, descriptorIndex := 16, attributes := #[] }, { accessFlags := 18, nameIndex := 34, descriptorIndex := 35, attributes := #[] }, { accessFlags := 18, nameIndex := 38, descriptorIndex := 39, attributes := #[] }, { accessFlags := 18, nameIndex := 42, descriptorIndex := 39, attributes := #[] }, { accessFlags := 4122, nameIndex := 15, descriptorIndex := 16, attributes := #[] }])
  fields := #[{ name := "GHZ_2_4", type := (.object "com/example/probe/probe/Band"), accessFlags := 16409, slot := 0, constantValue := 0 }, { name := "GHZ_5", type := (.object "com/example/probe/probe/Band"), accessFlags := 16409, slot := 1, constantValue := 0 }, { name := "GHZ_6", type := (.object "com/example/probe/probe/Band"), accessFlags := 16409, slot := 2, constantValue := 0 }, { name := "ALL", type := (.array (.object "com/example/probe/probe/Band")), accessFlags := 26, slot := 3, constantValue := 0 }, { name := "key", type := (.object "java/lang/String"), accessFlags := 18, slot := 3, constantValue := 0 }, { name := "lowestKhz", type := .int, accessFlags := 18, slot := 4, constantValue := 0 }, { name := "highestKhz", type := .int, accessFlags := 18, slot := 5, constantValue := 0 }, { name := "$VALUES", type := (.array (.object "com/example/probe/probe/Band")), accessFlags := 4122, slot := 4, constantValue := 0 }]
  methods := #[k6m0]
  instanceTypes := #[(.object "java/lang/String"), .int, .int, (.object "java/lang/String"), .int, .int]
  staticTypes := #[(.object "com/example/probe/probe/Band"), (.object "com/example/probe/probe/Band"), (.object "com/example/probe/probe/Band"), (.array (.object "com/example/probe/probe/Band")), (.array (.object "com/example/probe/probe/Band"))]
  resolved := Array.replicate 97 none
  statics := some 0 }

def pool7 : Array CpInfo := pool [(1, u "java/lang/Cloneable"), (0, .class_ 1), (0, u "java/lang/Object"), (0, .class_ 3)] 3

/-- java/lang/Cloneable -/
def k7 : Class := { plain "java/lang/Cloneable" (some 0) with
  accessFlags := 1537
  interfaces := #[]
  cf := some (fileOf pool7 2 #[] #[] 1537 4 #[] #[])
  fields := #[]
  methods := #[]
  instanceTypes := #[]
  staticTypes := #[]
  resolved := Array.replicate 8 none
  statics := none }

/-- the primitive byte -/
def k8 : Class := { plain "byte" none with kind := .primitive 'B', accessFlags := 0x411 }
/-- [B -/
def k9 : Class := { plain "[B" (some 0) with kind := .array 8 .byte, interfaces := #[7, 4], accessFlags := 1041 }

/-- the primitive int -/
def k10 : Class := { plain "int" none with kind := .primitive 'I', accessFlags := 0x411 }
/-- [I -/
def k11 : Class := { plain "[I" (some 0) with kind := .array 10 .int, interfaces := #[7, 4], accessFlags := 1041 }

/-- [Lcom/example/probe/probe/Band; -/
def k12 : Class := { plain "[Lcom/example/probe/probe/Band;" (some 0) with kind := .array 6 (.object "com/example/probe/probe/Band"), interfaces := #[7, 4], accessFlags := 1041 }

def heap : Heap := #[{ cls := 6, slots := #[.ref 2, .ref 3, .ref 4, .ref 1, .null], vm := .statics 6 },
  { cls := 12, slots := #[.ref 2, .ref 3, .ref 4], vm := .none },
  { cls := 6, slots := #[.null, .int 0, .int 0, .null, .int (2400000), .int (2500000)], vm := .none },
  { cls := 6, slots := #[.null, .int 0, .int 0, .null, .int (5150000), .int (5924000)], vm := .none },
  { cls := 6, slots := #[.null, .int 0, .int 0, .null, .int (5925000), .int (7125000)], vm := .none }]
def classes : Array Class := #[k0, k1, k2, k3, k4, k5, k6, k7, k8, k9, k10, k11, k12]
def interned : List (Array UInt16 × Addr) := []
def slotsUsed : Nat := 26
def theMethod : MethodId := ⟨1, 2⟩
def args0 : Array Value := #[.int 5, .int 3]
def aboutOver (below : List Frame) : State where
  vm := { classes := classes, interned := interned.toArray }
  heap := heap
  slotsUsed := slotsUsed
  threads := #[{ frames := .invoking theMethod args0 :: below }]
def below0 : List Frame := [.native { method := ⟨0, 0⟩, args := #[] }]
def about1 : State := aboutOver below0
def p0 : Program := .bare "" "" ""
def e0 : Env := launch0.env 0 0 0
theorem w_frames : about1.frames = Frame.invoking theMethod args0 :: below0 := rfl
set_option maxRecDepth 65536 in
theorem w_args : argsFit about1.vm theMethod args0 = true := by decide +kernel
set_option maxRecDepth 65536 in
theorem w_heap : heapFits about1 = true := by decide +kernel
set_option maxRecDepth 65536 in
theorem w_runnable : about1.curStatus? = some .runnable := by decide +kernel
set_option maxRecDepth 65536 in
theorem w_alone : about1.alone = true := by decide +kernel
set_option maxRecDepth 65536 in
theorem w_named : about1.methodNamed? x = some theMethod := by decide +kernel
set_option maxRecDepth 65536 in
theorem w_hears : about1.hears theMethod below0 = true := by decide +kernel
set_option maxRecDepth 65536 in
theorem w_ripe : about1.ripe theMethod args0 below0 = true := by decide +kernel
theorem w_running : about1.status = .running := rfl
set_option maxRecDepth 65536 in
theorem w_room : about1.hasRoom e0.platform room_1 = true :=
  launch0.hasRoom_least _ room_1 (by decide +kernel) (by decide +kernel) (by decide +kernel) (by decide +kernel) (by decide +kernel) (by decide +kernel)
theorem allAtoms_all (ts : List Jvm.Cond) (a : Array Jvm.Value) (st : Jvm.State) : (allAtoms ts).before a st = ts.all (fun c => c.before a st) := by
  induction ts with
  | nil => rfl
  | cons c t ih =>
    show (Jvm.Cond.and c (allAtoms t)).before a st = _
    rw [Jvm.Cond.before_and, ih, List.all_cons]
def words1 : List Jvm.Cond := Jvm.Cond.code x code maxLocals ret :: tables_1
/-- a 'code' word, met by the world's own term for the bytes: nothing is compared byte by byte -/
theorem code_word {y : MethodName} {bytes : ByteArray} {mx : Nat} {rt : Option FieldType} {a : Array Value} {s : State} {m : MethodId} {meth : Method} {c : Code} (h1 : s.methodNamed? y = some m) (h2 : s.vm.method? m = some meth) (h3 : meth.code = some c) (h4 : c.code = bytes)
    (h5 : (c.maxLocals == mx && c.exceptionTable.isEmpty && decide (c.maxStack ≤ mostOperands) && decide (meth.sig.returnType = rt) && !meth.locks && decide (parseMethodDescriptor y.desc = some meth.sig)) = true) : (Jvm.Cond.code y bytes mx rt).before a s = true := by
  simp only [Bool.and_eq_true, beq_iff_eq, Bool.not_eq_true', decide_eq_true_eq] at h5
  obtain ⟨⟨⟨⟨⟨g1, g2⟩, g3⟩, g4⟩, g5⟩, g6⟩ := h5
  simp [Cond.before, Cond.holds, Cond.value, h1, h2, h3, h4, g1, g2, g3, g4, g5, g6]
def isCode : Jvm.Cond → Bool
  | .code _ _ _ _ => true
  | _ => false
theorem all_split {L : List Jvm.Cond} {P : Jvm.Cond → Bool} (h1 : L.all (fun c => isCode c || P c) = true) (h2 : ∀ c ∈ L.filter isCode, P c = true) : L.all P = true := by
  refine List.all_eq_true.mpr fun c hc => ?_
  have h := List.all_eq_true.mp h1 c hc
  rcases Bool.eq_false_or_eq_true (isCode c) with hi | hi
  · exact h2 c (List.mem_filter.mpr ⟨hc, hi⟩)
  · simpa [hi] using h
set_option maxRecDepth 65536 in
theorem w_c0 : (Jvm.Cond.code x code maxLocals ret).before args0 about1 = true := code_word (m := ⟨1, 2⟩) (meth := k1m2) (c := k1c2) (by decide +kernel) rfl rfl rfl (by decide +kernel)
set_option maxRecDepth 65536 in
theorem w_c1 : (Jvm.Cond.code ({ cls := "com/example/probe/probe/Band", name := "in", desc := "(I)Lcom/example/probe/probe/Band;" } : Jvm.MethodName) prog_2_method_5_code (5 : Nat) (Option.some (Jvm.ClassFile.FieldType.object "com/example/probe/probe/Band"))).before args0 about1 = true := code_word (m := ⟨6, 0⟩) (meth := k6m0) (c := k6c0) (by decide +kernel) rfl rfl rfl (by decide +kernel)
set_option maxRecDepth 65536 in
theorem w_c2 : (Jvm.Cond.code ({ cls := "com/example/probe/probe/BandInPinLaw", name := "expected", desc := "(I)Lcom/example/probe/probe/Band;" } : Jvm.MethodName) method_2_code (1 : Nat) (Option.some (Jvm.ClassFile.FieldType.object "com/example/probe/probe/Band"))).before args0 about1 = true := code_word (m := ⟨1, 1⟩) (meth := k1m1) (c := k1c1) (by decide +kernel) rfl rfl rfl (by decide +kernel)
def codes1 : List Jvm.Cond := [Jvm.Cond.code x code maxLocals ret, Jvm.Cond.code ({ cls := "com/example/probe/probe/Band", name := "in", desc := "(I)Lcom/example/probe/probe/Band;" } : Jvm.MethodName) prog_2_method_5_code (5 : Nat) (Option.some (Jvm.ClassFile.FieldType.object "com/example/probe/probe/Band")), Jvm.Cond.code ({ cls := "com/example/probe/probe/BandInPinLaw", name := "expected", desc := "(I)Lcom/example/probe/probe/Band;" } : Jvm.MethodName) method_2_code (1 : Nat) (Option.some (Jvm.ClassFile.FieldType.object "com/example/probe/probe/Band"))]
set_option maxRecDepth 65536 in
theorem codes_eq : words1.filter isCode = codes1 := rfl
theorem w_codes : ∀ c ∈ words1.filter isCode, c.before args0 about1 = true := by
  rw [codes_eq]
  intro c hc
  simp only [codes1, List.mem_cons, List.not_mem_nil, or_false] at hc
  rcases hc with rfl | rfl | rfl
  · exact w_c0
  · exact w_c1
  · exact w_c2
set_option maxRecDepth 65536 in
theorem w_t1 : (words1.take 24).all (fun c => isCode c || c.before args0 about1) = true := by decide +kernel
set_option maxRecDepth 65536 in
theorem w_t2 : (words1.drop 24).all (fun c => isCode c || c.before args0 about1) = true := by decide +kernel
theorem w_tables : (allAtoms (Jvm.Cond.code x code maxLocals ret :: tables_1)).before args0 about1 = true := by
  rw [allAtoms_all]
  show words1.all (fun c => c.before args0 about1) = true
  refine all_split ?_ w_codes
  rw [← List.take_append_drop 24 words1, List.all_append, w_t1, w_t2]
  rfl
set_option maxRecDepth 65536 in
theorem w_case : (Jvm.Cond.and given_1 narrow_1).before args0 about1 = true := by decide +kernel
theorem w_applies : (headSpec (Jvm.Cond.code x code maxLocals ret :: tables_1) room_1).applies x e0.platform about1 = true :=
  (Spec.applies_iff w_frames).mpr ⟨w_running, w_runnable, w_alone, w_named, w_hears, w_ripe, w_room, w_tables⟩
theorem atStart : AtStart classFile x code maxLocals ret World_1 tables_1 room_1 Calls_1 rest_1 Pre_1 launch0 p0 e0 about1 theMethod args0 below0 :=
  ⟨lists_1, trivial, launch0.admits_env _ _ _, launch0.least_env, fairChoices_fair.cas, fairChoices_fair.clock, w_frames, w_args, w_heap, w_applies, trivial, trivial, w_case⟩
end start1
theorem witness_1 : WitnessClaimed_1 := ⟨start1.p0, start1.e0, start1.about1, start1.theMethod, start1.args0, start1.below0, start1.atStart⟩
end Jvm.Pilot.@@N@@
