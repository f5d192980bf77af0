import JvmDerived
import JvmDerived.Pilot.@@N@@Statement
import JvmDerived.Pilot.@@N@@Code
set_option linter.unusedVariables false
set_option linter.unusedSimpArgs false
namespace Jvm.Pilot.@@N@@
open Jvm Jvm.ClassFile Sem Op Lib Jvm.Free Jvm.Stand Jvm.LawKit Jvm.RoadKit Bundle Jvm.Pilot.@@N@@.Jvm.D
theorem own_exa_ns {Z : State} {h : Heap} {a : Addr} {C : String} (E : Exa Z h a C) : ∀ c : Cell, h[a]? = some c → c.vm.isStatics = false := fun c hc => by
  obtain ⟨cell, k, h1, -, -, h4, -⟩ := E
  rw [h1] at hc; cases hc; exact h4
theorem own_sta_keep {Z : State} {h h' : Heap} {C n d : String} {v : Value} {ws : List Addr} (F : Sta Z h C n d v) (K : Keep h h' ws) (q : ∀ x ∈ ws, ∀ c : Cell, h[x]? = some c → c.vm.isStatics = false) : Sta Z h' C n d v := by
  obtain ⟨cf, i, k, f, st, cell, h1, h2, h3, h4, h5, h6, h7⟩ := F
  exact ⟨cf, i, k, f, st, cell, h1, h2, h3, h4, K.2.1 st cell h5 (fun hm => by have := q st hm cell h5; rw [h6] at this; cases this), h6, h7⟩
theorem own_ins_keep {Z : State} {h h' : Heap} {a : Addr} {C : String} {b : Bool} {ws : List Addr} (F : Ins Z h a C b) (K : Keep h h' ws) : Ins Z h' a C b := by
  obtain ⟨cell, cT, h1, h2, h3⟩ := F
  obtain ⟨c', q1, q2, q3, -⟩ := K.2.2 a cell h1
  exact ⟨c', cT, q1, h2, by rw [q3, q2]; exact h3⟩
theorem own_ne {r c : Int32} (k : Int) (hc : c.toInt = k) (h : ¬ r = c) : ¬ r.toInt = k := fun e => h (Int32.toInt_inj.mp (e.trans hc.symm))
theorem own_cat1 {v : Value} (h : v.isRef = true) : 2 * 0 + ([v].map fun v => v.category).sum ≤ 1 := by simp [XT.cat1 h]
theorem own_nz {z : Int32} (h : z = 0 ∨ z = 1) : narrow .boolean (.int z) = .int z := by rcases h with rfl | rfl <;> rfl
theorem own_eqi {a : Term} {args : Array Value} {s : State} {k : Int32} (h : (Jvm.Cond.eq a (Term.int k)).value args s none s [] = some true) : a.eval args s none [] s = some (.int k) := by
  cases ha : a.eval args s none [] s with
  | none => simp [Cond.value, ha] at h
  | some x => cases x <;> simp [Cond.value, ha, Term.eval] at h ⊢; exact h
theorem own_eqr {a b : Term} {args : Array Value} {s : State} {y : Addr} (hb : b.eval args s none [] s = some (.ref y)) (h : (Jvm.Cond.eq a b).value args s none s [] = some true) : a.eval args s none [] s = some (.ref y) := by
  cases ha : a.eval args s none [] s with
  | none => simp [Cond.value, ha] at h
  | some x => cases x <;> simp [Cond.value, ha, hb] at h ⊢; exact h
theorem own_len {t : Term} {args : Array Value} {s : State} {n : Int32} {x : Addr} {c : Cell} {ty : FieldType} (h : (Term.length t).eval args s none [] s = some (.int n)) (ht : t.eval args s none [] s = some (.ref x)) (A : Arr s s.heap x c ty) : c.slots.size < 2 ^ 31 ∧ c.slots.size.toInt32 = n := by
  have ha : s.arrayAt? x = some c := Arr.fin (Vm.Alike.refl _) A
  simp only [Term.eval, ht, ha, Option.bind_eq_bind, Option.bind_some] at h
  split at h
  · rename_i hl; simp at h; exact ⟨hl, h⟩
  · cases h
theorem own_ns_root {Z : State} {a0 : Array Value} {O K : String} {n : Nat} (w : (Jvm.Cond.noSuperclass O).before a0 Z = true) (wk : (Jvm.Cond.instantiable K n).before a0 Z = true) (hn : O ≠ K) : NS Z O K := by
  obtain ⟨c, k, h1, h2, h3, -, -⟩ := Cond.noSuperclass_spec w
  obtain ⟨t, kt, g1, -⟩ := Cond.instantiable_spec wk
  have ne := ids_ne h1 g1 hn
  refine ⟨c, t, h1, g1, fun fuel => ?_⟩
  cases fuel with
  | zero => rfl
  | succ f => simp [Vm.isSubclassAux, ne, h2, h3]
theorem own_ns_no {Z : State} {a0 : Array Value} {C S K : String} {n : Nat} (w : (Jvm.Cond.superclass C S).before a0 Z = true) (wk : (Jvm.Cond.instantiable K n).before a0 Z = true) (n : NS Z C K) (hn : C ≠ K) : ∃ c t, Z.vm.findClass C = some c ∧ Z.vm.findClass K = some t ∧ Z.vm.assignable c t = false := by
  obtain ⟨c, t, h0, g0, n3⟩ := n
  obtain ⟨p, k, kp, h1, h2, h3, h4, h5, -, h7⟩ := Cond.superclass_spec h0 w
  obtain ⟨t', k', g0', g2, g5, g6, -, -⟩ := Cond.instantiable_spec wk
  cases g0.symm.trans g0'
  simp only [Bool.or_eq_false_iff] at g6
  have ne := ids_ne h0 g0 hn
  refine ⟨c, t, h0, g0, ?_⟩
  show Z.vm.assignableAux (255 + 1) c t = false
  simp [Vm.assignableAux, ne, h2, g2, h5, g5, g6.1, Vm.isSubclass, n3]
theorem own_arr_keep {Z : State} {h h' : Heap} {a : Addr} {c : Cell} {ty : FieldType} {ws : List Addr} (A : Arr Z h a c ty) (K : Keep h h' ws) (q : a ∉ ws) : Arr Z h' a c ty := ⟨K.2.1 a c A.1 q, A.2⟩
def LCache (Z : State) (h : Heap) (cc : Cell) : Prop := ∀ j : Int32, ¬ (j < 0 ∨ cc.slots.size ≤ j.toNatClampNeg) → ∃ x : Addr, cc.slots[j.toNatClampNeg]? = some (.ref x) ∧ Exa Z h x "java/lang/Long"
theorem LCache.ext {Z : State} {h h' : Heap} {cc : Cell} (F : LCache Z h cc) (E : Ext h h') : LCache Z h' cc := fun j hj => by obtain ⟨x, q, r⟩ := F j hj; exact ⟨x, q, r.ext E⟩
theorem LCache.wr {Z : State} {h h' : Heap} {cc : Cell} {a : Addr} {sl : Nat} {v : Value} (F : LCache Z h cc) (W : Wr h h' a sl v) : LCache Z h' cc := fun j hj => by obtain ⟨x, q, r⟩ := F j hj; exact ⟨x, q, r.wr W⟩
theorem LCache.keep {Z : State} {h h' : Heap} {cc : Cell} {ws : List Addr} (F : LCache Z h cc) (K : Keep h h' ws) : LCache Z h' cc := fun j hj => by obtain ⟨x, q, r⟩ := F j hj; exact ⟨x, q, r.keep K⟩
theorem own_cache_idx (q0 : Int64) (h1 : ¬ q0 < (-128 : Int64)) (h2 : ¬ (127 : Int64) < q0) {cc : Cell} (hs : cc.slots.size = 256) : ¬ (q0.toInt32 + (128 : Int32) < 0 ∨ cc.slots.size ≤ (q0.toInt32 + (128 : Int32)).toNatClampNeg) := by
  rw [Int64.lt_iff_toInt_lt] at h1 h2
  have a1 : (-128 : Int64).toInt = -128 := rfl
  have a2 : (127 : Int64).toInt = 127 := rfl
  have e1 := c_l2i q0
  have r1 := rng32 q0.toInt32
  have e2 := c_iadd q0.toInt32 128
  have r2 := rng32 (q0.toInt32 + 128)
  have a3 : (128 : Int32).toInt = 128 := rfl
  have e3 : (0 : Int32).toInt = 0 := rfl
  have hn : ¬ q0.toInt32 + (128 : Int32) < 0 := by rw [Int32.lt_iff_toInt_lt]; omega
  have e4 := nat_of hn
  rintro (q | q)
  · exact hn q
  · omega
theorem own_cache {s : State} {args : Array Value} {x : Addr} {c : Cell} {t : Term} {d : Jvm.Cond} (ev : t.eval args s none [] s = some (.ref x)) (A : Arr s s.heap x c (.object "java/lang/Long")) (ht : ∀ i, t.eval args s none [i] s = t.eval args s none [] s) (hl : c.slots.size < 2 ^ 31)
    (w : (Jvm.Cond.all t (.and (.exactly (.elem t (.index 0)) "java/lang/Long") d)).value args s none s [] = some true) : LCache s s.heap c := by
  intro j hj
  have hj1 : ¬ j < 0 := fun q => hj (Or.inl q)
  have hj2 : j.toNatClampNeg < c.slots.size := Nat.lt_of_not_le fun q => hj (Or.inr q)
  have ha : s.arrayAt? x = some c := Arr.fin (Vm.Alike.refl _) A
  have h := Cond.all_elim ev ha w j.toNatClampNeg hj2
  have hv := (and_e h).1
  obtain ⟨y, ey⟩ := exa_v hv
  have ex := exa_at ey hv
  have hx := elem_in ey ((ht _).trans ev) (idx_at hj1) A.1
  exact ⟨y, hx.2, ex⟩

theorem d1_0 : decode jdk_29_method_66_code 0 = .ok (.lload_n 0, 1) := by decide +kernel
theorem d1_1 : decode jdk_29_method_66_code 1 = .ok (.lload_n 2, 1) := by decide +kernel
theorem d1_2 : decode jdk_29_method_66_code 2 = .ok (.lcmp, 1) := by decide +kernel
theorem d1_3 : decode jdk_29_method_66_code 3 = .ok (.ifCond .lt 7, 3) := by decide +kernel
theorem d1_10 : decode jdk_29_method_66_code 10 = .ok (.lload_n 2, 1) := by decide +kernel
theorem d1_6 : decode jdk_29_method_66_code 6 = .ok (.lload_n 0, 1) := by decide +kernel
theorem d1_7 : decode jdk_29_method_66_code 7 = .ok (.goto 4, 3) := by decide +kernel
theorem d1_11 : decode jdk_29_method_66_code 11 = .ok (.lreturn, 1) := by decide +kernel
def b1_3 (q0 : Int64) (q1 : Int64) : Int64 := (if q0 < q1 then q1 else q0)
def f1 (q0 : Int64) (q1 : Int64) : Int64 := (b1_3 q0 q1)
def Q1 (Z : State) (n0 : Nat) (q0 : Int64) (q1 : Int64) (h0 : Heap) (v : Option Value) (h : Heap) (L : List Loc) : Prop := v = some (.long (f1 q0 q1)) ∧ Fr n0 L ∧ h = h0
theorem ef1 (m : MethodId) (q0 : Int64) (q1 : Int64) : entryFrame m #[(.long q0), (.long q1)] 4 = mkF m 0 #[.val (.long q0), .second, .val (.long q1), .second] [] := by first | (simp [entryFrame, mkF, argsToLocals, Value.category]; done) | rfl
set_option maxRecDepth 65536 in
set_option maxHeartbeats 40000000 in
theorem rm1 (l : Launch) (Z : State) (aZ : Array Value) (hw : ∀ d ∈ tables_1, d.before aZ Z = true) (ws : List Jvm.Cond) (q0 : Int64) (q1 : Int64) (h0 : Heap) (n0 : Nat) (Z0 : n0 ≤ h0.size) :
    MetFree l (⟨"java/lang/Math", "max", "(JJ)J"⟩ : MethodName) (head1 (Jvm.Cond.code (⟨"java/lang/Math", "max", "(JJ)J"⟩ : MethodName) jdk_29_method_66_code 4 (some .long) :: ws) ({ frames := 0, cells := 0, slots := 0, locals := 0 } : Room)) (fun a U => a = #[(.long q0), (.long q1)] ∧ Z.Warmed39 U.vm ∧ U.heap = h0) (fun _ _ _ _ _ => True) (fun _ U o U' => ∃ v L, o = .returned v ∧ Q1 Z n0 q0 q1 h0 v U'.heap L ∧ FrameEnd U o U' L ({ frames := 0, cells := 0, slots := 0, locals := 0 } : Room).cells ({ frames := 0, cells := 0, slots := 0, locals := 0 } : Room).slots) := by
  refine MetFree.of_bodySF (Jvm.Free.JP.mathPlain rfl (by decide +kernel)) hisR ?_
  intro p e s m args below meth c s₁ Bd hml0 hP hK
  obtain ⟨rfl, hZ, hh⟩ := hP
  have hx := Bd.exec
  have hby := Bd.bytes
  have hml : c.maxLocals = 4 := hml0
  have hown : s.vm.findClass "java/lang/Math" = some m.cls := findClass_of_methodNamed Bd.named
  have hnm := (name_of_methodNamed Bd.named Bd.method).1
  have X0 : Stand p l e ({ frames := 0, cells := 0, slots := 0, locals := 0 } : Room) s m #[(.long q0), (.long q1)] below meth c s₁ [] 0 0 := Stand.of_body Bd
  have e0 : s₁.heap = h0 := by rw [← hh, Bd.state]; rfl
  have N0 := Fr.nil n0
  have K0 : Keep h0 h0 [] := Keep.refl _ _
  have go0 : ∀ t, Steps p.tables e below (s₁.setTop (mkF m 0 #[.val (.long q0), .second, .val (.long q1), .second] [])) t → Steps p.tables e below (s₁.setTop (entryFrame m #[(.long q0), (.long q1)] 4)) t := fun t k => castTop (ef1 m q0 q1) k
  have go2 : ∀ t, Steps p.tables e below (s₁.setTop (mkF m 11 #[.val (.long q0), .second, .val (.long q1), .second] [(.long (b1_3 q0 q1))])) t → Steps p.tables e below (s₁.setTop (entryFrame m #[(.long q0), (.long q1)] 4)) t := by
    intro t k
    refine go0 _ ?_
    refine XS.lloadN X0.here hx rfl (hb hby d1_0) rfl ?_
    show Steps p.tables e below (s₁.setTop (mkF m 1 #[.val (.long q0), .second, .val (.long q1), .second] [(.long q0)])) t
    refine XS.lloadN X0.here hx rfl (hb hby d1_1) rfl ?_
    show Steps p.tables e below (s₁.setTop (mkF m 2 #[.val (.long q0), .second, .val (.long q1), .second] [(.long q1), (.long q0)])) t
    refine XT.lcmp X0.here hx rfl (hb hby d1_2) rfl ?_
    show Steps p.tables e below (s₁.setTop (mkF m 3 #[.val (.long q0), .second, .val (.long q1), .second] [(.int (XT.cmpL q0 q1))])) t
    by_cases hc1 : q0 < q1
    · refine XS.ifYes X0.here hx rfl (pc0 := 3) (pc' := 10) rfl (hb hby d1_3) rfl (XT.ll_lt_t hc1) (by decide) (by decide) ?_
      show Steps p.tables e below (s₁.setTop (mkF m 10 #[.val (.long q0), .second, .val (.long q1), .second] [])) t
      refine XS.lloadN X0.here hx rfl (hb hby d1_10) rfl ?_
      show Steps p.tables e below (s₁.setTop (mkF m 11 #[.val (.long q0), .second, .val (.long q1), .second] [(.long q1)])) t
      have hq4 : (b1_3 q0 q1) = q1 := by rw [b1_3, if_pos hc1]
      rw [hq4] at k
      exact k
    · refine XS.ifNo X0.here hx rfl (hb hby d1_3) rfl (XT.ll_lt_f hc1) ?_
      show Steps p.tables e below (s₁.setTop (mkF m 6 #[.val (.long q0), .second, .val (.long q1), .second] [])) t
      refine XS.lloadN X0.here hx rfl (hb hby d1_6) rfl ?_
      show Steps p.tables e below (s₁.setTop (mkF m 7 #[.val (.long q0), .second, .val (.long q1), .second] [(.long q0)])) t
      refine XS.goto X0.here hx rfl (pc0 := 7) (pc' := 11) rfl (hb hby d1_7) (by decide) (by decide) ?_
      show Steps p.tables e below (s₁.setTop (mkF m 11 #[.val (.long q0), .second, .val (.long q1), .second] [(.long q0)])) t
      have hq5 : (b1_3 q0 q1) = q0 := by rw [b1_3, if_neg hc1]
      rw [hq5] at k
      exact k
  obtain ⟨fs, hr, hrun, hended, hW, hsame⟩ := X0.leave (v := some (.long (b1_3 q0 q1))) (fun h => by rw [Bd.returns] at h; cases h)
  refine ⟨_, _, go2 _ (Jvm.RoadKit.retOut X0 hx Bd.returns rfl (Or.inr (Or.inl ⟨rfl, rfl, _, rfl⟩)) (hb hby d1_11) hr), hrun, hended, _, _, rfl, ?_, ⟨_, rfl⟩, hW, hsame.mono (by decide) (by decide)⟩
  show Q1 _ _ q0 q1 h0 _ (s₁.setFrames fs).heap _
  have hE : (s₁.setFrames fs).heap = h0 := e0
  rw [hE]
  exact ⟨by rw [f1], N0, rfl⟩
theorem d2_0 : decode method_2_code 0 = .ok (.iload 4, 2) := by decide +kernel
theorem d2_2 : decode method_2_code 2 = .ok (.ifCond .ne 5, 3) := by decide +kernel
theorem d2_5 : decode method_2_code 5 = .ok (.lload_n 0, 1) := by decide +kernel
theorem d2_6 : decode method_2_code 6 = .ok (.lreturn, 1) := by decide +kernel
theorem d2_7 : decode method_2_code 7 = .ok (.iload 4, 2) := by decide +kernel
theorem d2_9 : decode method_2_code 9 = .ok (.iconst 1, 1) := by decide +kernel
theorem d2_10 : decode method_2_code 10 = .ok (.if_icmp .ne 13, 3) := by decide +kernel
theorem d2_13 : decode method_2_code 13 = .ok (.lconst 1, 1) := by decide +kernel
theorem d2_14 : decode method_2_code 14 = .ok (.lload_n 2, 1) := by decide +kernel
theorem d2_15 : decode method_2_code 15 = .ok (.ldc2_w 7, 3) := by decide +kernel
theorem d2_18 : decode method_2_code 18 = .ok (.land, 1) := by decide +kernel
theorem d2_19 : decode method_2_code 19 = .ok (.invokestatic 9, 3) := by decide +kernel
theorem pd_22 : parseMethodDescriptor "(JJ)J" = some ⟨[.long, .long], some .long⟩ := by decide +kernel
theorem d2_22 : decode method_2_code 22 = .ok (.lreturn, 1) := by decide +kernel
theorem d2_23 : decode method_2_code 23 = .ok (.iload 4, 2) := by decide +kernel
theorem d2_25 : decode method_2_code 25 = .ok (.iconst 2, 1) := by decide +kernel
theorem d2_26 : decode method_2_code 26 = .ok (.if_icmp .ne 21, 3) := by decide +kernel
theorem d2_29 : decode method_2_code 29 = .ok (.lload_n 0, 1) := by decide +kernel
theorem d2_30 : decode method_2_code 30 = .ok (.ldc2_w 7, 3) := by decide +kernel
theorem d2_33 : decode method_2_code 33 = .ok (.lcmp, 1) := by decide +kernel
theorem d2_34 : decode method_2_code 34 = .ok (.ifCond .ne 9, 3) := by decide +kernel
theorem d2_37 : decode method_2_code 37 = .ok (.lload_n 0, 1) := by decide +kernel
theorem d2_38 : decode method_2_code 38 = .ok (.lconst 1, 1) := by decide +kernel
theorem d2_39 : decode method_2_code 39 = .ok (.lsub, 1) := by decide +kernel
theorem d2_40 : decode method_2_code 40 = .ok (.goto 6, 3) := by decide +kernel
theorem d2_43 : decode method_2_code 43 = .ok (.lload_n 0, 1) := by decide +kernel
theorem d2_44 : decode method_2_code 44 = .ok (.lconst 1, 1) := by decide +kernel
theorem d2_45 : decode method_2_code 45 = .ok (.ladd, 1) := by decide +kernel
theorem d2_46 : decode method_2_code 46 = .ok (.lreturn, 1) := by decide +kernel
theorem d2_47 : decode method_2_code 47 = .ok (.lload_n 0, 1) := by decide +kernel
theorem d2_48 : decode method_2_code 48 = .ok (.lconst 1, 1) := by decide +kernel
theorem d2_49 : decode method_2_code 49 = .ok (.lcmp, 1) := by decide +kernel
theorem d2_50 : decode method_2_code 50 = .ok (.ifCond .ne 9, 3) := by decide +kernel
theorem d2_53 : decode method_2_code 53 = .ok (.ldc2_w 15, 3) := by decide +kernel
theorem d2_56 : decode method_2_code 56 = .ok (.goto 6, 3) := by decide +kernel
theorem d2_59 : decode method_2_code 59 = .ok (.lload_n 0, 1) := by decide +kernel
theorem d2_60 : decode method_2_code 60 = .ok (.lconst 1, 1) := by decide +kernel
theorem d2_61 : decode method_2_code 61 = .ok (.lsub, 1) := by decide +kernel
theorem d2_62 : decode method_2_code 62 = .ok (.lreturn, 1) := by decide +kernel
theorem pn_52 : plainName "com/example/weir/weir/WindowEqualsPinLaw" = true := by first | (simp [plainName, overriddenIn]; done) | decide +kernel
def v2_6 (q1 : Int64) : Int64 := (q1 &&& (9007199254740991 : Int64))
def v2_10 (q1 : Int64) : Int64 := (f1 (1 : Int64) (v2_6 q1))
def b2_16 (q0 : Int64) : Int64 := (if q0 = (9007199254740991 : Int64) then (q0 - (1 : Int64)) else (q0 + (1 : Int64)))
def b2_21 (q0 : Int64) : Int64 := (if q0 = (1 : Int64) then (2 : Int64) else (q0 - (1 : Int64)))
def f2 (q0 : Int64) (q1 : Int64) (p2 : Int32) : Int64 := (if p2 = (0 : Int32) then q0 else (if p2 = (1 : Int32) then (v2_10 q1) else (if p2 = (2 : Int32) then (b2_16 q0) else (b2_21 q0))))
def Q2 (Z : State) (n0 : Nat) (q0 : Int64) (q1 : Int64) (p2 : Int32) (h0 : Heap) (v : Option Value) (h : Heap) (L : List Loc) : Prop := v = some (.long (f2 q0 q1 p2)) ∧ Fr n0 L ∧ h = h0
theorem ef2 (m : MethodId) (q0 : Int64) (q1 : Int64) (p2 : Int32) : entryFrame m #[(.long q0), (.long q1), (.int p2)] 5 = mkF m 0 #[.val (.long q0), .second, .val (.long q1), .second, .val (.int p2)] [] := by first | (simp [entryFrame, mkF, argsToLocals, Value.category]; done) | rfl
set_option maxRecDepth 65536 in
set_option maxHeartbeats 40000000 in
theorem rm2 (l : Launch) (Z : State) (aZ : Array Value) (hw : ∀ d ∈ tables_1, d.before aZ Z = true) (ws : List Jvm.Cond) (q0 : Int64) (q1 : Int64) (p2 : Int32) (h0 : Heap) (n0 : Nat) (Z0 : n0 ≤ h0.size) :
    MetFree l (⟨"com/example/weir/weir/WindowEqualsPinLaw", "pickLimit", "(JJI)J"⟩ : MethodName) (head1 (Jvm.Cond.code (⟨"com/example/weir/weir/WindowEqualsPinLaw", "pickLimit", "(JJI)J"⟩ : MethodName) method_2_code 5 (some .long) :: ws) ({ frames := 1, cells := 0, slots := 0, locals := 15 } : Room)) (fun a U => a = #[(.long q0), (.long q1), (.int p2)] ∧ Z.Warmed39 U.vm ∧ U.heap = h0) (fun _ _ _ _ _ => True) (fun _ U o U' => ∃ v L, o = .returned v ∧ Q2 Z n0 q0 q1 p2 h0 v U'.heap L ∧ FrameEnd U o U' L ({ frames := 1, cells := 0, slots := 0, locals := 15 } : Room).cells ({ frames := 1, cells := 0, slots := 0, locals := 15 } : Room).slots) := by
  refine MetFree.of_bodySF (plainFor_of_name pn_52) hisR ?_
  intro p e s m args below meth c s₁ Bd hml0 hP hK
  obtain ⟨rfl, hZ, hh⟩ := hP
  have hx := Bd.exec
  have hby := Bd.bytes
  have hml : c.maxLocals = 5 := hml0
  have hown : s.vm.findClass "com/example/weir/weir/WindowEqualsPinLaw" = some m.cls := findClass_of_methodNamed Bd.named
  have hnm := (name_of_methodNamed Bd.named Bd.method).1
  have X0 : Stand p l e ({ frames := 1, cells := 0, slots := 0, locals := 15 } : Room) s m #[(.long q0), (.long q1), (.int p2)] below meth c s₁ [] 0 0 := Stand.of_body Bd
  have e0 : s₁.heap = h0 := by rw [← hh, Bd.state]; rfl
  have N0 := Fr.nil n0
  have K0 : Keep h0 h0 [] := Keep.refl _ _
  have go0 : ∀ t, Steps p.tables e below (s₁.setTop (mkF m 0 #[.val (.long q0), .second, .val (.long q1), .second, .val (.int p2)] [])) t → Steps p.tables e below (s₁.setTop (entryFrame m #[(.long q0), (.long q1), (.int p2)] 5)) t := fun t k => castTop (ef2 m q0 q1 p2) k
  have go1 : ∀ t, Steps p.tables e below (s₁.setTop (mkF m 2 #[.val (.long q0), .second, .val (.long q1), .second, .val (.int p2)] [(.int p2)])) t → Steps p.tables e below (s₁.setTop (entryFrame m #[(.long q0), (.long q1), (.int p2)] 5)) t := by
    intro t k
    refine go0 _ ?_
    refine XS.iload X0.here hx rfl (hb hby d2_0) rfl ?_
    show Steps p.tables e below (s₁.setTop (mkF m 2 #[.val (.long q0), .second, .val (.long q1), .second, .val (.int p2)] [(.int p2)])) t
    exact k
  by_cases hs2 : p2 = (0 : Int32)
  · have go3 : ∀ t, Steps p.tables e below (s₁.setTop (mkF m 6 #[.val (.long q0), .second, .val (.long q1), .second, .val (.int p2)] [(.long q0)])) t → Steps p.tables e below (s₁.setTop (entryFrame m #[(.long q0), (.long q1), (.int p2)] 5)) t := by
      intro t k
      refine go1 _ ?_
      refine XS.ifNo X0.here hx rfl (hb hby d2_2) rfl (XT.i0_ne_f hs2) ?_
      show Steps p.tables e below (s₁.setTop (mkF m 5 #[.val (.long q0), .second, .val (.long q1), .second, .val (.int p2)] [])) t
      refine XS.lloadN X0.here hx rfl (hb hby d2_5) rfl ?_
      show Steps p.tables e below (s₁.setTop (mkF m 6 #[.val (.long q0), .second, .val (.long q1), .second, .val (.int p2)] [(.long q0)])) t
      exact k
    obtain ⟨fs, hr, hrun, hended, hW, hsame⟩ := X0.leave (v := some (.long q0)) (fun h => by rw [Bd.returns] at h; cases h)
    refine ⟨_, _, go3 _ (Jvm.RoadKit.retOut X0 hx Bd.returns rfl (Or.inr (Or.inl ⟨rfl, rfl, _, rfl⟩)) (hb hby d2_6) hr), hrun, hended, _, _, rfl, ?_, ⟨_, rfl⟩, hW, hsame.mono (by decide) (by decide)⟩
    show Q2 _ _ q0 q1 p2 h0 _ (s₁.setFrames fs).heap _
    have hE : (s₁.setFrames fs).heap = h0 := e0
    rw [hE]
    exact ⟨by rw [f2, if_pos hs2], N0, rfl⟩
  · have go4 : ∀ t, Steps p.tables e below (s₁.setTop (mkF m 10 #[.val (.long q0), .second, .val (.long q1), .second, .val (.int p2)] [(.int (1 : Int32)), (.int p2)])) t → Steps p.tables e below (s₁.setTop (entryFrame m #[(.long q0), (.long q1), (.int p2)] 5)) t := by
      intro t k
      refine go1 _ ?_
      refine XS.ifYes X0.here hx rfl (pc0 := 2) (pc' := 7) rfl (hb hby d2_2) rfl (XT.i0_ne_t hs2) (by decide) (by decide) ?_
      show Steps p.tables e below (s₁.setTop (mkF m 7 #[.val (.long q0), .second, .val (.long q1), .second, .val (.int p2)] [])) t
      refine XS.iload X0.here hx rfl (hb hby d2_7) rfl ?_
      show Steps p.tables e below (s₁.setTop (mkF m 9 #[.val (.long q0), .second, .val (.long q1), .second, .val (.int p2)] [(.int p2)])) t
      refine XS.iconst X0.here hx rfl (hb hby d2_9) ?_
      show Steps p.tables e below (s₁.setTop (mkF m 10 #[.val (.long q0), .second, .val (.long q1), .second, .val (.int p2)] [(.int (1 : Int32)), (.int p2)])) t
      exact k
    by_cases hs5 : p2 = (1 : Int32)
    · have go7 : ∀ t, Steps p.tables e below (s₁.setTop (mkF m 19 #[.val (.long q0), .second, .val (.long q1), .second, .val (.int p2)] [(.long (v2_6 q1)), (.long (1 : Int64))])) t → Steps p.tables e below (s₁.setTop (entryFrame m #[(.long q0), (.long q1), (.int p2)] 5)) t := by
        intro t k
        refine go4 _ ?_
        refine XS.icmpNo X0.here hx rfl (hb hby d2_10) rfl (XT.ii_ne_f hs5) ?_
        show Steps p.tables e below (s₁.setTop (mkF m 13 #[.val (.long q0), .second, .val (.long q1), .second, .val (.int p2)] [])) t
        refine XS.lconst X0.here hx rfl (hb hby d2_13) ?_
        show Steps p.tables e below (s₁.setTop (mkF m 14 #[.val (.long q0), .second, .val (.long q1), .second, .val (.int p2)] [(.long (1 : Int64))])) t
        refine XS.lloadN X0.here hx rfl (hb hby d2_14) rfl ?_
        show Steps p.tables e below (s₁.setTop (mkF m 15 #[.val (.long q0), .second, .val (.long q1), .second, .val (.int p2)] [(.long q1), (.long (1 : Int64))])) t
        refine X0.ldc2Long hx hown (mvT hZ (hw _ (List.mem_of_getElem? (i := 0) rfl))) (g := (mkF m 15 #[.val (.long q0), .second, .val (.long q1), .second, .val (.int p2)] [(.long q1), (.long (1 : Int64))])) rfl (hb hby d2_15) _ ?_
        show Steps p.tables e below (s₁.setTop (mkF m 18 #[.val (.long q0), .second, .val (.long q1), .second, .val (.int p2)] [(.long (9007199254740991 : Int64)), (.long q1), (.long (1 : Int64))])) t
        refine XS.land X0.here hx rfl (hb hby d2_18) rfl ?_
        show Steps p.tables e below (s₁.setTop (mkF m 19 #[.val (.long q0), .second, .val (.long q1), .second, .val (.int p2)] [(.long (q1 &&& (9007199254740991 : Int64))), (.long (1 : Int64))])) t
        show Steps p.tables e below (s₁.setTop (mkF m 19 #[.val (.long q0), .second, .val (.long q1), .second, .val (.int p2)] [(.long (v2_6 q1)), (.long (1 : Int64))])) t
        exact k
      obtain ⟨_, _, ⟨T8, L8, k8, n8⟩, -, X8, ⟨Lc8, hQ8, l8, y8, z8⟩, st8⟩ := Jvm.LawKit.callS X0 hx (y := (⟨"java/lang/Math", "max", "(JJ)J"⟩ : MethodName)) hown (mvT hZ (hw _ (List.mem_of_getElem? (i := 1) rfl))) (mvT hZ (hw _ (List.mem_of_getElem? (i := 2) rfl))) (mvT hZ (hw _ (List.mem_of_getElem? (i := 3) rfl))) (mvT hZ (hw _ (List.mem_of_getElem? (i := 4) rfl))) (by decide) (backOf (W := 0) (rm1 l Z aZ hw [] (1 : Int64) (v2_6 q1) h0 n0 Z0 ) hZ (hw _ (List.mem_of_getElem? (i := 4) rfl)) (hw _ (List.mem_of_getElem? (i := 3) rfl)) (by decide) (by decide)) (g := (mkF m 19 #[.val (.long q0), .second, .val (.long q1), .second, .val (.int p2)] [(.long (v2_6 q1)), (.long (1 : Int64))])) rfl (by rw [hml]; rfl) (argsL := [(.long (1 : Int64)), (.long (v2_6 q1))]) (rest := []) (lenOf pd_22 rfl) rfl (by show 2 * 0 + _ ≤ _; exact Nat.le_of_eq rfl) (hb hby d2_19) (fun _ _ => ⟨rfl, e0, (by decide : 0 + 0 ≤ _), (by decide : 0 + 0 ≤ _)⟩)
      dsimp only [Pt.U, Pt.locs, Pt.cells, Pt.slots] at X8 l8 y8 z8 st8 hQ8
      subst l8 y8 z8
      obtain ⟨rfl, N8q, e8⟩ := hQ8
      have N8 := Fr.app N0 N8q
      have go9 : ∀ t, Steps p.tables e below (T8.setTop (mkF m 22 #[.val (.long q0), .second, .val (.long q1), .second, .val (.int p2)] [(.long (f1 (1 : Int64) (v2_6 q1)))])) t → Steps p.tables e below (s₁.setTop (entryFrame m #[(.long q0), (.long q1), (.int p2)] 5)) t := fun t k => go7 _ (st8 _ k)
      have go11 : ∀ t, Steps p.tables e below (T8.setTop (mkF m 22 #[.val (.long q0), .second, .val (.long q1), .second, .val (.int p2)] [(.long (v2_10 q1))])) t → Steps p.tables e below (s₁.setTop (entryFrame m #[(.long q0), (.long q1), (.int p2)] 5)) t := by
        intro t k
        refine go9 _ ?_
        show Steps p.tables e below (T8.setTop (mkF m 22 #[.val (.long q0), .second, .val (.long q1), .second, .val (.int p2)] [(.long (v2_10 q1))])) t
        exact k
      obtain ⟨fs, hr, hrun, hended, hW, hsame⟩ := X8.leave (v := some (.long (v2_10 q1))) (fun h => by rw [Bd.returns] at h; cases h)
      refine ⟨_, _, go11 _ (Jvm.RoadKit.retOut X8 hx Bd.returns rfl (Or.inr (Or.inl ⟨rfl, rfl, _, rfl⟩)) (hb hby d2_22) hr), hrun, hended, _, _, rfl, ?_, ⟨_, rfl⟩, hW, hsame.mono (by decide) (by decide)⟩
      show Q2 _ _ q0 q1 p2 h0 _ (T8.setFrames fs).heap _
      have hE : (T8.setFrames fs).heap = h0 := e8
      rw [hE]
      exact ⟨by rw [f2, if_neg hs2, if_pos hs5], N8, rfl⟩
    · have go12 : ∀ t, Steps p.tables e below (s₁.setTop (mkF m 26 #[.val (.long q0), .second, .val (.long q1), .second, .val (.int p2)] [(.int (2 : Int32)), (.int p2)])) t → Steps p.tables e below (s₁.setTop (entryFrame m #[(.long q0), (.long q1), (.int p2)] 5)) t := by
        intro t k
        refine go4 _ ?_
        refine XS.icmpYes X0.here hx rfl (pc0 := 10) (pc' := 23) rfl (hb hby d2_10) rfl (XT.ii_ne_t hs5) (by decide) (by decide) ?_
        show Steps p.tables e below (s₁.setTop (mkF m 23 #[.val (.long q0), .second, .val (.long q1), .second, .val (.int p2)] [])) t
        refine XS.iload X0.here hx rfl (hb hby d2_23) rfl ?_
        show Steps p.tables e below (s₁.setTop (mkF m 25 #[.val (.long q0), .second, .val (.long q1), .second, .val (.int p2)] [(.int p2)])) t
        refine XS.iconst X0.here hx rfl (hb hby d2_25) ?_
        show Steps p.tables e below (s₁.setTop (mkF m 26 #[.val (.long q0), .second, .val (.long q1), .second, .val (.int p2)] [(.int (2 : Int32)), (.int p2)])) t
        exact k
      by_cases hs13 : p2 = (2 : Int32)
      · have go15 : ∀ t, Steps p.tables e below (s₁.setTop (mkF m 46 #[.val (.long q0), .second, .val (.long q1), .second, .val (.int p2)] [(.long (b2_16 q0))])) t → Steps p.tables e below (s₁.setTop (entryFrame m #[(.long q0), (.long q1), (.int p2)] 5)) t := by
          intro t k
          refine go12 _ ?_
          refine XS.icmpNo X0.here hx rfl (hb hby d2_26) rfl (XT.ii_ne_f hs13) ?_
          show Steps p.tables e below (s₁.setTop (mkF m 29 #[.val (.long q0), .second, .val (.long q1), .second, .val (.int p2)] [])) t
          refine XS.lloadN X0.here hx rfl (hb hby d2_29) rfl ?_
          show Steps p.tables e below (s₁.setTop (mkF m 30 #[.val (.long q0), .second, .val (.long q1), .second, .val (.int p2)] [(.long q0)])) t
          refine X0.ldc2Long hx hown (mvT hZ (hw _ (List.mem_of_getElem? (i := 0) rfl))) (g := (mkF m 30 #[.val (.long q0), .second, .val (.long q1), .second, .val (.int p2)] [(.long q0)])) rfl (hb hby d2_30) _ ?_
          show Steps p.tables e below (s₁.setTop (mkF m 33 #[.val (.long q0), .second, .val (.long q1), .second, .val (.int p2)] [(.long (9007199254740991 : Int64)), (.long q0)])) t
          refine XT.lcmp X0.here hx rfl (hb hby d2_33) rfl ?_
          show Steps p.tables e below (s₁.setTop (mkF m 34 #[.val (.long q0), .second, .val (.long q1), .second, .val (.int p2)] [(.int (XT.cmpL q0 (9007199254740991 : Int64)))])) t
          by_cases hc14 : q0 = (9007199254740991 : Int64)
          · refine XS.ifNo X0.here hx rfl (hb hby d2_34) rfl (XT.ll_ne_f hc14) ?_
            show Steps p.tables e below (s₁.setTop (mkF m 37 #[.val (.long q0), .second, .val (.long q1), .second, .val (.int p2)] [])) t
            refine XS.lloadN X0.here hx rfl (hb hby d2_37) rfl ?_
            show Steps p.tables e below (s₁.setTop (mkF m 38 #[.val (.long q0), .second, .val (.long q1), .second, .val (.int p2)] [(.long q0)])) t
            refine XS.lconst X0.here hx rfl (hb hby d2_38) ?_
            show Steps p.tables e below (s₁.setTop (mkF m 39 #[.val (.long q0), .second, .val (.long q1), .second, .val (.int p2)] [(.long (1 : Int64)), (.long q0)])) t
            refine XS.lsub X0.here hx rfl (hb hby d2_39) rfl ?_
            show Steps p.tables e below (s₁.setTop (mkF m 40 #[.val (.long q0), .second, .val (.long q1), .second, .val (.int p2)] [(.long (q0 - (1 : Int64)))])) t
            refine XS.goto X0.here hx rfl (pc0 := 40) (pc' := 46) rfl (hb hby d2_40) (by decide) (by decide) ?_
            show Steps p.tables e below (s₁.setTop (mkF m 46 #[.val (.long q0), .second, .val (.long q1), .second, .val (.int p2)] [(.long (q0 - (1 : Int64)))])) t
            have hq17 : (b2_16 q0) = (q0 - (1 : Int64)) := by rw [b2_16, if_pos hc14]
            rw [hq17] at k
            exact k
          · refine XS.ifYes X0.here hx rfl (pc0 := 34) (pc' := 43) rfl (hb hby d2_34) rfl (XT.ll_ne_t hc14) (by decide) (by decide) ?_
            show Steps p.tables e below (s₁.setTop (mkF m 43 #[.val (.long q0), .second, .val (.long q1), .second, .val (.int p2)] [])) t
            refine XS.lloadN X0.here hx rfl (hb hby d2_43) rfl ?_
            show Steps p.tables e below (s₁.setTop (mkF m 44 #[.val (.long q0), .second, .val (.long q1), .second, .val (.int p2)] [(.long q0)])) t
            refine XS.lconst X0.here hx rfl (hb hby d2_44) ?_
            show Steps p.tables e below (s₁.setTop (mkF m 45 #[.val (.long q0), .second, .val (.long q1), .second, .val (.int p2)] [(.long (1 : Int64)), (.long q0)])) t
            refine XS.ladd X0.here hx rfl (hb hby d2_45) rfl ?_
            show Steps p.tables e below (s₁.setTop (mkF m 46 #[.val (.long q0), .second, .val (.long q1), .second, .val (.int p2)] [(.long (q0 + (1 : Int64)))])) t
            have hq18 : (b2_16 q0) = (q0 + (1 : Int64)) := by rw [b2_16, if_neg hc14]
            rw [hq18] at k
            exact k
        obtain ⟨fs, hr, hrun, hended, hW, hsame⟩ := X0.leave (v := some (.long (b2_16 q0))) (fun h => by rw [Bd.returns] at h; cases h)
        refine ⟨_, _, go15 _ (Jvm.RoadKit.retOut X0 hx Bd.returns rfl (Or.inr (Or.inl ⟨rfl, rfl, _, rfl⟩)) (hb hby d2_46) hr), hrun, hended, _, _, rfl, ?_, ⟨_, rfl⟩, hW, hsame.mono (by decide) (by decide)⟩
        show Q2 _ _ q0 q1 p2 h0 _ (s₁.setFrames fs).heap _
        have hE : (s₁.setFrames fs).heap = h0 := e0
        rw [hE]
        exact ⟨by rw [f2, if_neg hs2, if_neg hs5, if_pos hs13], N0, rfl⟩
      · have go20 : ∀ t, Steps p.tables e below (s₁.setTop (mkF m 62 #[.val (.long q0), .second, .val (.long q1), .second, .val (.int p2)] [(.long (b2_21 q0))])) t → Steps p.tables e below (s₁.setTop (entryFrame m #[(.long q0), (.long q1), (.int p2)] 5)) t := by
          intro t k
          refine go12 _ ?_
          refine XS.icmpYes X0.here hx rfl (pc0 := 26) (pc' := 47) rfl (hb hby d2_26) rfl (XT.ii_ne_t hs13) (by decide) (by decide) ?_
          show Steps p.tables e below (s₁.setTop (mkF m 47 #[.val (.long q0), .second, .val (.long q1), .second, .val (.int p2)] [])) t
          refine XS.lloadN X0.here hx rfl (hb hby d2_47) rfl ?_
          show Steps p.tables e below (s₁.setTop (mkF m 48 #[.val (.long q0), .second, .val (.long q1), .second, .val (.int p2)] [(.long q0)])) t
          refine XS.lconst X0.here hx rfl (hb hby d2_48) ?_
          show Steps p.tables e below (s₁.setTop (mkF m 49 #[.val (.long q0), .second, .val (.long q1), .second, .val (.int p2)] [(.long (1 : Int64)), (.long q0)])) t
          refine XT.lcmp X0.here hx rfl (hb hby d2_49) rfl ?_
          show Steps p.tables e below (s₁.setTop (mkF m 50 #[.val (.long q0), .second, .val (.long q1), .second, .val (.int p2)] [(.int (XT.cmpL q0 (1 : Int64)))])) t
          by_cases hc19 : q0 = (1 : Int64)
          · refine XS.ifNo X0.here hx rfl (hb hby d2_50) rfl (XT.ll_ne_f hc19) ?_
            show Steps p.tables e below (s₁.setTop (mkF m 53 #[.val (.long q0), .second, .val (.long q1), .second, .val (.int p2)] [])) t
            refine X0.ldc2Long hx hown (mvT hZ (hw _ (List.mem_of_getElem? (i := 39) rfl))) (g := (mkF m 53 #[.val (.long q0), .second, .val (.long q1), .second, .val (.int p2)] [])) rfl (hb hby d2_53) _ ?_
            show Steps p.tables e below (s₁.setTop (mkF m 56 #[.val (.long q0), .second, .val (.long q1), .second, .val (.int p2)] [(.long (2 : Int64))])) t
            refine XS.goto X0.here hx rfl (pc0 := 56) (pc' := 62) rfl (hb hby d2_56) (by decide) (by decide) ?_
            show Steps p.tables e below (s₁.setTop (mkF m 62 #[.val (.long q0), .second, .val (.long q1), .second, .val (.int p2)] [(.long (2 : Int64))])) t
            have hq22 : (b2_21 q0) = (2 : Int64) := by rw [b2_21, if_pos hc19]
            rw [hq22] at k
            exact k
          · refine XS.ifYes X0.here hx rfl (pc0 := 50) (pc' := 59) rfl (hb hby d2_50) rfl (XT.ll_ne_t hc19) (by decide) (by decide) ?_
            show Steps p.tables e below (s₁.setTop (mkF m 59 #[.val (.long q0), .second, .val (.long q1), .second, .val (.int p2)] [])) t
            refine XS.lloadN X0.here hx rfl (hb hby d2_59) rfl ?_
            show Steps p.tables e below (s₁.setTop (mkF m 60 #[.val (.long q0), .second, .val (.long q1), .second, .val (.int p2)] [(.long q0)])) t
            refine XS.lconst X0.here hx rfl (hb hby d2_60) ?_
            show Steps p.tables e below (s₁.setTop (mkF m 61 #[.val (.long q0), .second, .val (.long q1), .second, .val (.int p2)] [(.long (1 : Int64)), (.long q0)])) t
            refine XS.lsub X0.here hx rfl (hb hby d2_61) rfl ?_
            show Steps p.tables e below (s₁.setTop (mkF m 62 #[.val (.long q0), .second, .val (.long q1), .second, .val (.int p2)] [(.long (q0 - (1 : Int64)))])) t
            have hq23 : (b2_21 q0) = (q0 - (1 : Int64)) := by rw [b2_21, if_neg hc19]
            rw [hq23] at k
            exact k
        obtain ⟨fs, hr, hrun, hended, hW, hsame⟩ := X0.leave (v := some (.long (b2_21 q0))) (fun h => by rw [Bd.returns] at h; cases h)
        refine ⟨_, _, go20 _ (Jvm.RoadKit.retOut X0 hx Bd.returns rfl (Or.inr (Or.inl ⟨rfl, rfl, _, rfl⟩)) (hb hby d2_62) hr), hrun, hended, _, _, rfl, ?_, ⟨_, rfl⟩, hW, hsame.mono (by decide) (by decide)⟩
        show Q2 _ _ q0 q1 p2 h0 _ (s₁.setFrames fs).heap _
        have hE : (s₁.setFrames fs).heap = h0 := e0
        rw [hE]
        exact ⟨by rw [f2, if_neg hs2, if_neg hs5, if_neg hs13], N0, rfl⟩
theorem d3_0 : decode method_3_code 0 = .ok (.iload 4, 2) := by decide +kernel
theorem d3_2 : decode method_3_code 2 = .ok (.ifCond .ne 5, 3) := by decide +kernel
theorem d3_5 : decode method_3_code 5 = .ok (.lload_n 0, 1) := by decide +kernel
theorem d3_6 : decode method_3_code 6 = .ok (.lreturn, 1) := by decide +kernel
theorem d3_7 : decode method_3_code 7 = .ok (.iload 4, 2) := by decide +kernel
theorem d3_9 : decode method_3_code 9 = .ok (.iconst 1, 1) := by decide +kernel
theorem d3_10 : decode method_3_code 10 = .ok (.if_icmp .ne 11, 3) := by decide +kernel
theorem d3_13 : decode method_3_code 13 = .ok (.lconst 1, 1) := by decide +kernel
theorem d3_14 : decode method_3_code 14 = .ok (.lload_n 2, 1) := by decide +kernel
theorem d3_15 : decode method_3_code 15 = .ok (.ldc2_w 17, 3) := by decide +kernel
theorem d3_18 : decode method_3_code 18 = .ok (.land, 1) := by decide +kernel
theorem d3_19 : decode method_3_code 19 = .ok (.ladd, 1) := by decide +kernel
theorem d3_20 : decode method_3_code 20 = .ok (.lreturn, 1) := by decide +kernel
theorem d3_21 : decode method_3_code 21 = .ok (.iload 4, 2) := by decide +kernel
theorem d3_23 : decode method_3_code 23 = .ok (.iconst 2, 1) := by decide +kernel
theorem d3_24 : decode method_3_code 24 = .ok (.if_icmp .ne 21, 3) := by decide +kernel
theorem d3_27 : decode method_3_code 27 = .ok (.lload_n 0, 1) := by decide +kernel
theorem d3_28 : decode method_3_code 28 = .ok (.ldc2_w 19, 3) := by decide +kernel
theorem d3_31 : decode method_3_code 31 = .ok (.lcmp, 1) := by decide +kernel
theorem d3_32 : decode method_3_code 32 = .ok (.ifCond .ne 9, 3) := by decide +kernel
theorem d3_35 : decode method_3_code 35 = .ok (.lload_n 0, 1) := by decide +kernel
theorem d3_36 : decode method_3_code 36 = .ok (.lconst 1, 1) := by decide +kernel
theorem d3_37 : decode method_3_code 37 = .ok (.lsub, 1) := by decide +kernel
theorem d3_38 : decode method_3_code 38 = .ok (.goto 6, 3) := by decide +kernel
theorem d3_41 : decode method_3_code 41 = .ok (.lload_n 0, 1) := by decide +kernel
theorem d3_42 : decode method_3_code 42 = .ok (.lconst 1, 1) := by decide +kernel
theorem d3_43 : decode method_3_code 43 = .ok (.ladd, 1) := by decide +kernel
theorem d3_44 : decode method_3_code 44 = .ok (.lreturn, 1) := by decide +kernel
theorem d3_45 : decode method_3_code 45 = .ok (.lload_n 0, 1) := by decide +kernel
theorem d3_46 : decode method_3_code 46 = .ok (.lconst 1, 1) := by decide +kernel
theorem d3_47 : decode method_3_code 47 = .ok (.lcmp, 1) := by decide +kernel
theorem d3_48 : decode method_3_code 48 = .ok (.ifCond .ne 9, 3) := by decide +kernel
theorem d3_51 : decode method_3_code 51 = .ok (.ldc2_w 15, 3) := by decide +kernel
theorem d3_54 : decode method_3_code 54 = .ok (.goto 6, 3) := by decide +kernel
theorem d3_57 : decode method_3_code 57 = .ok (.lload_n 0, 1) := by decide +kernel
theorem d3_58 : decode method_3_code 58 = .ok (.lconst 1, 1) := by decide +kernel
theorem d3_59 : decode method_3_code 59 = .ok (.lsub, 1) := by decide +kernel
theorem d3_60 : decode method_3_code 60 = .ok (.lreturn, 1) := by decide +kernel
def v3_6 (q1 : Int64) : Int64 := ((1 : Int64) + (q1 &&& (1099511627775 : Int64)))
def b3_12 (q0 : Int64) : Int64 := (if q0 = (1099511627776 : Int64) then (q0 - (1 : Int64)) else (q0 + (1 : Int64)))
def f3 (q0 : Int64) (q1 : Int64) (p2 : Int32) : Int64 := (if p2 = (0 : Int32) then q0 else (if p2 = (1 : Int32) then (v3_6 q1) else (if p2 = (2 : Int32) then (b3_12 q0) else (b2_21 q0))))
def Q3 (Z : State) (n0 : Nat) (q0 : Int64) (q1 : Int64) (p2 : Int32) (h0 : Heap) (v : Option Value) (h : Heap) (L : List Loc) : Prop := v = some (.long (f3 q0 q1 p2)) ∧ Fr n0 L ∧ h = h0
theorem ef3 (m : MethodId) (q0 : Int64) (q1 : Int64) (p2 : Int32) : entryFrame m #[(.long q0), (.long q1), (.int p2)] 5 = mkF m 0 #[.val (.long q0), .second, .val (.long q1), .second, .val (.int p2)] [] := by first | (simp [entryFrame, mkF, argsToLocals, Value.category]; done) | rfl
set_option maxRecDepth 65536 in
set_option maxHeartbeats 40000000 in
theorem rm3 (l : Launch) (Z : State) (aZ : Array Value) (hw : ∀ d ∈ tables_1, d.before aZ Z = true) (ws : List Jvm.Cond) (q0 : Int64) (q1 : Int64) (p2 : Int32) (h0 : Heap) (n0 : Nat) (Z0 : n0 ≤ h0.size) :
    MetFree l (⟨"com/example/weir/weir/WindowEqualsPinLaw", "pickWindow", "(JJI)J"⟩ : MethodName) (head1 (Jvm.Cond.code (⟨"com/example/weir/weir/WindowEqualsPinLaw", "pickWindow", "(JJI)J"⟩ : MethodName) method_3_code 5 (some .long) :: ws) ({ frames := 0, cells := 0, slots := 0, locals := 0 } : Room)) (fun a U => a = #[(.long q0), (.long q1), (.int p2)] ∧ Z.Warmed39 U.vm ∧ U.heap = h0) (fun _ _ _ _ _ => True) (fun _ U o U' => ∃ v L, o = .returned v ∧ Q3 Z n0 q0 q1 p2 h0 v U'.heap L ∧ FrameEnd U o U' L ({ frames := 0, cells := 0, slots := 0, locals := 0 } : Room).cells ({ frames := 0, cells := 0, slots := 0, locals := 0 } : Room).slots) := by
  refine MetFree.of_bodySF (plainFor_of_name pn_52) hisR ?_
  intro p e s m args below meth c s₁ Bd hml0 hP hK
  obtain ⟨rfl, hZ, hh⟩ := hP
  have hx := Bd.exec
  have hby := Bd.bytes
  have hml : c.maxLocals = 5 := hml0
  have hown : s.vm.findClass "com/example/weir/weir/WindowEqualsPinLaw" = some m.cls := findClass_of_methodNamed Bd.named
  have hnm := (name_of_methodNamed Bd.named Bd.method).1
  have X0 : Stand p l e ({ frames := 0, cells := 0, slots := 0, locals := 0 } : Room) s m #[(.long q0), (.long q1), (.int p2)] below meth c s₁ [] 0 0 := Stand.of_body Bd
  have e0 : s₁.heap = h0 := by rw [← hh, Bd.state]; rfl
  have N0 := Fr.nil n0
  have K0 : Keep h0 h0 [] := Keep.refl _ _
  have go0 : ∀ t, Steps p.tables e below (s₁.setTop (mkF m 0 #[.val (.long q0), .second, .val (.long q1), .second, .val (.int p2)] [])) t → Steps p.tables e below (s₁.setTop (entryFrame m #[(.long q0), (.long q1), (.int p2)] 5)) t := fun t k => castTop (ef3 m q0 q1 p2) k
  have go1 : ∀ t, Steps p.tables e below (s₁.setTop (mkF m 2 #[.val (.long q0), .second, .val (.long q1), .second, .val (.int p2)] [(.int p2)])) t → Steps p.tables e below (s₁.setTop (entryFrame m #[(.long q0), (.long q1), (.int p2)] 5)) t := by
    intro t k
    refine go0 _ ?_
    refine XS.iload X0.here hx rfl (hb hby d3_0) rfl ?_
    show Steps p.tables e below (s₁.setTop (mkF m 2 #[.val (.long q0), .second, .val (.long q1), .second, .val (.int p2)] [(.int p2)])) t
    exact k
  by_cases hs2 : p2 = (0 : Int32)
  · have go3 : ∀ t, Steps p.tables e below (s₁.setTop (mkF m 6 #[.val (.long q0), .second, .val (.long q1), .second, .val (.int p2)] [(.long q0)])) t → Steps p.tables e below (s₁.setTop (entryFrame m #[(.long q0), (.long q1), (.int p2)] 5)) t := by
      intro t k
      refine go1 _ ?_
      refine XS.ifNo X0.here hx rfl (hb hby d3_2) rfl (XT.i0_ne_f hs2) ?_
      show Steps p.tables e below (s₁.setTop (mkF m 5 #[.val (.long q0), .second, .val (.long q1), .second, .val (.int p2)] [])) t
      refine XS.lloadN X0.here hx rfl (hb hby d3_5) rfl ?_
      show Steps p.tables e below (s₁.setTop (mkF m 6 #[.val (.long q0), .second, .val (.long q1), .second, .val (.int p2)] [(.long q0)])) t
      exact k
    obtain ⟨fs, hr, hrun, hended, hW, hsame⟩ := X0.leave (v := some (.long q0)) (fun h => by rw [Bd.returns] at h; cases h)
    refine ⟨_, _, go3 _ (Jvm.RoadKit.retOut X0 hx Bd.returns rfl (Or.inr (Or.inl ⟨rfl, rfl, _, rfl⟩)) (hb hby d3_6) hr), hrun, hended, _, _, rfl, ?_, ⟨_, rfl⟩, hW, hsame.mono (by decide) (by decide)⟩
    show Q3 _ _ q0 q1 p2 h0 _ (s₁.setFrames fs).heap _
    have hE : (s₁.setFrames fs).heap = h0 := e0
    rw [hE]
    exact ⟨by rw [f3, if_pos hs2], N0, rfl⟩
  · have go4 : ∀ t, Steps p.tables e below (s₁.setTop (mkF m 10 #[.val (.long q0), .second, .val (.long q1), .second, .val (.int p2)] [(.int (1 : Int32)), (.int p2)])) t → Steps p.tables e below (s₁.setTop (entryFrame m #[(.long q0), (.long q1), (.int p2)] 5)) t := by
      intro t k
      refine go1 _ ?_
      refine XS.ifYes X0.here hx rfl (pc0 := 2) (pc' := 7) rfl (hb hby d3_2) rfl (XT.i0_ne_t hs2) (by decide) (by decide) ?_
      show Steps p.tables e below (s₁.setTop (mkF m 7 #[.val (.long q0), .second, .val (.long q1), .second, .val (.int p2)] [])) t
      refine XS.iload X0.here hx rfl (hb hby d3_7) rfl ?_
      show Steps p.tables e below (s₁.setTop (mkF m 9 #[.val (.long q0), .second, .val (.long q1), .second, .val (.int p2)] [(.int p2)])) t
      refine XS.iconst X0.here hx rfl (hb hby d3_9) ?_
      show Steps p.tables e below (s₁.setTop (mkF m 10 #[.val (.long q0), .second, .val (.long q1), .second, .val (.int p2)] [(.int (1 : Int32)), (.int p2)])) t
      exact k
    by_cases hs5 : p2 = (1 : Int32)
    · have go7 : ∀ t, Steps p.tables e below (s₁.setTop (mkF m 20 #[.val (.long q0), .second, .val (.long q1), .second, .val (.int p2)] [(.long (v3_6 q1))])) t → Steps p.tables e below (s₁.setTop (entryFrame m #[(.long q0), (.long q1), (.int p2)] 5)) t := by
        intro t k
        refine go4 _ ?_
        refine XS.icmpNo X0.here hx rfl (hb hby d3_10) rfl (XT.ii_ne_f hs5) ?_
        show Steps p.tables e below (s₁.setTop (mkF m 13 #[.val (.long q0), .second, .val (.long q1), .second, .val (.int p2)] [])) t
        refine XS.lconst X0.here hx rfl (hb hby d3_13) ?_
        show Steps p.tables e below (s₁.setTop (mkF m 14 #[.val (.long q0), .second, .val (.long q1), .second, .val (.int p2)] [(.long (1 : Int64))])) t
        refine XS.lloadN X0.here hx rfl (hb hby d3_14) rfl ?_
        show Steps p.tables e below (s₁.setTop (mkF m 15 #[.val (.long q0), .second, .val (.long q1), .second, .val (.int p2)] [(.long q1), (.long (1 : Int64))])) t
        refine X0.ldc2Long hx hown (mvT hZ (hw _ (List.mem_of_getElem? (i := 5) rfl))) (g := (mkF m 15 #[.val (.long q0), .second, .val (.long q1), .second, .val (.int p2)] [(.long q1), (.long (1 : Int64))])) rfl (hb hby d3_15) _ ?_
        show Steps p.tables e below (s₁.setTop (mkF m 18 #[.val (.long q0), .second, .val (.long q1), .second, .val (.int p2)] [(.long (1099511627775 : Int64)), (.long q1), (.long (1 : Int64))])) t
        refine XS.land X0.here hx rfl (hb hby d3_18) rfl ?_
        show Steps p.tables e below (s₁.setTop (mkF m 19 #[.val (.long q0), .second, .val (.long q1), .second, .val (.int p2)] [(.long (q1 &&& (1099511627775 : Int64))), (.long (1 : Int64))])) t
        refine XS.ladd X0.here hx rfl (hb hby d3_19) rfl ?_
        show Steps p.tables e below (s₁.setTop (mkF m 20 #[.val (.long q0), .second, .val (.long q1), .second, .val (.int p2)] [(.long ((1 : Int64) + (q1 &&& (1099511627775 : Int64))))])) t
        show Steps p.tables e below (s₁.setTop (mkF m 20 #[.val (.long q0), .second, .val (.long q1), .second, .val (.int p2)] [(.long (v3_6 q1))])) t
        exact k
      obtain ⟨fs, hr, hrun, hended, hW, hsame⟩ := X0.leave (v := some (.long (v3_6 q1))) (fun h => by rw [Bd.returns] at h; cases h)
      refine ⟨_, _, go7 _ (Jvm.RoadKit.retOut X0 hx Bd.returns rfl (Or.inr (Or.inl ⟨rfl, rfl, _, rfl⟩)) (hb hby d3_20) hr), hrun, hended, _, _, rfl, ?_, ⟨_, rfl⟩, hW, hsame.mono (by decide) (by decide)⟩
      show Q3 _ _ q0 q1 p2 h0 _ (s₁.setFrames fs).heap _
      have hE : (s₁.setFrames fs).heap = h0 := e0
      rw [hE]
      exact ⟨by rw [f3, if_neg hs2, if_pos hs5], N0, rfl⟩
    · have go8 : ∀ t, Steps p.tables e below (s₁.setTop (mkF m 24 #[.val (.long q0), .second, .val (.long q1), .second, .val (.int p2)] [(.int (2 : Int32)), (.int p2)])) t → Steps p.tables e below (s₁.setTop (entryFrame m #[(.long q0), (.long q1), (.int p2)] 5)) t := by
        intro t k
        refine go4 _ ?_
        refine XS.icmpYes X0.here hx rfl (pc0 := 10) (pc' := 21) rfl (hb hby d3_10) rfl (XT.ii_ne_t hs5) (by decide) (by decide) ?_
        show Steps p.tables e below (s₁.setTop (mkF m 21 #[.val (.long q0), .second, .val (.long q1), .second, .val (.int p2)] [])) t
        refine XS.iload X0.here hx rfl (hb hby d3_21) rfl ?_
        show Steps p.tables e below (s₁.setTop (mkF m 23 #[.val (.long q0), .second, .val (.long q1), .second, .val (.int p2)] [(.int p2)])) t
        refine XS.iconst X0.here hx rfl (hb hby d3_23) ?_
        show Steps p.tables e below (s₁.setTop (mkF m 24 #[.val (.long q0), .second, .val (.long q1), .second, .val (.int p2)] [(.int (2 : Int32)), (.int p2)])) t
        exact k
      by_cases hs9 : p2 = (2 : Int32)
      · have go11 : ∀ t, Steps p.tables e below (s₁.setTop (mkF m 44 #[.val (.long q0), .second, .val (.long q1), .second, .val (.int p2)] [(.long (b3_12 q0))])) t → Steps p.tables e below (s₁.setTop (entryFrame m #[(.long q0), (.long q1), (.int p2)] 5)) t := by
          intro t k
          refine go8 _ ?_
          refine XS.icmpNo X0.here hx rfl (hb hby d3_24) rfl (XT.ii_ne_f hs9) ?_
          show Steps p.tables e below (s₁.setTop (mkF m 27 #[.val (.long q0), .second, .val (.long q1), .second, .val (.int p2)] [])) t
          refine XS.lloadN X0.here hx rfl (hb hby d3_27) rfl ?_
          show Steps p.tables e below (s₁.setTop (mkF m 28 #[.val (.long q0), .second, .val (.long q1), .second, .val (.int p2)] [(.long q0)])) t
          refine X0.ldc2Long hx hown (mvT hZ (hw _ (List.mem_of_getElem? (i := 38) rfl))) (g := (mkF m 28 #[.val (.long q0), .second, .val (.long q1), .second, .val (.int p2)] [(.long q0)])) rfl (hb hby d3_28) _ ?_
          show Steps p.tables e below (s₁.setTop (mkF m 31 #[.val (.long q0), .second, .val (.long q1), .second, .val (.int p2)] [(.long (1099511627776 : Int64)), (.long q0)])) t
          refine XT.lcmp X0.here hx rfl (hb hby d3_31) rfl ?_
          show Steps p.tables e below (s₁.setTop (mkF m 32 #[.val (.long q0), .second, .val (.long q1), .second, .val (.int p2)] [(.int (XT.cmpL q0 (1099511627776 : Int64)))])) t
          by_cases hc10 : q0 = (1099511627776 : Int64)
          · refine XS.ifNo X0.here hx rfl (hb hby d3_32) rfl (XT.ll_ne_f hc10) ?_
            show Steps p.tables e below (s₁.setTop (mkF m 35 #[.val (.long q0), .second, .val (.long q1), .second, .val (.int p2)] [])) t
            refine XS.lloadN X0.here hx rfl (hb hby d3_35) rfl ?_
            show Steps p.tables e below (s₁.setTop (mkF m 36 #[.val (.long q0), .second, .val (.long q1), .second, .val (.int p2)] [(.long q0)])) t
            refine XS.lconst X0.here hx rfl (hb hby d3_36) ?_
            show Steps p.tables e below (s₁.setTop (mkF m 37 #[.val (.long q0), .second, .val (.long q1), .second, .val (.int p2)] [(.long (1 : Int64)), (.long q0)])) t
            refine XS.lsub X0.here hx rfl (hb hby d3_37) rfl ?_
            show Steps p.tables e below (s₁.setTop (mkF m 38 #[.val (.long q0), .second, .val (.long q1), .second, .val (.int p2)] [(.long (q0 - (1 : Int64)))])) t
            refine XS.goto X0.here hx rfl (pc0 := 38) (pc' := 44) rfl (hb hby d3_38) (by decide) (by decide) ?_
            show Steps p.tables e below (s₁.setTop (mkF m 44 #[.val (.long q0), .second, .val (.long q1), .second, .val (.int p2)] [(.long (q0 - (1 : Int64)))])) t
            have hq13 : (b3_12 q0) = (q0 - (1 : Int64)) := by rw [b3_12, if_pos hc10]
            rw [hq13] at k
            exact k
          · refine XS.ifYes X0.here hx rfl (pc0 := 32) (pc' := 41) rfl (hb hby d3_32) rfl (XT.ll_ne_t hc10) (by decide) (by decide) ?_
            show Steps p.tables e below (s₁.setTop (mkF m 41 #[.val (.long q0), .second, .val (.long q1), .second, .val (.int p2)] [])) t
            refine XS.lloadN X0.here hx rfl (hb hby d3_41) rfl ?_
            show Steps p.tables e below (s₁.setTop (mkF m 42 #[.val (.long q0), .second, .val (.long q1), .second, .val (.int p2)] [(.long q0)])) t
            refine XS.lconst X0.here hx rfl (hb hby d3_42) ?_
            show Steps p.tables e below (s₁.setTop (mkF m 43 #[.val (.long q0), .second, .val (.long q1), .second, .val (.int p2)] [(.long (1 : Int64)), (.long q0)])) t
            refine XS.ladd X0.here hx rfl (hb hby d3_43) rfl ?_
            show Steps p.tables e below (s₁.setTop (mkF m 44 #[.val (.long q0), .second, .val (.long q1), .second, .val (.int p2)] [(.long (q0 + (1 : Int64)))])) t
            have hq14 : (b3_12 q0) = (q0 + (1 : Int64)) := by rw [b3_12, if_neg hc10]
            rw [hq14] at k
            exact k
        obtain ⟨fs, hr, hrun, hended, hW, hsame⟩ := X0.leave (v := some (.long (b3_12 q0))) (fun h => by rw [Bd.returns] at h; cases h)
        refine ⟨_, _, go11 _ (Jvm.RoadKit.retOut X0 hx Bd.returns rfl (Or.inr (Or.inl ⟨rfl, rfl, _, rfl⟩)) (hb hby d3_44) hr), hrun, hended, _, _, rfl, ?_, ⟨_, rfl⟩, hW, hsame.mono (by decide) (by decide)⟩
        show Q3 _ _ q0 q1 p2 h0 _ (s₁.setFrames fs).heap _
        have hE : (s₁.setFrames fs).heap = h0 := e0
        rw [hE]
        exact ⟨by rw [f3, if_neg hs2, if_neg hs5, if_pos hs9], N0, rfl⟩
      · have go16 : ∀ t, Steps p.tables e below (s₁.setTop (mkF m 60 #[.val (.long q0), .second, .val (.long q1), .second, .val (.int p2)] [(.long (b2_21 q0))])) t → Steps p.tables e below (s₁.setTop (entryFrame m #[(.long q0), (.long q1), (.int p2)] 5)) t := by
          intro t k
          refine go8 _ ?_
          refine XS.icmpYes X0.here hx rfl (pc0 := 24) (pc' := 45) rfl (hb hby d3_24) rfl (XT.ii_ne_t hs9) (by decide) (by decide) ?_
          show Steps p.tables e below (s₁.setTop (mkF m 45 #[.val (.long q0), .second, .val (.long q1), .second, .val (.int p2)] [])) t
          refine XS.lloadN X0.here hx rfl (hb hby d3_45) rfl ?_
          show Steps p.tables e below (s₁.setTop (mkF m 46 #[.val (.long q0), .second, .val (.long q1), .second, .val (.int p2)] [(.long q0)])) t
          refine XS.lconst X0.here hx rfl (hb hby d3_46) ?_
          show Steps p.tables e below (s₁.setTop (mkF m 47 #[.val (.long q0), .second, .val (.long q1), .second, .val (.int p2)] [(.long (1 : Int64)), (.long q0)])) t
          refine XT.lcmp X0.here hx rfl (hb hby d3_47) rfl ?_
          show Steps p.tables e below (s₁.setTop (mkF m 48 #[.val (.long q0), .second, .val (.long q1), .second, .val (.int p2)] [(.int (XT.cmpL q0 (1 : Int64)))])) t
          by_cases hc15 : q0 = (1 : Int64)
          · refine XS.ifNo X0.here hx rfl (hb hby d3_48) rfl (XT.ll_ne_f hc15) ?_
            show Steps p.tables e below (s₁.setTop (mkF m 51 #[.val (.long q0), .second, .val (.long q1), .second, .val (.int p2)] [])) t
            refine X0.ldc2Long hx hown (mvT hZ (hw _ (List.mem_of_getElem? (i := 39) rfl))) (g := (mkF m 51 #[.val (.long q0), .second, .val (.long q1), .second, .val (.int p2)] [])) rfl (hb hby d3_51) _ ?_
            show Steps p.tables e below (s₁.setTop (mkF m 54 #[.val (.long q0), .second, .val (.long q1), .second, .val (.int p2)] [(.long (2 : Int64))])) t
            refine XS.goto X0.here hx rfl (pc0 := 54) (pc' := 60) rfl (hb hby d3_54) (by decide) (by decide) ?_
            show Steps p.tables e below (s₁.setTop (mkF m 60 #[.val (.long q0), .second, .val (.long q1), .second, .val (.int p2)] [(.long (2 : Int64))])) t
            have hq17 : (b2_21 q0) = (2 : Int64) := by rw [b2_21, if_pos hc15]
            rw [hq17] at k
            exact k
          · refine XS.ifYes X0.here hx rfl (pc0 := 48) (pc' := 57) rfl (hb hby d3_48) rfl (XT.ll_ne_t hc15) (by decide) (by decide) ?_
            show Steps p.tables e below (s₁.setTop (mkF m 57 #[.val (.long q0), .second, .val (.long q1), .second, .val (.int p2)] [])) t
            refine XS.lloadN X0.here hx rfl (hb hby d3_57) rfl ?_
            show Steps p.tables e below (s₁.setTop (mkF m 58 #[.val (.long q0), .second, .val (.long q1), .second, .val (.int p2)] [(.long q0)])) t
            refine XS.lconst X0.here hx rfl (hb hby d3_58) ?_
            show Steps p.tables e below (s₁.setTop (mkF m 59 #[.val (.long q0), .second, .val (.long q1), .second, .val (.int p2)] [(.long (1 : Int64)), (.long q0)])) t
            refine XS.lsub X0.here hx rfl (hb hby d3_59) rfl ?_
            show Steps p.tables e below (s₁.setTop (mkF m 60 #[.val (.long q0), .second, .val (.long q1), .second, .val (.int p2)] [(.long (q0 - (1 : Int64)))])) t
            have hq18 : (b2_21 q0) = (q0 - (1 : Int64)) := by rw [b2_21, if_neg hc15]
            rw [hq18] at k
            exact k
        obtain ⟨fs, hr, hrun, hended, hW, hsame⟩ := X0.leave (v := some (.long (b2_21 q0))) (fun h => by rw [Bd.returns] at h; cases h)
        refine ⟨_, _, go16 _ (Jvm.RoadKit.retOut X0 hx Bd.returns rfl (Or.inr (Or.inl ⟨rfl, rfl, _, rfl⟩)) (hb hby d3_60) hr), hrun, hended, _, _, rfl, ?_, ⟨_, rfl⟩, hW, hsame.mono (by decide) (by decide)⟩
        show Q3 _ _ q0 q1 p2 h0 _ (s₁.setFrames fs).heap _
        have hE : (s₁.setFrames fs).heap = h0 := e0
        rw [hE]
        exact ⟨by rw [f3, if_neg hs2, if_neg hs5, if_neg hs9], N0, rfl⟩
theorem d4_0 : decode prog_18_method_1_code 0 = .ok (.aload_n 0, 1) := by decide +kernel
theorem d4_1 : decode prog_18_method_1_code 1 = .ok (.invokespecial 1, 3) := by decide +kernel
theorem d4_4 : decode prog_18_method_1_code 4 = .ok (.lload_n 1, 1) := by decide +kernel
theorem d4_5 : decode prog_18_method_1_code 5 = .ok (.lconst 1, 1) := by decide +kernel
theorem d4_6 : decode prog_18_method_1_code 6 = .ok (.lcmp, 1) := by decide +kernel
theorem d4_7 : decode prog_18_method_1_code 7 = .ok (.ifCond .lt 11, 3) := by decide +kernel
theorem d4_10 : decode prog_18_method_1_code 10 = .ok (.lload_n 1, 1) := by decide +kernel
theorem d4_11 : decode prog_18_method_1_code 11 = .ok (.ldc2_w 9, 3) := by decide +kernel
theorem d4_14 : decode prog_18_method_1_code 14 = .ok (.lcmp, 1) := by decide +kernel
theorem d4_15 : decode prog_18_method_1_code 15 = .ok (.ifCond .le 17, 3) := by decide +kernel
theorem d4_32 : decode prog_18_method_1_code 32 = .ok (.lload_n 3, 1) := by decide +kernel
theorem d4_33 : decode prog_18_method_1_code 33 = .ok (.lconst 1, 1) := by decide +kernel
theorem d4_34 : decode prog_18_method_1_code 34 = .ok (.lcmp, 1) := by decide +kernel
theorem d4_35 : decode prog_18_method_1_code 35 = .ok (.ifCond .lt 11, 3) := by decide +kernel
theorem d4_38 : decode prog_18_method_1_code 38 = .ok (.lload_n 3, 1) := by decide +kernel
theorem d4_39 : decode prog_18_method_1_code 39 = .ok (.ldc2_w 20, 3) := by decide +kernel
theorem d4_42 : decode prog_18_method_1_code 42 = .ok (.lcmp, 1) := by decide +kernel
theorem d4_43 : decode prog_18_method_1_code 43 = .ok (.ifCond .le 17, 3) := by decide +kernel
theorem d4_60 : decode prog_18_method_1_code 60 = .ok (.aload_n 0, 1) := by decide +kernel
theorem d4_61 : decode prog_18_method_1_code 61 = .ok (.lload_n 1, 1) := by decide +kernel
theorem d4_62 : decode prog_18_method_1_code 62 = .ok (.putfield 23, 3) := by decide +kernel
theorem d4_65 : decode prog_18_method_1_code 65 = .ok (.aload_n 0, 1) := by decide +kernel
theorem d4_66 : decode prog_18_method_1_code 66 = .ok (.lload_n 3, 1) := by decide +kernel
theorem d4_67 : decode prog_18_method_1_code 67 = .ok (.putfield 27, 3) := by decide +kernel
theorem d4_70 : decode prog_18_method_1_code 70 = .ok (.aload_n 0, 1) := by decide +kernel
theorem d4_71 : decode prog_18_method_1_code 71 = .ok (.lload_n 3, 1) := by decide +kernel
theorem d4_72 : decode prog_18_method_1_code 72 = .ok (.ldc2_w 30, 3) := by decide +kernel
theorem d4_75 : decode prog_18_method_1_code 75 = .ok (.ladd, 1) := by decide +kernel
theorem d4_76 : decode prog_18_method_1_code 76 = .ok (.lconst 1, 1) := by decide +kernel
theorem d4_77 : decode prog_18_method_1_code 77 = .ok (.lsub, 1) := by decide +kernel
theorem d4_78 : decode prog_18_method_1_code 78 = .ok (.ldc2_w 30, 3) := by decide +kernel
theorem d4_81 : decode prog_18_method_1_code 81 = .ok (.ldiv, 1) := by decide +kernel
theorem d4_82 : decode prog_18_method_1_code 82 = .ok (.putfield 32, 3) := by decide +kernel
theorem d4_85 : decode prog_18_method_1_code 85 = .ok (.return_, 1) := by decide +kernel
theorem pn_128 : plainName "com/example/weir/weir/Window" = true := by first | (simp [plainName, overriddenIn]; done) | decide +kernel
def v4_18 (q2 : Int64) : Int64 := (((q2 + (30 : Int64)) - (1 : Int64)) / (30 : Int64))
def Q4 (Z : State) (n0 : Nat) (a0 : Addr) (q1 : Int64) (q2 : Int64) (w_a0_limit : Value) (w_a0_windowMillis : Value) (w_a0_slotMillis : Value) (h0 : Heap) (v : Option Value) (h : Heap) (L : List Loc) : Prop := v = none ∧ Fr n0 L ∧ Keep h0 h [a0] ∧ Exa Z h a0 "com/example/weir/weir/Window" ∧ Fld Z h a0 "com/example/weir/weir/Window" "limit" "J" (.long q1) ∧ Fld Z h a0 "com/example/weir/weir/Window" "windowMillis" "J" (.long q2) ∧ Fld Z h a0 "com/example/weir/weir/Window" "slotMillis" "J" (.long (v4_18 q2))
theorem ef4 (m : MethodId) (a0 : Addr) (q1 : Int64) (q2 : Int64) : entryFrame m #[(.ref a0), (.long q1), (.long q2)] 5 = mkF m 0 #[.val (.ref a0), .val (.long q1), .second, .val (.long q2), .second] [] := by first | (simp [entryFrame, mkF, argsToLocals, Value.category]; done) | rfl
set_option maxRecDepth 65536 in
set_option maxHeartbeats 40000000 in
theorem rm4 (l : Launch) (Z : State) (aZ : Array Value) (hw : ∀ d ∈ tables_1, d.before aZ Z = true) (ws : List Jvm.Cond) (a0 : Addr) (q1 : Int64) (q2 : Int64) (w_a0_limit : Value) (w_a0_windowMillis : Value) (w_a0_slotMillis : Value) (h0 : Heap) (n0 : Nat) (Z0 : n0 ≤ h0.size) (E_a0 : Exa Z h0 a0 "com/example/weir/weir/Window") (F_a0_limit : Fld Z h0 a0 "com/example/weir/weir/Window" "limit" "J" w_a0_limit) (F_a0_windowMillis : Fld Z h0 a0 "com/example/weir/weir/Window" "windowMillis" "J" w_a0_windowMillis) (F_a0_slotMillis : Fld Z h0 a0 "com/example/weir/weir/Window" "slotMillis" "J" w_a0_slotMillis) (g_a0 : n0 ≤ a0) (h1 : ¬ q1 < (1 : Int64)) (h2 : ¬ (9007199254740991 : Int64) < q1) (h3 : ¬ q2 < (1 : Int64)) (h4 : ¬ (1099511627776 : Int64) < q2) :
    MetFree l (⟨"com/example/weir/weir/Window", "<init>", "(JJ)V"⟩ : MethodName) (head1 (Jvm.Cond.code (⟨"com/example/weir/weir/Window", "<init>", "(JJ)V"⟩ : MethodName) prog_18_method_1_code 5 none :: ws) ({ frames := 1, cells := 0, slots := 0, locals := 12 } : Room)) (fun a U => a = #[(.ref a0), (.long q1), (.long q2)] ∧ Z.Warmed39 U.vm ∧ U.heap = h0) (fun _ _ _ _ _ => True) (fun _ U o U' => ∃ v L, o = .returned v ∧ Q4 Z n0 a0 q1 q2 w_a0_limit w_a0_windowMillis w_a0_slotMillis h0 v U'.heap L ∧ FrameEnd U o U' L ({ frames := 1, cells := 0, slots := 0, locals := 12 } : Room).cells ({ frames := 1, cells := 0, slots := 0, locals := 12 } : Room).slots) := by
  refine MetFree.of_bodySF (plainFor_of_name pn_128) hisR ?_
  intro p e s m args below meth c s₁ Bd hml0 hP hK
  obtain ⟨rfl, hZ, hh⟩ := hP
  have hx := Bd.exec
  have hby := Bd.bytes
  have hml : c.maxLocals = 5 := hml0
  have hown : s.vm.findClass "com/example/weir/weir/Window" = some m.cls := findClass_of_methodNamed Bd.named
  have hnm := (name_of_methodNamed Bd.named Bd.method).1
  have X0 : Stand p l e ({ frames := 1, cells := 0, slots := 0, locals := 12 } : Room) s m #[(.ref a0), (.long q1), (.long q2)] below meth c s₁ [] 0 0 := Stand.of_body Bd
  have e0 : s₁.heap = h0 := by rw [← hh, Bd.state]; rfl
  have N0 := Fr.nil n0
  have K0 : Keep h0 h0 [a0] := Keep.refl _ _
  have go0 : ∀ t, Steps p.tables e below (s₁.setTop (mkF m 0 #[.val (.ref a0), .val (.long q1), .second, .val (.long q2), .second] [])) t → Steps p.tables e below (s₁.setTop (entryFrame m #[(.ref a0), (.long q1), (.long q2)] 5)) t := fun t k => castTop (ef4 m a0 q1 q2) k
  have go1 : ∀ t, Steps p.tables e below (s₁.setTop (mkF m 1 #[.val (.ref a0), .val (.long q1), .second, .val (.long q2), .second] [(.ref a0)])) t → Steps p.tables e below (s₁.setTop (entryFrame m #[(.ref a0), (.long q1), (.long q2)] 5)) t := by
    intro t k
    refine go0 _ ?_
    refine XS.aloadN X0.here hx rfl (hb hby d4_0) rfl rfl ?_
    show Steps p.tables e below (s₁.setTop (mkF m 1 #[.val (.ref a0), .val (.long q1), .second, .val (.long q2), .second] [(.ref a0)])) t
    exact k
  obtain ⟨T2, X2, e2, st2⟩ := initO X0 hx hZ hown (hw _ (List.mem_of_getElem? (i := 19) rfl)) (hw _ (List.mem_of_getElem? (i := 20) rfl)) (hw _ (List.mem_of_getElem? (i := 21) rfl)) e0 (g := (mkF m 1 #[.val (.ref a0), .val (.long q1), .second, .val (.long q2), .second] [(.ref a0)])) rfl (by rw [hml]; rfl) rfl (hb hby d4_1) (by decide) (W := 0) (by show 2 * 0 + _ ≤ _; exact Nat.le_of_eq rfl) (by decide)
  have go3 : ∀ t, Steps p.tables e below (T2.setTop (mkF m 4 #[.val (.ref a0), .val (.long q1), .second, .val (.long q2), .second] [])) t → Steps p.tables e below (s₁.setTop (entryFrame m #[(.ref a0), (.long q1), (.long q2)] 5)) t := fun t k => go1 _ (st2 _ k)
  have go4 : ∀ t, Steps p.tables e below (T2.setTop (mkF m 62 #[.val (.ref a0), .val (.long q1), .second, .val (.long q2), .second] [(.long q1), (.ref a0)])) t → Steps p.tables e below (s₁.setTop (entryFrame m #[(.ref a0), (.long q1), (.long q2)] 5)) t := by
    intro t k
    refine go3 _ ?_
    refine XS.lloadN X2.here hx rfl (hb hby d4_4) rfl ?_
    show Steps p.tables e below (T2.setTop (mkF m 5 #[.val (.ref a0), .val (.long q1), .second, .val (.long q2), .second] [(.long q1)])) t
    refine XS.lconst X2.here hx rfl (hb hby d4_5) ?_
    show Steps p.tables e below (T2.setTop (mkF m 6 #[.val (.ref a0), .val (.long q1), .second, .val (.long q2), .second] [(.long (1 : Int64)), (.long q1)])) t
    refine XT.lcmp X2.here hx rfl (hb hby d4_6) rfl ?_
    show Steps p.tables e below (T2.setTop (mkF m 7 #[.val (.ref a0), .val (.long q1), .second, .val (.long q2), .second] [(.int (XT.cmpL q1 (1 : Int64)))])) t
    refine XS.ifNo X2.here hx rfl (hb hby d4_7) rfl (XT.ll_lt_f h1) ?_
    show Steps p.tables e below (T2.setTop (mkF m 10 #[.val (.ref a0), .val (.long q1), .second, .val (.long q2), .second] [])) t
    refine XS.lloadN X2.here hx rfl (hb hby d4_10) rfl ?_
    show Steps p.tables e below (T2.setTop (mkF m 11 #[.val (.ref a0), .val (.long q1), .second, .val (.long q2), .second] [(.long q1)])) t
    refine X2.ldc2Long hx hown (mvT hZ (hw _ (List.mem_of_getElem? (i := 22) rfl))) (g := (mkF m 11 #[.val (.ref a0), .val (.long q1), .second, .val (.long q2), .second] [(.long q1)])) rfl (hb hby d4_11) _ ?_
    show Steps p.tables e below (T2.setTop (mkF m 14 #[.val (.ref a0), .val (.long q1), .second, .val (.long q2), .second] [(.long (9007199254740991 : Int64)), (.long q1)])) t
    refine XT.lcmp X2.here hx rfl (hb hby d4_14) rfl ?_
    show Steps p.tables e below (T2.setTop (mkF m 15 #[.val (.ref a0), .val (.long q1), .second, .val (.long q2), .second] [(.int (XT.cmpL q1 (9007199254740991 : Int64)))])) t
    refine XS.ifYes X2.here hx rfl (pc0 := 15) (pc' := 32) rfl (hb hby d4_15) rfl (XT.ll_le_t h2) (by decide) (by decide) ?_
    show Steps p.tables e below (T2.setTop (mkF m 32 #[.val (.ref a0), .val (.long q1), .second, .val (.long q2), .second] [])) t
    refine XS.lloadN X2.here hx rfl (hb hby d4_32) rfl ?_
    show Steps p.tables e below (T2.setTop (mkF m 33 #[.val (.ref a0), .val (.long q1), .second, .val (.long q2), .second] [(.long q2)])) t
    refine XS.lconst X2.here hx rfl (hb hby d4_33) ?_
    show Steps p.tables e below (T2.setTop (mkF m 34 #[.val (.ref a0), .val (.long q1), .second, .val (.long q2), .second] [(.long (1 : Int64)), (.long q2)])) t
    refine XT.lcmp X2.here hx rfl (hb hby d4_34) rfl ?_
    show Steps p.tables e below (T2.setTop (mkF m 35 #[.val (.ref a0), .val (.long q1), .second, .val (.long q2), .second] [(.int (XT.cmpL q2 (1 : Int64)))])) t
    refine XS.ifNo X2.here hx rfl (hb hby d4_35) rfl (XT.ll_lt_f h3) ?_
    show Steps p.tables e below (T2.setTop (mkF m 38 #[.val (.ref a0), .val (.long q1), .second, .val (.long q2), .second] [])) t
    refine XS.lloadN X2.here hx rfl (hb hby d4_38) rfl ?_
    show Steps p.tables e below (T2.setTop (mkF m 39 #[.val (.ref a0), .val (.long q1), .second, .val (.long q2), .second] [(.long q2)])) t
    refine X2.ldc2Long hx hown (mvT hZ (hw _ (List.mem_of_getElem? (i := 23) rfl))) (g := (mkF m 39 #[.val (.ref a0), .val (.long q1), .second, .val (.long q2), .second] [(.long q2)])) rfl (hb hby d4_39) _ ?_
    show Steps p.tables e below (T2.setTop (mkF m 42 #[.val (.ref a0), .val (.long q1), .second, .val (.long q2), .second] [(.long (1099511627776 : Int64)), (.long q2)])) t
    refine XT.lcmp X2.here hx rfl (hb hby d4_42) rfl ?_
    show Steps p.tables e below (T2.setTop (mkF m 43 #[.val (.ref a0), .val (.long q1), .second, .val (.long q2), .second] [(.int (XT.cmpL q2 (1099511627776 : Int64)))])) t
    refine XS.ifYes X2.here hx rfl (pc0 := 43) (pc' := 60) rfl (hb hby d4_43) rfl (XT.ll_le_t h4) (by decide) (by decide) ?_
    show Steps p.tables e below (T2.setTop (mkF m 60 #[.val (.ref a0), .val (.long q1), .second, .val (.long q2), .second] [])) t
    refine XS.aloadN X2.here hx rfl (hb hby d4_60) rfl rfl ?_
    show Steps p.tables e below (T2.setTop (mkF m 61 #[.val (.ref a0), .val (.long q1), .second, .val (.long q2), .second] [(.ref a0)])) t
    refine XS.lloadN X2.here hx rfl (hb hby d4_61) rfl ?_
    show Steps p.tables e below (T2.setTop (mkF m 62 #[.val (.ref a0), .val (.long q1), .second, .val (.long q2), .second] [(.long q1), (.ref a0)])) t
    exact k
  obtain ⟨T5, h5, X5, e5, W5, st5⟩ := putF X2 hx hZ hown (host := "") (Or.inl (hw _ (List.mem_of_getElem? (i := 24) rfl))) Via.refl e2 F_a0_limit E_a0 (Or.inr ⟨(hw _ (List.mem_of_getElem? (i := 25) rfl)), rfl, hnm⟩) (hw _ (List.mem_of_getElem? (i := 14) rfl)) (ty := .long) (by decide) rfl rfl (g := (mkF m 62 #[.val (.ref a0), .val (.long q1), .second, .val (.long q2), .second] [(.long q1), (.ref a0)])) rfl rfl (hb hby d4_62)
  have go6 : ∀ t, Steps p.tables e below (T5.setTop (mkF m 65 #[.val (.ref a0), .val (.long q1), .second, .val (.long q2), .second] [])) t → Steps p.tables e below (s₁.setTop (entryFrame m #[(.ref a0), (.long q1), (.long q2)] 5)) t := fun t k => go4 _ (st5 _ k)
  have N5 := Fr.snoc X5 N0 g_a0
  have K5 : Keep h0 h5 [a0] := K0.wr W5 (Or.inl (List.mem_of_getElem? (i := 0) rfl))
  have Zs5 : n0 ≤ h5.size := Nat.le_trans Z0 (Keep.of_wr W5).1
  have F7 : Exa Z h5 a0 "com/example/weir/weir/Window" := E_a0.wr W5
  have F8 : Fld Z h5 a0 "com/example/weir/weir/Window" "limit" "J" (.long q1) := F_a0_limit.same W5
  have F9 : Fld Z h5 a0 "com/example/weir/weir/Window" "windowMillis" "J" w_a0_windowMillis := F_a0_windowMillis.other W5 (Or.inr (slot_ne (Or.inr (hw _ (List.mem_of_getElem? (i := 27) rfl))) (Or.inr (hw _ (List.mem_of_getElem? (i := 25) rfl))) (by decide) (t := .long) (t' := .long) (by decide) (by decide)))
  have F10 : Fld Z h5 a0 "com/example/weir/weir/Window" "slotMillis" "J" w_a0_slotMillis := F_a0_slotMillis.other W5 (Or.inr (slot_ne (Or.inr (hw _ (List.mem_of_getElem? (i := 30) rfl))) (Or.inr (hw _ (List.mem_of_getElem? (i := 25) rfl))) (by decide) (t := .long) (t' := .long) (by decide) (by decide)))
  have go11 : ∀ t, Steps p.tables e below (T5.setTop (mkF m 67 #[.val (.ref a0), .val (.long q1), .second, .val (.long q2), .second] [(.long q2), (.ref a0)])) t → Steps p.tables e below (s₁.setTop (entryFrame m #[(.ref a0), (.long q1), (.long q2)] 5)) t := by
    intro t k
    refine go6 _ ?_
    refine XS.aloadN X5.here hx rfl (hb hby d4_65) rfl rfl ?_
    show Steps p.tables e below (T5.setTop (mkF m 66 #[.val (.ref a0), .val (.long q1), .second, .val (.long q2), .second] [(.ref a0)])) t
    refine XS.lloadN X5.here hx rfl (hb hby d4_66) rfl ?_
    show Steps p.tables e below (T5.setTop (mkF m 67 #[.val (.ref a0), .val (.long q1), .second, .val (.long q2), .second] [(.long q2), (.ref a0)])) t
    exact k
  obtain ⟨T12, h12, X12, e12, W12, st12⟩ := putF X5 hx hZ hown (host := "") (Or.inl (hw _ (List.mem_of_getElem? (i := 26) rfl))) Via.refl e5 F9 F7 (Or.inr ⟨(hw _ (List.mem_of_getElem? (i := 27) rfl)), rfl, hnm⟩) (hw _ (List.mem_of_getElem? (i := 14) rfl)) (ty := .long) (by decide) rfl rfl (g := (mkF m 67 #[.val (.ref a0), .val (.long q1), .second, .val (.long q2), .second] [(.long q2), (.ref a0)])) rfl rfl (hb hby d4_67)
  have go13 : ∀ t, Steps p.tables e below (T12.setTop (mkF m 70 #[.val (.ref a0), .val (.long q1), .second, .val (.long q2), .second] [])) t → Steps p.tables e below (s₁.setTop (entryFrame m #[(.ref a0), (.long q1), (.long q2)] 5)) t := fun t k => go11 _ (st12 _ k)
  have N12 := Fr.snoc X12 N5 g_a0
  have K12 : Keep h0 h12 [a0] := K5.wr W12 (Or.inl (List.mem_of_getElem? (i := 0) rfl))
  have Zs12 : n0 ≤ h12.size := Nat.le_trans Zs5 (Keep.of_wr W12).1
  have F14 : Exa Z h12 a0 "com/example/weir/weir/Window" := F7.wr W12
  have F15 : Fld Z h12 a0 "com/example/weir/weir/Window" "limit" "J" (.long q1) := F8.other W12 (Or.inr (slot_ne (Or.inr (hw _ (List.mem_of_getElem? (i := 25) rfl))) (Or.inr (hw _ (List.mem_of_getElem? (i := 27) rfl))) (by decide) (t := .long) (t' := .long) (by decide) (by decide)))
  have F16 : Fld Z h12 a0 "com/example/weir/weir/Window" "windowMillis" "J" (.long q2) := F9.same W12
  have F17 : Fld Z h12 a0 "com/example/weir/weir/Window" "slotMillis" "J" w_a0_slotMillis := F10.other W12 (Or.inr (slot_ne (Or.inr (hw _ (List.mem_of_getElem? (i := 30) rfl))) (Or.inr (hw _ (List.mem_of_getElem? (i := 27) rfl))) (by decide) (t := .long) (t' := .long) (by decide) (by decide)))
  have go19 : ∀ t, Steps p.tables e below (T12.setTop (mkF m 82 #[.val (.ref a0), .val (.long q1), .second, .val (.long q2), .second] [(.long (v4_18 q2)), (.ref a0)])) t → Steps p.tables e below (s₁.setTop (entryFrame m #[(.ref a0), (.long q1), (.long q2)] 5)) t := by
    intro t k
    refine go13 _ ?_
    refine XS.aloadN X12.here hx rfl (hb hby d4_70) rfl rfl ?_
    show Steps p.tables e below (T12.setTop (mkF m 71 #[.val (.ref a0), .val (.long q1), .second, .val (.long q2), .second] [(.ref a0)])) t
    refine XS.lloadN X12.here hx rfl (hb hby d4_71) rfl ?_
    show Steps p.tables e below (T12.setTop (mkF m 72 #[.val (.ref a0), .val (.long q1), .second, .val (.long q2), .second] [(.long q2), (.ref a0)])) t
    refine X12.ldc2Long hx hown (mvT hZ (hw _ (List.mem_of_getElem? (i := 28) rfl))) (g := (mkF m 72 #[.val (.ref a0), .val (.long q1), .second, .val (.long q2), .second] [(.long q2), (.ref a0)])) rfl (hb hby d4_72) _ ?_
    show Steps p.tables e below (T12.setTop (mkF m 75 #[.val (.ref a0), .val (.long q1), .second, .val (.long q2), .second] [(.long (30 : Int64)), (.long q2), (.ref a0)])) t
    refine XS.ladd X12.here hx rfl (hb hby d4_75) rfl ?_
    show Steps p.tables e below (T12.setTop (mkF m 76 #[.val (.ref a0), .val (.long q1), .second, .val (.long q2), .second] [(.long (q2 + (30 : Int64))), (.ref a0)])) t
    refine XS.lconst X12.here hx rfl (hb hby d4_76) ?_
    show Steps p.tables e below (T12.setTop (mkF m 77 #[.val (.ref a0), .val (.long q1), .second, .val (.long q2), .second] [(.long (1 : Int64)), (.long (q2 + (30 : Int64))), (.ref a0)])) t
    refine XS.lsub X12.here hx rfl (hb hby d4_77) rfl ?_
    show Steps p.tables e below (T12.setTop (mkF m 78 #[.val (.ref a0), .val (.long q1), .second, .val (.long q2), .second] [(.long ((q2 + (30 : Int64)) - (1 : Int64))), (.ref a0)])) t
    refine X12.ldc2Long hx hown (mvT hZ (hw _ (List.mem_of_getElem? (i := 28) rfl))) (g := (mkF m 78 #[.val (.ref a0), .val (.long q1), .second, .val (.long q2), .second] [(.long ((q2 + (30 : Int64)) - (1 : Int64))), (.ref a0)])) rfl (hb hby d4_78) _ ?_
    show Steps p.tables e below (T12.setTop (mkF m 81 #[.val (.ref a0), .val (.long q1), .second, .val (.long q2), .second] [(.long (30 : Int64)), (.long ((q2 + (30 : Int64)) - (1 : Int64))), (.ref a0)])) t
    refine XS.ldiv X12.here hx rfl (hb hby d4_81) rfl (by decide) ?_
    show Steps p.tables e below (T12.setTop (mkF m 82 #[.val (.ref a0), .val (.long q1), .second, .val (.long q2), .second] [(.long (((q2 + (30 : Int64)) - (1 : Int64)) / (30 : Int64))), (.ref a0)])) t
    show Steps p.tables e below (T12.setTop (mkF m 82 #[.val (.ref a0), .val (.long q1), .second, .val (.long q2), .second] [(.long (v4_18 q2)), (.ref a0)])) t
    exact k
  obtain ⟨T20, h20, X20, e20, W20, st20⟩ := putF X12 hx hZ hown (host := "") (Or.inl (hw _ (List.mem_of_getElem? (i := 29) rfl))) Via.refl e12 F17 F14 (Or.inr ⟨(hw _ (List.mem_of_getElem? (i := 30) rfl)), rfl, hnm⟩) (hw _ (List.mem_of_getElem? (i := 14) rfl)) (ty := .long) (by decide) rfl rfl (g := (mkF m 82 #[.val (.ref a0), .val (.long q1), .second, .val (.long q2), .second] [(.long (v4_18 q2)), (.ref a0)])) rfl rfl (hb hby d4_82)
  have go21 : ∀ t, Steps p.tables e below (T20.setTop (mkF m 85 #[.val (.ref a0), .val (.long q1), .second, .val (.long q2), .second] [])) t → Steps p.tables e below (s₁.setTop (entryFrame m #[(.ref a0), (.long q1), (.long q2)] 5)) t := fun t k => go19 _ (st20 _ k)
  have N20 := Fr.snoc X20 N12 g_a0
  have K20 : Keep h0 h20 [a0] := K12.wr W20 (Or.inl (List.mem_of_getElem? (i := 0) rfl))
  have Zs20 : n0 ≤ h20.size := Nat.le_trans Zs12 (Keep.of_wr W20).1
  have F22 : Exa Z h20 a0 "com/example/weir/weir/Window" := F14.wr W20
  have F23 : Fld Z h20 a0 "com/example/weir/weir/Window" "limit" "J" (.long q1) := F15.other W20 (Or.inr (slot_ne (Or.inr (hw _ (List.mem_of_getElem? (i := 25) rfl))) (Or.inr (hw _ (List.mem_of_getElem? (i := 30) rfl))) (by decide) (t := .long) (t' := .long) (by decide) (by decide)))
  have F24 : Fld Z h20 a0 "com/example/weir/weir/Window" "windowMillis" "J" (.long q2) := F16.other W20 (Or.inr (slot_ne (Or.inr (hw _ (List.mem_of_getElem? (i := 27) rfl))) (Or.inr (hw _ (List.mem_of_getElem? (i := 30) rfl))) (by decide) (t := .long) (t' := .long) (by decide) (by decide)))
  have F25 : Fld Z h20 a0 "com/example/weir/weir/Window" "slotMillis" "J" (.long (v4_18 q2)) := F17.same W20
  obtain ⟨fs, hr, hrun, hended, hW, hsame⟩ := X20.leave (v := none) (fun _ => rfl)
  refine ⟨_, _, go21 _ (X20.returnOut hx Bd.returns (hb hby d4_85) hr), hrun, hended, _, _, rfl, ?_, ⟨_, rfl⟩, hW, hsame.mono (by decide) (by decide)⟩
  show Q4 _ _ a0 q1 q2 w_a0_limit w_a0_windowMillis w_a0_slotMillis h0 _ (T20.setFrames fs).heap _
  have hE : (T20.setFrames fs).heap = h20 := e20
  rw [hE]
  exact ⟨rfl, N20, K20, F22, F23, F24, F25⟩
theorem d6_0 : decode prog_18_method_12_code 0 = .ok (.aload_n 1, 1) := by decide +kernel
theorem d6_1 : decode prog_18_method_12_code 1 = .ok (.instanceof 7, 3) := by decide +kernel
theorem d6_4 : decode prog_18_method_12_code 4 = .ok (.ifCond .eq 36, 3) := by decide +kernel
theorem d6_7 : decode prog_18_method_12_code 7 = .ok (.aload_n 1, 1) := by decide +kernel
theorem d6_8 : decode prog_18_method_12_code 8 = .ok (.checkcast 7, 3) := by decide +kernel
theorem d6_11 : decode prog_18_method_12_code 11 = .ok (.astore_n 2, 1) := by decide +kernel
theorem d6_12 : decode prog_18_method_12_code 12 = .ok (.aload_n 0, 1) := by decide +kernel
theorem d6_13 : decode prog_18_method_12_code 13 = .ok (.getfield 23, 3) := by decide +kernel
theorem d6_16 : decode prog_18_method_12_code 16 = .ok (.aload_n 2, 1) := by decide +kernel
theorem d6_17 : decode prog_18_method_12_code 17 = .ok (.getfield 23, 3) := by decide +kernel
theorem d6_20 : decode prog_18_method_12_code 20 = .ok (.lcmp, 1) := by decide +kernel
theorem d6_21 : decode prog_18_method_12_code 21 = .ok (.ifCond .ne 19, 3) := by decide +kernel
theorem d6_24 : decode prog_18_method_12_code 24 = .ok (.aload_n 0, 1) := by decide +kernel
theorem d6_25 : decode prog_18_method_12_code 25 = .ok (.getfield 27, 3) := by decide +kernel
theorem d6_28 : decode prog_18_method_12_code 28 = .ok (.aload_n 2, 1) := by decide +kernel
theorem d6_29 : decode prog_18_method_12_code 29 = .ok (.getfield 27, 3) := by decide +kernel
theorem d6_32 : decode prog_18_method_12_code 32 = .ok (.lcmp, 1) := by decide +kernel
theorem d6_33 : decode prog_18_method_12_code 33 = .ok (.ifCond .ne 7, 3) := by decide +kernel
theorem d6_36 : decode prog_18_method_12_code 36 = .ok (.iconst 1, 1) := by decide +kernel
theorem d6_37 : decode prog_18_method_12_code 37 = .ok (.goto 4, 3) := by decide +kernel
theorem d6_40 : decode prog_18_method_12_code 40 = .ok (.iconst 0, 1) := by decide +kernel
theorem d6_41 : decode prog_18_method_12_code 41 = .ok (.ireturn, 1) := by decide +kernel
def beqW_23 (w_a0_windowMillis : Int64) (w_a1_windowMillis : Int64) : Int32 := (if w_a0_windowMillis = w_a1_windowMillis then (1 : Int32) else (0 : Int32))
def veqW_26 (w_a0_windowMillis : Int64) (w_a1_windowMillis : Int64) : Int32 := (beqW_23 w_a0_windowMillis w_a1_windowMillis)
def feqW (w_a0_limit : Int64) (w_a0_windowMillis : Int64) (w_a1_limit : Int64) (w_a1_windowMillis : Int64) : Int32 := (if w_a0_limit = w_a1_limit then (veqW_26 w_a0_windowMillis w_a1_windowMillis) else (0 : Int32))
def QeqW (Z : State) (n0 : Nat) (a0 : Addr) (a1 : Addr) (w_a0_limit : Int64) (w_a0_windowMillis : Int64) (w_a1_limit : Int64) (w_a1_windowMillis : Int64) (h0 : Heap) (v : Option Value) (h : Heap) (L : List Loc) : Prop := v = some (.int (feqW w_a0_limit w_a0_windowMillis w_a1_limit w_a1_windowMillis)) ∧ Fr n0 L ∧ h = h0
theorem efeqW (m : MethodId) (a0 : Addr) (a1 : Addr) : entryFrame m #[(.ref a0), (.ref a1)] 3 = mkF m 0 #[.val (.ref a0), .val (.ref a1), .unset] [] := by first | (simp [entryFrame, mkF, argsToLocals, Value.category]; done) | rfl
set_option maxRecDepth 65536 in
set_option maxHeartbeats 40000000 in
theorem rmeqW (l : Launch) (Z : State) (aZ : Array Value) (hw : ∀ d ∈ tables_1, d.before aZ Z = true) (ws : List Jvm.Cond) (a0 : Addr) (a1 : Addr) (w_a0_limit : Int64) (w_a0_windowMillis : Int64) (w_a1_limit : Int64) (w_a1_windowMillis : Int64) (h0 : Heap) (n0 : Nat) (Z0 : n0 ≤ h0.size) (F_a0_limit : Fld Z h0 a0 "com/example/weir/weir/Window" "limit" "J" (.long w_a0_limit)) (F_a0_windowMillis : Fld Z h0 a0 "com/example/weir/weir/Window" "windowMillis" "J" (.long w_a0_windowMillis)) (E_a1 : Exa Z h0 a1 "com/example/weir/weir/Window") (F_a1_limit : Fld Z h0 a1 "com/example/weir/weir/Window" "limit" "J" (.long w_a1_limit)) (F_a1_windowMillis : Fld Z h0 a1 "com/example/weir/weir/Window" "windowMillis" "J" (.long w_a1_windowMillis)) :
    MetFree l (⟨"com/example/weir/weir/Window", "equals", "(Ljava/lang/Object;)Z"⟩ : MethodName) (head1 (Jvm.Cond.code (⟨"com/example/weir/weir/Window", "equals", "(Ljava/lang/Object;)Z"⟩ : MethodName) prog_18_method_12_code 3 (some .boolean) :: ws) ({ frames := 0, cells := 0, slots := 0, locals := 0 } : Room)) (fun a U => a = #[(.ref a0), (.ref a1)] ∧ Z.Warmed39 U.vm ∧ U.heap = h0) (fun _ _ _ _ _ => True) (fun _ U o U' => ∃ v L, o = .returned v ∧ QeqW Z n0 a0 a1 w_a0_limit w_a0_windowMillis w_a1_limit w_a1_windowMillis h0 v U'.heap L ∧ FrameEnd U o U' L ({ frames := 0, cells := 0, slots := 0, locals := 0 } : Room).cells ({ frames := 0, cells := 0, slots := 0, locals := 0 } : Room).slots) := by
  refine MetFree.of_bodySF (plainFor_of_name pn_128) hisR ?_
  intro p e s m args below meth c s₁ Bd hml0 hP hK
  obtain ⟨rfl, hZ, hh⟩ := hP
  have hx := Bd.exec
  have hby := Bd.bytes
  have hml : c.maxLocals = 3 := hml0
  have hown : s.vm.findClass "com/example/weir/weir/Window" = some m.cls := findClass_of_methodNamed Bd.named
  have hnm := (name_of_methodNamed Bd.named Bd.method).1
  have X0 : Stand p l e ({ frames := 0, cells := 0, slots := 0, locals := 0 } : Room) s m #[(.ref a0), (.ref a1)] below meth c s₁ [] 0 0 := Stand.of_body Bd
  have e0 : s₁.heap = h0 := by rw [← hh, Bd.state]; rfl
  have N0 := Fr.nil n0
  have K0 : Keep h0 h0 [] := Keep.refl _ _
  have go0 : ∀ t, Steps p.tables e below (s₁.setTop (mkF m 0 #[.val (.ref a0), .val (.ref a1), .unset] [])) t → Steps p.tables e below (s₁.setTop (entryFrame m #[(.ref a0), (.ref a1)] 3)) t := fun t k => castTop (efeqW m a0 a1) k
  have go1 : ∀ t, Steps p.tables e below (s₁.setTop (mkF m 1 #[.val (.ref a0), .val (.ref a1), .unset] [(.ref a1)])) t → Steps p.tables e below (s₁.setTop (entryFrame m #[(.ref a0), (.ref a1)] 3)) t := by
    intro t k
    refine go0 _ ?_
    refine XS.aloadN X0.here hx rfl (hb hby d6_0) rfl rfl ?_
    show Steps p.tables e below (s₁.setTop (mkF m 1 #[.val (.ref a0), .val (.ref a1), .unset] [(.ref a1)])) t
    exact k
  obtain ⟨T2, X2, e2, st2⟩ := instY X0 hx hZ hown (hw _ (List.mem_of_getElem? (i := 36) rfl)) e0 (Ins.self E_a1) (g := (mkF m 1 #[.val (.ref a0), .val (.ref a1), .unset] [(.ref a1)])) rfl rfl (hb hby d6_1)
  have go3 : ∀ t, Steps p.tables e below (T2.setTop (mkF m 4 #[.val (.ref a0), .val (.ref a1), .unset] [(.int (1 : Int32))])) t → Steps p.tables e below (s₁.setTop (entryFrame m #[(.ref a0), (.ref a1)] 3)) t := fun t k => go1 _ (st2 _ k)
  have go4 : ∀ t, Steps p.tables e below (T2.setTop (mkF m 8 #[.val (.ref a0), .val (.ref a1), .unset] [(.ref a1)])) t → Steps p.tables e below (s₁.setTop (entryFrame m #[(.ref a0), (.ref a1)] 3)) t := by
    intro t k
    refine go3 _ ?_
    refine XS.ifNo X2.here hx rfl (hb hby d6_4) rfl (XT.i0_eq_f (by decide : ¬ ((1 : Int32) = (0 : Int32)))) ?_
    show Steps p.tables e below (T2.setTop (mkF m 7 #[.val (.ref a0), .val (.ref a1), .unset] [])) t
    refine XS.aloadN X2.here hx rfl (hb hby d6_7) rfl rfl ?_
    show Steps p.tables e below (T2.setTop (mkF m 8 #[.val (.ref a0), .val (.ref a1), .unset] [(.ref a1)])) t
    exact k
  obtain ⟨T5, X5, e5, st5⟩ := castY X2 hx hZ hown (hw _ (List.mem_of_getElem? (i := 36) rfl)) e2 (Ins.self E_a1) (g := (mkF m 8 #[.val (.ref a0), .val (.ref a1), .unset] [(.ref a1)])) rfl rfl (hb hby d6_8)
  have go6 : ∀ t, Steps p.tables e below (T5.setTop (mkF m 11 #[.val (.ref a0), .val (.ref a1), .unset] [(.ref a1)])) t → Steps p.tables e below (s₁.setTop (entryFrame m #[(.ref a0), (.ref a1)] 3)) t := fun t k => go4 _ (st5 _ k)
  have go7 : ∀ t, Steps p.tables e below (T5.setTop (mkF m 13 #[.val (.ref a0), .val (.ref a1), .val (.ref a1)] [(.ref a0)])) t → Steps p.tables e below (s₁.setTop (entryFrame m #[(.ref a0), (.ref a1)] 3)) t := by
    intro t k
    refine go6 _ ?_
    refine XS.astoreN X5.here hx rfl (hb hby d6_11) rfl rfl (l' := #[.val (.ref a0), .val (.ref a1), .val (.ref a1)]) rfl ?_
    show Steps p.tables e below (T5.setTop (mkF m 12 #[.val (.ref a0), .val (.ref a1), .val (.ref a1)] [])) t
    refine XS.aloadN X5.here hx rfl (hb hby d6_12) rfl rfl ?_
    show Steps p.tables e below (T5.setTop (mkF m 13 #[.val (.ref a0), .val (.ref a1), .val (.ref a1)] [(.ref a0)])) t
    exact k
  obtain ⟨T8, X8, e8, st8⟩ := getF X5 hx hZ hown (host := "") (Or.inl (hw _ (List.mem_of_getElem? (i := 24) rfl))) Via.refl e5 F_a0_limit (g := (mkF m 13 #[.val (.ref a0), .val (.ref a1), .val (.ref a1)] [(.ref a0)])) rfl rfl (hb hby d6_13)
  have go9 : ∀ t, Steps p.tables e below (T8.setTop (mkF m 16 #[.val (.ref a0), .val (.ref a1), .val (.ref a1)] [(.long w_a0_limit)])) t → Steps p.tables e below (s₁.setTop (entryFrame m #[(.ref a0), (.ref a1)] 3)) t := fun t k => go7 _ (st8 _ k)
  have go10 : ∀ t, Steps p.tables e below (T8.setTop (mkF m 17 #[.val (.ref a0), .val (.ref a1), .val (.ref a1)] [(.ref a1), (.long w_a0_limit)])) t → Steps p.tables e below (s₁.setTop (entryFrame m #[(.ref a0), (.ref a1)] 3)) t := by
    intro t k
    refine go9 _ ?_
    refine XS.aloadN X8.here hx rfl (hb hby d6_16) rfl rfl ?_
    show Steps p.tables e below (T8.setTop (mkF m 17 #[.val (.ref a0), .val (.ref a1), .val (.ref a1)] [(.ref a1), (.long w_a0_limit)])) t
    exact k
  obtain ⟨T11, X11, e11, st11⟩ := getF X8 hx hZ hown (host := "") (Or.inl (hw _ (List.mem_of_getElem? (i := 24) rfl))) Via.refl e8 F_a1_limit (g := (mkF m 17 #[.val (.ref a0), .val (.ref a1), .val (.ref a1)] [(.ref a1), (.long w_a0_limit)])) rfl rfl (hb hby d6_17)
  have go12 : ∀ t, Steps p.tables e below (T11.setTop (mkF m 20 #[.val (.ref a0), .val (.ref a1), .val (.ref a1)] [(.long w_a1_limit), (.long w_a0_limit)])) t → Steps p.tables e below (s₁.setTop (entryFrame m #[(.ref a0), (.ref a1)] 3)) t := fun t k => go10 _ (st11 _ k)
  have go13 : ∀ t, Steps p.tables e below (T11.setTop (mkF m 21 #[.val (.ref a0), .val (.ref a1), .val (.ref a1)] [(.int (XT.cmpL w_a0_limit w_a1_limit))])) t → Steps p.tables e below (s₁.setTop (entryFrame m #[(.ref a0), (.ref a1)] 3)) t := by
    intro t k
    refine go12 _ ?_
    refine XT.lcmp X11.here hx rfl (hb hby d6_20) rfl ?_
    show Steps p.tables e below (T11.setTop (mkF m 21 #[.val (.ref a0), .val (.ref a1), .val (.ref a1)] [(.int (XT.cmpL w_a0_limit w_a1_limit))])) t
    exact k
  by_cases hs14 : w_a0_limit = w_a1_limit
  · have go15 : ∀ t, Steps p.tables e below (T11.setTop (mkF m 25 #[.val (.ref a0), .val (.ref a1), .val (.ref a1)] [(.ref a0)])) t → Steps p.tables e below (s₁.setTop (entryFrame m #[(.ref a0), (.ref a1)] 3)) t := by
      intro t k
      refine go13 _ ?_
      refine XS.ifNo X11.here hx rfl (hb hby d6_21) rfl (XT.ll_ne_f hs14) ?_
      show Steps p.tables e below (T11.setTop (mkF m 24 #[.val (.ref a0), .val (.ref a1), .val (.ref a1)] [])) t
      refine XS.aloadN X11.here hx rfl (hb hby d6_24) rfl rfl ?_
      show Steps p.tables e below (T11.setTop (mkF m 25 #[.val (.ref a0), .val (.ref a1), .val (.ref a1)] [(.ref a0)])) t
      exact k
    obtain ⟨T16, X16, e16, st16⟩ := getF X11 hx hZ hown (host := "") (Or.inl (hw _ (List.mem_of_getElem? (i := 26) rfl))) Via.refl e11 F_a0_windowMillis (g := (mkF m 25 #[.val (.ref a0), .val (.ref a1), .val (.ref a1)] [(.ref a0)])) rfl rfl (hb hby d6_25)
    have go17 : ∀ t, Steps p.tables e below (T16.setTop (mkF m 28 #[.val (.ref a0), .val (.ref a1), .val (.ref a1)] [(.long w_a0_windowMillis)])) t → Steps p.tables e below (s₁.setTop (entryFrame m #[(.ref a0), (.ref a1)] 3)) t := fun t k => go15 _ (st16 _ k)
    have go18 : ∀ t, Steps p.tables e below (T16.setTop (mkF m 29 #[.val (.ref a0), .val (.ref a1), .val (.ref a1)] [(.ref a1), (.long w_a0_windowMillis)])) t → Steps p.tables e below (s₁.setTop (entryFrame m #[(.ref a0), (.ref a1)] 3)) t := by
      intro t k
      refine go17 _ ?_
      refine XS.aloadN X16.here hx rfl (hb hby d6_28) rfl rfl ?_
      show Steps p.tables e below (T16.setTop (mkF m 29 #[.val (.ref a0), .val (.ref a1), .val (.ref a1)] [(.ref a1), (.long w_a0_windowMillis)])) t
      exact k
    obtain ⟨T19, X19, e19, st19⟩ := getF X16 hx hZ hown (host := "") (Or.inl (hw _ (List.mem_of_getElem? (i := 26) rfl))) Via.refl e16 F_a1_windowMillis (g := (mkF m 29 #[.val (.ref a0), .val (.ref a1), .val (.ref a1)] [(.ref a1), (.long w_a0_windowMillis)])) rfl rfl (hb hby d6_29)
    have go20 : ∀ t, Steps p.tables e below (T19.setTop (mkF m 32 #[.val (.ref a0), .val (.ref a1), .val (.ref a1)] [(.long w_a1_windowMillis), (.long w_a0_windowMillis)])) t → Steps p.tables e below (s₁.setTop (entryFrame m #[(.ref a0), (.ref a1)] 3)) t := fun t k => go18 _ (st19 _ k)
    have go22 : ∀ t, Steps p.tables e below (T19.setTop (mkF m 41 #[.val (.ref a0), .val (.ref a1), .val (.ref a1)] [(.int (beqW_23 w_a0_windowMillis w_a1_windowMillis))])) t → Steps p.tables e below (s₁.setTop (entryFrame m #[(.ref a0), (.ref a1)] 3)) t := by
      intro t k
      refine go20 _ ?_
      refine XT.lcmp X19.here hx rfl (hb hby d6_32) rfl ?_
      show Steps p.tables e below (T19.setTop (mkF m 33 #[.val (.ref a0), .val (.ref a1), .val (.ref a1)] [(.int (XT.cmpL w_a0_windowMillis w_a1_windowMillis))])) t
      by_cases hc21 : w_a0_windowMillis = w_a1_windowMillis
      · refine XS.ifNo X19.here hx rfl (hb hby d6_33) rfl (XT.ll_ne_f hc21) ?_
        show Steps p.tables e below (T19.setTop (mkF m 36 #[.val (.ref a0), .val (.ref a1), .val (.ref a1)] [])) t
        refine XS.iconst X19.here hx rfl (hb hby d6_36) ?_
        show Steps p.tables e below (T19.setTop (mkF m 37 #[.val (.ref a0), .val (.ref a1), .val (.ref a1)] [(.int (1 : Int32))])) t
        refine XS.goto X19.here hx rfl (pc0 := 37) (pc' := 41) rfl (hb hby d6_37) (by decide) (by decide) ?_
        show Steps p.tables e below (T19.setTop (mkF m 41 #[.val (.ref a0), .val (.ref a1), .val (.ref a1)] [(.int (1 : Int32))])) t
        have hq24 : (beqW_23 w_a0_windowMillis w_a1_windowMillis) = (1 : Int32) := by rw [beqW_23, if_pos hc21]
        rw [hq24] at k
        exact k
      · refine XS.ifYes X19.here hx rfl (pc0 := 33) (pc' := 40) rfl (hb hby d6_33) rfl (XT.ll_ne_t hc21) (by decide) (by decide) ?_
        show Steps p.tables e below (T19.setTop (mkF m 40 #[.val (.ref a0), .val (.ref a1), .val (.ref a1)] [])) t
        refine XS.iconst X19.here hx rfl (hb hby d6_40) ?_
        show Steps p.tables e below (T19.setTop (mkF m 41 #[.val (.ref a0), .val (.ref a1), .val (.ref a1)] [(.int (0 : Int32))])) t
        have hq25 : (beqW_23 w_a0_windowMillis w_a1_windowMillis) = (0 : Int32) := by rw [beqW_23, if_neg hc21]
        rw [hq25] at k
        exact k
    have go27 : ∀ t, Steps p.tables e below (T19.setTop (mkF m 41 #[.val (.ref a0), .val (.ref a1), .val (.ref a1)] [(.int (veqW_26 w_a0_windowMillis w_a1_windowMillis))])) t → Steps p.tables e below (s₁.setTop (entryFrame m #[(.ref a0), (.ref a1)] 3)) t := by
      intro t k
      refine go22 _ ?_
      show Steps p.tables e below (T19.setTop (mkF m 41 #[.val (.ref a0), .val (.ref a1), .val (.ref a1)] [(.int (veqW_26 w_a0_windowMillis w_a1_windowMillis))])) t
      exact k
    obtain ⟨fs, hr, hrun, hended, hW, hsame⟩ := X19.leave (v := some (.int (veqW_26 w_a0_windowMillis w_a1_windowMillis))) (fun h => by rw [Bd.returns] at h; cases h)
    refine ⟨_, _, go27 _ (Jvm.RoadKit.retOut X19 hx Bd.returns (own_nz (by simp only [veqW_26, beqW_23]; (repeat' split) <;> first | exact Or.inl rfl | exact Or.inr rfl)) (Or.inl ⟨rfl, Or.inr (Or.inl rfl), _, rfl⟩) (hb hby d6_41) hr), hrun, hended, _, _, rfl, ?_, ⟨_, rfl⟩, hW, hsame.mono (by decide) (by decide)⟩
    show QeqW _ _ a0 a1 w_a0_limit w_a0_windowMillis w_a1_limit w_a1_windowMillis h0 _ (T19.setFrames fs).heap _
    have hE : (T19.setFrames fs).heap = h0 := e19
    rw [hE]
    exact ⟨by rw [feqW, if_pos hs14], N0, rfl⟩
  · have go28 : ∀ t, Steps p.tables e below (T11.setTop (mkF m 41 #[.val (.ref a0), .val (.ref a1), .val (.ref a1)] [(.int (0 : Int32))])) t → Steps p.tables e below (s₁.setTop (entryFrame m #[(.ref a0), (.ref a1)] 3)) t := by
      intro t k
      refine go13 _ ?_
      refine XS.ifYes X11.here hx rfl (pc0 := 21) (pc' := 40) rfl (hb hby d6_21) rfl (XT.ll_ne_t hs14) (by decide) (by decide) ?_
      show Steps p.tables e below (T11.setTop (mkF m 40 #[.val (.ref a0), .val (.ref a1), .val (.ref a1)] [])) t
      refine XS.iconst X11.here hx rfl (hb hby d6_40) ?_
      show Steps p.tables e below (T11.setTop (mkF m 41 #[.val (.ref a0), .val (.ref a1), .val (.ref a1)] [(.int (0 : Int32))])) t
      exact k
    obtain ⟨fs, hr, hrun, hended, hW, hsame⟩ := X11.leave (v := some (.int (0 : Int32))) (fun h => by rw [Bd.returns] at h; cases h)
    refine ⟨_, _, go28 _ (Jvm.RoadKit.retOut X11 hx Bd.returns rfl (Or.inl ⟨rfl, Or.inr (Or.inl rfl), _, rfl⟩) (hb hby d6_41) hr), hrun, hended, _, _, rfl, ?_, ⟨_, rfl⟩, hW, hsame.mono (by decide) (by decide)⟩
    show QeqW _ _ a0 a1 w_a0_limit w_a0_windowMillis w_a1_limit w_a1_windowMillis h0 _ (T11.setFrames fs).heap _
    have hE : (T11.setFrames fs).heap = h0 := e11
    rw [hE]
    exact ⟨by rw [feqW, if_neg hs14], N0, rfl⟩
def QeqN (Z : State) (n0 : Nat) (a0 : Addr) (h0 : Heap) (v : Option Value) (h : Heap) (L : List Loc) : Prop := v = some (.int (0 : Int32)) ∧ Fr n0 L ∧ h = h0
theorem efeqN (m : MethodId) (a0 : Addr) : entryFrame m #[(.ref a0), .null] 3 = mkF m 0 #[.val (.ref a0), .val .null, .unset] [] := by first | (simp [entryFrame, mkF, argsToLocals, Value.category]; done) | rfl
set_option maxRecDepth 65536 in
set_option maxHeartbeats 40000000 in
theorem rmeqN (l : Launch) (Z : State) (aZ : Array Value) (hw : ∀ d ∈ tables_1, d.before aZ Z = true) (ws : List Jvm.Cond) (a0 : Addr) (h0 : Heap) (n0 : Nat) (Z0 : n0 ≤ h0.size) :
    MetFree l (⟨"com/example/weir/weir/Window", "equals", "(Ljava/lang/Object;)Z"⟩ : MethodName) (head1 (Jvm.Cond.code (⟨"com/example/weir/weir/Window", "equals", "(Ljava/lang/Object;)Z"⟩ : MethodName) prog_18_method_12_code 3 (some .boolean) :: ws) ({ frames := 0, cells := 0, slots := 0, locals := 0 } : Room)) (fun a U => a = #[(.ref a0), .null] ∧ Z.Warmed39 U.vm ∧ U.heap = h0) (fun _ _ _ _ _ => True) (fun _ U o U' => ∃ v L, o = .returned v ∧ QeqN Z n0 a0 h0 v U'.heap L ∧ FrameEnd U o U' L ({ frames := 0, cells := 0, slots := 0, locals := 0 } : Room).cells ({ frames := 0, cells := 0, slots := 0, locals := 0 } : Room).slots) := by
  refine MetFree.of_bodySF (plainFor_of_name pn_128) hisR ?_
  intro p e s m args below meth c s₁ Bd hml0 hP hK
  obtain ⟨rfl, hZ, hh⟩ := hP
  have hx := Bd.exec
  have hby := Bd.bytes
  have hml : c.maxLocals = 3 := hml0
  have hown : s.vm.findClass "com/example/weir/weir/Window" = some m.cls := findClass_of_methodNamed Bd.named
  have hnm := (name_of_methodNamed Bd.named Bd.method).1
  have X0 : Stand p l e ({ frames := 0, cells := 0, slots := 0, locals := 0 } : Room) s m #[(.ref a0), .null] below meth c s₁ [] 0 0 := Stand.of_body Bd
  have e0 : s₁.heap = h0 := by rw [← hh, Bd.state]; rfl
  have N0 := Fr.nil n0
  have K0 : Keep h0 h0 [] := Keep.refl _ _
  have go0 : ∀ t, Steps p.tables e below (s₁.setTop (mkF m 0 #[.val (.ref a0), .val .null, .unset] [])) t → Steps p.tables e below (s₁.setTop (entryFrame m #[(.ref a0), .null] 3)) t := fun t k => castTop (efeqN m a0) k
  have go1 : ∀ t, Steps p.tables e below (s₁.setTop (mkF m 1 #[.val (.ref a0), .val .null, .unset] [.null])) t → Steps p.tables e below (s₁.setTop (entryFrame m #[(.ref a0), .null] 3)) t := by
    intro t k
    refine go0 _ ?_
    refine XS.aloadN X0.here hx rfl (hb hby d6_0) rfl rfl ?_
    show Steps p.tables e below (s₁.setTop (mkF m 1 #[.val (.ref a0), .val .null, .unset] [.null])) t
    exact k
  have go3 : ∀ t, Steps p.tables e below (s₁.setTop (mkF m 41 #[.val (.ref a0), .val .null, .unset] [(.int (0 : Int32))])) t → Steps p.tables e below (s₁.setTop (entryFrame m #[(.ref a0), .null] 3)) t := by
    intro t k
    refine go1 _ ?_
    refine X0.instanceofNull hx (g := (mkF m 1 #[.val (.ref a0), .val .null, .unset] [.null])) rfl rfl (hb hby d6_1) _ ?_
    show Steps p.tables e below (s₁.setTop (mkF m 4 #[.val (.ref a0), .val .null, .unset] [(.int (0 : Int32))])) t
    refine XS.ifYes X0.here hx rfl (pc0 := 4) (pc' := 40) rfl (hb hby d6_4) rfl (XT.i0_eq_t (by decide : ((0 : Int32) = (0 : Int32)))) (by decide) (by decide) ?_
    show Steps p.tables e below (s₁.setTop (mkF m 40 #[.val (.ref a0), .val .null, .unset] [])) t
    refine XS.iconst X0.here hx rfl (hb hby d6_40) ?_
    show Steps p.tables e below (s₁.setTop (mkF m 41 #[.val (.ref a0), .val .null, .unset] [(.int (0 : Int32))])) t
    exact k
  obtain ⟨fs, hr, hrun, hended, hW, hsame⟩ := X0.leave (v := some (.int (0 : Int32))) (fun h => by rw [Bd.returns] at h; cases h)
  refine ⟨_, _, go3 _ (Jvm.RoadKit.retOut X0 hx Bd.returns rfl (Or.inl ⟨rfl, Or.inr (Or.inl rfl), _, rfl⟩) (hb hby d6_41) hr), hrun, hended, _, _, rfl, ?_, ⟨_, rfl⟩, hW, hsame.mono (by decide) (by decide)⟩
  show QeqN _ _ a0 h0 _ (s₁.setFrames fs).heap _
  have hE : (s₁.setFrames fs).heap = h0 := e0
  rw [hE]
  exact ⟨rfl, N0, rfl⟩
def QeqL (Z : State) (n0 : Nat) (a0 : Addr) (a1 : Addr) (h0 : Heap) (v : Option Value) (h : Heap) (L : List Loc) : Prop := v = some (.int (0 : Int32)) ∧ Fr n0 L ∧ h = h0
theorem efeqL (m : MethodId) (a0 : Addr) (a1 : Addr) : entryFrame m #[(.ref a0), (.ref a1)] 3 = mkF m 0 #[.val (.ref a0), .val (.ref a1), .unset] [] := by first | (simp [entryFrame, mkF, argsToLocals, Value.category]; done) | rfl
set_option maxRecDepth 65536 in
set_option maxHeartbeats 40000000 in
theorem rmeqL (l : Launch) (Z : State) (aZ : Array Value) (hw : ∀ d ∈ tables_1, d.before aZ Z = true) (ws : List Jvm.Cond) (a0 : Addr) (a1 : Addr) (h0 : Heap) (n0 : Nat) (Z0 : n0 ≤ h0.size) (E_a1 : Exa Z h0 a1 "java/lang/Long") (hno : ∃ c t, Z.vm.findClass "java/lang/Long" = some c ∧ Z.vm.findClass "com/example/weir/weir/Window" = some t ∧ Z.vm.assignable c t = false) :
    MetFree l (⟨"com/example/weir/weir/Window", "equals", "(Ljava/lang/Object;)Z"⟩ : MethodName) (head1 (Jvm.Cond.code (⟨"com/example/weir/weir/Window", "equals", "(Ljava/lang/Object;)Z"⟩ : MethodName) prog_18_method_12_code 3 (some .boolean) :: ws) ({ frames := 0, cells := 0, slots := 0, locals := 0 } : Room)) (fun a U => a = #[(.ref a0), (.ref a1)] ∧ Z.Warmed39 U.vm ∧ U.heap = h0) (fun _ _ _ _ _ => True) (fun _ U o U' => ∃ v L, o = .returned v ∧ QeqL Z n0 a0 a1 h0 v U'.heap L ∧ FrameEnd U o U' L ({ frames := 0, cells := 0, slots := 0, locals := 0 } : Room).cells ({ frames := 0, cells := 0, slots := 0, locals := 0 } : Room).slots) := by
  refine MetFree.of_bodySF (plainFor_of_name pn_128) hisR ?_
  intro p e s m args below meth c s₁ Bd hml0 hP hK
  obtain ⟨rfl, hZ, hh⟩ := hP
  have hx := Bd.exec
  have hby := Bd.bytes
  have hml : c.maxLocals = 3 := hml0
  have hown : s.vm.findClass "com/example/weir/weir/Window" = some m.cls := findClass_of_methodNamed Bd.named
  have hnm := (name_of_methodNamed Bd.named Bd.method).1
  have X0 : Stand p l e ({ frames := 0, cells := 0, slots := 0, locals := 0 } : Room) s m #[(.ref a0), (.ref a1)] below meth c s₁ [] 0 0 := Stand.of_body Bd
  have e0 : s₁.heap = h0 := by rw [← hh, Bd.state]; rfl
  have N0 := Fr.nil n0
  have K0 : Keep h0 h0 [] := Keep.refl _ _
  have go0 : ∀ t, Steps p.tables e below (s₁.setTop (mkF m 0 #[.val (.ref a0), .val (.ref a1), .unset] [])) t → Steps p.tables e below (s₁.setTop (entryFrame m #[(.ref a0), (.ref a1)] 3)) t := fun t k => castTop (efeqL m a0 a1) k
  have go1 : ∀ t, Steps p.tables e below (s₁.setTop (mkF m 1 #[.val (.ref a0), .val (.ref a1), .unset] [(.ref a1)])) t → Steps p.tables e below (s₁.setTop (entryFrame m #[(.ref a0), (.ref a1)] 3)) t := by
    intro t k
    refine go0 _ ?_
    refine XS.aloadN X0.here hx rfl (hb hby d6_0) rfl rfl ?_
    show Steps p.tables e below (s₁.setTop (mkF m 1 #[.val (.ref a0), .val (.ref a1), .unset] [(.ref a1)])) t
    exact k
  obtain ⟨T2, X2, e2, st2⟩ := instNo X0 hx hZ hown (hw _ (List.mem_of_getElem? (i := 36) rfl)) e0 E_a1 hno (g := (mkF m 1 #[.val (.ref a0), .val (.ref a1), .unset] [(.ref a1)])) rfl rfl (hb hby d6_1)
  have go3 : ∀ t, Steps p.tables e below (T2.setTop (mkF m 4 #[.val (.ref a0), .val (.ref a1), .unset] [(.int (0 : Int32))])) t → Steps p.tables e below (s₁.setTop (entryFrame m #[(.ref a0), (.ref a1)] 3)) t := fun t k => go1 _ (st2 _ k)
  have go4 : ∀ t, Steps p.tables e below (T2.setTop (mkF m 41 #[.val (.ref a0), .val (.ref a1), .unset] [(.int (0 : Int32))])) t → Steps p.tables e below (s₁.setTop (entryFrame m #[(.ref a0), (.ref a1)] 3)) t := by
    intro t k
    refine go3 _ ?_
    refine XS.ifYes X2.here hx rfl (pc0 := 4) (pc' := 40) rfl (hb hby d6_4) rfl (XT.i0_eq_t (by decide : ((0 : Int32) = (0 : Int32)))) (by decide) (by decide) ?_
    show Steps p.tables e below (T2.setTop (mkF m 40 #[.val (.ref a0), .val (.ref a1), .unset] [])) t
    refine XS.iconst X2.here hx rfl (hb hby d6_40) ?_
    show Steps p.tables e below (T2.setTop (mkF m 41 #[.val (.ref a0), .val (.ref a1), .unset] [(.int (0 : Int32))])) t
    exact k
  obtain ⟨fs, hr, hrun, hended, hW, hsame⟩ := X2.leave (v := some (.int (0 : Int32))) (fun h => by rw [Bd.returns] at h; cases h)
  refine ⟨_, _, go4 _ (Jvm.RoadKit.retOut X2 hx Bd.returns rfl (Or.inl ⟨rfl, Or.inr (Or.inl rfl), _, rfl⟩) (hb hby d6_41) hr), hrun, hended, _, _, rfl, ?_, ⟨_, rfl⟩, hW, hsame.mono (by decide) (by decide)⟩
  show QeqL _ _ a0 a1 h0 _ (T2.setFrames fs).heap _
  have hE : (T2.setFrames fs).heap = h0 := e2
  rw [hE]
  exact ⟨rfl, N0, rfl⟩
theorem d9_0 : decode jdk_18_method_1_code 0 = .ok (.aload_n 0, 1) := by decide +kernel
theorem d9_1 : decode jdk_18_method_1_code 1 = .ok (.invokespecial 1, 3) := by decide +kernel
theorem d9_4 : decode jdk_18_method_1_code 4 = .ok (.return_, 1) := by decide +kernel
theorem pn_156 : plainName "java/lang/Number" = true := by first | (simp [plainName, overriddenIn]; done) | decide +kernel
def Q9 (Z : State) (n0 : Nat) (a0 : Addr) (h0 : Heap) (v : Option Value) (h : Heap) (L : List Loc) : Prop := v = none ∧ Fr n0 L ∧ h = h0
theorem ef9 (m : MethodId) (a0 : Addr) : entryFrame m #[(.ref a0)] 1 = mkF m 0 #[.val (.ref a0)] [] := by first | (simp [entryFrame, mkF, argsToLocals, Value.category]; done) | rfl
set_option maxRecDepth 65536 in
set_option maxHeartbeats 40000000 in
theorem rm9 (l : Launch) (Z : State) (aZ : Array Value) (hw : ∀ d ∈ tables_1, d.before aZ Z = true) (ws : List Jvm.Cond) (a0 : Addr) (h0 : Heap) (n0 : Nat) (Z0 : n0 ≤ h0.size) :
    MetFree l (⟨"java/lang/Number", "<init>", "()V"⟩ : MethodName) (head1 (Jvm.Cond.code (⟨"java/lang/Number", "<init>", "()V"⟩ : MethodName) jdk_18_method_1_code 1 none :: ws) ({ frames := 1, cells := 0, slots := 0, locals := 12 } : Room)) (fun a U => a = #[(.ref a0)] ∧ Z.Warmed39 U.vm ∧ U.heap = h0) (fun _ _ _ _ _ => True) (fun _ U o U' => ∃ v L, o = .returned v ∧ Q9 Z n0 a0 h0 v U'.heap L ∧ FrameEnd U o U' L ({ frames := 1, cells := 0, slots := 0, locals := 12 } : Room).cells ({ frames := 1, cells := 0, slots := 0, locals := 12 } : Room).slots) := by
  refine MetFree.of_bodySF (plainFor_of_name pn_156) hisR ?_
  intro p e s m args below meth c s₁ Bd hml0 hP hK
  obtain ⟨rfl, hZ, hh⟩ := hP
  have hx := Bd.exec
  have hby := Bd.bytes
  have hml : c.maxLocals = 1 := hml0
  have hown : s.vm.findClass "java/lang/Number" = some m.cls := findClass_of_methodNamed Bd.named
  have hnm := (name_of_methodNamed Bd.named Bd.method).1
  have X0 : Stand p l e ({ frames := 1, cells := 0, slots := 0, locals := 12 } : Room) s m #[(.ref a0)] below meth c s₁ [] 0 0 := Stand.of_body Bd
  have e0 : s₁.heap = h0 := by rw [← hh, Bd.state]; rfl
  have N0 := Fr.nil n0
  have K0 : Keep h0 h0 [] := Keep.refl _ _
  have go0 : ∀ t, Steps p.tables e below (s₁.setTop (mkF m 0 #[.val (.ref a0)] [])) t → Steps p.tables e below (s₁.setTop (entryFrame m #[(.ref a0)] 1)) t := fun t k => castTop (ef9 m a0) k
  have go1 : ∀ t, Steps p.tables e below (s₁.setTop (mkF m 1 #[.val (.ref a0)] [(.ref a0)])) t → Steps p.tables e below (s₁.setTop (entryFrame m #[(.ref a0)] 1)) t := by
    intro t k
    refine go0 _ ?_
    refine XS.aloadN X0.here hx rfl (hb hby d9_0) rfl rfl ?_
    show Steps p.tables e below (s₁.setTop (mkF m 1 #[.val (.ref a0)] [(.ref a0)])) t
    exact k
  obtain ⟨T2, X2, e2, st2⟩ := initO X0 hx hZ hown (hw _ (List.mem_of_getElem? (i := 58) rfl)) (hw _ (List.mem_of_getElem? (i := 20) rfl)) (hw _ (List.mem_of_getElem? (i := 21) rfl)) e0 (g := (mkF m 1 #[.val (.ref a0)] [(.ref a0)])) rfl (by rw [hml]; rfl) rfl (hb hby d9_1) (by decide) (W := 0) (by show 2 * 0 + _ ≤ _; exact Nat.le_of_eq rfl) (by decide)
  have go3 : ∀ t, Steps p.tables e below (T2.setTop (mkF m 4 #[.val (.ref a0)] [])) t → Steps p.tables e below (s₁.setTop (entryFrame m #[(.ref a0)] 1)) t := fun t k => go1 _ (st2 _ k)
  obtain ⟨fs, hr, hrun, hended, hW, hsame⟩ := X2.leave (v := none) (fun _ => rfl)
  refine ⟨_, _, go3 _ (X2.returnOut hx Bd.returns (hb hby d9_4) hr), hrun, hended, _, _, rfl, ?_, ⟨_, rfl⟩, hW, hsame.mono (by decide) (by decide)⟩
  show Q9 _ _ a0 h0 _ (T2.setFrames fs).heap _
  have hE : (T2.setFrames fs).heap = h0 := e2
  rw [hE]
  exact ⟨rfl, N0, rfl⟩
theorem d8_0 : decode jdk_35_method_26_code 0 = .ok (.aload_n 0, 1) := by decide +kernel
theorem d8_1 : decode jdk_35_method_26_code 1 = .ok (.invokespecial 270, 3) := by decide +kernel
theorem pd_159 : parseMethodDescriptor "()V" = some ⟨[], none⟩ := by decide +kernel
theorem d8_4 : decode jdk_35_method_26_code 4 = .ok (.aload_n 0, 1) := by decide +kernel
theorem d8_5 : decode jdk_35_method_26_code 5 = .ok (.lload_n 1, 1) := by decide +kernel
theorem d8_6 : decode jdk_35_method_26_code 6 = .ok (.putfield 273, 3) := by decide +kernel
theorem d8_9 : decode jdk_35_method_26_code 9 = .ok (.return_, 1) := by decide +kernel
theorem pn_164 : plainName "java/lang/Long" = true := by first | (simp [plainName, overriddenIn]; done) | decide +kernel
def Q8 (Z : State) (n0 : Nat) (a0 : Addr) (q1 : Int64) (w_a0_value : Value) (h0 : Heap) (v : Option Value) (h : Heap) (L : List Loc) : Prop := v = none ∧ Fr n0 L ∧ Keep h0 h [a0] ∧ Exa Z h a0 "java/lang/Long" ∧ Fld Z h a0 "java/lang/Long" "value" "J" (.long q1)
theorem ef8 (m : MethodId) (a0 : Addr) (q1 : Int64) : entryFrame m #[(.ref a0), (.long q1)] 3 = mkF m 0 #[.val (.ref a0), .val (.long q1), .second] [] := by first | (simp [entryFrame, mkF, argsToLocals, Value.category]; done) | rfl
set_option maxRecDepth 65536 in
set_option maxHeartbeats 40000000 in
theorem rm8 (l : Launch) (Z : State) (aZ : Array Value) (hw : ∀ d ∈ tables_1, d.before aZ Z = true) (ws : List Jvm.Cond) (a0 : Addr) (q1 : Int64) (w_a0_value : Value) (h0 : Heap) (n0 : Nat) (Z0 : n0 ≤ h0.size) (E_a0 : Exa Z h0 a0 "java/lang/Long") (F_a0_value : Fld Z h0 a0 "java/lang/Long" "value" "J" w_a0_value) (g_a0 : n0 ≤ a0) :
    MetFree l (⟨"java/lang/Long", "<init>", "(J)V"⟩ : MethodName) (head1 (Jvm.Cond.code (⟨"java/lang/Long", "<init>", "(J)V"⟩ : MethodName) jdk_35_method_26_code 3 none :: ws) ({ frames := 2, cells := 0, slots := 0, locals := 24 } : Room)) (fun a U => a = #[(.ref a0), (.long q1)] ∧ Z.Warmed39 U.vm ∧ U.heap = h0) (fun _ _ _ _ _ => True) (fun _ U o U' => ∃ v L, o = .returned v ∧ Q8 Z n0 a0 q1 w_a0_value h0 v U'.heap L ∧ FrameEnd U o U' L ({ frames := 2, cells := 0, slots := 0, locals := 24 } : Room).cells ({ frames := 2, cells := 0, slots := 0, locals := 24 } : Room).slots) := by
  refine MetFree.of_bodySF (plainFor_of_name pn_164) hisR ?_
  intro p e s m args below meth c s₁ Bd hml0 hP hK
  obtain ⟨rfl, hZ, hh⟩ := hP
  have hx := Bd.exec
  have hby := Bd.bytes
  have hml : c.maxLocals = 3 := hml0
  have hown : s.vm.findClass "java/lang/Long" = some m.cls := findClass_of_methodNamed Bd.named
  have hnm := (name_of_methodNamed Bd.named Bd.method).1
  have X0 : Stand p l e ({ frames := 2, cells := 0, slots := 0, locals := 24 } : Room) s m #[(.ref a0), (.long q1)] below meth c s₁ [] 0 0 := Stand.of_body Bd
  have e0 : s₁.heap = h0 := by rw [← hh, Bd.state]; rfl
  have N0 := Fr.nil n0
  have K0 : Keep h0 h0 [a0] := Keep.refl _ _
  have go0 : ∀ t, Steps p.tables e below (s₁.setTop (mkF m 0 #[.val (.ref a0), .val (.long q1), .second] [])) t → Steps p.tables e below (s₁.setTop (entryFrame m #[(.ref a0), (.long q1)] 3)) t := fun t k => castTop (ef8 m a0 q1) k
  have go1 : ∀ t, Steps p.tables e below (s₁.setTop (mkF m 1 #[.val (.ref a0), .val (.long q1), .second] [(.ref a0)])) t → Steps p.tables e below (s₁.setTop (entryFrame m #[(.ref a0), (.long q1)] 3)) t := by
    intro t k
    refine go0 _ ?_
    refine XS.aloadN X0.here hx rfl (hb hby d8_0) rfl rfl ?_
    show Steps p.tables e below (s₁.setTop (mkF m 1 #[.val (.ref a0), .val (.long q1), .second] [(.ref a0)])) t
    exact k
  obtain ⟨_, _, ⟨T2, L2, k2, n2⟩, -, X2, ⟨Lc2, hQ2, l2, y2, z2⟩, st2⟩ := X0.specialBack hx (y := (⟨"java/lang/Number", "<init>", "()V"⟩ : MethodName)) rfl hown (mvT hZ (hw _ (List.mem_of_getElem? (i := 52) rfl))) (mvT hZ (hw _ (List.mem_of_getElem? (i := 53) rfl))) (mvT hZ (hw _ (List.mem_of_getElem? (i := 57) rfl))) (by decide) (backOf (W := 0) (rm9 l Z aZ hw [] a0 h0 n0 Z0 ) hZ (hw _ (List.mem_of_getElem? (i := 57) rfl)) (hw _ (List.mem_of_getElem? (i := 56) rfl)) (by decide) (by decide)) (g := (mkF m 1 #[.val (.ref a0), .val (.long q1), .second] [(.ref a0)])) rfl (by rw [hml]; rfl) (Steps.refl _) (a := a0) (argsL := []) (rest := []) (lenOf pd_159 rfl) rfl (by show 2 * 0 + _ ≤ _; exact Nat.le_of_eq rfl) (hb hby d8_1) (fun _ _ => ⟨rfl, e0, (by decide : 0 + 0 ≤ _), (by decide : 0 + 0 ≤ _)⟩)
  dsimp only [Pt.U, Pt.locs, Pt.cells, Pt.slots] at X2 l2 y2 z2 st2 hQ2
  subst l2 y2 z2
  obtain ⟨rfl, N2q, e2⟩ := hQ2
  have N2 := Fr.app N0 N2q
  have go3 : ∀ t, Steps p.tables e below (T2.setTop (mkF m 4 #[.val (.ref a0), .val (.long q1), .second] [])) t → Steps p.tables e below (s₁.setTop (entryFrame m #[(.ref a0), (.long q1)] 3)) t := fun t k => go1 _ (st2.trans k)
  have go4 : ∀ t, Steps p.tables e below (T2.setTop (mkF m 6 #[.val (.ref a0), .val (.long q1), .second] [(.long q1), (.ref a0)])) t → Steps p.tables e below (s₁.setTop (entryFrame m #[(.ref a0), (.long q1)] 3)) t := by
    intro t k
    refine go3 _ ?_
    refine XS.aloadN X2.here hx rfl (hb hby d8_4) rfl rfl ?_
    show Steps p.tables e below (T2.setTop (mkF m 5 #[.val (.ref a0), .val (.long q1), .second] [(.ref a0)])) t
    refine XS.lloadN X2.here hx rfl (hb hby d8_5) rfl ?_
    show Steps p.tables e below (T2.setTop (mkF m 6 #[.val (.ref a0), .val (.long q1), .second] [(.long q1), (.ref a0)])) t
    exact k
  obtain ⟨T5, h5, X5, e5, W5, st5⟩ := putF X2 hx hZ hown (host := "") (Or.inl (hw _ (List.mem_of_getElem? (i := 59) rfl))) Via.refl e2 F_a0_value E_a0 (Or.inr ⟨(hw _ (List.mem_of_getElem? (i := 60) rfl)), rfl, hnm⟩) (hw _ (List.mem_of_getElem? (i := 47) rfl)) (ty := .long) (by decide) rfl rfl (g := (mkF m 6 #[.val (.ref a0), .val (.long q1), .second] [(.long q1), (.ref a0)])) rfl rfl (hb hby d8_6)
  have go6 : ∀ t, Steps p.tables e below (T5.setTop (mkF m 9 #[.val (.ref a0), .val (.long q1), .second] [])) t → Steps p.tables e below (s₁.setTop (entryFrame m #[(.ref a0), (.long q1)] 3)) t := fun t k => go4 _ (st5 _ k)
  have N5 := Fr.snoc X5 N2 g_a0
  have K5 : Keep h0 h5 [a0] := K0.wr W5 (Or.inl (List.mem_of_getElem? (i := 0) rfl))
  have Zs5 : n0 ≤ h5.size := Nat.le_trans Z0 (Keep.of_wr W5).1
  have F7 : Exa Z h5 a0 "java/lang/Long" := E_a0.wr W5
  have F8 : Fld Z h5 a0 "java/lang/Long" "value" "J" (.long q1) := F_a0_value.same W5
  obtain ⟨fs, hr, hrun, hended, hW, hsame⟩ := X5.leave (v := none) (fun _ => rfl)
  refine ⟨_, _, go6 _ (X5.returnOut hx Bd.returns (hb hby d8_9) hr), hrun, hended, _, _, rfl, ?_, ⟨_, rfl⟩, hW, hsame.mono (by decide) (by decide)⟩
  show Q8 _ _ a0 q1 w_a0_value h0 _ (T5.setFrames fs).heap _
  have hE : (T5.setFrames fs).heap = h5 := e5
  rw [hE]
  exact ⟨rfl, N5, K5, F7, F8⟩
theorem d7_0 : decode jdk_35_method_24_code 0 = .ok (.sipush 128, 3) := by decide +kernel
theorem d7_3 : decode jdk_35_method_24_code 3 = .ok (.istore_n 2, 1) := by decide +kernel
theorem d7_4 : decode jdk_35_method_24_code 4 = .ok (.lload_n 0, 1) := by decide +kernel
theorem d7_5 : decode jdk_35_method_24_code 5 = .ok (.ldc2_w 230, 3) := by decide +kernel
theorem d7_8 : decode jdk_35_method_24_code 8 = .ok (.lcmp, 1) := by decide +kernel
theorem d7_9 : decode jdk_35_method_24_code 9 = .ok (.ifCond .lt 22, 3) := by decide +kernel
theorem d7_31 : decode jdk_35_method_24_code 31 = .ok (.new 1, 3) := by decide +kernel
theorem d7_34 : decode jdk_35_method_24_code 34 = .ok (.dup, 1) := by decide +kernel
theorem d7_35 : decode jdk_35_method_24_code 35 = .ok (.lload_n 0, 1) := by decide +kernel
theorem d7_36 : decode jdk_35_method_24_code 36 = .ok (.invokespecial 240, 3) := by decide +kernel
theorem pd_175 : parseMethodDescriptor "(J)V" = some ⟨[.long], none⟩ := by decide +kernel
theorem d7_39 : decode jdk_35_method_24_code 39 = .ok (.areturn, 1) := by decide +kernel
theorem d7_12 : decode jdk_35_method_24_code 12 = .ok (.lload_n 0, 1) := by decide +kernel
theorem d7_13 : decode jdk_35_method_24_code 13 = .ok (.ldc2_w 232, 3) := by decide +kernel
theorem d7_16 : decode jdk_35_method_24_code 16 = .ok (.lcmp, 1) := by decide +kernel
theorem d7_17 : decode jdk_35_method_24_code 17 = .ok (.ifCond .gt 14, 3) := by decide +kernel
theorem d7_20 : decode jdk_35_method_24_code 20 = .ok (.getstatic 234, 3) := by decide +kernel
theorem d7_23 : decode jdk_35_method_24_code 23 = .ok (.lload_n 0, 1) := by decide +kernel
theorem d7_24 : decode jdk_35_method_24_code 24 = .ok (.l2i, 1) := by decide +kernel
theorem d7_25 : decode jdk_35_method_24_code 25 = .ok (.sipush 128, 3) := by decide +kernel
theorem d7_28 : decode jdk_35_method_24_code 28 = .ok (.iadd, 1) := by decide +kernel
theorem d7_29 : decode jdk_35_method_24_code 29 = .ok (.aaload, 1) := by decide +kernel
theorem d7_30 : decode jdk_35_method_24_code 30 = .ok (.areturn, 1) := by decide +kernel
def Q7 (Z : State) (n0 : Nat) (q0 : Int64) (s_cache : Addr) (cc : Cell) (h0 : Heap) (v : Option Value) (h : Heap) (L : List Loc) : Prop := ∃ b : Addr, v = some (.ref b) ∧ Fr n0 L ∧ Keep h0 h [] ∧ Exa Z h b "java/lang/Long"
theorem ef7 (m : MethodId) (q0 : Int64) : entryFrame m #[(.long q0)] 3 = mkF m 0 #[.val (.long q0), .second, .unset] [] := by first | (simp [entryFrame, mkF, argsToLocals, Value.category]; done) | rfl
set_option maxRecDepth 65536 in
set_option maxHeartbeats 40000000 in
theorem rm7 (l : Launch) (Z : State) (aZ : Array Value) (hw : ∀ d ∈ tables_1, d.before aZ Z = true) (ws : List Jvm.Cond) (q0 : Int64) (s_cache : Addr) (cc : Cell) (h0 : Heap) (n0 : Nat) (Z0 : n0 ≤ h0.size) (S_cache : Sta Z h0 "java/lang/Long$LongCache" "cache" "[Ljava/lang/Long;" (.ref s_cache)) (A_cache : Arr Z h0 s_cache cc (.object "java/lang/Long")) (Sz_cache : cc.slots.size = 256) (C_cache : LCache Z h0 cc) :
    MetFree l (⟨"java/lang/Long", "valueOf", "(J)Ljava/lang/Long;"⟩ : MethodName) (head1 (Jvm.Cond.code (⟨"java/lang/Long", "valueOf", "(J)Ljava/lang/Long;"⟩ : MethodName) jdk_35_method_24_code 3 (some (.object "java/lang/Long")) :: ws) ({ frames := 3, cells := 1, slots := 1, locals := 39 } : Room)) (fun a U => a = #[(.long q0)] ∧ Z.Warmed39 U.vm ∧ U.heap = h0) (fun _ _ _ _ _ => True) (fun _ U o U' => ∃ v L, o = .returned v ∧ Q7 Z n0 q0 s_cache cc h0 v U'.heap L ∧ FrameEnd U o U' L ({ frames := 3, cells := 1, slots := 1, locals := 39 } : Room).cells ({ frames := 3, cells := 1, slots := 1, locals := 39 } : Room).slots) := by
  refine MetFree.of_bodySF (plainFor_of_name pn_164) hisR ?_
  intro p e s m args below meth c s₁ Bd hml0 hP hK
  obtain ⟨rfl, hZ, hh⟩ := hP
  have hx := Bd.exec
  have hby := Bd.bytes
  have hml : c.maxLocals = 3 := hml0
  have hown : s.vm.findClass "java/lang/Long" = some m.cls := findClass_of_methodNamed Bd.named
  have hnm := (name_of_methodNamed Bd.named Bd.method).1
  have X0 : Stand p l e ({ frames := 3, cells := 1, slots := 1, locals := 39 } : Room) s m #[(.long q0)] below meth c s₁ [] 0 0 := Stand.of_body Bd
  have e0 : s₁.heap = h0 := by rw [← hh, Bd.state]; rfl
  have N0 := Fr.nil n0
  have K0 : Keep h0 h0 [] := Keep.refl _ _
  have go0 : ∀ t, Steps p.tables e below (s₁.setTop (mkF m 0 #[.val (.long q0), .second, .unset] [])) t → Steps p.tables e below (s₁.setTop (entryFrame m #[(.long q0)] 3)) t := fun t k => castTop (ef7 m q0) k
  have go1 : ∀ t, Steps p.tables e below (s₁.setTop (mkF m 9 #[.val (.long q0), .second, .val (.int (128 : Int32))] [(.int (XT.cmpL q0 (-128 : Int64)))])) t → Steps p.tables e below (s₁.setTop (entryFrame m #[(.long q0)] 3)) t := by
    intro t k
    refine go0 _ ?_
    refine XS.sipush X0.here hx rfl (hb hby d7_0) ?_
    show Steps p.tables e below (s₁.setTop (mkF m 3 #[.val (.long q0), .second, .unset] [(.int (128 : Int32))])) t
    refine XS.istoreN X0.here hx rfl (hb hby d7_3) rfl (l' := #[.val (.long q0), .second, .val (.int (128 : Int32))]) rfl ?_
    show Steps p.tables e below (s₁.setTop (mkF m 4 #[.val (.long q0), .second, .val (.int (128 : Int32))] [])) t
    refine XS.lloadN X0.here hx rfl (hb hby d7_4) rfl ?_
    show Steps p.tables e below (s₁.setTop (mkF m 5 #[.val (.long q0), .second, .val (.int (128 : Int32))] [(.long q0)])) t
    refine X0.ldc2Long hx hown (mvT hZ (hw _ (List.mem_of_getElem? (i := 44) rfl))) (g := (mkF m 5 #[.val (.long q0), .second, .val (.int (128 : Int32))] [(.long q0)])) rfl (hb hby d7_5) _ ?_
    show Steps p.tables e below (s₁.setTop (mkF m 8 #[.val (.long q0), .second, .val (.int (128 : Int32))] [(.long (-128 : Int64)), (.long q0)])) t
    refine XT.lcmp X0.here hx rfl (hb hby d7_8) rfl ?_
    show Steps p.tables e below (s₁.setTop (mkF m 9 #[.val (.long q0), .second, .val (.int (128 : Int32))] [(.int (XT.cmpL q0 (-128 : Int64)))])) t
    exact k
  by_cases hs2 : q0 < (-128 : Int64)
  · have go3 : ∀ t, Steps p.tables e below (s₁.setTop (mkF m 31 #[.val (.long q0), .second, .val (.int (128 : Int32))] [])) t → Steps p.tables e below (s₁.setTop (entryFrame m #[(.long q0)] 3)) t := by
      intro t k
      refine go1 _ ?_
      refine XS.ifYes X0.here hx rfl (pc0 := 9) (pc' := 31) rfl (hb hby d7_9) rfl (XT.ll_lt_t hs2) (by decide) (by decide) ?_
      show Steps p.tables e below (s₁.setTop (mkF m 31 #[.val (.long q0), .second, .val (.int (128 : Int32))] [])) t
      exact k
    obtain ⟨T4, h4, X4, e4, E4, A4, D4, -, st4⟩ := newO X0 hx hZ hown (hw _ (List.mem_of_getElem? (i := 46) rfl)) (hw _ (List.mem_of_getElem? (i := 47) rfl)) (hw _ (List.mem_of_getElem? (i := 42) rfl)) e0 (g := (mkF m 31 #[.val (.long q0), .second, .val (.int (128 : Int32))] [])) rfl (hb hby d7_31) (by decide) (by decide)
    obtain ⟨b4, g4⟩ : ∃ z, z = h0.size := ⟨_, rfl⟩
    rw [← g4] at A4 D4 st4
    have ne5 : s_cache ≠ b4 := Nat.ne_of_lt (Nat.lt_of_lt_of_le A_cache.lt (Nat.le_of_eq g4.symm))
    have low4 : n0 ≤ b4 := Nat.le_trans Z0 (Nat.le_of_eq g4.symm)
    have fsh4 : h0.size ≤ b4 := Nat.le_trans K0.1 (Nat.le_of_eq g4.symm)
    have K4 : Keep h0 h4 [] := K0.ext E4
    have Zs4 : n0 ≤ h4.size := Nat.le_trans Z0 E4.1
    have go6 : ∀ t, Steps p.tables e below (T4.setTop (mkF m 34 #[.val (.long q0), .second, .val (.int (128 : Int32))] [(.ref b4)])) t → Steps p.tables e below (s₁.setTop (entryFrame m #[(.long q0)] 3)) t := fun t k => go3 _ (st4 _ k)
    have F7 : Sta Z h4 "java/lang/Long$LongCache" "cache" "[Ljava/lang/Long;" (.ref s_cache) := S_cache.ext E4
    have F8 : Arr Z h4 s_cache cc (.object "java/lang/Long") := A_cache.ext E4
    have F9 : LCache Z h4 cc := C_cache.ext E4
    have F10 : Fld Z h4 b4 "java/lang/Long" "value" "J" (.long (0 : Int64)) := D4 (Or.inr (hw _ (List.mem_of_getElem? (i := 60) rfl))) (ty := .long) (by decide)
    have go11 : ∀ t, Steps p.tables e below (T4.setTop (mkF m 36 #[.val (.long q0), .second, .val (.int (128 : Int32))] [(.long q0), (.ref b4), (.ref b4)])) t → Steps p.tables e below (s₁.setTop (entryFrame m #[(.long q0)] 3)) t := by
      intro t k
      refine go6 _ ?_
      refine XS.dup X4.here hx rfl (hb hby d7_34) rfl rfl ?_
      show Steps p.tables e below (T4.setTop (mkF m 35 #[.val (.long q0), .second, .val (.int (128 : Int32))] [(.ref b4), (.ref b4)])) t
      refine XS.lloadN X4.here hx rfl (hb hby d7_35) rfl ?_
      show Steps p.tables e below (T4.setTop (mkF m 36 #[.val (.long q0), .second, .val (.int (128 : Int32))] [(.long q0), (.ref b4), (.ref b4)])) t
      exact k
    obtain ⟨_, _, ⟨T12, L12, k12, n12⟩, -, X12, ⟨Lc12, hQ12, l12, y12, z12⟩, st12⟩ := X4.specialBack hx (y := (⟨"java/lang/Long", "<init>", "(J)V"⟩ : MethodName)) rfl hown (mvT hZ (hw _ (List.mem_of_getElem? (i := 48) rfl))) (mvT hZ (hw _ (List.mem_of_getElem? (i := 49) rfl))) (mvT hZ (hw _ (List.mem_of_getElem? (i := 51) rfl))) (by decide) (backOf (W := 1) (rm8 l Z aZ hw [] b4 q0 (.long (0 : Int64)) h4 n0 Zs4 A4 F10 low4) hZ (hw _ (List.mem_of_getElem? (i := 51) rfl)) (hw _ (List.mem_of_getElem? (i := 42) rfl)) (by decide) (by decide)) (g := (mkF m 36 #[.val (.long q0), .second, .val (.int (128 : Int32))] [(.long q0), (.ref b4), (.ref b4)])) rfl (by rw [hml]; rfl) (Steps.refl _) (a := b4) (argsL := [(.long q0)]) (rest := [(.ref b4)]) (lenOf pd_175 rfl) rfl (by show 2 * 0 + _ ≤ _; exact Nat.le_of_eq rfl) (hb hby d7_36) (fun _ _ => ⟨rfl, e4, (by decide : 1 + 0 ≤ _), (by decide : 1 + 0 ≤ _)⟩)
    dsimp only [Pt.U, Pt.locs, Pt.cells, Pt.slots] at X12 l12 y12 z12 st12 hQ12
    subst l12 y12 z12
    obtain ⟨rfl, N12q, K12q, G12_0, G12_1⟩ := hQ12
    have N12 := Fr.app N0 N12q
    have K12 : Keep h0 T12.heap [] := K4.trans K12q (allS (Or.inr fsh4) all0)
    have Zs12 : n0 ≤ T12.heap.size := Nat.le_trans Zs4 K12q.1
    have F13 : Sta Z T12.heap "java/lang/Long$LongCache" "cache" "[Ljava/lang/Long;" (.ref s_cache) := own_sta_keep F7 K12q (allS (own_exa_ns A4) all0)
    have F14 : Arr Z T12.heap s_cache cc (.object "java/lang/Long") := own_arr_keep F8 K12q (ninS ne5 nin0)
    have F15 : LCache Z T12.heap cc := F9.keep K12q
    have F16 : Exa Z T12.heap b4 "java/lang/Long" := A4.keep K12q
    have go17 : ∀ t, Steps p.tables e below (T12.setTop (mkF m 39 #[.val (.long q0), .second, .val (.int (128 : Int32))] [(.ref b4)])) t → Steps p.tables e below (s₁.setTop (entryFrame m #[(.long q0)] 3)) t := fun t k => go11 _ (st12.trans k)
    obtain ⟨fs, hr, hrun, hended, hW, hsame⟩ := X12.leave (v := some (.ref b4)) (fun h => by rw [Bd.returns] at h; cases h)
    refine ⟨_, _, go17 _ (Jvm.RoadKit.retOut X12 hx Bd.returns rfl (Or.inr (Or.inr (Or.inr (Or.inr ⟨rfl, rfl, rfl⟩)))) (hb hby d7_39) hr), hrun, hended, _, _, rfl, ?_, ⟨_, rfl⟩, hW, hsame.mono (by decide) (by decide)⟩
    show Q7 _ _ q0 s_cache cc h0 _ (T12.setFrames fs).heap _
    have hE : (T12.setFrames fs).heap = T12.heap := rfl
    rw [hE]
    exact ⟨b4, rfl, N12, K12, G12_0⟩
  · have go18 : ∀ t, Steps p.tables e below (s₁.setTop (mkF m 17 #[.val (.long q0), .second, .val (.int (128 : Int32))] [(.int (XT.cmpL q0 (127 : Int64)))])) t → Steps p.tables e below (s₁.setTop (entryFrame m #[(.long q0)] 3)) t := by
      intro t k
      refine go1 _ ?_
      refine XS.ifNo X0.here hx rfl (hb hby d7_9) rfl (XT.ll_lt_f hs2) ?_
      show Steps p.tables e below (s₁.setTop (mkF m 12 #[.val (.long q0), .second, .val (.int (128 : Int32))] [])) t
      refine XS.lloadN X0.here hx rfl (hb hby d7_12) rfl ?_
      show Steps p.tables e below (s₁.setTop (mkF m 13 #[.val (.long q0), .second, .val (.int (128 : Int32))] [(.long q0)])) t
      refine X0.ldc2Long hx hown (mvT hZ (hw _ (List.mem_of_getElem? (i := 45) rfl))) (g := (mkF m 13 #[.val (.long q0), .second, .val (.int (128 : Int32))] [(.long q0)])) rfl (hb hby d7_13) _ ?_
      show Steps p.tables e below (s₁.setTop (mkF m 16 #[.val (.long q0), .second, .val (.int (128 : Int32))] [(.long (127 : Int64)), (.long q0)])) t
      refine XT.lcmp X0.here hx rfl (hb hby d7_16) rfl ?_
      show Steps p.tables e below (s₁.setTop (mkF m 17 #[.val (.long q0), .second, .val (.int (128 : Int32))] [(.int (XT.cmpL q0 (127 : Int64)))])) t
      exact k
    by_cases hs19 : (127 : Int64) < q0
    · have go20 : ∀ t, Steps p.tables e below (s₁.setTop (mkF m 31 #[.val (.long q0), .second, .val (.int (128 : Int32))] [])) t → Steps p.tables e below (s₁.setTop (entryFrame m #[(.long q0)] 3)) t := by
        intro t k
        refine go18 _ ?_
        refine XS.ifYes X0.here hx rfl (pc0 := 17) (pc' := 31) rfl (hb hby d7_17) rfl (XT.ll_gt_t hs19) (by decide) (by decide) ?_
        show Steps p.tables e below (s₁.setTop (mkF m 31 #[.val (.long q0), .second, .val (.int (128 : Int32))] [])) t
        exact k
      obtain ⟨T21, h21, X21, e21, E21, A21, D21, -, st21⟩ := newO X0 hx hZ hown (hw _ (List.mem_of_getElem? (i := 46) rfl)) (hw _ (List.mem_of_getElem? (i := 47) rfl)) (hw _ (List.mem_of_getElem? (i := 42) rfl)) e0 (g := (mkF m 31 #[.val (.long q0), .second, .val (.int (128 : Int32))] [])) rfl (hb hby d7_31) (by decide) (by decide)
      obtain ⟨b21, g21⟩ : ∃ z, z = h0.size := ⟨_, rfl⟩
      rw [← g21] at A21 D21 st21
      have ne22 : s_cache ≠ b21 := Nat.ne_of_lt (Nat.lt_of_lt_of_le A_cache.lt (Nat.le_of_eq g21.symm))
      have low21 : n0 ≤ b21 := Nat.le_trans Z0 (Nat.le_of_eq g21.symm)
      have fsh21 : h0.size ≤ b21 := Nat.le_trans K0.1 (Nat.le_of_eq g21.symm)
      have K21 : Keep h0 h21 [] := K0.ext E21
      have Zs21 : n0 ≤ h21.size := Nat.le_trans Z0 E21.1
      have go23 : ∀ t, Steps p.tables e below (T21.setTop (mkF m 34 #[.val (.long q0), .second, .val (.int (128 : Int32))] [(.ref b21)])) t → Steps p.tables e below (s₁.setTop (entryFrame m #[(.long q0)] 3)) t := fun t k => go20 _ (st21 _ k)
      have F24 : Sta Z h21 "java/lang/Long$LongCache" "cache" "[Ljava/lang/Long;" (.ref s_cache) := S_cache.ext E21
      have F25 : Arr Z h21 s_cache cc (.object "java/lang/Long") := A_cache.ext E21
      have F26 : LCache Z h21 cc := C_cache.ext E21
      have F27 : Fld Z h21 b21 "java/lang/Long" "value" "J" (.long (0 : Int64)) := D21 (Or.inr (hw _ (List.mem_of_getElem? (i := 60) rfl))) (ty := .long) (by decide)
      have go28 : ∀ t, Steps p.tables e below (T21.setTop (mkF m 36 #[.val (.long q0), .second, .val (.int (128 : Int32))] [(.long q0), (.ref b21), (.ref b21)])) t → Steps p.tables e below (s₁.setTop (entryFrame m #[(.long q0)] 3)) t := by
        intro t k
        refine go23 _ ?_
        refine XS.dup X21.here hx rfl (hb hby d7_34) rfl rfl ?_
        show Steps p.tables e below (T21.setTop (mkF m 35 #[.val (.long q0), .second, .val (.int (128 : Int32))] [(.ref b21), (.ref b21)])) t
        refine XS.lloadN X21.here hx rfl (hb hby d7_35) rfl ?_
        show Steps p.tables e below (T21.setTop (mkF m 36 #[.val (.long q0), .second, .val (.int (128 : Int32))] [(.long q0), (.ref b21), (.ref b21)])) t
        exact k
      obtain ⟨_, _, ⟨T29, L29, k29, n29⟩, -, X29, ⟨Lc29, hQ29, l29, y29, z29⟩, st29⟩ := X21.specialBack hx (y := (⟨"java/lang/Long", "<init>", "(J)V"⟩ : MethodName)) rfl hown (mvT hZ (hw _ (List.mem_of_getElem? (i := 48) rfl))) (mvT hZ (hw _ (List.mem_of_getElem? (i := 49) rfl))) (mvT hZ (hw _ (List.mem_of_getElem? (i := 51) rfl))) (by decide) (backOf (W := 1) (rm8 l Z aZ hw [] b21 q0 (.long (0 : Int64)) h21 n0 Zs21 A21 F27 low21) hZ (hw _ (List.mem_of_getElem? (i := 51) rfl)) (hw _ (List.mem_of_getElem? (i := 42) rfl)) (by decide) (by decide)) (g := (mkF m 36 #[.val (.long q0), .second, .val (.int (128 : Int32))] [(.long q0), (.ref b21), (.ref b21)])) rfl (by rw [hml]; rfl) (Steps.refl _) (a := b21) (argsL := [(.long q0)]) (rest := [(.ref b21)]) (lenOf pd_175 rfl) rfl (by show 2 * 0 + _ ≤ _; exact Nat.le_of_eq rfl) (hb hby d7_36) (fun _ _ => ⟨rfl, e21, (by decide : 1 + 0 ≤ _), (by decide : 1 + 0 ≤ _)⟩)
      dsimp only [Pt.U, Pt.locs, Pt.cells, Pt.slots] at X29 l29 y29 z29 st29 hQ29
      subst l29 y29 z29
      obtain ⟨rfl, N29q, K29q, G29_0, G29_1⟩ := hQ29
      have N29 := Fr.app N0 N29q
      have K29 : Keep h0 T29.heap [] := K21.trans K29q (allS (Or.inr fsh21) all0)
      have Zs29 : n0 ≤ T29.heap.size := Nat.le_trans Zs21 K29q.1
      have F30 : Sta Z T29.heap "java/lang/Long$LongCache" "cache" "[Ljava/lang/Long;" (.ref s_cache) := own_sta_keep F24 K29q (allS (own_exa_ns A21) all0)
      have F31 : Arr Z T29.heap s_cache cc (.object "java/lang/Long") := own_arr_keep F25 K29q (ninS ne22 nin0)
      have F32 : LCache Z T29.heap cc := F26.keep K29q
      have F33 : Exa Z T29.heap b21 "java/lang/Long" := A21.keep K29q
      have go34 : ∀ t, Steps p.tables e below (T29.setTop (mkF m 39 #[.val (.long q0), .second, .val (.int (128 : Int32))] [(.ref b21)])) t → Steps p.tables e below (s₁.setTop (entryFrame m #[(.long q0)] 3)) t := fun t k => go28 _ (st29.trans k)
      obtain ⟨fs, hr, hrun, hended, hW, hsame⟩ := X29.leave (v := some (.ref b21)) (fun h => by rw [Bd.returns] at h; cases h)
      refine ⟨_, _, go34 _ (Jvm.RoadKit.retOut X29 hx Bd.returns rfl (Or.inr (Or.inr (Or.inr (Or.inr ⟨rfl, rfl, rfl⟩)))) (hb hby d7_39) hr), hrun, hended, _, _, rfl, ?_, ⟨_, rfl⟩, hW, hsame.mono (by decide) (by decide)⟩
      show Q7 _ _ q0 s_cache cc h0 _ (T29.setFrames fs).heap _
      have hE : (T29.setFrames fs).heap = T29.heap := rfl
      rw [hE]
      exact ⟨b21, rfl, N29, K29, G29_0⟩
    · have go35 : ∀ t, Steps p.tables e below (s₁.setTop (mkF m 20 #[.val (.long q0), .second, .val (.int (128 : Int32))] [])) t → Steps p.tables e below (s₁.setTop (entryFrame m #[(.long q0)] 3)) t := by
        intro t k
        refine go18 _ ?_
        refine XS.ifNo X0.here hx rfl (hb hby d7_17) rfl (XT.ll_gt_f hs19) ?_
        show Steps p.tables e below (s₁.setTop (mkF m 20 #[.val (.long q0), .second, .val (.int (128 : Int32))] [])) t
        exact k
      obtain ⟨T36, X36, e36, st36⟩ := getS2 X0 hx hZ hown (host := "") (Or.inl (hw _ (List.mem_of_getElem? (i := 64) rfl))) Via.refl e0 S_cache (g := (mkF m 20 #[.val (.long q0), .second, .val (.int (128 : Int32))] [])) rfl (hb hby d7_20)
      have go37 : ∀ t, Steps p.tables e below (T36.setTop (mkF m 23 #[.val (.long q0), .second, .val (.int (128 : Int32))] [(.ref s_cache)])) t → Steps p.tables e below (s₁.setTop (entryFrame m #[(.long q0)] 3)) t := fun t k => go35 _ (st36 _ k)
      have hin := own_cache_idx q0 hs2 hs19 Sz_cache
      obtain ⟨xl, hxl, Exl⟩ := C_cache _ hin
      have go38 : ∀ t, Steps p.tables e below (T36.setTop (mkF m 30 #[.val (.long q0), .second, .val (.int (128 : Int32))] [(.ref xl)])) t → Steps p.tables e below (s₁.setTop (entryFrame m #[(.long q0)] 3)) t := by
        intro t k
        refine go37 _ ?_
        refine XS.lloadN X36.here hx rfl (hb hby d7_23) rfl ?_
        show Steps p.tables e below (T36.setTop (mkF m 24 #[.val (.long q0), .second, .val (.int (128 : Int32))] [(.long q0), (.ref s_cache)])) t
        refine XS.l2i X36.here hx rfl (hb hby d7_24) rfl ?_
        show Steps p.tables e below (T36.setTop (mkF m 25 #[.val (.long q0), .second, .val (.int (128 : Int32))] [(.int q0.toInt32), (.ref s_cache)])) t
        refine XS.sipush X36.here hx rfl (hb hby d7_25) ?_
        show Steps p.tables e below (T36.setTop (mkF m 28 #[.val (.long q0), .second, .val (.int (128 : Int32))] [(.int (128 : Int32)), (.int q0.toInt32), (.ref s_cache)])) t
        refine XS.iadd X36.here hx rfl (hb hby d7_28) rfl ?_
        show Steps p.tables e below (T36.setTop (mkF m 29 #[.val (.long q0), .second, .val (.int (128 : Int32))] [(.int (q0.toInt32 + (128 : Int32))), (.ref s_cache)])) t
        refine X36.aaload hx (j := (q0.toInt32 + (128 : Int32))) (v := (.ref xl)) (by rw [e36]; exact A_cache.1) (State.isArrayOf_alike hZ.alike A_cache.2.1) rfl A_cache.2.2 hin hxl (g := (mkF m 29 #[.val (.long q0), .second, .val (.int (128 : Int32))] [(.int (q0.toInt32 + (128 : Int32))), (.ref s_cache)])) rfl rfl (hb hby d7_29) _ ?_
        show Steps p.tables e below (T36.setTop (mkF m 30 #[.val (.long q0), .second, .val (.int (128 : Int32))] [(.ref xl)])) t
        exact k
      obtain ⟨fs, hr, hrun, hended, hW, hsame⟩ := X36.leave (v := some (.ref xl)) (fun h => by rw [Bd.returns] at h; cases h)
      refine ⟨_, _, go38 _ (Jvm.RoadKit.retOut X36 hx Bd.returns rfl (Or.inr (Or.inr (Or.inr (Or.inr ⟨rfl, rfl, rfl⟩)))) (hb hby d7_30) hr), hrun, hended, _, _, rfl, ?_, ⟨_, rfl⟩, hW, hsame.mono (by decide) (by decide)⟩
      show Q7 _ _ q0 s_cache cc h0 _ (T36.setFrames fs).heap _
      have hE : (T36.setFrames fs).heap = h0 := e36
      rw [hE]
      exact ⟨xl, rfl, N0, K0, Exl⟩
theorem own_f1i (a b : Int64) : (f1 a b).toInt = if a.toInt < b.toInt then b.toInt else a.toInt := by
  unfold f1 b1_3; simp only [Int64.lt_iff_toInt_lt]; split <;> rfl
theorem own_limI (q0 : Int64) : 1 ≤ (f1 (1 : Int64) (q0 &&& 9007199254740991)).toInt ∧ (f1 (1 : Int64) (q0 &&& 9007199254740991)).toInt ≤ 9007199254740991 := by
  have h := c_maskL q0 9007199254740991 53 (by decide) (by decide)
  have e1 : (1 : Int64).toInt = 1 := rfl
  rw [own_f1i]; split <;> omega
theorem own_winI (q1 : Int64) : 1 ≤ ((1 : Int64) + (q1 &&& 1099511627775)).toInt ∧ ((1 : Int64) + (q1 &&& 1099511627775)).toInt ≤ 1099511627776 := by
  have h := c_maskL q1 1099511627775 40 (by decide) (by decide)
  have e1 : (1 : Int64).toInt = 1 := rfl
  have a := c_ladd 1 (q1 &&& 1099511627775); have r := rng64 (1 + (q1 &&& 1099511627775))
  omega
theorem own_f2I (q0 q1 : Int64) (k : Int32) (h : 1 ≤ q0.toInt ∧ q0.toInt ≤ 9007199254740991) : 1 ≤ (f2 q0 q1 k).toInt ∧ (f2 q0 q1 k).toInt ≤ 9007199254740991 := by
  have e1 : (1 : Int64).toInt = 1 := rfl
  have e2 : (2 : Int64).toInt = 2 := rfl
  have em : (9007199254740991 : Int64).toInt = 9007199254740991 := rfl
  have a := c_ladd q0 1; have r := rng64 (q0 + 1); have b := c_lsub q0 1; have r2 := rng64 (q0 - 1)
  have m := own_limI q1
  unfold f2 v2_10 b2_16 b2_21
  simp only [← Int64.toInt_inj]
  (repeat' split) <;> first | exact m | omega
theorem own_f3I (q0 q1 : Int64) (k : Int32) (h : 1 ≤ q0.toInt ∧ q0.toInt ≤ 1099511627776) : 1 ≤ (f3 q0 q1 k).toInt ∧ (f3 q0 q1 k).toInt ≤ 1099511627776 := by
  have e1 : (1 : Int64).toInt = 1 := rfl
  have e2 : (2 : Int64).toInt = 2 := rfl
  have em : (1099511627776 : Int64).toInt = 1099511627776 := rfl
  have a := c_ladd q0 1; have r := rng64 (q0 + 1); have b := c_lsub q0 1; have r2 := rng64 (q0 - 1)
  have m := own_winI q1
  unfold f3 v3_6 b3_12 b2_21
  simp only [← Int64.toInt_inj]
  (repeat' split) <;> first | exact m | omega
theorem own_rng (x y : Int64) (h1 : 1 ≤ x.toInt ∧ x.toInt ≤ 9007199254740991) (h2 : 1 ≤ y.toInt ∧ y.toInt ≤ 1099511627776) : ¬ x < (1 : Int64) ∧ ¬ (9007199254740991 : Int64) < x ∧ ¬ y < (1 : Int64) ∧ ¬ (1099511627776 : Int64) < y := by
  have e1 : (1 : Int64).toInt = 1 := rfl
  have em : (9007199254740991 : Int64).toInt = 9007199254740991 := rfl
  have en : (1099511627776 : Int64).toInt = 1099511627776 := rfl
  simp only [Int64.lt_iff_toInt_lt]; omega
def own_ok1 (q0 q1 q2 q3 : Int64) (p4 : Int32) := own_rng (f1 (1 : Int64) (q0 &&& 9007199254740991)) ((1 : Int64) + (q1 &&& 1099511627775)) (own_limI q0) (own_winI q1)
def own_ok2 (q0 q1 q2 q3 : Int64) (p4 : Int32) := own_rng (f2 (f1 (1 : Int64) (q0 &&& 9007199254740991)) q2 (p4 &&& 3)) (f3 ((1 : Int64) + (q1 &&& 1099511627775)) q3 ((p4 >>> ((2 : Int32) &&& 31)) &&& 3)) (own_f2I _ _ _ (own_limI q0)) (own_f3I _ _ _ (own_winI q1))
theorem pd_190 : parseMethodDescriptor "(JJI)J" = some ⟨[.long, .long, .int], some .long⟩ := by decide +kernel
theorem pd_195 : parseMethodDescriptor "(JJ)V" = some ⟨[.long, .long], none⟩ := by decide +kernel
theorem pd_197 : parseMethodDescriptor "(Ljava/lang/Object;)Z" = some ⟨[(.object "java/lang/Object")], some .boolean⟩ := by decide +kernel
theorem pd_200 : parseMethodDescriptor "(J)Ljava/lang/Long;" = some ⟨[.long], some (.object "java/lang/Long")⟩ := by decide +kernel
def v0_1 (q0 : Int64) : Int64 := (q0 &&& (9007199254740991 : Int64))
def v0_5 (q0 : Int64) : Int64 := (f1 (1 : Int64) (v0_1 q0))
def v0_9 (q0 : Int64) (q2 : Int64) (p4 : Int32) : Int64 := (f2 (v0_5 q0) q2 (p4 &&& (3 : Int32)))
def v0_10 (p4 : Int32) : Int32 := ((p4 >>> ((2 : Int32) &&& 31)) &&& (3 : Int32))
def v0_14 (q1 : Int64) (q3 : Int64) (p4 : Int32) : Int64 := (f3 (v3_6 q1) q3 (v0_10 p4))
def v0_15 (p4 : Int32) : Int32 := ((p4 >>> ((4 : Int32) &&& 31)) &&& (3 : Int32))
def b0_64 (q0 : Int64) (q1 : Int64) (q2 : Int64) (q3 : Int64) (p4 : Int32) : Int32 := (if (v0_5 q0) = (v0_9 q0 q2 p4) then (if (v3_6 q1) = (v0_14 q1 q3 p4) then (1 : Int32) else (0 : Int32)) else (0 : Int32))
def b0_73 (q0 : Int64) (q1 : Int64) (q2 : Int64) (q3 : Int64) (p4 : Int32) : Int32 := (if (feqW (v0_5 q0) (v3_6 q1) (v0_9 q0 q2 p4) (v0_14 q1 q3 p4)) = (b0_64 q0 q1 q2 q3 p4) then (1 : Int32) else (0 : Int32))
def b0_84 (q0 : Int64) (q1 : Int64) (q2 : Int64) (q3 : Int64) (p4 : Int32) : Int32 := (if (feqW (v0_9 q0 q2 p4) (v0_14 q1 q3 p4) (v0_5 q0) (v3_6 q1)) = (b0_64 q0 q1 q2 q3 p4) then (1 : Int32) else (0 : Int32))
def b0_119 (q0 : Int64) (q1 : Int64) : Int32 := (if (feqW (v0_5 q0) (v3_6 q1) (v0_5 q0) (v3_6 q1)) = (1 : Int32) then (1 : Int32) else (0 : Int32))
def f0 (q0 : Int64) (q1 : Int64) (q2 : Int64) (q3 : Int64) (p4 : Int32) : Int32 := (if (v0_15 p4) = (0 : Int32) then (if (b0_73 q0 q1 q2 q3 p4) = (0 : Int32) then (0 : Int32) else (b0_84 q0 q1 q2 q3 p4)) else (if (v0_15 p4) = (1 : Int32) then (1 : Int32) else (if (v0_15 p4) = (2 : Int32) then (1 : Int32) else (b0_119 q0 q1))))
theorem own_fe (a b c d : Int64) : feqW a b c d = if a = c then (if b = d then 1 else 0) else 0 := rfl
theorem own_c1 (q0 q1 q2 q3 : Int64) (p4 : Int32) : b0_73 q0 q1 q2 q3 p4 = 1 := by
  unfold b0_73; exact if_pos rfl
theorem own_c2 (q0 q1 q2 q3 : Int64) (p4 : Int32) : b0_84 q0 q1 q2 q3 p4 = 1 := by
  unfold b0_84; refine if_pos ?_
  rw [own_fe]; unfold b0_64
  generalize v0_5 q0 = x1; generalize v3_6 q1 = x2; generalize v0_9 q0 q2 p4 = x3; generalize v0_14 q1 q3 p4 = x4
  by_cases h1 : x1 = x3
  · subst h1; by_cases h2 : x2 = x4
    · subst h2; simp
    · simp [h2, Ne.symm h2]
  · simp [h1, Ne.symm h1]
theorem f0_one (q0 : Int64) (q1 : Int64) (q2 : Int64) (q3 : Int64) (p4 : Int32) : f0 q0 q1 q2 q3 p4 = 1 := by
  unfold f0; rw [own_c1, own_c2]
  (repeat' split) <;> first | rfl | simp_all [b0_119, own_fe]
def Q0 (Z : State) (n0 : Nat) (q0 : Int64) (q1 : Int64) (q2 : Int64) (q3 : Int64) (p4 : Int32) (s_cache : Addr) (cc : Cell) (h0 : Heap) (v : Option Value) (h : Heap) (L : List Loc) : Prop := v = some (.int 1) ∧ Fr n0 L
theorem ef0 (m : MethodId) (q0 : Int64) (q1 : Int64) (q2 : Int64) (q3 : Int64) (p4 : Int32) : entryFrame m #[(.long q0), (.long q1), (.long q2), (.long q3), (.int p4)] maxLocals = mkF m 0 #[.val (.long q0), .second, .val (.long q1), .second, .val (.long q2), .second, .val (.long q3), .second, .val (.int p4), .unset, .unset, .unset, .unset, .unset, .unset, .unset, .unset, .unset, .unset, .unset, .unset, .unset, .unset] [] := by first | (simp [entryFrame, mkF, argsToLocals, Value.category, maxLocals]; done) | rfl
set_option maxRecDepth 65536 in
set_option maxHeartbeats 40000000 in
theorem rm0 (l : Launch) (Z : State) (aZ : Array Value) (hw : ∀ d ∈ tables_1, d.before aZ Z = true) (ws : List Jvm.Cond) (q0 : Int64) (q1 : Int64) (q2 : Int64) (q3 : Int64) (p4 : Int32) (s_cache : Addr) (cc : Cell) (h0 : Heap) (n0 : Nat) (Z0 : n0 ≤ h0.size) (S_cache : Sta Z h0 "java/lang/Long$LongCache" "cache" "[Ljava/lang/Long;" (.ref s_cache)) (A_cache : Arr Z h0 s_cache cc (.object "java/lang/Long")) (Sz_cache : cc.slots.size = 256) (C_cache : LCache Z h0 cc) (hno : ∃ c t, Z.vm.findClass "java/lang/Long" = some c ∧ Z.vm.findClass "com/example/weir/weir/Window" = some t ∧ Z.vm.assignable c t = false) :
    MetFree l x (head1 (Jvm.Cond.code x code maxLocals ret :: ws) room_1) (fun a U => a = #[(.long q0), (.long q1), (.long q2), (.long q3), (.int p4)] ∧ Z.Warmed39 U.vm ∧ U.heap = h0) (fun _ _ _ _ _ => True) (fun _ U o U' => ∃ v L, o = .returned v ∧ Q0 Z n0 q0 q1 q2 q3 p4 s_cache cc h0 v U'.heap L ∧ FrameEnd U o U' L room_1.cells room_1.slots) := by
  refine MetFree.of_bodySF (plainFor_of_name pn_52) hisR ?_
  intro p e s m args below meth c s₁ Bd hml0 hP hK
  obtain ⟨rfl, hZ, hh⟩ := hP
  have hx := Bd.exec
  have hby := Bd.bytes
  have hml : c.maxLocals = 23 := hml0
  have hown : s.vm.findClass "com/example/weir/weir/WindowEqualsPinLaw" = some m.cls := findClass_of_methodNamed Bd.named
  have hnm := (name_of_methodNamed Bd.named Bd.method).1
  have X0 : Stand p l e room_1 s m #[(.long q0), (.long q1), (.long q2), (.long q3), (.int p4)] below meth c s₁ [] 0 0 := Stand.of_body Bd
  have e0 : s₁.heap = h0 := by rw [← hh, Bd.state]; rfl
  have N0 := Fr.nil n0
  have K0 : Keep h0 h0 [] := Keep.refl _ _
  have go0 : ∀ t, Steps p.tables e below (s₁.setTop (mkF m 0 #[.val (.long q0), .second, .val (.long q1), .second, .val (.long q2), .second, .val (.long q3), .second, .val (.int p4), .unset, .unset, .unset, .unset, .unset, .unset, .unset, .unset, .unset, .unset, .unset, .unset, .unset, .unset] [])) t → Steps p.tables e below (s₁.setTop (entryFrame m #[(.long q0), (.long q1), (.long q2), (.long q3), (.int p4)] maxLocals)) t := fun t k => castTop (ef0 m q0 q1 q2 q3 p4) k
  have go2 : ∀ t, Steps p.tables e below (s₁.setTop (mkF m 6 #[.val (.long q0), .second, .val (.long q1), .second, .val (.long q2), .second, .val (.long q3), .second, .val (.int p4), .unset, .unset, .unset, .unset, .unset, .unset, .unset, .unset, .unset, .unset, .unset, .unset, .unset, .unset] [(.long (v0_1 q0)), (.long (1 : Int64))])) t → Steps p.tables e below (s₁.setTop (entryFrame m #[(.long q0), (.long q1), (.long q2), (.long q3), (.int p4)] maxLocals)) t := by
    intro t k
    refine go0 _ ?_
    refine XS.lconst X0.here hx rfl (hb hby at_0) ?_
    show Steps p.tables e below (s₁.setTop (mkF m 1 #[.val (.long q0), .second, .val (.long q1), .second, .val (.long q2), .second, .val (.long q3), .second, .val (.int p4), .unset, .unset, .unset, .unset, .unset, .unset, .unset, .unset, .unset, .unset, .unset, .unset, .unset, .unset] [(.long (1 : Int64))])) t
    refine XS.lloadN X0.here hx rfl (hb hby at_1) rfl ?_
    show Steps p.tables e below (s₁.setTop (mkF m 2 #[.val (.long q0), .second, .val (.long q1), .second, .val (.long q2), .second, .val (.long q3), .second, .val (.int p4), .unset, .unset, .unset, .unset, .unset, .unset, .unset, .unset, .unset, .unset, .unset, .unset, .unset, .unset] [(.long q0), (.long (1 : Int64))])) t
    refine X0.ldc2Long hx hown (mvT hZ (hw _ (List.mem_of_getElem? (i := 0) rfl))) (g := (mkF m 2 #[.val (.long q0), .second, .val (.long q1), .second, .val (.long q2), .second, .val (.long q3), .second, .val (.int p4), .unset, .unset, .unset, .unset, .unset, .unset, .unset, .unset, .unset, .unset, .unset, .unset, .unset, .unset] [(.long q0), (.long (1 : Int64))])) rfl (hb hby at_2) _ ?_
    show Steps p.tables e below (s₁.setTop (mkF m 5 #[.val (.long q0), .second, .val (.long q1), .second, .val (.long q2), .second, .val (.long q3), .second, .val (.int p4), .unset, .unset, .unset, .unset, .unset, .unset, .unset, .unset, .unset, .unset, .unset, .unset, .unset, .unset] [(.long (9007199254740991 : Int64)), (.long q0), (.long (1 : Int64))])) t
    refine XS.land X0.here hx rfl (hb hby at_5) rfl ?_
    show Steps p.tables e below (s₁.setTop (mkF m 6 #[.val (.long q0), .second, .val (.long q1), .second, .val (.long q2), .second, .val (.long q3), .second, .val (.int p4), .unset, .unset, .unset, .unset, .unset, .unset, .unset, .unset, .unset, .unset, .unset, .unset, .unset, .unset] [(.long (q0 &&& (9007199254740991 : Int64))), (.long (1 : Int64))])) t
    show Steps p.tables e below (s₁.setTop (mkF m 6 #[.val (.long q0), .second, .val (.long q1), .second, .val (.long q2), .second, .val (.long q3), .second, .val (.int p4), .unset, .unset, .unset, .unset, .unset, .unset, .unset, .unset, .unset, .unset, .unset, .unset, .unset, .unset] [(.long (v0_1 q0)), (.long (1 : Int64))])) t
    exact k
  obtain ⟨_, _, ⟨T3, L3, k3, n3⟩, -, X3, ⟨Lc3, hQ3, l3, y3, z3⟩, st3⟩ := Jvm.LawKit.callS X0 hx (y := (⟨"java/lang/Math", "max", "(JJ)J"⟩ : MethodName)) hown (mvT hZ (hw _ (List.mem_of_getElem? (i := 1) rfl))) (mvT hZ (hw _ (List.mem_of_getElem? (i := 2) rfl))) (mvT hZ (hw _ (List.mem_of_getElem? (i := 3) rfl))) (mvT hZ (hw _ (List.mem_of_getElem? (i := 4) rfl))) (by decide) (backOf (W := 0) (rm1 l Z aZ hw [] (1 : Int64) (v0_1 q0) h0 n0 Z0 ) hZ (hw _ (List.mem_of_getElem? (i := 4) rfl)) (hw _ (List.mem_of_getElem? (i := 3) rfl)) (by decide) (by decide)) (g := (mkF m 6 #[.val (.long q0), .second, .val (.long q1), .second, .val (.long q2), .second, .val (.long q3), .second, .val (.int p4), .unset, .unset, .unset, .unset, .unset, .unset, .unset, .unset, .unset, .unset, .unset, .unset, .unset, .unset] [(.long (v0_1 q0)), (.long (1 : Int64))])) rfl (by rw [hml]; rfl) (argsL := [(.long (1 : Int64)), (.long (v0_1 q0))]) (rest := []) (lenOf pd_22 rfl) rfl (by show 2 * 0 + _ ≤ _; exact Nat.le_of_eq rfl) (hb hby at_6) (fun _ _ => ⟨rfl, e0, (by decide : 0 + 0 ≤ _), (by decide : 0 + 0 ≤ _)⟩)
  dsimp only [Pt.U, Pt.locs, Pt.cells, Pt.slots] at X3 l3 y3 z3 st3 hQ3
  subst l3 y3 z3
  obtain ⟨rfl, N3q, e3⟩ := hQ3
  have N3 := Fr.app N0 N3q
  have go4 : ∀ t, Steps p.tables e below (T3.setTop (mkF m 9 #[.val (.long q0), .second, .val (.long q1), .second, .val (.long q2), .second, .val (.long q3), .second, .val (.int p4), .unset, .unset, .unset, .unset, .unset, .unset, .unset, .unset, .unset, .unset, .unset, .unset, .unset, .unset] [(.long (f1 (1 : Int64) (v0_1 q0)))])) t → Steps p.tables e below (s₁.setTop (entryFrame m #[(.long q0), (.long q1), (.long q2), (.long q3), (.int p4)] maxLocals)) t := fun t k => go2 _ (st3 _ k)
  have go6 : ∀ t, Steps p.tables e below (T3.setTop (mkF m 28 #[.val (.long q0), .second, .val (.long q1), .second, .val (.long q2), .second, .val (.long q3), .second, .val (.int p4), .val (.long (v0_5 q0)), .second, .val (.long (v3_6 q1)), .second, .unset, .unset, .unset, .unset, .unset, .unset, .unset, .unset, .unset, .unset] [(.int (p4 &&& (3 : Int32))), (.long q2), (.long (v0_5 q0))])) t → Steps p.tables e below (s₁.setTop (entryFrame m #[(.long q0), (.long q1), (.long q2), (.long q3), (.int p4)] maxLocals)) t := by
    intro t k
    refine go4 _ ?_
    show Steps p.tables e below (T3.setTop (mkF m 9 #[.val (.long q0), .second, .val (.long q1), .second, .val (.long q2), .second, .val (.long q3), .second, .val (.int p4), .unset, .unset, .unset, .unset, .unset, .unset, .unset, .unset, .unset, .unset, .unset, .unset, .unset, .unset] [(.long (v0_5 q0))])) t
    refine XS.lstore X3.here hx rfl (hb hby at_9) rfl (l' := #[.val (.long q0), .second, .val (.long q1), .second, .val (.long q2), .second, .val (.long q3), .second, .val (.int p4), .val (.long (v0_5 q0)), .second, .unset, .unset, .unset, .unset, .unset, .unset, .unset, .unset, .unset, .unset, .unset, .unset]) rfl ?_
    show Steps p.tables e below (T3.setTop (mkF m 11 #[.val (.long q0), .second, .val (.long q1), .second, .val (.long q2), .second, .val (.long q3), .second, .val (.int p4), .val (.long (v0_5 q0)), .second, .unset, .unset, .unset, .unset, .unset, .unset, .unset, .unset, .unset, .unset, .unset, .unset] [])) t
    refine XS.lconst X3.here hx rfl (hb hby at_11) ?_
    show Steps p.tables e below (T3.setTop (mkF m 12 #[.val (.long q0), .second, .val (.long q1), .second, .val (.long q2), .second, .val (.long q3), .second, .val (.int p4), .val (.long (v0_5 q0)), .second, .unset, .unset, .unset, .unset, .unset, .unset, .unset, .unset, .unset, .unset, .unset, .unset] [(.long (1 : Int64))])) t
    refine XS.lloadN X3.here hx rfl (hb hby at_12) rfl ?_
    show Steps p.tables e below (T3.setTop (mkF m 13 #[.val (.long q0), .second, .val (.long q1), .second, .val (.long q2), .second, .val (.long q3), .second, .val (.int p4), .val (.long (v0_5 q0)), .second, .unset, .unset, .unset, .unset, .unset, .unset, .unset, .unset, .unset, .unset, .unset, .unset] [(.long q1), (.long (1 : Int64))])) t
    refine X3.ldc2Long hx hown (mvT hZ (hw _ (List.mem_of_getElem? (i := 5) rfl))) (g := (mkF m 13 #[.val (.long q0), .second, .val (.long q1), .second, .val (.long q2), .second, .val (.long q3), .second, .val (.int p4), .val (.long (v0_5 q0)), .second, .unset, .unset, .unset, .unset, .unset, .unset, .unset, .unset, .unset, .unset, .unset, .unset] [(.long q1), (.long (1 : Int64))])) rfl (hb hby at_13) _ ?_
    show Steps p.tables e below (T3.setTop (mkF m 16 #[.val (.long q0), .second, .val (.long q1), .second, .val (.long q2), .second, .val (.long q3), .second, .val (.int p4), .val (.long (v0_5 q0)), .second, .unset, .unset, .unset, .unset, .unset, .unset, .unset, .unset, .unset, .unset, .unset, .unset] [(.long (1099511627775 : Int64)), (.long q1), (.long (1 : Int64))])) t
    refine XS.land X3.here hx rfl (hb hby at_16) rfl ?_
    show Steps p.tables e below (T3.setTop (mkF m 17 #[.val (.long q0), .second, .val (.long q1), .second, .val (.long q2), .second, .val (.long q3), .second, .val (.int p4), .val (.long (v0_5 q0)), .second, .unset, .unset, .unset, .unset, .unset, .unset, .unset, .unset, .unset, .unset, .unset, .unset] [(.long (q1 &&& (1099511627775 : Int64))), (.long (1 : Int64))])) t
    refine XS.ladd X3.here hx rfl (hb hby at_17) rfl ?_
    show Steps p.tables e below (T3.setTop (mkF m 18 #[.val (.long q0), .second, .val (.long q1), .second, .val (.long q2), .second, .val (.long q3), .second, .val (.int p4), .val (.long (v0_5 q0)), .second, .unset, .unset, .unset, .unset, .unset, .unset, .unset, .unset, .unset, .unset, .unset, .unset] [(.long ((1 : Int64) + (q1 &&& (1099511627775 : Int64))))])) t
    show Steps p.tables e below (T3.setTop (mkF m 18 #[.val (.long q0), .second, .val (.long q1), .second, .val (.long q2), .second, .val (.long q3), .second, .val (.int p4), .val (.long (v0_5 q0)), .second, .unset, .unset, .unset, .unset, .unset, .unset, .unset, .unset, .unset, .unset, .unset, .unset] [(.long (v3_6 q1))])) t
    refine XS.lstore X3.here hx rfl (hb hby at_18) rfl (l' := #[.val (.long q0), .second, .val (.long q1), .second, .val (.long q2), .second, .val (.long q3), .second, .val (.int p4), .val (.long (v0_5 q0)), .second, .val (.long (v3_6 q1)), .second, .unset, .unset, .unset, .unset, .unset, .unset, .unset, .unset, .unset, .unset]) rfl ?_
    show Steps p.tables e below (T3.setTop (mkF m 20 #[.val (.long q0), .second, .val (.long q1), .second, .val (.long q2), .second, .val (.long q3), .second, .val (.int p4), .val (.long (v0_5 q0)), .second, .val (.long (v3_6 q1)), .second, .unset, .unset, .unset, .unset, .unset, .unset, .unset, .unset, .unset, .unset] [])) t
    refine XS.lload X3.here hx rfl (hb hby at_20) rfl ?_
    show Steps p.tables e below (T3.setTop (mkF m 22 #[.val (.long q0), .second, .val (.long q1), .second, .val (.long q2), .second, .val (.long q3), .second, .val (.int p4), .val (.long (v0_5 q0)), .second, .val (.long (v3_6 q1)), .second, .unset, .unset, .unset, .unset, .unset, .unset, .unset, .unset, .unset, .unset] [(.long (v0_5 q0))])) t
    refine XS.lload X3.here hx rfl (hb hby at_22) rfl ?_
    show Steps p.tables e below (T3.setTop (mkF m 24 #[.val (.long q0), .second, .val (.long q1), .second, .val (.long q2), .second, .val (.long q3), .second, .val (.int p4), .val (.long (v0_5 q0)), .second, .val (.long (v3_6 q1)), .second, .unset, .unset, .unset, .unset, .unset, .unset, .unset, .unset, .unset, .unset] [(.long q2), (.long (v0_5 q0))])) t
    refine XS.iload X3.here hx rfl (hb hby at_24) rfl ?_
    show Steps p.tables e below (T3.setTop (mkF m 26 #[.val (.long q0), .second, .val (.long q1), .second, .val (.long q2), .second, .val (.long q3), .second, .val (.int p4), .val (.long (v0_5 q0)), .second, .val (.long (v3_6 q1)), .second, .unset, .unset, .unset, .unset, .unset, .unset, .unset, .unset, .unset, .unset] [(.int p4), (.long q2), (.long (v0_5 q0))])) t
    refine XS.iconst X3.here hx rfl (hb hby at_26) ?_
    show Steps p.tables e below (T3.setTop (mkF m 27 #[.val (.long q0), .second, .val (.long q1), .second, .val (.long q2), .second, .val (.long q3), .second, .val (.int p4), .val (.long (v0_5 q0)), .second, .val (.long (v3_6 q1)), .second, .unset, .unset, .unset, .unset, .unset, .unset, .unset, .unset, .unset, .unset] [(.int (3 : Int32)), (.int p4), (.long q2), (.long (v0_5 q0))])) t
    refine XS.iand X3.here hx rfl (hb hby at_27) rfl ?_
    show Steps p.tables e below (T3.setTop (mkF m 28 #[.val (.long q0), .second, .val (.long q1), .second, .val (.long q2), .second, .val (.long q3), .second, .val (.int p4), .val (.long (v0_5 q0)), .second, .val (.long (v3_6 q1)), .second, .unset, .unset, .unset, .unset, .unset, .unset, .unset, .unset, .unset, .unset] [(.int (p4 &&& (3 : Int32))), (.long q2), (.long (v0_5 q0))])) t
    exact k
  obtain ⟨_, _, ⟨T7, L7, k7, n7⟩, -, X7, ⟨Lc7, hQ7, l7, y7, z7⟩, st7⟩ := Jvm.LawKit.callS X3 hx (y := (⟨"com/example/weir/weir/WindowEqualsPinLaw", "pickLimit", "(JJI)J"⟩ : MethodName)) hown (mvT hZ (hw _ (List.mem_of_getElem? (i := 6) rfl))) (mvT hZ (hw _ (List.mem_of_getElem? (i := 7) rfl))) (mvT hZ (hw _ (List.mem_of_getElem? (i := 8) rfl))) (mvT hZ (hw _ (List.mem_of_getElem? (i := 9) rfl))) (by decide) (backOf (W := 0) (rm2 l Z aZ hw [] (v0_5 q0) q2 (p4 &&& (3 : Int32)) h0 n0 Z0 ) hZ (hw _ (List.mem_of_getElem? (i := 9) rfl)) (hw _ (List.mem_of_getElem? (i := 8) rfl)) (by decide) (by decide)) (g := (mkF m 28 #[.val (.long q0), .second, .val (.long q1), .second, .val (.long q2), .second, .val (.long q3), .second, .val (.int p4), .val (.long (v0_5 q0)), .second, .val (.long (v3_6 q1)), .second, .unset, .unset, .unset, .unset, .unset, .unset, .unset, .unset, .unset, .unset] [(.int (p4 &&& (3 : Int32))), (.long q2), (.long (v0_5 q0))])) rfl (by rw [hml]; rfl) (argsL := [(.long (v0_5 q0)), (.long q2), (.int (p4 &&& (3 : Int32)))]) (rest := []) (lenOf pd_190 rfl) rfl (by show 2 * 0 + _ ≤ _; exact Nat.le_of_eq rfl) (hb hby at_28) (fun _ _ => ⟨rfl, e3, (by decide : 0 + 0 ≤ _), (by decide : 0 + 0 ≤ _)⟩)
  dsimp only [Pt.U, Pt.locs, Pt.cells, Pt.slots] at X7 l7 y7 z7 st7 hQ7
  subst l7 y7 z7
  obtain ⟨rfl, N7q, e7⟩ := hQ7
  have N7 := Fr.app N3 N7q
  have go8 : ∀ t, Steps p.tables e below (T7.setTop (mkF m 31 #[.val (.long q0), .second, .val (.long q1), .second, .val (.long q2), .second, .val (.long q3), .second, .val (.int p4), .val (.long (v0_5 q0)), .second, .val (.long (v3_6 q1)), .second, .unset, .unset, .unset, .unset, .unset, .unset, .unset, .unset, .unset, .unset] [(.long (f2 (v0_5 q0) q2 (p4 &&& (3 : Int32))))])) t → Steps p.tables e below (s₁.setTop (entryFrame m #[(.long q0), (.long q1), (.long q2), (.long q3), (.int p4)] maxLocals)) t := fun t k => go6 _ (st7 _ k)
  have go11 : ∀ t, Steps p.tables e below (T7.setTop (mkF m 43 #[.val (.long q0), .second, .val (.long q1), .second, .val (.long q2), .second, .val (.long q3), .second, .val (.int p4), .val (.long (v0_5 q0)), .second, .val (.long (v3_6 q1)), .second, .val (.long (v0_9 q0 q2 p4)), .second, .unset, .unset, .unset, .unset, .unset, .unset, .unset, .unset] [(.int (v0_10 p4)), (.long q3), (.long (v3_6 q1))])) t → Steps p.tables e below (s₁.setTop (entryFrame m #[(.long q0), (.long q1), (.long q2), (.long q3), (.int p4)] maxLocals)) t := by
    intro t k
    refine go8 _ ?_
    show Steps p.tables e below (T7.setTop (mkF m 31 #[.val (.long q0), .second, .val (.long q1), .second, .val (.long q2), .second, .val (.long q3), .second, .val (.int p4), .val (.long (v0_5 q0)), .second, .val (.long (v3_6 q1)), .second, .unset, .unset, .unset, .unset, .unset, .unset, .unset, .unset, .unset, .unset] [(.long (v0_9 q0 q2 p4))])) t
    refine XS.lstore X7.here hx rfl (hb hby at_31) rfl (l' := #[.val (.long q0), .second, .val (.long q1), .second, .val (.long q2), .second, .val (.long q3), .second, .val (.int p4), .val (.long (v0_5 q0)), .second, .val (.long (v3_6 q1)), .second, .val (.long (v0_9 q0 q2 p4)), .second, .unset, .unset, .unset, .unset, .unset, .unset, .unset, .unset]) rfl ?_
    show Steps p.tables e below (T7.setTop (mkF m 33 #[.val (.long q0), .second, .val (.long q1), .second, .val (.long q2), .second, .val (.long q3), .second, .val (.int p4), .val (.long (v0_5 q0)), .second, .val (.long (v3_6 q1)), .second, .val (.long (v0_9 q0 q2 p4)), .second, .unset, .unset, .unset, .unset, .unset, .unset, .unset, .unset] [])) t
    refine XS.lload X7.here hx rfl (hb hby at_33) rfl ?_
    show Steps p.tables e below (T7.setTop (mkF m 35 #[.val (.long q0), .second, .val (.long q1), .second, .val (.long q2), .second, .val (.long q3), .second, .val (.int p4), .val (.long (v0_5 q0)), .second, .val (.long (v3_6 q1)), .second, .val (.long (v0_9 q0 q2 p4)), .second, .unset, .unset, .unset, .unset, .unset, .unset, .unset, .unset] [(.long (v3_6 q1))])) t
    refine XS.lload X7.here hx rfl (hb hby at_35) rfl ?_
    show Steps p.tables e below (T7.setTop (mkF m 37 #[.val (.long q0), .second, .val (.long q1), .second, .val (.long q2), .second, .val (.long q3), .second, .val (.int p4), .val (.long (v0_5 q0)), .second, .val (.long (v3_6 q1)), .second, .val (.long (v0_9 q0 q2 p4)), .second, .unset, .unset, .unset, .unset, .unset, .unset, .unset, .unset] [(.long q3), (.long (v3_6 q1))])) t
    refine XS.iload X7.here hx rfl (hb hby at_37) rfl ?_
    show Steps p.tables e below (T7.setTop (mkF m 39 #[.val (.long q0), .second, .val (.long q1), .second, .val (.long q2), .second, .val (.long q3), .second, .val (.int p4), .val (.long (v0_5 q0)), .second, .val (.long (v3_6 q1)), .second, .val (.long (v0_9 q0 q2 p4)), .second, .unset, .unset, .unset, .unset, .unset, .unset, .unset, .unset] [(.int p4), (.long q3), (.long (v3_6 q1))])) t
    refine XS.iconst X7.here hx rfl (hb hby at_39) ?_
    show Steps p.tables e below (T7.setTop (mkF m 40 #[.val (.long q0), .second, .val (.long q1), .second, .val (.long q2), .second, .val (.long q3), .second, .val (.int p4), .val (.long (v0_5 q0)), .second, .val (.long (v3_6 q1)), .second, .val (.long (v0_9 q0 q2 p4)), .second, .unset, .unset, .unset, .unset, .unset, .unset, .unset, .unset] [(.int (2 : Int32)), (.int p4), (.long q3), (.long (v3_6 q1))])) t
    refine XS.ishr X7.here hx rfl (hb hby at_40) rfl ?_
    show Steps p.tables e below (T7.setTop (mkF m 41 #[.val (.long q0), .second, .val (.long q1), .second, .val (.long q2), .second, .val (.long q3), .second, .val (.int p4), .val (.long (v0_5 q0)), .second, .val (.long (v3_6 q1)), .second, .val (.long (v0_9 q0 q2 p4)), .second, .unset, .unset, .unset, .unset, .unset, .unset, .unset, .unset] [(.int (p4 >>> ((2 : Int32) &&& 31))), (.long q3), (.long (v3_6 q1))])) t
    refine XS.iconst X7.here hx rfl (hb hby at_41) ?_
    show Steps p.tables e below (T7.setTop (mkF m 42 #[.val (.long q0), .second, .val (.long q1), .second, .val (.long q2), .second, .val (.long q3), .second, .val (.int p4), .val (.long (v0_5 q0)), .second, .val (.long (v3_6 q1)), .second, .val (.long (v0_9 q0 q2 p4)), .second, .unset, .unset, .unset, .unset, .unset, .unset, .unset, .unset] [(.int (3 : Int32)), (.int (p4 >>> ((2 : Int32) &&& 31))), (.long q3), (.long (v3_6 q1))])) t
    refine XS.iand X7.here hx rfl (hb hby at_42) rfl ?_
    show Steps p.tables e below (T7.setTop (mkF m 43 #[.val (.long q0), .second, .val (.long q1), .second, .val (.long q2), .second, .val (.long q3), .second, .val (.int p4), .val (.long (v0_5 q0)), .second, .val (.long (v3_6 q1)), .second, .val (.long (v0_9 q0 q2 p4)), .second, .unset, .unset, .unset, .unset, .unset, .unset, .unset, .unset] [(.int ((p4 >>> ((2 : Int32) &&& 31)) &&& (3 : Int32))), (.long q3), (.long (v3_6 q1))])) t
    show Steps p.tables e below (T7.setTop (mkF m 43 #[.val (.long q0), .second, .val (.long q1), .second, .val (.long q2), .second, .val (.long q3), .second, .val (.int p4), .val (.long (v0_5 q0)), .second, .val (.long (v3_6 q1)), .second, .val (.long (v0_9 q0 q2 p4)), .second, .unset, .unset, .unset, .unset, .unset, .unset, .unset, .unset] [(.int (v0_10 p4)), (.long q3), (.long (v3_6 q1))])) t
    exact k
  obtain ⟨_, _, ⟨T12, L12, k12, n12⟩, -, X12, ⟨Lc12, hQ12, l12, y12, z12⟩, st12⟩ := Jvm.LawKit.callS X7 hx (y := (⟨"com/example/weir/weir/WindowEqualsPinLaw", "pickWindow", "(JJI)J"⟩ : MethodName)) hown (mvT hZ (hw _ (List.mem_of_getElem? (i := 10) rfl))) (mvT hZ (hw _ (List.mem_of_getElem? (i := 11) rfl))) (mvT hZ (hw _ (List.mem_of_getElem? (i := 8) rfl))) (mvT hZ (hw _ (List.mem_of_getElem? (i := 12) rfl))) (by decide) (backOf (W := 0) (rm3 l Z aZ hw [] (v3_6 q1) q3 (v0_10 p4) h0 n0 Z0 ) hZ (hw _ (List.mem_of_getElem? (i := 12) rfl)) (hw _ (List.mem_of_getElem? (i := 8) rfl)) (by decide) (by decide)) (g := (mkF m 43 #[.val (.long q0), .second, .val (.long q1), .second, .val (.long q2), .second, .val (.long q3), .second, .val (.int p4), .val (.long (v0_5 q0)), .second, .val (.long (v3_6 q1)), .second, .val (.long (v0_9 q0 q2 p4)), .second, .unset, .unset, .unset, .unset, .unset, .unset, .unset, .unset] [(.int (v0_10 p4)), (.long q3), (.long (v3_6 q1))])) rfl (by rw [hml]; rfl) (argsL := [(.long (v3_6 q1)), (.long q3), (.int (v0_10 p4))]) (rest := []) (lenOf pd_190 rfl) rfl (by show 2 * 0 + _ ≤ _; exact Nat.le_of_eq rfl) (hb hby at_43) (fun _ _ => ⟨rfl, e7, (by decide : 0 + 0 ≤ _), (by decide : 0 + 0 ≤ _)⟩)
  dsimp only [Pt.U, Pt.locs, Pt.cells, Pt.slots] at X12 l12 y12 z12 st12 hQ12
  subst l12 y12 z12
  obtain ⟨rfl, N12q, e12⟩ := hQ12
  have N12 := Fr.app N7 N12q
  have go13 : ∀ t, Steps p.tables e below (T12.setTop (mkF m 46 #[.val (.long q0), .second, .val (.long q1), .second, .val (.long q2), .second, .val (.long q3), .second, .val (.int p4), .val (.long (v0_5 q0)), .second, .val (.long (v3_6 q1)), .second, .val (.long (v0_9 q0 q2 p4)), .second, .unset, .unset, .unset, .unset, .unset, .unset, .unset, .unset] [(.long (f3 (v3_6 q1) q3 (v0_10 p4)))])) t → Steps p.tables e below (s₁.setTop (entryFrame m #[(.long q0), (.long q1), (.long q2), (.long q3), (.int p4)] maxLocals)) t := fun t k => go11 _ (st12 _ k)
  have go16 : ∀ t, Steps p.tables e below (T12.setTop (mkF m 56 #[.val (.long q0), .second, .val (.long q1), .second, .val (.long q2), .second, .val (.long q3), .second, .val (.int p4), .val (.long (v0_5 q0)), .second, .val (.long (v3_6 q1)), .second, .val (.long (v0_9 q0 q2 p4)), .second, .val (.long (v0_14 q1 q3 p4)), .second, .val (.int (v0_15 p4)), .unset, .unset, .unset, .unset, .unset] [])) t → Steps p.tables e below (s₁.setTop (entryFrame m #[(.long q0), (.long q1), (.long q2), (.long q3), (.int p4)] maxLocals)) t := by
    intro t k
    refine go13 _ ?_
    show Steps p.tables e below (T12.setTop (mkF m 46 #[.val (.long q0), .second, .val (.long q1), .second, .val (.long q2), .second, .val (.long q3), .second, .val (.int p4), .val (.long (v0_5 q0)), .second, .val (.long (v3_6 q1)), .second, .val (.long (v0_9 q0 q2 p4)), .second, .unset, .unset, .unset, .unset, .unset, .unset, .unset, .unset] [(.long (v0_14 q1 q3 p4))])) t
    refine XS.lstore X12.here hx rfl (hb hby at_46) rfl (l' := #[.val (.long q0), .second, .val (.long q1), .second, .val (.long q2), .second, .val (.long q3), .second, .val (.int p4), .val (.long (v0_5 q0)), .second, .val (.long (v3_6 q1)), .second, .val (.long (v0_9 q0 q2 p4)), .second, .val (.long (v0_14 q1 q3 p4)), .second, .unset, .unset, .unset, .unset, .unset, .unset]) rfl ?_
    show Steps p.tables e below (T12.setTop (mkF m 48 #[.val (.long q0), .second, .val (.long q1), .second, .val (.long q2), .second, .val (.long q3), .second, .val (.int p4), .val (.long (v0_5 q0)), .second, .val (.long (v3_6 q1)), .second, .val (.long (v0_9 q0 q2 p4)), .second, .val (.long (v0_14 q1 q3 p4)), .second, .unset, .unset, .unset, .unset, .unset, .unset] [])) t
    refine XS.iload X12.here hx rfl (hb hby at_48) rfl ?_
    show Steps p.tables e below (T12.setTop (mkF m 50 #[.val (.long q0), .second, .val (.long q1), .second, .val (.long q2), .second, .val (.long q3), .second, .val (.int p4), .val (.long (v0_5 q0)), .second, .val (.long (v3_6 q1)), .second, .val (.long (v0_9 q0 q2 p4)), .second, .val (.long (v0_14 q1 q3 p4)), .second, .unset, .unset, .unset, .unset, .unset, .unset] [(.int p4)])) t
    refine XS.iconst X12.here hx rfl (hb hby at_50) ?_
    show Steps p.tables e below (T12.setTop (mkF m 51 #[.val (.long q0), .second, .val (.long q1), .second, .val (.long q2), .second, .val (.long q3), .second, .val (.int p4), .val (.long (v0_5 q0)), .second, .val (.long (v3_6 q1)), .second, .val (.long (v0_9 q0 q2 p4)), .second, .val (.long (v0_14 q1 q3 p4)), .second, .unset, .unset, .unset, .unset, .unset, .unset] [(.int (4 : Int32)), (.int p4)])) t
    refine XS.ishr X12.here hx rfl (hb hby at_51) rfl ?_
    show Steps p.tables e below (T12.setTop (mkF m 52 #[.val (.long q0), .second, .val (.long q1), .second, .val (.long q2), .second, .val (.long q3), .second, .val (.int p4), .val (.long (v0_5 q0)), .second, .val (.long (v3_6 q1)), .second, .val (.long (v0_9 q0 q2 p4)), .second, .val (.long (v0_14 q1 q3 p4)), .second, .unset, .unset, .unset, .unset, .unset, .unset] [(.int (p4 >>> ((4 : Int32) &&& 31)))])) t
    refine XS.iconst X12.here hx rfl (hb hby at_52) ?_
    show Steps p.tables e below (T12.setTop (mkF m 53 #[.val (.long q0), .second, .val (.long q1), .second, .val (.long q2), .second, .val (.long q3), .second, .val (.int p4), .val (.long (v0_5 q0)), .second, .val (.long (v3_6 q1)), .second, .val (.long (v0_9 q0 q2 p4)), .second, .val (.long (v0_14 q1 q3 p4)), .second, .unset, .unset, .unset, .unset, .unset, .unset] [(.int (3 : Int32)), (.int (p4 >>> ((4 : Int32) &&& 31)))])) t
    refine XS.iand X12.here hx rfl (hb hby at_53) rfl ?_
    show Steps p.tables e below (T12.setTop (mkF m 54 #[.val (.long q0), .second, .val (.long q1), .second, .val (.long q2), .second, .val (.long q3), .second, .val (.int p4), .val (.long (v0_5 q0)), .second, .val (.long (v3_6 q1)), .second, .val (.long (v0_9 q0 q2 p4)), .second, .val (.long (v0_14 q1 q3 p4)), .second, .unset, .unset, .unset, .unset, .unset, .unset] [(.int ((p4 >>> ((4 : Int32) &&& 31)) &&& (3 : Int32)))])) t
    show Steps p.tables e below (T12.setTop (mkF m 54 #[.val (.long q0), .second, .val (.long q1), .second, .val (.long q2), .second, .val (.long q3), .second, .val (.int p4), .val (.long (v0_5 q0)), .second, .val (.long (v3_6 q1)), .second, .val (.long (v0_9 q0 q2 p4)), .second, .val (.long (v0_14 q1 q3 p4)), .second, .unset, .unset, .unset, .unset, .unset, .unset] [(.int (v0_15 p4))])) t
    refine XS.istore X12.here hx rfl (hb hby at_54) rfl (l' := #[.val (.long q0), .second, .val (.long q1), .second, .val (.long q2), .second, .val (.long q3), .second, .val (.int p4), .val (.long (v0_5 q0)), .second, .val (.long (v3_6 q1)), .second, .val (.long (v0_9 q0 q2 p4)), .second, .val (.long (v0_14 q1 q3 p4)), .second, .val (.int (v0_15 p4)), .unset, .unset, .unset, .unset, .unset]) rfl ?_
    show Steps p.tables e below (T12.setTop (mkF m 56 #[.val (.long q0), .second, .val (.long q1), .second, .val (.long q2), .second, .val (.long q3), .second, .val (.int p4), .val (.long (v0_5 q0)), .second, .val (.long (v3_6 q1)), .second, .val (.long (v0_9 q0 q2 p4)), .second, .val (.long (v0_14 q1 q3 p4)), .second, .val (.int (v0_15 p4)), .unset, .unset, .unset, .unset, .unset] [])) t
    exact k
  obtain ⟨T17, h17, X17, e17, E17, A17, D17, -, st17⟩ := newO X12 hx hZ hown (hw _ (List.mem_of_getElem? (i := 13) rfl)) (hw _ (List.mem_of_getElem? (i := 14) rfl)) (hw _ (List.mem_of_getElem? (i := 15) rfl)) e12 (g := (mkF m 56 #[.val (.long q0), .second, .val (.long q1), .second, .val (.long q2), .second, .val (.long q3), .second, .val (.int p4), .val (.long (v0_5 q0)), .second, .val (.long (v3_6 q1)), .second, .val (.long (v0_9 q0 q2 p4)), .second, .val (.long (v0_14 q1 q3 p4)), .second, .val (.int (v0_15 p4)), .unset, .unset, .unset, .unset, .unset] [])) rfl (hb hby at_56) (by decide) (by decide)
  obtain ⟨b17, g17⟩ : ∃ z, z = h0.size := ⟨_, rfl⟩
  rw [← g17] at A17 D17 st17
  have ne18 : s_cache ≠ b17 := Nat.ne_of_lt (Nat.lt_of_lt_of_le A_cache.lt (Nat.le_of_eq g17.symm))
  have low17 : n0 ≤ b17 := Nat.le_trans Z0 (Nat.le_of_eq g17.symm)
  have fsh17 : h0.size ≤ b17 := Nat.le_trans K0.1 (Nat.le_of_eq g17.symm)
  have K17 : Keep h0 h17 [] := K0.ext E17
  have Zs17 : n0 ≤ h17.size := Nat.le_trans Z0 E17.1
  have go19 : ∀ t, Steps p.tables e below (T17.setTop (mkF m 59 #[.val (.long q0), .second, .val (.long q1), .second, .val (.long q2), .second, .val (.long q3), .second, .val (.int p4), .val (.long (v0_5 q0)), .second, .val (.long (v3_6 q1)), .second, .val (.long (v0_9 q0 q2 p4)), .second, .val (.long (v0_14 q1 q3 p4)), .second, .val (.int (v0_15 p4)), .unset, .unset, .unset, .unset, .unset] [(.ref b17)])) t → Steps p.tables e below (s₁.setTop (entryFrame m #[(.long q0), (.long q1), (.long q2), (.long q3), (.int p4)] maxLocals)) t := fun t k => go16 _ (st17 _ k)
  have F20 : Sta Z h17 "java/lang/Long$LongCache" "cache" "[Ljava/lang/Long;" (.ref s_cache) := S_cache.ext E17
  have F21 : Arr Z h17 s_cache cc (.object "java/lang/Long") := A_cache.ext E17
  have F22 : LCache Z h17 cc := C_cache.ext E17
  have F23 : Fld Z h17 b17 "com/example/weir/weir/Window" "limit" "J" (.long (0 : Int64)) := D17 (Or.inr (hw _ (List.mem_of_getElem? (i := 25) rfl))) (ty := .long) (by decide)
  have F24 : Fld Z h17 b17 "com/example/weir/weir/Window" "windowMillis" "J" (.long (0 : Int64)) := D17 (Or.inr (hw _ (List.mem_of_getElem? (i := 27) rfl))) (ty := .long) (by decide)
  have F25 : Fld Z h17 b17 "com/example/weir/weir/Window" "slotMillis" "J" (.long (0 : Int64)) := D17 (Or.inr (hw _ (List.mem_of_getElem? (i := 30) rfl))) (ty := .long) (by decide)
  have go26 : ∀ t, Steps p.tables e below (T17.setTop (mkF m 64 #[.val (.long q0), .second, .val (.long q1), .second, .val (.long q2), .second, .val (.long q3), .second, .val (.int p4), .val (.long (v0_5 q0)), .second, .val (.long (v3_6 q1)), .second, .val (.long (v0_9 q0 q2 p4)), .second, .val (.long (v0_14 q1 q3 p4)), .second, .val (.int (v0_15 p4)), .unset, .unset, .unset, .unset, .unset] [(.long (v3_6 q1)), (.long (v0_5 q0)), (.ref b17), (.ref b17)])) t → Steps p.tables e below (s₁.setTop (entryFrame m #[(.long q0), (.long q1), (.long q2), (.long q3), (.int p4)] maxLocals)) t := by
    intro t k
    refine go19 _ ?_
    refine XS.dup X17.here hx rfl (hb hby at_59) rfl rfl ?_
    show Steps p.tables e below (T17.setTop (mkF m 60 #[.val (.long q0), .second, .val (.long q1), .second, .val (.long q2), .second, .val (.long q3), .second, .val (.int p4), .val (.long (v0_5 q0)), .second, .val (.long (v3_6 q1)), .second, .val (.long (v0_9 q0 q2 p4)), .second, .val (.long (v0_14 q1 q3 p4)), .second, .val (.int (v0_15 p4)), .unset, .unset, .unset, .unset, .unset] [(.ref b17), (.ref b17)])) t
    refine XS.lload X17.here hx rfl (hb hby at_60) rfl ?_
    show Steps p.tables e below (T17.setTop (mkF m 62 #[.val (.long q0), .second, .val (.long q1), .second, .val (.long q2), .second, .val (.long q3), .second, .val (.int p4), .val (.long (v0_5 q0)), .second, .val (.long (v3_6 q1)), .second, .val (.long (v0_9 q0 q2 p4)), .second, .val (.long (v0_14 q1 q3 p4)), .second, .val (.int (v0_15 p4)), .unset, .unset, .unset, .unset, .unset] [(.long (v0_5 q0)), (.ref b17), (.ref b17)])) t
    refine XS.lload X17.here hx rfl (hb hby at_62) rfl ?_
    show Steps p.tables e below (T17.setTop (mkF m 64 #[.val (.long q0), .second, .val (.long q1), .second, .val (.long q2), .second, .val (.long q3), .second, .val (.int p4), .val (.long (v0_5 q0)), .second, .val (.long (v3_6 q1)), .second, .val (.long (v0_9 q0 q2 p4)), .second, .val (.long (v0_14 q1 q3 p4)), .second, .val (.int (v0_15 p4)), .unset, .unset, .unset, .unset, .unset] [(.long (v3_6 q1)), (.long (v0_5 q0)), (.ref b17), (.ref b17)])) t
    exact k
  obtain ⟨_, _, ⟨T27, L27, k27, n27⟩, -, X27, ⟨Lc27, hQ27, l27, y27, z27⟩, st27⟩ := X17.specialBack hx (y := (⟨"com/example/weir/weir/Window", "<init>", "(JJ)V"⟩ : MethodName)) rfl hown (mvT hZ (hw _ (List.mem_of_getElem? (i := 16) rfl))) (mvT hZ (hw _ (List.mem_of_getElem? (i := 17) rfl))) (mvT hZ (hw _ (List.mem_of_getElem? (i := 18) rfl))) (by decide) (backOf (W := 1) (rm4 l Z aZ hw [] b17 (v0_5 q0) (v3_6 q1) (.long (0 : Int64)) (.long (0 : Int64)) (.long (0 : Int64)) h17 n0 Zs17 A17 F23 F24 F25 low17 (own_ok1 q0 q1 q2 q3 p4).1 (own_ok1 q0 q1 q2 q3 p4).2.1 (own_ok1 q0 q1 q2 q3 p4).2.2.1 (own_ok1 q0 q1 q2 q3 p4).2.2.2) hZ (hw _ (List.mem_of_getElem? (i := 18) rfl)) (hw _ (List.mem_of_getElem? (i := 15) rfl)) (by decide) (by decide)) (g := (mkF m 64 #[.val (.long q0), .second, .val (.long q1), .second, .val (.long q2), .second, .val (.long q3), .second, .val (.int p4), .val (.long (v0_5 q0)), .second, .val (.long (v3_6 q1)), .second, .val (.long (v0_9 q0 q2 p4)), .second, .val (.long (v0_14 q1 q3 p4)), .second, .val (.int (v0_15 p4)), .unset, .unset, .unset, .unset, .unset] [(.long (v3_6 q1)), (.long (v0_5 q0)), (.ref b17), (.ref b17)])) rfl (by rw [hml]; rfl) (Steps.refl _) (a := b17) (argsL := [(.long (v0_5 q0)), (.long (v3_6 q1))]) (rest := [(.ref b17)]) (lenOf pd_195 rfl) rfl (by show 2 * 0 + _ ≤ _; exact Nat.le_of_eq rfl) (hb hby at_64) (fun _ _ => ⟨rfl, e17, (by decide : 1 + 0 ≤ _), (by decide : 3 + 0 ≤ _)⟩)
  dsimp only [Pt.U, Pt.locs, Pt.cells, Pt.slots] at X27 l27 y27 z27 st27 hQ27
  subst l27 y27 z27
  obtain ⟨rfl, N27q, K27q, G27_0, G27_1, G27_2, G27_3⟩ := hQ27
  have N27 := Fr.app N12 N27q
  have K27 : Keep h0 T27.heap [] := K17.trans K27q (allS (Or.inr fsh17) all0)
  have Zs27 : n0 ≤ T27.heap.size := Nat.le_trans Zs17 K27q.1
  have F28 : Sta Z T27.heap "java/lang/Long$LongCache" "cache" "[Ljava/lang/Long;" (.ref s_cache) := own_sta_keep F20 K27q (allS (own_exa_ns A17) all0)
  have F29 : Arr Z T27.heap s_cache cc (.object "java/lang/Long") := own_arr_keep F21 K27q (ninS ne18 nin0)
  have F30 : LCache Z T27.heap cc := F22.keep K27q
  have F31 : Exa Z T27.heap b17 "com/example/weir/weir/Window" := A17.keep K27q
  have go32 : ∀ t, Steps p.tables e below (T27.setTop (mkF m 67 #[.val (.long q0), .second, .val (.long q1), .second, .val (.long q2), .second, .val (.long q3), .second, .val (.int p4), .val (.long (v0_5 q0)), .second, .val (.long (v3_6 q1)), .second, .val (.long (v0_9 q0 q2 p4)), .second, .val (.long (v0_14 q1 q3 p4)), .second, .val (.int (v0_15 p4)), .unset, .unset, .unset, .unset, .unset] [(.ref b17)])) t → Steps p.tables e below (s₁.setTop (entryFrame m #[(.long q0), (.long q1), (.long q2), (.long q3), (.int p4)] maxLocals)) t := fun t k => go26 _ (st27.trans k)
  have go33 : ∀ t, Steps p.tables e below (T27.setTop (mkF m 69 #[.val (.long q0), .second, .val (.long q1), .second, .val (.long q2), .second, .val (.long q3), .second, .val (.int p4), .val (.long (v0_5 q0)), .second, .val (.long (v3_6 q1)), .second, .val (.long (v0_9 q0 q2 p4)), .second, .val (.long (v0_14 q1 q3 p4)), .second, .val (.int (v0_15 p4)), .val (.ref b17), .unset, .unset, .unset, .unset] [])) t → Steps p.tables e below (s₁.setTop (entryFrame m #[(.long q0), (.long q1), (.long q2), (.long q3), (.int p4)] maxLocals)) t := by
    intro t k
    refine go32 _ ?_
    refine XS.astore X27.here hx rfl (hb hby at_67) rfl rfl (l' := #[.val (.long q0), .second, .val (.long q1), .second, .val (.long q2), .second, .val (.long q3), .second, .val (.int p4), .val (.long (v0_5 q0)), .second, .val (.long (v3_6 q1)), .second, .val (.long (v0_9 q0 q2 p4)), .second, .val (.long (v0_14 q1 q3 p4)), .second, .val (.int (v0_15 p4)), .val (.ref b17), .unset, .unset, .unset, .unset]) rfl ?_
    show Steps p.tables e below (T27.setTop (mkF m 69 #[.val (.long q0), .second, .val (.long q1), .second, .val (.long q2), .second, .val (.long q3), .second, .val (.int p4), .val (.long (v0_5 q0)), .second, .val (.long (v3_6 q1)), .second, .val (.long (v0_9 q0 q2 p4)), .second, .val (.long (v0_14 q1 q3 p4)), .second, .val (.int (v0_15 p4)), .val (.ref b17), .unset, .unset, .unset, .unset] [])) t
    exact k
  obtain ⟨T34, h34, X34, e34, E34, A34, D34, -, st34⟩ := newO X27 hx hZ hown (hw _ (List.mem_of_getElem? (i := 13) rfl)) (hw _ (List.mem_of_getElem? (i := 14) rfl)) (hw _ (List.mem_of_getElem? (i := 15) rfl)) rfl (g := (mkF m 69 #[.val (.long q0), .second, .val (.long q1), .second, .val (.long q2), .second, .val (.long q3), .second, .val (.int p4), .val (.long (v0_5 q0)), .second, .val (.long (v3_6 q1)), .second, .val (.long (v0_9 q0 q2 p4)), .second, .val (.long (v0_14 q1 q3 p4)), .second, .val (.int (v0_15 p4)), .val (.ref b17), .unset, .unset, .unset, .unset] [])) rfl (hb hby at_69) (by decide) (by decide)
  obtain ⟨b34, g34⟩ : ∃ z, z = T27.heap.size := ⟨_, rfl⟩
  rw [← g34] at A34 D34 st34
  have ne35 : s_cache ≠ b34 := Nat.ne_of_lt (Nat.lt_of_lt_of_le F29.lt (Nat.le_of_eq g34.symm))
  have ne36 : b17 ≠ b34 := Nat.ne_of_lt (Nat.lt_of_lt_of_le G27_0.lt (Nat.le_of_eq g34.symm))
  have low34 : n0 ≤ b34 := Nat.le_trans Zs27 (Nat.le_of_eq g34.symm)
  have fsh34 : h0.size ≤ b34 := Nat.le_trans K27.1 (Nat.le_of_eq g34.symm)
  have K34 : Keep h0 h34 [] := K27.ext E34
  have Zs34 : n0 ≤ h34.size := Nat.le_trans Zs27 E34.1
  have go37 : ∀ t, Steps p.tables e below (T34.setTop (mkF m 72 #[.val (.long q0), .second, .val (.long q1), .second, .val (.long q2), .second, .val (.long q3), .second, .val (.int p4), .val (.long (v0_5 q0)), .second, .val (.long (v3_6 q1)), .second, .val (.long (v0_9 q0 q2 p4)), .second, .val (.long (v0_14 q1 q3 p4)), .second, .val (.int (v0_15 p4)), .val (.ref b17), .unset, .unset, .unset, .unset] [(.ref b34)])) t → Steps p.tables e below (s₁.setTop (entryFrame m #[(.long q0), (.long q1), (.long q2), (.long q3), (.int p4)] maxLocals)) t := fun t k => go33 _ (st34 _ k)
  have F38 : Sta Z h34 "java/lang/Long$LongCache" "cache" "[Ljava/lang/Long;" (.ref s_cache) := F28.ext E34
  have F39 : Arr Z h34 s_cache cc (.object "java/lang/Long") := F29.ext E34
  have F40 : LCache Z h34 cc := F30.ext E34
  have F41 : Exa Z h34 b17 "com/example/weir/weir/Window" := G27_0.ext E34
  have F42 : Fld Z h34 b17 "com/example/weir/weir/Window" "limit" "J" (.long (v0_5 q0)) := G27_1.ext E34
  have F43 : Fld Z h34 b17 "com/example/weir/weir/Window" "windowMillis" "J" (.long (v3_6 q1)) := G27_2.ext E34
  have F44 : Fld Z h34 b17 "com/example/weir/weir/Window" "slotMillis" "J" (.long (v4_18 (v3_6 q1))) := G27_3.ext E34
  have F45 : Fld Z h34 b34 "com/example/weir/weir/Window" "limit" "J" (.long (0 : Int64)) := D34 (Or.inr (hw _ (List.mem_of_getElem? (i := 25) rfl))) (ty := .long) (by decide)
  have F46 : Fld Z h34 b34 "com/example/weir/weir/Window" "windowMillis" "J" (.long (0 : Int64)) := D34 (Or.inr (hw _ (List.mem_of_getElem? (i := 27) rfl))) (ty := .long) (by decide)
  have F47 : Fld Z h34 b34 "com/example/weir/weir/Window" "slotMillis" "J" (.long (0 : Int64)) := D34 (Or.inr (hw _ (List.mem_of_getElem? (i := 30) rfl))) (ty := .long) (by decide)
  have go48 : ∀ t, Steps p.tables e below (T34.setTop (mkF m 77 #[.val (.long q0), .second, .val (.long q1), .second, .val (.long q2), .second, .val (.long q3), .second, .val (.int p4), .val (.long (v0_5 q0)), .second, .val (.long (v3_6 q1)), .second, .val (.long (v0_9 q0 q2 p4)), .second, .val (.long (v0_14 q1 q3 p4)), .second, .val (.int (v0_15 p4)), .val (.ref b17), .unset, .unset, .unset, .unset] [(.long (v0_14 q1 q3 p4)), (.long (v0_9 q0 q2 p4)), (.ref b34), (.ref b34)])) t → Steps p.tables e below (s₁.setTop (entryFrame m #[(.long q0), (.long q1), (.long q2), (.long q3), (.int p4)] maxLocals)) t := by
    intro t k
    refine go37 _ ?_
    refine XS.dup X34.here hx rfl (hb hby at_72) rfl rfl ?_
    show Steps p.tables e below (T34.setTop (mkF m 73 #[.val (.long q0), .second, .val (.long q1), .second, .val (.long q2), .second, .val (.long q3), .second, .val (.int p4), .val (.long (v0_5 q0)), .second, .val (.long (v3_6 q1)), .second, .val (.long (v0_9 q0 q2 p4)), .second, .val (.long (v0_14 q1 q3 p4)), .second, .val (.int (v0_15 p4)), .val (.ref b17), .unset, .unset, .unset, .unset] [(.ref b34), (.ref b34)])) t
    refine XS.lload X34.here hx rfl (hb hby at_73) rfl ?_
    show Steps p.tables e below (T34.setTop (mkF m 75 #[.val (.long q0), .second, .val (.long q1), .second, .val (.long q2), .second, .val (.long q3), .second, .val (.int p4), .val (.long (v0_5 q0)), .second, .val (.long (v3_6 q1)), .second, .val (.long (v0_9 q0 q2 p4)), .second, .val (.long (v0_14 q1 q3 p4)), .second, .val (.int (v0_15 p4)), .val (.ref b17), .unset, .unset, .unset, .unset] [(.long (v0_9 q0 q2 p4)), (.ref b34), (.ref b34)])) t
    refine XS.lload X34.here hx rfl (hb hby at_75) rfl ?_
    show Steps p.tables e below (T34.setTop (mkF m 77 #[.val (.long q0), .second, .val (.long q1), .second, .val (.long q2), .second, .val (.long q3), .second, .val (.int p4), .val (.long (v0_5 q0)), .second, .val (.long (v3_6 q1)), .second, .val (.long (v0_9 q0 q2 p4)), .second, .val (.long (v0_14 q1 q3 p4)), .second, .val (.int (v0_15 p4)), .val (.ref b17), .unset, .unset, .unset, .unset] [(.long (v0_14 q1 q3 p4)), (.long (v0_9 q0 q2 p4)), (.ref b34), (.ref b34)])) t
    exact k
  obtain ⟨_, _, ⟨T49, L49, k49, n49⟩, -, X49, ⟨Lc49, hQ49, l49, y49, z49⟩, st49⟩ := X34.specialBack hx (y := (⟨"com/example/weir/weir/Window", "<init>", "(JJ)V"⟩ : MethodName)) rfl hown (mvT hZ (hw _ (List.mem_of_getElem? (i := 16) rfl))) (mvT hZ (hw _ (List.mem_of_getElem? (i := 17) rfl))) (mvT hZ (hw _ (List.mem_of_getElem? (i := 18) rfl))) (by decide) (backOf (W := 1) (rm4 l Z aZ hw [] b34 (v0_9 q0 q2 p4) (v0_14 q1 q3 p4) (.long (0 : Int64)) (.long (0 : Int64)) (.long (0 : Int64)) h34 n0 Zs34 A34 F45 F46 F47 low34 (own_ok2 q0 q1 q2 q3 p4).1 (own_ok2 q0 q1 q2 q3 p4).2.1 (own_ok2 q0 q1 q2 q3 p4).2.2.1 (own_ok2 q0 q1 q2 q3 p4).2.2.2) hZ (hw _ (List.mem_of_getElem? (i := 18) rfl)) (hw _ (List.mem_of_getElem? (i := 15) rfl)) (by decide) (by decide)) (g := (mkF m 77 #[.val (.long q0), .second, .val (.long q1), .second, .val (.long q2), .second, .val (.long q3), .second, .val (.int p4), .val (.long (v0_5 q0)), .second, .val (.long (v3_6 q1)), .second, .val (.long (v0_9 q0 q2 p4)), .second, .val (.long (v0_14 q1 q3 p4)), .second, .val (.int (v0_15 p4)), .val (.ref b17), .unset, .unset, .unset, .unset] [(.long (v0_14 q1 q3 p4)), (.long (v0_9 q0 q2 p4)), (.ref b34), (.ref b34)])) rfl (by rw [hml]; rfl) (Steps.refl _) (a := b34) (argsL := [(.long (v0_9 q0 q2 p4)), (.long (v0_14 q1 q3 p4))]) (rest := [(.ref b34)]) (lenOf pd_195 rfl) rfl (by show 2 * 0 + _ ≤ _; exact Nat.le_of_eq rfl) (hb hby at_77) (fun _ _ => ⟨rfl, e34, (by decide : 2 + 0 ≤ _), (by decide : 6 + 0 ≤ _)⟩)
  dsimp only [Pt.U, Pt.locs, Pt.cells, Pt.slots] at X49 l49 y49 z49 st49 hQ49
  subst l49 y49 z49
  obtain ⟨rfl, N49q, K49q, G49_0, G49_1, G49_2, G49_3⟩ := hQ49
  have N49 := Fr.app N27 N49q
  have K49 : Keep h0 T49.heap [] := K34.trans K49q (allS (Or.inr fsh34) all0)
  have Zs49 : n0 ≤ T49.heap.size := Nat.le_trans Zs34 K49q.1
  have F50 : Sta Z T49.heap "java/lang/Long$LongCache" "cache" "[Ljava/lang/Long;" (.ref s_cache) := own_sta_keep F38 K49q (allS (own_exa_ns A34) all0)
  have F51 : Arr Z T49.heap s_cache cc (.object "java/lang/Long") := own_arr_keep F39 K49q (ninS ne35 nin0)
  have F52 : LCache Z T49.heap cc := F40.keep K49q
  have F53 : Exa Z T49.heap b17 "com/example/weir/weir/Window" := F41.keep K49q
  have F54 : Fld Z T49.heap b17 "com/example/weir/weir/Window" "limit" "J" (.long (v0_5 q0)) := F42.keep K49q (ninS ne36 nin0)
  have F55 : Fld Z T49.heap b17 "com/example/weir/weir/Window" "windowMillis" "J" (.long (v3_6 q1)) := F43.keep K49q (ninS ne36 nin0)
  have F56 : Fld Z T49.heap b17 "com/example/weir/weir/Window" "slotMillis" "J" (.long (v4_18 (v3_6 q1))) := F44.keep K49q (ninS ne36 nin0)
  have F57 : Exa Z T49.heap b34 "com/example/weir/weir/Window" := A34.keep K49q
  have go58 : ∀ t, Steps p.tables e below (T49.setTop (mkF m 80 #[.val (.long q0), .second, .val (.long q1), .second, .val (.long q2), .second, .val (.long q3), .second, .val (.int p4), .val (.long (v0_5 q0)), .second, .val (.long (v3_6 q1)), .second, .val (.long (v0_9 q0 q2 p4)), .second, .val (.long (v0_14 q1 q3 p4)), .second, .val (.int (v0_15 p4)), .val (.ref b17), .unset, .unset, .unset, .unset] [(.ref b34)])) t → Steps p.tables e below (s₁.setTop (entryFrame m #[(.long q0), (.long q1), (.long q2), (.long q3), (.int p4)] maxLocals)) t := fun t k => go48 _ (st49.trans k)
  have go59 : ∀ t, Steps p.tables e below (T49.setTop (mkF m 84 #[.val (.long q0), .second, .val (.long q1), .second, .val (.long q2), .second, .val (.long q3), .second, .val (.int p4), .val (.long (v0_5 q0)), .second, .val (.long (v3_6 q1)), .second, .val (.long (v0_9 q0 q2 p4)), .second, .val (.long (v0_14 q1 q3 p4)), .second, .val (.int (v0_15 p4)), .val (.ref b17), .val (.ref b34), .unset, .unset, .unset] [(.int (v0_15 p4))])) t → Steps p.tables e below (s₁.setTop (entryFrame m #[(.long q0), (.long q1), (.long q2), (.long q3), (.int p4)] maxLocals)) t := by
    intro t k
    refine go58 _ ?_
    refine XS.astore X49.here hx rfl (hb hby at_80) rfl rfl (l' := #[.val (.long q0), .second, .val (.long q1), .second, .val (.long q2), .second, .val (.long q3), .second, .val (.int p4), .val (.long (v0_5 q0)), .second, .val (.long (v3_6 q1)), .second, .val (.long (v0_9 q0 q2 p4)), .second, .val (.long (v0_14 q1 q3 p4)), .second, .val (.int (v0_15 p4)), .val (.ref b17), .val (.ref b34), .unset, .unset, .unset]) rfl ?_
    show Steps p.tables e below (T49.setTop (mkF m 82 #[.val (.long q0), .second, .val (.long q1), .second, .val (.long q2), .second, .val (.long q3), .second, .val (.int p4), .val (.long (v0_5 q0)), .second, .val (.long (v3_6 q1)), .second, .val (.long (v0_9 q0 q2 p4)), .second, .val (.long (v0_14 q1 q3 p4)), .second, .val (.int (v0_15 p4)), .val (.ref b17), .val (.ref b34), .unset, .unset, .unset] [])) t
    refine XS.iload X49.here hx rfl (hb hby at_82) rfl ?_
    show Steps p.tables e below (T49.setTop (mkF m 84 #[.val (.long q0), .second, .val (.long q1), .second, .val (.long q2), .second, .val (.long q3), .second, .val (.int p4), .val (.long (v0_5 q0)), .second, .val (.long (v3_6 q1)), .second, .val (.long (v0_9 q0 q2 p4)), .second, .val (.long (v0_14 q1 q3 p4)), .second, .val (.int (v0_15 p4)), .val (.ref b17), .val (.ref b34), .unset, .unset, .unset] [(.int (v0_15 p4))])) t
    exact k
  by_cases hs60 : (v0_15 p4) = (0 : Int32)
  · have go63 : ∀ t, Steps p.tables e below (T49.setTop (mkF m 112 #[.val (.long q0), .second, .val (.long q1), .second, .val (.long q2), .second, .val (.long q3), .second, .val (.int p4), .val (.long (v0_5 q0)), .second, .val (.long (v3_6 q1)), .second, .val (.long (v0_9 q0 q2 p4)), .second, .val (.long (v0_14 q1 q3 p4)), .second, .val (.int (v0_15 p4)), .val (.ref b17), .val (.ref b34), .val (.ref b34), .unset, .unset] [(.int (b0_64 q0 q1 q2 q3 p4))])) t → Steps p.tables e below (s₁.setTop (entryFrame m #[(.long q0), (.long q1), (.long q2), (.long q3), (.int p4)] maxLocals)) t := by
      intro t k
      refine go59 _ ?_
      refine XS.ifNo X49.here hx rfl (hb hby at_84) rfl (XT.i0_ne_f hs60) ?_
      show Steps p.tables e below (T49.setTop (mkF m 87 #[.val (.long q0), .second, .val (.long q1), .second, .val (.long q2), .second, .val (.long q3), .second, .val (.int p4), .val (.long (v0_5 q0)), .second, .val (.long (v3_6 q1)), .second, .val (.long (v0_9 q0 q2 p4)), .second, .val (.long (v0_14 q1 q3 p4)), .second, .val (.int (v0_15 p4)), .val (.ref b17), .val (.ref b34), .unset, .unset, .unset] [])) t
      refine XS.aload X49.here hx rfl (hb hby at_87) rfl rfl ?_
      show Steps p.tables e below (T49.setTop (mkF m 89 #[.val (.long q0), .second, .val (.long q1), .second, .val (.long q2), .second, .val (.long q3), .second, .val (.int p4), .val (.long (v0_5 q0)), .second, .val (.long (v3_6 q1)), .second, .val (.long (v0_9 q0 q2 p4)), .second, .val (.long (v0_14 q1 q3 p4)), .second, .val (.int (v0_15 p4)), .val (.ref b17), .val (.ref b34), .unset, .unset, .unset] [(.ref b34)])) t
      refine XS.astore X49.here hx rfl (hb hby at_89) rfl rfl (l' := #[.val (.long q0), .second, .val (.long q1), .second, .val (.long q2), .second, .val (.long q3), .second, .val (.int p4), .val (.long (v0_5 q0)), .second, .val (.long (v3_6 q1)), .second, .val (.long (v0_9 q0 q2 p4)), .second, .val (.long (v0_14 q1 q3 p4)), .second, .val (.int (v0_15 p4)), .val (.ref b17), .val (.ref b34), .val (.ref b34), .unset, .unset]) rfl ?_
      show Steps p.tables e below (T49.setTop (mkF m 91 #[.val (.long q0), .second, .val (.long q1), .second, .val (.long q2), .second, .val (.long q3), .second, .val (.int p4), .val (.long (v0_5 q0)), .second, .val (.long (v3_6 q1)), .second, .val (.long (v0_9 q0 q2 p4)), .second, .val (.long (v0_14 q1 q3 p4)), .second, .val (.int (v0_15 p4)), .val (.ref b17), .val (.ref b34), .val (.ref b34), .unset, .unset] [])) t
      refine XS.lload X49.here hx rfl (hb hby at_91) rfl ?_
      show Steps p.tables e below (T49.setTop (mkF m 93 #[.val (.long q0), .second, .val (.long q1), .second, .val (.long q2), .second, .val (.long q3), .second, .val (.int p4), .val (.long (v0_5 q0)), .second, .val (.long (v3_6 q1)), .second, .val (.long (v0_9 q0 q2 p4)), .second, .val (.long (v0_14 q1 q3 p4)), .second, .val (.int (v0_15 p4)), .val (.ref b17), .val (.ref b34), .val (.ref b34), .unset, .unset] [(.long (v0_5 q0))])) t
      refine XS.lload X49.here hx rfl (hb hby at_93) rfl ?_
      show Steps p.tables e below (T49.setTop (mkF m 95 #[.val (.long q0), .second, .val (.long q1), .second, .val (.long q2), .second, .val (.long q3), .second, .val (.int p4), .val (.long (v0_5 q0)), .second, .val (.long (v3_6 q1)), .second, .val (.long (v0_9 q0 q2 p4)), .second, .val (.long (v0_14 q1 q3 p4)), .second, .val (.int (v0_15 p4)), .val (.ref b17), .val (.ref b34), .val (.ref b34), .unset, .unset] [(.long (v0_9 q0 q2 p4)), (.long (v0_5 q0))])) t
      refine XT.lcmp X49.here hx rfl (hb hby at_95) rfl ?_
      show Steps p.tables e below (T49.setTop (mkF m 96 #[.val (.long q0), .second, .val (.long q1), .second, .val (.long q2), .second, .val (.long q3), .second, .val (.int p4), .val (.long (v0_5 q0)), .second, .val (.long (v3_6 q1)), .second, .val (.long (v0_9 q0 q2 p4)), .second, .val (.long (v0_14 q1 q3 p4)), .second, .val (.int (v0_15 p4)), .val (.ref b17), .val (.ref b34), .val (.ref b34), .unset, .unset] [(.int (XT.cmpL (v0_5 q0) (v0_9 q0 q2 p4)))])) t
      by_cases hc61 : (v0_5 q0) = (v0_9 q0 q2 p4)
      · refine XS.ifNo X49.here hx rfl (hb hby at_96) rfl (XT.ll_ne_f hc61) ?_
        show Steps p.tables e below (T49.setTop (mkF m 99 #[.val (.long q0), .second, .val (.long q1), .second, .val (.long q2), .second, .val (.long q3), .second, .val (.int p4), .val (.long (v0_5 q0)), .second, .val (.long (v3_6 q1)), .second, .val (.long (v0_9 q0 q2 p4)), .second, .val (.long (v0_14 q1 q3 p4)), .second, .val (.int (v0_15 p4)), .val (.ref b17), .val (.ref b34), .val (.ref b34), .unset, .unset] [])) t
        refine XS.lload X49.here hx rfl (hb hby at_99) rfl ?_
        show Steps p.tables e below (T49.setTop (mkF m 101 #[.val (.long q0), .second, .val (.long q1), .second, .val (.long q2), .second, .val (.long q3), .second, .val (.int p4), .val (.long (v0_5 q0)), .second, .val (.long (v3_6 q1)), .second, .val (.long (v0_9 q0 q2 p4)), .second, .val (.long (v0_14 q1 q3 p4)), .second, .val (.int (v0_15 p4)), .val (.ref b17), .val (.ref b34), .val (.ref b34), .unset, .unset] [(.long (v3_6 q1))])) t
        refine XS.lload X49.here hx rfl (hb hby at_101) rfl ?_
        show Steps p.tables e below (T49.setTop (mkF m 103 #[.val (.long q0), .second, .val (.long q1), .second, .val (.long q2), .second, .val (.long q3), .second, .val (.int p4), .val (.long (v0_5 q0)), .second, .val (.long (v3_6 q1)), .second, .val (.long (v0_9 q0 q2 p4)), .second, .val (.long (v0_14 q1 q3 p4)), .second, .val (.int (v0_15 p4)), .val (.ref b17), .val (.ref b34), .val (.ref b34), .unset, .unset] [(.long (v0_14 q1 q3 p4)), (.long (v3_6 q1))])) t
        refine XT.lcmp X49.here hx rfl (hb hby at_103) rfl ?_
        show Steps p.tables e below (T49.setTop (mkF m 104 #[.val (.long q0), .second, .val (.long q1), .second, .val (.long q2), .second, .val (.long q3), .second, .val (.int p4), .val (.long (v0_5 q0)), .second, .val (.long (v3_6 q1)), .second, .val (.long (v0_9 q0 q2 p4)), .second, .val (.long (v0_14 q1 q3 p4)), .second, .val (.int (v0_15 p4)), .val (.ref b17), .val (.ref b34), .val (.ref b34), .unset, .unset] [(.int (XT.cmpL (v3_6 q1) (v0_14 q1 q3 p4)))])) t
        by_cases hc62 : (v3_6 q1) = (v0_14 q1 q3 p4)
        · refine XS.ifNo X49.here hx rfl (hb hby at_104) rfl (XT.ll_ne_f hc62) ?_
          show Steps p.tables e below (T49.setTop (mkF m 107 #[.val (.long q0), .second, .val (.long q1), .second, .val (.long q2), .second, .val (.long q3), .second, .val (.int p4), .val (.long (v0_5 q0)), .second, .val (.long (v3_6 q1)), .second, .val (.long (v0_9 q0 q2 p4)), .second, .val (.long (v0_14 q1 q3 p4)), .second, .val (.int (v0_15 p4)), .val (.ref b17), .val (.ref b34), .val (.ref b34), .unset, .unset] [])) t
          refine XS.iconst X49.here hx rfl (hb hby at_107) ?_
          show Steps p.tables e below (T49.setTop (mkF m 108 #[.val (.long q0), .second, .val (.long q1), .second, .val (.long q2), .second, .val (.long q3), .second, .val (.int p4), .val (.long (v0_5 q0)), .second, .val (.long (v3_6 q1)), .second, .val (.long (v0_9 q0 q2 p4)), .second, .val (.long (v0_14 q1 q3 p4)), .second, .val (.int (v0_15 p4)), .val (.ref b17), .val (.ref b34), .val (.ref b34), .unset, .unset] [(.int (1 : Int32))])) t
          refine XS.goto X49.here hx rfl (pc0 := 108) (pc' := 112) rfl (hb hby at_108) (by decide) (by decide) ?_
          show Steps p.tables e below (T49.setTop (mkF m 112 #[.val (.long q0), .second, .val (.long q1), .second, .val (.long q2), .second, .val (.long q3), .second, .val (.int p4), .val (.long (v0_5 q0)), .second, .val (.long (v3_6 q1)), .second, .val (.long (v0_9 q0 q2 p4)), .second, .val (.long (v0_14 q1 q3 p4)), .second, .val (.int (v0_15 p4)), .val (.ref b17), .val (.ref b34), .val (.ref b34), .unset, .unset] [(.int (1 : Int32))])) t
          have hq65 : (b0_64 q0 q1 q2 q3 p4) = (1 : Int32) := by rw [b0_64, if_pos hc61, if_pos hc62]
          rw [hq65] at k
          exact k
        · refine XS.ifYes X49.here hx rfl (pc0 := 104) (pc' := 111) rfl (hb hby at_104) rfl (XT.ll_ne_t hc62) (by decide) (by decide) ?_
          show Steps p.tables e below (T49.setTop (mkF m 111 #[.val (.long q0), .second, .val (.long q1), .second, .val (.long q2), .second, .val (.long q3), .second, .val (.int p4), .val (.long (v0_5 q0)), .second, .val (.long (v3_6 q1)), .second, .val (.long (v0_9 q0 q2 p4)), .second, .val (.long (v0_14 q1 q3 p4)), .second, .val (.int (v0_15 p4)), .val (.ref b17), .val (.ref b34), .val (.ref b34), .unset, .unset] [])) t
          refine XS.iconst X49.here hx rfl (hb hby at_111) ?_
          show Steps p.tables e below (T49.setTop (mkF m 112 #[.val (.long q0), .second, .val (.long q1), .second, .val (.long q2), .second, .val (.long q3), .second, .val (.int p4), .val (.long (v0_5 q0)), .second, .val (.long (v3_6 q1)), .second, .val (.long (v0_9 q0 q2 p4)), .second, .val (.long (v0_14 q1 q3 p4)), .second, .val (.int (v0_15 p4)), .val (.ref b17), .val (.ref b34), .val (.ref b34), .unset, .unset] [(.int (0 : Int32))])) t
          have hq66 : (b0_64 q0 q1 q2 q3 p4) = (0 : Int32) := by rw [b0_64, if_pos hc61, if_neg hc62]
          rw [hq66] at k
          exact k
      · refine XS.ifYes X49.here hx rfl (pc0 := 96) (pc' := 111) rfl (hb hby at_96) rfl (XT.ll_ne_t hc61) (by decide) (by decide) ?_
        show Steps p.tables e below (T49.setTop (mkF m 111 #[.val (.long q0), .second, .val (.long q1), .second, .val (.long q2), .second, .val (.long q3), .second, .val (.int p4), .val (.long (v0_5 q0)), .second, .val (.long (v3_6 q1)), .second, .val (.long (v0_9 q0 q2 p4)), .second, .val (.long (v0_14 q1 q3 p4)), .second, .val (.int (v0_15 p4)), .val (.ref b17), .val (.ref b34), .val (.ref b34), .unset, .unset] [])) t
        refine XS.iconst X49.here hx rfl (hb hby at_111) ?_
        show Steps p.tables e below (T49.setTop (mkF m 112 #[.val (.long q0), .second, .val (.long q1), .second, .val (.long q2), .second, .val (.long q3), .second, .val (.int p4), .val (.long (v0_5 q0)), .second, .val (.long (v3_6 q1)), .second, .val (.long (v0_9 q0 q2 p4)), .second, .val (.long (v0_14 q1 q3 p4)), .second, .val (.int (v0_15 p4)), .val (.ref b17), .val (.ref b34), .val (.ref b34), .unset, .unset] [(.int (0 : Int32))])) t
        have hq67 : (b0_64 q0 q1 q2 q3 p4) = (0 : Int32) := by rw [b0_64, if_neg hc61]
        rw [hq67] at k
        exact k
    have go68 : ∀ t, Steps p.tables e below (T49.setTop (mkF m 162 #[.val (.long q0), .second, .val (.long q1), .second, .val (.long q2), .second, .val (.long q3), .second, .val (.int p4), .val (.long (v0_5 q0)), .second, .val (.long (v3_6 q1)), .second, .val (.long (v0_9 q0 q2 p4)), .second, .val (.long (v0_14 q1 q3 p4)), .second, .val (.int (v0_15 p4)), .val (.ref b17), .val (.ref b34), .val (.ref b34), .val (.int (b0_64 q0 q1 q2 q3 p4)), .unset] [(.ref b34), (.ref b17)])) t → Steps p.tables e below (s₁.setTop (entryFrame m #[(.long q0), (.long q1), (.long q2), (.long q3), (.int p4)] maxLocals)) t := by
      intro t k
      refine go63 _ ?_
      refine XS.istore X49.here hx rfl (hb hby at_112) rfl (l' := #[.val (.long q0), .second, .val (.long q1), .second, .val (.long q2), .second, .val (.long q3), .second, .val (.int p4), .val (.long (v0_5 q0)), .second, .val (.long (v3_6 q1)), .second, .val (.long (v0_9 q0 q2 p4)), .second, .val (.long (v0_14 q1 q3 p4)), .second, .val (.int (v0_15 p4)), .val (.ref b17), .val (.ref b34), .val (.ref b34), .val (.int (b0_64 q0 q1 q2 q3 p4)), .unset]) rfl ?_
      show Steps p.tables e below (T49.setTop (mkF m 114 #[.val (.long q0), .second, .val (.long q1), .second, .val (.long q2), .second, .val (.long q3), .second, .val (.int p4), .val (.long (v0_5 q0)), .second, .val (.long (v3_6 q1)), .second, .val (.long (v0_9 q0 q2 p4)), .second, .val (.long (v0_14 q1 q3 p4)), .second, .val (.int (v0_15 p4)), .val (.ref b17), .val (.ref b34), .val (.ref b34), .val (.int (b0_64 q0 q1 q2 q3 p4)), .unset] [])) t
      refine XS.goto X49.here hx rfl (pc0 := 114) (pc' := 158) rfl (hb hby at_114) (by decide) (by decide) ?_
      show Steps p.tables e below (T49.setTop (mkF m 158 #[.val (.long q0), .second, .val (.long q1), .second, .val (.long q2), .second, .val (.long q3), .second, .val (.int p4), .val (.long (v0_5 q0)), .second, .val (.long (v3_6 q1)), .second, .val (.long (v0_9 q0 q2 p4)), .second, .val (.long (v0_14 q1 q3 p4)), .second, .val (.int (v0_15 p4)), .val (.ref b17), .val (.ref b34), .val (.ref b34), .val (.int (b0_64 q0 q1 q2 q3 p4)), .unset] [])) t
      refine XS.aload X49.here hx rfl (hb hby at_158) rfl rfl ?_
      show Steps p.tables e below (T49.setTop (mkF m 160 #[.val (.long q0), .second, .val (.long q1), .second, .val (.long q2), .second, .val (.long q3), .second, .val (.int p4), .val (.long (v0_5 q0)), .second, .val (.long (v3_6 q1)), .second, .val (.long (v0_9 q0 q2 p4)), .second, .val (.long (v0_14 q1 q3 p4)), .second, .val (.int (v0_15 p4)), .val (.ref b17), .val (.ref b34), .val (.ref b34), .val (.int (b0_64 q0 q1 q2 q3 p4)), .unset] [(.ref b17)])) t
      refine XS.aload X49.here hx rfl (hb hby at_160) rfl rfl ?_
      show Steps p.tables e below (T49.setTop (mkF m 162 #[.val (.long q0), .second, .val (.long q1), .second, .val (.long q2), .second, .val (.long q3), .second, .val (.int p4), .val (.long (v0_5 q0)), .second, .val (.long (v3_6 q1)), .second, .val (.long (v0_9 q0 q2 p4)), .second, .val (.long (v0_14 q1 q3 p4)), .second, .val (.int (v0_15 p4)), .val (.ref b17), .val (.ref b34), .val (.ref b34), .val (.int (b0_64 q0 q1 q2 q3 p4)), .unset] [(.ref b34), (.ref b17)])) t
      exact k
    obtain ⟨cq69, kq69, q69a, q69b, q69c⟩ := isOf hZ rfl F53
    obtain ⟨_, _, ⟨T69, L69, k69, n69⟩, -, X69, ⟨Lc69, hQ69, l69, y69, z69⟩, st69⟩ := X49.virtualBack hx (y := (⟨"com/example/weir/weir/Window", "equals", "(Ljava/lang/Object;)Z"⟩ : MethodName)) (z := (⟨"com/example/weir/weir/Window", "equals", "(Ljava/lang/Object;)Z"⟩ : MethodName)) hown (mvT hZ (hw _ (List.mem_of_getElem? (i := 31) rfl))) (mvT hZ (hw _ (List.mem_of_getElem? (i := 32) rfl))) (notFace_of_selects (args := #[]) (mvT hZ (hw _ (List.mem_of_getElem? (i := 34) rfl)))) (mvT hZ (hw _ (List.mem_of_getElem? (i := 34) rfl))) (mvT hZ (hw _ (List.mem_of_getElem? (i := 33) rfl))) (by decide) (backOf (W := 0) (rmeqW l Z aZ hw [] b17 b34 (v0_5 q0) (v3_6 q1) (v0_9 q0 q2 p4) (v0_14 q1 q3 p4) T49.heap n0 Zs49 F54 F55 G49_0 G49_1 G49_2) hZ (hw _ (List.mem_of_getElem? (i := 35) rfl)) (hw _ (List.mem_of_getElem? (i := 15) rfl)) (by decide) (by decide)) q69a q69c (g := (mkF m 162 #[.val (.long q0), .second, .val (.long q1), .second, .val (.long q2), .second, .val (.long q3), .second, .val (.int p4), .val (.long (v0_5 q0)), .second, .val (.long (v3_6 q1)), .second, .val (.long (v0_9 q0 q2 p4)), .second, .val (.long (v0_14 q1 q3 p4)), .second, .val (.int (v0_15 p4)), .val (.ref b17), .val (.ref b34), .val (.ref b34), .val (.int (b0_64 q0 q1 q2 q3 p4)), .unset] [(.ref b34), (.ref b17)])) rfl (by rw [hml]; rfl) (Steps.refl _) (argsL := [(.ref b34)]) (rest := []) (lenOf pd_197 rfl) rfl (by show 2 * 0 + _ ≤ _; exact Nat.le_of_eq rfl) (hb hby at_162) (fun _ _ => ⟨rfl, rfl, (by decide : 2 + 0 ≤ _), (by decide : 6 + 0 ≤ _)⟩)
    dsimp only [Pt.U, Pt.locs, Pt.cells, Pt.slots] at X69 l69 y69 z69 st69 hQ69
    subst l69 y69 z69
    obtain ⟨rfl, N69q, e69⟩ := hQ69
    have N69 := Fr.app N49 N69q
    have go70 : ∀ t, Steps p.tables e below (T69.setTop (mkF m 165 #[.val (.long q0), .second, .val (.long q1), .second, .val (.long q2), .second, .val (.long q3), .second, .val (.int p4), .val (.long (v0_5 q0)), .second, .val (.long (v3_6 q1)), .second, .val (.long (v0_9 q0 q2 p4)), .second, .val (.long (v0_14 q1 q3 p4)), .second, .val (.int (v0_15 p4)), .val (.ref b17), .val (.ref b34), .val (.ref b34), .val (.int (b0_64 q0 q1 q2 q3 p4)), .unset] [(.int (feqW (v0_5 q0) (v3_6 q1) (v0_9 q0 q2 p4) (v0_14 q1 q3 p4)))])) t → Steps p.tables e below (s₁.setTop (entryFrame m #[(.long q0), (.long q1), (.long q2), (.long q3), (.int p4)] maxLocals)) t := fun t k => go68 _ (st69.trans k)
    have go72 : ∀ t, Steps p.tables e below (T69.setTop (mkF m 175 #[.val (.long q0), .second, .val (.long q1), .second, .val (.long q2), .second, .val (.long q3), .second, .val (.int p4), .val (.long (v0_5 q0)), .second, .val (.long (v3_6 q1)), .second, .val (.long (v0_9 q0 q2 p4)), .second, .val (.long (v0_14 q1 q3 p4)), .second, .val (.int (v0_15 p4)), .val (.ref b17), .val (.ref b34), .val (.ref b34), .val (.int (b0_64 q0 q1 q2 q3 p4)), .unset] [(.int (b0_73 q0 q1 q2 q3 p4))])) t → Steps p.tables e below (s₁.setTop (entryFrame m #[(.long q0), (.long q1), (.long q2), (.long q3), (.int p4)] maxLocals)) t := by
      intro t k
      refine go70 _ ?_
      refine XS.iload X69.here hx rfl (hb hby at_165) rfl ?_
      show Steps p.tables e below (T69.setTop (mkF m 167 #[.val (.long q0), .second, .val (.long q1), .second, .val (.long q2), .second, .val (.long q3), .second, .val (.int p4), .val (.long (v0_5 q0)), .second, .val (.long (v3_6 q1)), .second, .val (.long (v0_9 q0 q2 p4)), .second, .val (.long (v0_14 q1 q3 p4)), .second, .val (.int (v0_15 p4)), .val (.ref b17), .val (.ref b34), .val (.ref b34), .val (.int (b0_64 q0 q1 q2 q3 p4)), .unset] [(.int (b0_64 q0 q1 q2 q3 p4)), (.int (feqW (v0_5 q0) (v3_6 q1) (v0_9 q0 q2 p4) (v0_14 q1 q3 p4)))])) t
      by_cases hc71 : (feqW (v0_5 q0) (v3_6 q1) (v0_9 q0 q2 p4) (v0_14 q1 q3 p4)) = (b0_64 q0 q1 q2 q3 p4)
      · refine XS.icmpNo X69.here hx rfl (hb hby at_167) rfl (XT.ii_ne_f hc71) ?_
        show Steps p.tables e below (T69.setTop (mkF m 170 #[.val (.long q0), .second, .val (.long q1), .second, .val (.long q2), .second, .val (.long q3), .second, .val (.int p4), .val (.long (v0_5 q0)), .second, .val (.long (v3_6 q1)), .second, .val (.long (v0_9 q0 q2 p4)), .second, .val (.long (v0_14 q1 q3 p4)), .second, .val (.int (v0_15 p4)), .val (.ref b17), .val (.ref b34), .val (.ref b34), .val (.int (b0_64 q0 q1 q2 q3 p4)), .unset] [])) t
        refine XS.iconst X69.here hx rfl (hb hby at_170) ?_
        show Steps p.tables e below (T69.setTop (mkF m 171 #[.val (.long q0), .second, .val (.long q1), .second, .val (.long q2), .second, .val (.long q3), .second, .val (.int p4), .val (.long (v0_5 q0)), .second, .val (.long (v3_6 q1)), .second, .val (.long (v0_9 q0 q2 p4)), .second, .val (.long (v0_14 q1 q3 p4)), .second, .val (.int (v0_15 p4)), .val (.ref b17), .val (.ref b34), .val (.ref b34), .val (.int (b0_64 q0 q1 q2 q3 p4)), .unset] [(.int (1 : Int32))])) t
        refine XS.goto X69.here hx rfl (pc0 := 171) (pc' := 175) rfl (hb hby at_171) (by decide) (by decide) ?_
        show Steps p.tables e below (T69.setTop (mkF m 175 #[.val (.long q0), .second, .val (.long q1), .second, .val (.long q2), .second, .val (.long q3), .second, .val (.int p4), .val (.long (v0_5 q0)), .second, .val (.long (v3_6 q1)), .second, .val (.long (v0_9 q0 q2 p4)), .second, .val (.long (v0_14 q1 q3 p4)), .second, .val (.int (v0_15 p4)), .val (.ref b17), .val (.ref b34), .val (.ref b34), .val (.int (b0_64 q0 q1 q2 q3 p4)), .unset] [(.int (1 : Int32))])) t
        have hq74 : (b0_73 q0 q1 q2 q3 p4) = (1 : Int32) := by rw [b0_73, if_pos hc71]
        rw [hq74] at k
        exact k
      · refine XS.icmpYes X69.here hx rfl (pc0 := 167) (pc' := 174) rfl (hb hby at_167) rfl (XT.ii_ne_t hc71) (by decide) (by decide) ?_
        show Steps p.tables e below (T69.setTop (mkF m 174 #[.val (.long q0), .second, .val (.long q1), .second, .val (.long q2), .second, .val (.long q3), .second, .val (.int p4), .val (.long (v0_5 q0)), .second, .val (.long (v3_6 q1)), .second, .val (.long (v0_9 q0 q2 p4)), .second, .val (.long (v0_14 q1 q3 p4)), .second, .val (.int (v0_15 p4)), .val (.ref b17), .val (.ref b34), .val (.ref b34), .val (.int (b0_64 q0 q1 q2 q3 p4)), .unset] [])) t
        refine XS.iconst X69.here hx rfl (hb hby at_174) ?_
        show Steps p.tables e below (T69.setTop (mkF m 175 #[.val (.long q0), .second, .val (.long q1), .second, .val (.long q2), .second, .val (.long q3), .second, .val (.int p4), .val (.long (v0_5 q0)), .second, .val (.long (v3_6 q1)), .second, .val (.long (v0_9 q0 q2 p4)), .second, .val (.long (v0_14 q1 q3 p4)), .second, .val (.int (v0_15 p4)), .val (.ref b17), .val (.ref b34), .val (.ref b34), .val (.int (b0_64 q0 q1 q2 q3 p4)), .unset] [(.int (0 : Int32))])) t
        have hq75 : (b0_73 q0 q1 q2 q3 p4) = (0 : Int32) := by rw [b0_73, if_neg hc71]
        rw [hq75] at k
        exact k
    have go76 : ∀ t, Steps p.tables e below (T69.setTop (mkF m 184 #[.val (.long q0), .second, .val (.long q1), .second, .val (.long q2), .second, .val (.long q3), .second, .val (.int p4), .val (.long (v0_5 q0)), .second, .val (.long (v3_6 q1)), .second, .val (.long (v0_9 q0 q2 p4)), .second, .val (.long (v0_14 q1 q3 p4)), .second, .val (.int (v0_15 p4)), .val (.ref b17), .val (.ref b34), .val (.ref b34), .val (.int (b0_64 q0 q1 q2 q3 p4)), .val (.int (b0_73 q0 q1 q2 q3 p4))] [(.int (b0_73 q0 q1 q2 q3 p4))])) t → Steps p.tables e below (s₁.setTop (entryFrame m #[(.long q0), (.long q1), (.long q2), (.long q3), (.int p4)] maxLocals)) t := by
      intro t k
      refine go72 _ ?_
      refine XS.istore X69.here hx rfl (hb hby at_175) rfl (l' := #[.val (.long q0), .second, .val (.long q1), .second, .val (.long q2), .second, .val (.long q3), .second, .val (.int p4), .val (.long (v0_5 q0)), .second, .val (.long (v3_6 q1)), .second, .val (.long (v0_9 q0 q2 p4)), .second, .val (.long (v0_14 q1 q3 p4)), .second, .val (.int (v0_15 p4)), .val (.ref b17), .val (.ref b34), .val (.ref b34), .val (.int (b0_64 q0 q1 q2 q3 p4)), .val (.int (b0_73 q0 q1 q2 q3 p4))]) rfl ?_
      show Steps p.tables e below (T69.setTop (mkF m 177 #[.val (.long q0), .second, .val (.long q1), .second, .val (.long q2), .second, .val (.long q3), .second, .val (.int p4), .val (.long (v0_5 q0)), .second, .val (.long (v3_6 q1)), .second, .val (.long (v0_9 q0 q2 p4)), .second, .val (.long (v0_14 q1 q3 p4)), .second, .val (.int (v0_15 p4)), .val (.ref b17), .val (.ref b34), .val (.ref b34), .val (.int (b0_64 q0 q1 q2 q3 p4)), .val (.int (b0_73 q0 q1 q2 q3 p4))] [])) t
      refine XS.iload X69.here hx rfl (hb hby at_177) rfl ?_
      show Steps p.tables e below (T69.setTop (mkF m 179 #[.val (.long q0), .second, .val (.long q1), .second, .val (.long q2), .second, .val (.long q3), .second, .val (.int p4), .val (.long (v0_5 q0)), .second, .val (.long (v3_6 q1)), .second, .val (.long (v0_9 q0 q2 p4)), .second, .val (.long (v0_14 q1 q3 p4)), .second, .val (.int (v0_15 p4)), .val (.ref b17), .val (.ref b34), .val (.ref b34), .val (.int (b0_64 q0 q1 q2 q3 p4)), .val (.int (b0_73 q0 q1 q2 q3 p4))] [(.int (v0_15 p4))])) t
      refine XS.ifNo X69.here hx rfl (hb hby at_179) rfl (XT.i0_ne_f hs60) ?_
      show Steps p.tables e below (T69.setTop (mkF m 182 #[.val (.long q0), .second, .val (.long q1), .second, .val (.long q2), .second, .val (.long q3), .second, .val (.int p4), .val (.long (v0_5 q0)), .second, .val (.long (v3_6 q1)), .second, .val (.long (v0_9 q0 q2 p4)), .second, .val (.long (v0_14 q1 q3 p4)), .second, .val (.int (v0_15 p4)), .val (.ref b17), .val (.ref b34), .val (.ref b34), .val (.int (b0_64 q0 q1 q2 q3 p4)), .val (.int (b0_73 q0 q1 q2 q3 p4))] [])) t
      refine XS.iload X69.here hx rfl (hb hby at_182) rfl ?_
      show Steps p.tables e below (T69.setTop (mkF m 184 #[.val (.long q0), .second, .val (.long q1), .second, .val (.long q2), .second, .val (.long q3), .second, .val (.int p4), .val (.long (v0_5 q0)), .second, .val (.long (v3_6 q1)), .second, .val (.long (v0_9 q0 q2 p4)), .second, .val (.long (v0_14 q1 q3 p4)), .second, .val (.int (v0_15 p4)), .val (.ref b17), .val (.ref b34), .val (.ref b34), .val (.int (b0_64 q0 q1 q2 q3 p4)), .val (.int (b0_73 q0 q1 q2 q3 p4))] [(.int (b0_73 q0 q1 q2 q3 p4))])) t
      exact k
    by_cases hs77 : (b0_73 q0 q1 q2 q3 p4) = (0 : Int32)
    · have go78 : ∀ t, Steps p.tables e below (T69.setTop (mkF m 208 #[.val (.long q0), .second, .val (.long q1), .second, .val (.long q2), .second, .val (.long q3), .second, .val (.int p4), .val (.long (v0_5 q0)), .second, .val (.long (v3_6 q1)), .second, .val (.long (v0_9 q0 q2 p4)), .second, .val (.long (v0_14 q1 q3 p4)), .second, .val (.int (v0_15 p4)), .val (.ref b17), .val (.ref b34), .val (.ref b34), .val (.int (b0_64 q0 q1 q2 q3 p4)), .val (.int (0 : Int32))] [(.int (0 : Int32))])) t → Steps p.tables e below (s₁.setTop (entryFrame m #[(.long q0), (.long q1), (.long q2), (.long q3), (.int p4)] maxLocals)) t := by
        intro t k
        refine go76 _ ?_
        refine XS.ifYes X69.here hx rfl (pc0 := 184) (pc' := 203) rfl (hb hby at_184) rfl (XT.i0_eq_t hs77) (by decide) (by decide) ?_
        show Steps p.tables e below (T69.setTop (mkF m 203 #[.val (.long q0), .second, .val (.long q1), .second, .val (.long q2), .second, .val (.long q3), .second, .val (.int p4), .val (.long (v0_5 q0)), .second, .val (.long (v3_6 q1)), .second, .val (.long (v0_9 q0 q2 p4)), .second, .val (.long (v0_14 q1 q3 p4)), .second, .val (.int (v0_15 p4)), .val (.ref b17), .val (.ref b34), .val (.ref b34), .val (.int (b0_64 q0 q1 q2 q3 p4)), .val (.int (b0_73 q0 q1 q2 q3 p4))] [])) t
        refine XS.iconst X69.here hx rfl (hb hby at_203) ?_
        show Steps p.tables e below (T69.setTop (mkF m 204 #[.val (.long q0), .second, .val (.long q1), .second, .val (.long q2), .second, .val (.long q3), .second, .val (.int p4), .val (.long (v0_5 q0)), .second, .val (.long (v3_6 q1)), .second, .val (.long (v0_9 q0 q2 p4)), .second, .val (.long (v0_14 q1 q3 p4)), .second, .val (.int (v0_15 p4)), .val (.ref b17), .val (.ref b34), .val (.ref b34), .val (.int (b0_64 q0 q1 q2 q3 p4)), .val (.int (b0_73 q0 q1 q2 q3 p4))] [(.int (0 : Int32))])) t
        refine XS.istore X69.here hx rfl (hb hby at_204) rfl (l' := #[.val (.long q0), .second, .val (.long q1), .second, .val (.long q2), .second, .val (.long q3), .second, .val (.int p4), .val (.long (v0_5 q0)), .second, .val (.long (v3_6 q1)), .second, .val (.long (v0_9 q0 q2 p4)), .second, .val (.long (v0_14 q1 q3 p4)), .second, .val (.int (v0_15 p4)), .val (.ref b17), .val (.ref b34), .val (.ref b34), .val (.int (b0_64 q0 q1 q2 q3 p4)), .val (.int (0 : Int32))]) rfl ?_
        show Steps p.tables e below (T69.setTop (mkF m 206 #[.val (.long q0), .second, .val (.long q1), .second, .val (.long q2), .second, .val (.long q3), .second, .val (.int p4), .val (.long (v0_5 q0)), .second, .val (.long (v3_6 q1)), .second, .val (.long (v0_9 q0 q2 p4)), .second, .val (.long (v0_14 q1 q3 p4)), .second, .val (.int (v0_15 p4)), .val (.ref b17), .val (.ref b34), .val (.ref b34), .val (.int (b0_64 q0 q1 q2 q3 p4)), .val (.int (0 : Int32))] [])) t
        refine XS.iload X69.here hx rfl (hb hby at_206) rfl ?_
        show Steps p.tables e below (T69.setTop (mkF m 208 #[.val (.long q0), .second, .val (.long q1), .second, .val (.long q2), .second, .val (.long q3), .second, .val (.int p4), .val (.long (v0_5 q0)), .second, .val (.long (v3_6 q1)), .second, .val (.long (v0_9 q0 q2 p4)), .second, .val (.long (v0_14 q1 q3 p4)), .second, .val (.int (v0_15 p4)), .val (.ref b17), .val (.ref b34), .val (.ref b34), .val (.int (b0_64 q0 q1 q2 q3 p4)), .val (.int (0 : Int32))] [(.int (0 : Int32))])) t
        exact k
      obtain ⟨fs, hr, hrun, hended, hW, hsame⟩ := X69.leave (v := some (.int (0 : Int32))) (fun h => by rw [Bd.returns] at h; cases h)
      refine ⟨_, _, go78 _ (Jvm.RoadKit.retOut X69 hx Bd.returns rfl (Or.inl ⟨rfl, Or.inr (Or.inl rfl), _, rfl⟩) (hb hby at_208) hr), hrun, hended, _, _, rfl, ?_, ⟨_, rfl⟩, hW, hsame.mono (by decide) (by decide)⟩
      show Q0 _ _ q0 q1 q2 q3 p4 s_cache cc h0 _ (T69.setFrames fs).heap _
      have hE : (T69.setFrames fs).heap = T49.heap := e69
      rw [hE]
      exact ⟨congrArg (fun z => some (Value.int z)) ((by rw [f0, if_pos hs60, if_pos hs77] : (0 : Int32) = (f0 q0 q1 q2 q3 p4)).trans (f0_one q0 q1 q2 q3 p4)), N69⟩
    · have go79 : ∀ t, Steps p.tables e below (T69.setTop (mkF m 191 #[.val (.long q0), .second, .val (.long q1), .second, .val (.long q2), .second, .val (.long q3), .second, .val (.int p4), .val (.long (v0_5 q0)), .second, .val (.long (v3_6 q1)), .second, .val (.long (v0_9 q0 q2 p4)), .second, .val (.long (v0_14 q1 q3 p4)), .second, .val (.int (v0_15 p4)), .val (.ref b17), .val (.ref b34), .val (.ref b34), .val (.int (b0_64 q0 q1 q2 q3 p4)), .val (.int (b0_73 q0 q1 q2 q3 p4))] [(.ref b17), (.ref b34)])) t → Steps p.tables e below (s₁.setTop (entryFrame m #[(.long q0), (.long q1), (.long q2), (.long q3), (.int p4)] maxLocals)) t := by
        intro t k
        refine go76 _ ?_
        refine XS.ifNo X69.here hx rfl (hb hby at_184) rfl (XT.i0_eq_f hs77) ?_
        show Steps p.tables e below (T69.setTop (mkF m 187 #[.val (.long q0), .second, .val (.long q1), .second, .val (.long q2), .second, .val (.long q3), .second, .val (.int p4), .val (.long (v0_5 q0)), .second, .val (.long (v3_6 q1)), .second, .val (.long (v0_9 q0 q2 p4)), .second, .val (.long (v0_14 q1 q3 p4)), .second, .val (.int (v0_15 p4)), .val (.ref b17), .val (.ref b34), .val (.ref b34), .val (.int (b0_64 q0 q1 q2 q3 p4)), .val (.int (b0_73 q0 q1 q2 q3 p4))] [])) t
        refine XS.aload X69.here hx rfl (hb hby at_187) rfl rfl ?_
        show Steps p.tables e below (T69.setTop (mkF m 189 #[.val (.long q0), .second, .val (.long q1), .second, .val (.long q2), .second, .val (.long q3), .second, .val (.int p4), .val (.long (v0_5 q0)), .second, .val (.long (v3_6 q1)), .second, .val (.long (v0_9 q0 q2 p4)), .second, .val (.long (v0_14 q1 q3 p4)), .second, .val (.int (v0_15 p4)), .val (.ref b17), .val (.ref b34), .val (.ref b34), .val (.int (b0_64 q0 q1 q2 q3 p4)), .val (.int (b0_73 q0 q1 q2 q3 p4))] [(.ref b34)])) t
        refine XS.aload X69.here hx rfl (hb hby at_189) rfl rfl ?_
        show Steps p.tables e below (T69.setTop (mkF m 191 #[.val (.long q0), .second, .val (.long q1), .second, .val (.long q2), .second, .val (.long q3), .second, .val (.int p4), .val (.long (v0_5 q0)), .second, .val (.long (v3_6 q1)), .second, .val (.long (v0_9 q0 q2 p4)), .second, .val (.long (v0_14 q1 q3 p4)), .second, .val (.int (v0_15 p4)), .val (.ref b17), .val (.ref b34), .val (.ref b34), .val (.int (b0_64 q0 q1 q2 q3 p4)), .val (.int (b0_73 q0 q1 q2 q3 p4))] [(.ref b17), (.ref b34)])) t
        exact k
      obtain ⟨cq80, kq80, q80a, q80b, q80c⟩ := isOf hZ e69 G49_0
      obtain ⟨_, _, ⟨T80, L80, k80, n80⟩, -, X80, ⟨Lc80, hQ80, l80, y80, z80⟩, st80⟩ := X69.virtualBack hx (y := (⟨"com/example/weir/weir/Window", "equals", "(Ljava/lang/Object;)Z"⟩ : MethodName)) (z := (⟨"com/example/weir/weir/Window", "equals", "(Ljava/lang/Object;)Z"⟩ : MethodName)) hown (mvT hZ (hw _ (List.mem_of_getElem? (i := 31) rfl))) (mvT hZ (hw _ (List.mem_of_getElem? (i := 32) rfl))) (notFace_of_selects (args := #[]) (mvT hZ (hw _ (List.mem_of_getElem? (i := 34) rfl)))) (mvT hZ (hw _ (List.mem_of_getElem? (i := 34) rfl))) (mvT hZ (hw _ (List.mem_of_getElem? (i := 33) rfl))) (by decide) (backOf (W := 0) (rmeqW l Z aZ hw [] b34 b17 (v0_9 q0 q2 p4) (v0_14 q1 q3 p4) (v0_5 q0) (v3_6 q1) T49.heap n0 Zs49 G49_1 G49_2 F53 F54 F55) hZ (hw _ (List.mem_of_getElem? (i := 35) rfl)) (hw _ (List.mem_of_getElem? (i := 15) rfl)) (by decide) (by decide)) q80a q80c (g := (mkF m 191 #[.val (.long q0), .second, .val (.long q1), .second, .val (.long q2), .second, .val (.long q3), .second, .val (.int p4), .val (.long (v0_5 q0)), .second, .val (.long (v3_6 q1)), .second, .val (.long (v0_9 q0 q2 p4)), .second, .val (.long (v0_14 q1 q3 p4)), .second, .val (.int (v0_15 p4)), .val (.ref b17), .val (.ref b34), .val (.ref b34), .val (.int (b0_64 q0 q1 q2 q3 p4)), .val (.int (b0_73 q0 q1 q2 q3 p4))] [(.ref b17), (.ref b34)])) rfl (by rw [hml]; rfl) (Steps.refl _) (argsL := [(.ref b17)]) (rest := []) (lenOf pd_197 rfl) rfl (by show 2 * 0 + _ ≤ _; exact Nat.le_of_eq rfl) (hb hby at_191) (fun _ _ => ⟨rfl, e69, (by decide : 2 + 0 ≤ _), (by decide : 6 + 0 ≤ _)⟩)
      dsimp only [Pt.U, Pt.locs, Pt.cells, Pt.slots] at X80 l80 y80 z80 st80 hQ80
      subst l80 y80 z80
      obtain ⟨rfl, N80q, e80⟩ := hQ80
      have N80 := Fr.app N69 N80q
      have go81 : ∀ t, Steps p.tables e below (T80.setTop (mkF m 194 #[.val (.long q0), .second, .val (.long q1), .second, .val (.long q2), .second, .val (.long q3), .second, .val (.int p4), .val (.long (v0_5 q0)), .second, .val (.long (v3_6 q1)), .second, .val (.long (v0_9 q0 q2 p4)), .second, .val (.long (v0_14 q1 q3 p4)), .second, .val (.int (v0_15 p4)), .val (.ref b17), .val (.ref b34), .val (.ref b34), .val (.int (b0_64 q0 q1 q2 q3 p4)), .val (.int (b0_73 q0 q1 q2 q3 p4))] [(.int (feqW (v0_9 q0 q2 p4) (v0_14 q1 q3 p4) (v0_5 q0) (v3_6 q1)))])) t → Steps p.tables e below (s₁.setTop (entryFrame m #[(.long q0), (.long q1), (.long q2), (.long q3), (.int p4)] maxLocals)) t := fun t k => go79 _ (st80.trans k)
      have go83 : ∀ t, Steps p.tables e below (T80.setTop (mkF m 204 #[.val (.long q0), .second, .val (.long q1), .second, .val (.long q2), .second, .val (.long q3), .second, .val (.int p4), .val (.long (v0_5 q0)), .second, .val (.long (v3_6 q1)), .second, .val (.long (v0_9 q0 q2 p4)), .second, .val (.long (v0_14 q1 q3 p4)), .second, .val (.int (v0_15 p4)), .val (.ref b17), .val (.ref b34), .val (.ref b34), .val (.int (b0_64 q0 q1 q2 q3 p4)), .val (.int (b0_73 q0 q1 q2 q3 p4))] [(.int (b0_84 q0 q1 q2 q3 p4))])) t → Steps p.tables e below (s₁.setTop (entryFrame m #[(.long q0), (.long q1), (.long q2), (.long q3), (.int p4)] maxLocals)) t := by
        intro t k
        refine go81 _ ?_
        refine XS.iload X80.here hx rfl (hb hby at_194) rfl ?_
        show Steps p.tables e below (T80.setTop (mkF m 196 #[.val (.long q0), .second, .val (.long q1), .second, .val (.long q2), .second, .val (.long q3), .second, .val (.int p4), .val (.long (v0_5 q0)), .second, .val (.long (v3_6 q1)), .second, .val (.long (v0_9 q0 q2 p4)), .second, .val (.long (v0_14 q1 q3 p4)), .second, .val (.int (v0_15 p4)), .val (.ref b17), .val (.ref b34), .val (.ref b34), .val (.int (b0_64 q0 q1 q2 q3 p4)), .val (.int (b0_73 q0 q1 q2 q3 p4))] [(.int (b0_64 q0 q1 q2 q3 p4)), (.int (feqW (v0_9 q0 q2 p4) (v0_14 q1 q3 p4) (v0_5 q0) (v3_6 q1)))])) t
        by_cases hc82 : (feqW (v0_9 q0 q2 p4) (v0_14 q1 q3 p4) (v0_5 q0) (v3_6 q1)) = (b0_64 q0 q1 q2 q3 p4)
        · refine XS.icmpNo X80.here hx rfl (hb hby at_196) rfl (XT.ii_ne_f hc82) ?_
          show Steps p.tables e below (T80.setTop (mkF m 199 #[.val (.long q0), .second, .val (.long q1), .second, .val (.long q2), .second, .val (.long q3), .second, .val (.int p4), .val (.long (v0_5 q0)), .second, .val (.long (v3_6 q1)), .second, .val (.long (v0_9 q0 q2 p4)), .second, .val (.long (v0_14 q1 q3 p4)), .second, .val (.int (v0_15 p4)), .val (.ref b17), .val (.ref b34), .val (.ref b34), .val (.int (b0_64 q0 q1 q2 q3 p4)), .val (.int (b0_73 q0 q1 q2 q3 p4))] [])) t
          refine XS.iconst X80.here hx rfl (hb hby at_199) ?_
          show Steps p.tables e below (T80.setTop (mkF m 200 #[.val (.long q0), .second, .val (.long q1), .second, .val (.long q2), .second, .val (.long q3), .second, .val (.int p4), .val (.long (v0_5 q0)), .second, .val (.long (v3_6 q1)), .second, .val (.long (v0_9 q0 q2 p4)), .second, .val (.long (v0_14 q1 q3 p4)), .second, .val (.int (v0_15 p4)), .val (.ref b17), .val (.ref b34), .val (.ref b34), .val (.int (b0_64 q0 q1 q2 q3 p4)), .val (.int (b0_73 q0 q1 q2 q3 p4))] [(.int (1 : Int32))])) t
          refine XS.goto X80.here hx rfl (pc0 := 200) (pc' := 204) rfl (hb hby at_200) (by decide) (by decide) ?_
          show Steps p.tables e below (T80.setTop (mkF m 204 #[.val (.long q0), .second, .val (.long q1), .second, .val (.long q2), .second, .val (.long q3), .second, .val (.int p4), .val (.long (v0_5 q0)), .second, .val (.long (v3_6 q1)), .second, .val (.long (v0_9 q0 q2 p4)), .second, .val (.long (v0_14 q1 q3 p4)), .second, .val (.int (v0_15 p4)), .val (.ref b17), .val (.ref b34), .val (.ref b34), .val (.int (b0_64 q0 q1 q2 q3 p4)), .val (.int (b0_73 q0 q1 q2 q3 p4))] [(.int (1 : Int32))])) t
          have hq85 : (b0_84 q0 q1 q2 q3 p4) = (1 : Int32) := by rw [b0_84, if_pos hc82]
          rw [hq85] at k
          exact k
        · refine XS.icmpYes X80.here hx rfl (pc0 := 196) (pc' := 203) rfl (hb hby at_196) rfl (XT.ii_ne_t hc82) (by decide) (by decide) ?_
          show Steps p.tables e below (T80.setTop (mkF m 203 #[.val (.long q0), .second, .val (.long q1), .second, .val (.long q2), .second, .val (.long q3), .second, .val (.int p4), .val (.long (v0_5 q0)), .second, .val (.long (v3_6 q1)), .second, .val (.long (v0_9 q0 q2 p4)), .second, .val (.long (v0_14 q1 q3 p4)), .second, .val (.int (v0_15 p4)), .val (.ref b17), .val (.ref b34), .val (.ref b34), .val (.int (b0_64 q0 q1 q2 q3 p4)), .val (.int (b0_73 q0 q1 q2 q3 p4))] [])) t
          refine XS.iconst X80.here hx rfl (hb hby at_203) ?_
          show Steps p.tables e below (T80.setTop (mkF m 204 #[.val (.long q0), .second, .val (.long q1), .second, .val (.long q2), .second, .val (.long q3), .second, .val (.int p4), .val (.long (v0_5 q0)), .second, .val (.long (v3_6 q1)), .second, .val (.long (v0_9 q0 q2 p4)), .second, .val (.long (v0_14 q1 q3 p4)), .second, .val (.int (v0_15 p4)), .val (.ref b17), .val (.ref b34), .val (.ref b34), .val (.int (b0_64 q0 q1 q2 q3 p4)), .val (.int (b0_73 q0 q1 q2 q3 p4))] [(.int (0 : Int32))])) t
          have hq86 : (b0_84 q0 q1 q2 q3 p4) = (0 : Int32) := by rw [b0_84, if_neg hc82]
          rw [hq86] at k
          exact k
      have go87 : ∀ t, Steps p.tables e below (T80.setTop (mkF m 208 #[.val (.long q0), .second, .val (.long q1), .second, .val (.long q2), .second, .val (.long q3), .second, .val (.int p4), .val (.long (v0_5 q0)), .second, .val (.long (v3_6 q1)), .second, .val (.long (v0_9 q0 q2 p4)), .second, .val (.long (v0_14 q1 q3 p4)), .second, .val (.int (v0_15 p4)), .val (.ref b17), .val (.ref b34), .val (.ref b34), .val (.int (b0_64 q0 q1 q2 q3 p4)), .val (.int (b0_84 q0 q1 q2 q3 p4))] [(.int (b0_84 q0 q1 q2 q3 p4))])) t → Steps p.tables e below (s₁.setTop (entryFrame m #[(.long q0), (.long q1), (.long q2), (.long q3), (.int p4)] maxLocals)) t := by
        intro t k
        refine go83 _ ?_
        refine XS.istore X80.here hx rfl (hb hby at_204) rfl (l' := #[.val (.long q0), .second, .val (.long q1), .second, .val (.long q2), .second, .val (.long q3), .second, .val (.int p4), .val (.long (v0_5 q0)), .second, .val (.long (v3_6 q1)), .second, .val (.long (v0_9 q0 q2 p4)), .second, .val (.long (v0_14 q1 q3 p4)), .second, .val (.int (v0_15 p4)), .val (.ref b17), .val (.ref b34), .val (.ref b34), .val (.int (b0_64 q0 q1 q2 q3 p4)), .val (.int (b0_84 q0 q1 q2 q3 p4))]) rfl ?_
        show Steps p.tables e below (T80.setTop (mkF m 206 #[.val (.long q0), .second, .val (.long q1), .second, .val (.long q2), .second, .val (.long q3), .second, .val (.int p4), .val (.long (v0_5 q0)), .second, .val (.long (v3_6 q1)), .second, .val (.long (v0_9 q0 q2 p4)), .second, .val (.long (v0_14 q1 q3 p4)), .second, .val (.int (v0_15 p4)), .val (.ref b17), .val (.ref b34), .val (.ref b34), .val (.int (b0_64 q0 q1 q2 q3 p4)), .val (.int (b0_84 q0 q1 q2 q3 p4))] [])) t
        refine XS.iload X80.here hx rfl (hb hby at_206) rfl ?_
        show Steps p.tables e below (T80.setTop (mkF m 208 #[.val (.long q0), .second, .val (.long q1), .second, .val (.long q2), .second, .val (.long q3), .second, .val (.int p4), .val (.long (v0_5 q0)), .second, .val (.long (v3_6 q1)), .second, .val (.long (v0_9 q0 q2 p4)), .second, .val (.long (v0_14 q1 q3 p4)), .second, .val (.int (v0_15 p4)), .val (.ref b17), .val (.ref b34), .val (.ref b34), .val (.int (b0_64 q0 q1 q2 q3 p4)), .val (.int (b0_84 q0 q1 q2 q3 p4))] [(.int (b0_84 q0 q1 q2 q3 p4))])) t
        exact k
      obtain ⟨fs, hr, hrun, hended, hW, hsame⟩ := X80.leave (v := some (.int (b0_84 q0 q1 q2 q3 p4))) (fun h => by rw [Bd.returns] at h; cases h)
      refine ⟨_, _, go87 _ (Jvm.RoadKit.retOut X80 hx Bd.returns (own_nz (by unfold b0_84; (repeat' split) <;> first | exact Or.inl rfl | exact Or.inr rfl)) (Or.inl ⟨rfl, Or.inr (Or.inl rfl), _, rfl⟩) (hb hby at_208) hr), hrun, hended, _, _, rfl, ?_, ⟨_, rfl⟩, hW, hsame.mono (by decide) (by decide)⟩
      show Q0 _ _ q0 q1 q2 q3 p4 s_cache cc h0 _ (T80.setFrames fs).heap _
      have hE : (T80.setFrames fs).heap = T49.heap := e80
      rw [hE]
      exact ⟨congrArg (fun z => some (Value.int z)) ((by rw [f0, if_pos hs60, if_neg hs77] : (b0_84 q0 q1 q2 q3 p4) = (f0 q0 q1 q2 q3 p4)).trans (f0_one q0 q1 q2 q3 p4)), N80⟩
  · have go88 : ∀ t, Steps p.tables e below (T49.setTop (mkF m 120 #[.val (.long q0), .second, .val (.long q1), .second, .val (.long q2), .second, .val (.long q3), .second, .val (.int p4), .val (.long (v0_5 q0)), .second, .val (.long (v3_6 q1)), .second, .val (.long (v0_9 q0 q2 p4)), .second, .val (.long (v0_14 q1 q3 p4)), .second, .val (.int (v0_15 p4)), .val (.ref b17), .val (.ref b34), .unset, .unset, .unset] [(.int (1 : Int32)), (.int (v0_15 p4))])) t → Steps p.tables e below (s₁.setTop (entryFrame m #[(.long q0), (.long q1), (.long q2), (.long q3), (.int p4)] maxLocals)) t := by
      intro t k
      refine go59 _ ?_
      refine XS.ifYes X49.here hx rfl (pc0 := 84) (pc' := 117) rfl (hb hby at_84) rfl (XT.i0_ne_t hs60) (by decide) (by decide) ?_
      show Steps p.tables e below (T49.setTop (mkF m 117 #[.val (.long q0), .second, .val (.long q1), .second, .val (.long q2), .second, .val (.long q3), .second, .val (.int p4), .val (.long (v0_5 q0)), .second, .val (.long (v3_6 q1)), .second, .val (.long (v0_9 q0 q2 p4)), .second, .val (.long (v0_14 q1 q3 p4)), .second, .val (.int (v0_15 p4)), .val (.ref b17), .val (.ref b34), .unset, .unset, .unset] [])) t
      refine XS.iload X49.here hx rfl (hb hby at_117) rfl ?_
      show Steps p.tables e below (T49.setTop (mkF m 119 #[.val (.long q0), .second, .val (.long q1), .second, .val (.long q2), .second, .val (.long q3), .second, .val (.int p4), .val (.long (v0_5 q0)), .second, .val (.long (v3_6 q1)), .second, .val (.long (v0_9 q0 q2 p4)), .second, .val (.long (v0_14 q1 q3 p4)), .second, .val (.int (v0_15 p4)), .val (.ref b17), .val (.ref b34), .unset, .unset, .unset] [(.int (v0_15 p4))])) t
      refine XS.iconst X49.here hx rfl (hb hby at_119) ?_
      show Steps p.tables e below (T49.setTop (mkF m 120 #[.val (.long q0), .second, .val (.long q1), .second, .val (.long q2), .second, .val (.long q3), .second, .val (.int p4), .val (.long (v0_5 q0)), .second, .val (.long (v3_6 q1)), .second, .val (.long (v0_9 q0 q2 p4)), .second, .val (.long (v0_14 q1 q3 p4)), .second, .val (.int (v0_15 p4)), .val (.ref b17), .val (.ref b34), .unset, .unset, .unset] [(.int (1 : Int32)), (.int (v0_15 p4))])) t
      exact k
    by_cases hs89 : (v0_15 p4) = (1 : Int32)
    · have go90 : ∀ t, Steps p.tables e below (T49.setTop (mkF m 162 #[.val (.long q0), .second, .val (.long q1), .second, .val (.long q2), .second, .val (.long q3), .second, .val (.int p4), .val (.long (v0_5 q0)), .second, .val (.long (v3_6 q1)), .second, .val (.long (v0_9 q0 q2 p4)), .second, .val (.long (v0_14 q1 q3 p4)), .second, .val (.int (v0_15 p4)), .val (.ref b17), .val (.ref b34), .val .null, .val (.int (0 : Int32)), .unset] [.null, (.ref b17)])) t → Steps p.tables e below (s₁.setTop (entryFrame m #[(.long q0), (.long q1), (.long q2), (.long q3), (.int p4)] maxLocals)) t := by
        intro t k
        refine go88 _ ?_
        refine XS.icmpNo X49.here hx rfl (hb hby at_120) rfl (XT.ii_ne_f hs89) ?_
        show Steps p.tables e below (T49.setTop (mkF m 123 #[.val (.long q0), .second, .val (.long q1), .second, .val (.long q2), .second, .val (.long q3), .second, .val (.int p4), .val (.long (v0_5 q0)), .second, .val (.long (v3_6 q1)), .second, .val (.long (v0_9 q0 q2 p4)), .second, .val (.long (v0_14 q1 q3 p4)), .second, .val (.int (v0_15 p4)), .val (.ref b17), .val (.ref b34), .unset, .unset, .unset] [])) t
        refine XS.aconstNull X49.here hx rfl (hb hby at_123) ?_
        show Steps p.tables e below (T49.setTop (mkF m 124 #[.val (.long q0), .second, .val (.long q1), .second, .val (.long q2), .second, .val (.long q3), .second, .val (.int p4), .val (.long (v0_5 q0)), .second, .val (.long (v3_6 q1)), .second, .val (.long (v0_9 q0 q2 p4)), .second, .val (.long (v0_14 q1 q3 p4)), .second, .val (.int (v0_15 p4)), .val (.ref b17), .val (.ref b34), .unset, .unset, .unset] [.null])) t
        refine XS.astore X49.here hx rfl (hb hby at_124) rfl rfl (l' := #[.val (.long q0), .second, .val (.long q1), .second, .val (.long q2), .second, .val (.long q3), .second, .val (.int p4), .val (.long (v0_5 q0)), .second, .val (.long (v3_6 q1)), .second, .val (.long (v0_9 q0 q2 p4)), .second, .val (.long (v0_14 q1 q3 p4)), .second, .val (.int (v0_15 p4)), .val (.ref b17), .val (.ref b34), .val .null, .unset, .unset]) rfl ?_
        show Steps p.tables e below (T49.setTop (mkF m 126 #[.val (.long q0), .second, .val (.long q1), .second, .val (.long q2), .second, .val (.long q3), .second, .val (.int p4), .val (.long (v0_5 q0)), .second, .val (.long (v3_6 q1)), .second, .val (.long (v0_9 q0 q2 p4)), .second, .val (.long (v0_14 q1 q3 p4)), .second, .val (.int (v0_15 p4)), .val (.ref b17), .val (.ref b34), .val .null, .unset, .unset] [])) t
        refine XS.iconst X49.here hx rfl (hb hby at_126) ?_
        show Steps p.tables e below (T49.setTop (mkF m 127 #[.val (.long q0), .second, .val (.long q1), .second, .val (.long q2), .second, .val (.long q3), .second, .val (.int p4), .val (.long (v0_5 q0)), .second, .val (.long (v3_6 q1)), .second, .val (.long (v0_9 q0 q2 p4)), .second, .val (.long (v0_14 q1 q3 p4)), .second, .val (.int (v0_15 p4)), .val (.ref b17), .val (.ref b34), .val .null, .unset, .unset] [(.int (0 : Int32))])) t
        refine XS.istore X49.here hx rfl (hb hby at_127) rfl (l' := #[.val (.long q0), .second, .val (.long q1), .second, .val (.long q2), .second, .val (.long q3), .second, .val (.int p4), .val (.long (v0_5 q0)), .second, .val (.long (v3_6 q1)), .second, .val (.long (v0_9 q0 q2 p4)), .second, .val (.long (v0_14 q1 q3 p4)), .second, .val (.int (v0_15 p4)), .val (.ref b17), .val (.ref b34), .val .null, .val (.int (0 : Int32)), .unset]) rfl ?_
        show Steps p.tables e below (T49.setTop (mkF m 129 #[.val (.long q0), .second, .val (.long q1), .second, .val (.long q2), .second, .val (.long q3), .second, .val (.int p4), .val (.long (v0_5 q0)), .second, .val (.long (v3_6 q1)), .second, .val (.long (v0_9 q0 q2 p4)), .second, .val (.long (v0_14 q1 q3 p4)), .second, .val (.int (v0_15 p4)), .val (.ref b17), .val (.ref b34), .val .null, .val (.int (0 : Int32)), .unset] [])) t
        refine XS.goto X49.here hx rfl (pc0 := 129) (pc' := 158) rfl (hb hby at_129) (by decide) (by decide) ?_
        show Steps p.tables e below (T49.setTop (mkF m 158 #[.val (.long q0), .second, .val (.long q1), .second, .val (.long q2), .second, .val (.long q3), .second, .val (.int p4), .val (.long (v0_5 q0)), .second, .val (.long (v3_6 q1)), .second, .val (.long (v0_9 q0 q2 p4)), .second, .val (.long (v0_14 q1 q3 p4)), .second, .val (.int (v0_15 p4)), .val (.ref b17), .val (.ref b34), .val .null, .val (.int (0 : Int32)), .unset] [])) t
        refine XS.aload X49.here hx rfl (hb hby at_158) rfl rfl ?_
        show Steps p.tables e below (T49.setTop (mkF m 160 #[.val (.long q0), .second, .val (.long q1), .second, .val (.long q2), .second, .val (.long q3), .second, .val (.int p4), .val (.long (v0_5 q0)), .second, .val (.long (v3_6 q1)), .second, .val (.long (v0_9 q0 q2 p4)), .second, .val (.long (v0_14 q1 q3 p4)), .second, .val (.int (v0_15 p4)), .val (.ref b17), .val (.ref b34), .val .null, .val (.int (0 : Int32)), .unset] [(.ref b17)])) t
        refine XS.aload X49.here hx rfl (hb hby at_160) rfl rfl ?_
        show Steps p.tables e below (T49.setTop (mkF m 162 #[.val (.long q0), .second, .val (.long q1), .second, .val (.long q2), .second, .val (.long q3), .second, .val (.int p4), .val (.long (v0_5 q0)), .second, .val (.long (v3_6 q1)), .second, .val (.long (v0_9 q0 q2 p4)), .second, .val (.long (v0_14 q1 q3 p4)), .second, .val (.int (v0_15 p4)), .val (.ref b17), .val (.ref b34), .val .null, .val (.int (0 : Int32)), .unset] [.null, (.ref b17)])) t
        exact k
      obtain ⟨cq91, kq91, q91a, q91b, q91c⟩ := isOf hZ rfl F53
      obtain ⟨_, _, ⟨T91, L91, k91, n91⟩, -, X91, ⟨Lc91, hQ91, l91, y91, z91⟩, st91⟩ := X49.virtualBack hx (y := (⟨"com/example/weir/weir/Window", "equals", "(Ljava/lang/Object;)Z"⟩ : MethodName)) (z := (⟨"com/example/weir/weir/Window", "equals", "(Ljava/lang/Object;)Z"⟩ : MethodName)) hown (mvT hZ (hw _ (List.mem_of_getElem? (i := 31) rfl))) (mvT hZ (hw _ (List.mem_of_getElem? (i := 32) rfl))) (notFace_of_selects (args := #[]) (mvT hZ (hw _ (List.mem_of_getElem? (i := 34) rfl)))) (mvT hZ (hw _ (List.mem_of_getElem? (i := 34) rfl))) (mvT hZ (hw _ (List.mem_of_getElem? (i := 33) rfl))) (by decide) (backOf (W := 0) (rmeqN l Z aZ hw [] b17 T49.heap n0 Zs49 ) hZ (hw _ (List.mem_of_getElem? (i := 35) rfl)) (hw _ (List.mem_of_getElem? (i := 15) rfl)) (by decide) (by decide)) q91a q91c (g := (mkF m 162 #[.val (.long q0), .second, .val (.long q1), .second, .val (.long q2), .second, .val (.long q3), .second, .val (.int p4), .val (.long (v0_5 q0)), .second, .val (.long (v3_6 q1)), .second, .val (.long (v0_9 q0 q2 p4)), .second, .val (.long (v0_14 q1 q3 p4)), .second, .val (.int (v0_15 p4)), .val (.ref b17), .val (.ref b34), .val .null, .val (.int (0 : Int32)), .unset] [.null, (.ref b17)])) rfl (by rw [hml]; rfl) (Steps.refl _) (argsL := [.null]) (rest := []) (lenOf pd_197 rfl) rfl (by show 2 * 0 + _ ≤ _; exact Nat.le_of_eq rfl) (hb hby at_162) (fun _ _ => ⟨rfl, rfl, (by decide : 2 + 0 ≤ _), (by decide : 6 + 0 ≤ _)⟩)
      dsimp only [Pt.U, Pt.locs, Pt.cells, Pt.slots] at X91 l91 y91 z91 st91 hQ91
      subst l91 y91 z91
      obtain ⟨rfl, N91q, e91⟩ := hQ91
      have N91 := Fr.app N49 N91q
      have go92 : ∀ t, Steps p.tables e below (T91.setTop (mkF m 165 #[.val (.long q0), .second, .val (.long q1), .second, .val (.long q2), .second, .val (.long q3), .second, .val (.int p4), .val (.long (v0_5 q0)), .second, .val (.long (v3_6 q1)), .second, .val (.long (v0_9 q0 q2 p4)), .second, .val (.long (v0_14 q1 q3 p4)), .second, .val (.int (v0_15 p4)), .val (.ref b17), .val (.ref b34), .val .null, .val (.int (0 : Int32)), .unset] [(.int (0 : Int32))])) t → Steps p.tables e below (s₁.setTop (entryFrame m #[(.long q0), (.long q1), (.long q2), (.long q3), (.int p4)] maxLocals)) t := fun t k => go90 _ (st91.trans k)
      have go93 : ∀ t, Steps p.tables e below (T91.setTop (mkF m 208 #[.val (.long q0), .second, .val (.long q1), .second, .val (.long q2), .second, .val (.long q3), .second, .val (.int p4), .val (.long (v0_5 q0)), .second, .val (.long (v3_6 q1)), .second, .val (.long (v0_9 q0 q2 p4)), .second, .val (.long (v0_14 q1 q3 p4)), .second, .val (.int (v0_15 p4)), .val (.ref b17), .val (.ref b34), .val .null, .val (.int (0 : Int32)), .val (.int (1 : Int32))] [(.int (1 : Int32))])) t → Steps p.tables e below (s₁.setTop (entryFrame m #[(.long q0), (.long q1), (.long q2), (.long q3), (.int p4)] maxLocals)) t := by
        intro t k
        refine go92 _ ?_
        refine XS.iload X91.here hx rfl (hb hby at_165) rfl ?_
        show Steps p.tables e below (T91.setTop (mkF m 167 #[.val (.long q0), .second, .val (.long q1), .second, .val (.long q2), .second, .val (.long q3), .second, .val (.int p4), .val (.long (v0_5 q0)), .second, .val (.long (v3_6 q1)), .second, .val (.long (v0_9 q0 q2 p4)), .second, .val (.long (v0_14 q1 q3 p4)), .second, .val (.int (v0_15 p4)), .val (.ref b17), .val (.ref b34), .val .null, .val (.int (0 : Int32)), .unset] [(.int (0 : Int32)), (.int (0 : Int32))])) t
        refine XS.icmpNo X91.here hx rfl (hb hby at_167) rfl (XT.ii_ne_f (by decide : ((0 : Int32) = (0 : Int32)))) ?_
        show Steps p.tables e below (T91.setTop (mkF m 170 #[.val (.long q0), .second, .val (.long q1), .second, .val (.long q2), .second, .val (.long q3), .second, .val (.int p4), .val (.long (v0_5 q0)), .second, .val (.long (v3_6 q1)), .second, .val (.long (v0_9 q0 q2 p4)), .second, .val (.long (v0_14 q1 q3 p4)), .second, .val (.int (v0_15 p4)), .val (.ref b17), .val (.ref b34), .val .null, .val (.int (0 : Int32)), .unset] [])) t
        refine XS.iconst X91.here hx rfl (hb hby at_170) ?_
        show Steps p.tables e below (T91.setTop (mkF m 171 #[.val (.long q0), .second, .val (.long q1), .second, .val (.long q2), .second, .val (.long q3), .second, .val (.int p4), .val (.long (v0_5 q0)), .second, .val (.long (v3_6 q1)), .second, .val (.long (v0_9 q0 q2 p4)), .second, .val (.long (v0_14 q1 q3 p4)), .second, .val (.int (v0_15 p4)), .val (.ref b17), .val (.ref b34), .val .null, .val (.int (0 : Int32)), .unset] [(.int (1 : Int32))])) t
        refine XS.goto X91.here hx rfl (pc0 := 171) (pc' := 175) rfl (hb hby at_171) (by decide) (by decide) ?_
        show Steps p.tables e below (T91.setTop (mkF m 175 #[.val (.long q0), .second, .val (.long q1), .second, .val (.long q2), .second, .val (.long q3), .second, .val (.int p4), .val (.long (v0_5 q0)), .second, .val (.long (v3_6 q1)), .second, .val (.long (v0_9 q0 q2 p4)), .second, .val (.long (v0_14 q1 q3 p4)), .second, .val (.int (v0_15 p4)), .val (.ref b17), .val (.ref b34), .val .null, .val (.int (0 : Int32)), .unset] [(.int (1 : Int32))])) t
        refine XS.istore X91.here hx rfl (hb hby at_175) rfl (l' := #[.val (.long q0), .second, .val (.long q1), .second, .val (.long q2), .second, .val (.long q3), .second, .val (.int p4), .val (.long (v0_5 q0)), .second, .val (.long (v3_6 q1)), .second, .val (.long (v0_9 q0 q2 p4)), .second, .val (.long (v0_14 q1 q3 p4)), .second, .val (.int (v0_15 p4)), .val (.ref b17), .val (.ref b34), .val .null, .val (.int (0 : Int32)), .val (.int (1 : Int32))]) rfl ?_
        show Steps p.tables e below (T91.setTop (mkF m 177 #[.val (.long q0), .second, .val (.long q1), .second, .val (.long q2), .second, .val (.long q3), .second, .val (.int p4), .val (.long (v0_5 q0)), .second, .val (.long (v3_6 q1)), .second, .val (.long (v0_9 q0 q2 p4)), .second, .val (.long (v0_14 q1 q3 p4)), .second, .val (.int (v0_15 p4)), .val (.ref b17), .val (.ref b34), .val .null, .val (.int (0 : Int32)), .val (.int (1 : Int32))] [])) t
        refine XS.iload X91.here hx rfl (hb hby at_177) rfl ?_
        show Steps p.tables e below (T91.setTop (mkF m 179 #[.val (.long q0), .second, .val (.long q1), .second, .val (.long q2), .second, .val (.long q3), .second, .val (.int p4), .val (.long (v0_5 q0)), .second, .val (.long (v3_6 q1)), .second, .val (.long (v0_9 q0 q2 p4)), .second, .val (.long (v0_14 q1 q3 p4)), .second, .val (.int (v0_15 p4)), .val (.ref b17), .val (.ref b34), .val .null, .val (.int (0 : Int32)), .val (.int (1 : Int32))] [(.int (v0_15 p4))])) t
        refine XS.ifYes X91.here hx rfl (pc0 := 179) (pc' := 206) rfl (hb hby at_179) rfl (XT.i0_ne_t hs60) (by decide) (by decide) ?_
        show Steps p.tables e below (T91.setTop (mkF m 206 #[.val (.long q0), .second, .val (.long q1), .second, .val (.long q2), .second, .val (.long q3), .second, .val (.int p4), .val (.long (v0_5 q0)), .second, .val (.long (v3_6 q1)), .second, .val (.long (v0_9 q0 q2 p4)), .second, .val (.long (v0_14 q1 q3 p4)), .second, .val (.int (v0_15 p4)), .val (.ref b17), .val (.ref b34), .val .null, .val (.int (0 : Int32)), .val (.int (1 : Int32))] [])) t
        refine XS.iload X91.here hx rfl (hb hby at_206) rfl ?_
        show Steps p.tables e below (T91.setTop (mkF m 208 #[.val (.long q0), .second, .val (.long q1), .second, .val (.long q2), .second, .val (.long q3), .second, .val (.int p4), .val (.long (v0_5 q0)), .second, .val (.long (v3_6 q1)), .second, .val (.long (v0_9 q0 q2 p4)), .second, .val (.long (v0_14 q1 q3 p4)), .second, .val (.int (v0_15 p4)), .val (.ref b17), .val (.ref b34), .val .null, .val (.int (0 : Int32)), .val (.int (1 : Int32))] [(.int (1 : Int32))])) t
        exact k
      obtain ⟨fs, hr, hrun, hended, hW, hsame⟩ := X91.leave (v := some (.int (1 : Int32))) (fun h => by rw [Bd.returns] at h; cases h)
      refine ⟨_, _, go93 _ (Jvm.RoadKit.retOut X91 hx Bd.returns rfl (Or.inl ⟨rfl, Or.inr (Or.inl rfl), _, rfl⟩) (hb hby at_208) hr), hrun, hended, _, _, rfl, ?_, ⟨_, rfl⟩, hW, hsame.mono (by decide) (by decide)⟩
      show Q0 _ _ q0 q1 q2 q3 p4 s_cache cc h0 _ (T91.setFrames fs).heap _
      have hE : (T91.setFrames fs).heap = T49.heap := e91
      rw [hE]
      exact ⟨congrArg (fun z => some (Value.int z)) ((by rw [f0, if_neg hs60, if_pos hs89] : (1 : Int32) = (f0 q0 q1 q2 q3 p4)).trans (f0_one q0 q1 q2 q3 p4)), N91⟩
    · have go94 : ∀ t, Steps p.tables e below (T49.setTop (mkF m 135 #[.val (.long q0), .second, .val (.long q1), .second, .val (.long q2), .second, .val (.long q3), .second, .val (.int p4), .val (.long (v0_5 q0)), .second, .val (.long (v3_6 q1)), .second, .val (.long (v0_9 q0 q2 p4)), .second, .val (.long (v0_14 q1 q3 p4)), .second, .val (.int (v0_15 p4)), .val (.ref b17), .val (.ref b34), .unset, .unset, .unset] [(.int (2 : Int32)), (.int (v0_15 p4))])) t → Steps p.tables e below (s₁.setTop (entryFrame m #[(.long q0), (.long q1), (.long q2), (.long q3), (.int p4)] maxLocals)) t := by
        intro t k
        refine go88 _ ?_
        refine XS.icmpYes X49.here hx rfl (pc0 := 120) (pc' := 132) rfl (hb hby at_120) rfl (XT.ii_ne_t hs89) (by decide) (by decide) ?_
        show Steps p.tables e below (T49.setTop (mkF m 132 #[.val (.long q0), .second, .val (.long q1), .second, .val (.long q2), .second, .val (.long q3), .second, .val (.int p4), .val (.long (v0_5 q0)), .second, .val (.long (v3_6 q1)), .second, .val (.long (v0_9 q0 q2 p4)), .second, .val (.long (v0_14 q1 q3 p4)), .second, .val (.int (v0_15 p4)), .val (.ref b17), .val (.ref b34), .unset, .unset, .unset] [])) t
        refine XS.iload X49.here hx rfl (hb hby at_132) rfl ?_
        show Steps p.tables e below (T49.setTop (mkF m 134 #[.val (.long q0), .second, .val (.long q1), .second, .val (.long q2), .second, .val (.long q3), .second, .val (.int p4), .val (.long (v0_5 q0)), .second, .val (.long (v3_6 q1)), .second, .val (.long (v0_9 q0 q2 p4)), .second, .val (.long (v0_14 q1 q3 p4)), .second, .val (.int (v0_15 p4)), .val (.ref b17), .val (.ref b34), .unset, .unset, .unset] [(.int (v0_15 p4))])) t
        refine XS.iconst X49.here hx rfl (hb hby at_134) ?_
        show Steps p.tables e below (T49.setTop (mkF m 135 #[.val (.long q0), .second, .val (.long q1), .second, .val (.long q2), .second, .val (.long q3), .second, .val (.int p4), .val (.long (v0_5 q0)), .second, .val (.long (v3_6 q1)), .second, .val (.long (v0_9 q0 q2 p4)), .second, .val (.long (v0_14 q1 q3 p4)), .second, .val (.int (v0_15 p4)), .val (.ref b17), .val (.ref b34), .unset, .unset, .unset] [(.int (2 : Int32)), (.int (v0_15 p4))])) t
        exact k
      by_cases hs95 : (v0_15 p4) = (2 : Int32)
      · have go96 : ∀ t, Steps p.tables e below (T49.setTop (mkF m 140 #[.val (.long q0), .second, .val (.long q1), .second, .val (.long q2), .second, .val (.long q3), .second, .val (.int p4), .val (.long (v0_5 q0)), .second, .val (.long (v3_6 q1)), .second, .val (.long (v0_9 q0 q2 p4)), .second, .val (.long (v0_14 q1 q3 p4)), .second, .val (.int (v0_15 p4)), .val (.ref b17), .val (.ref b34), .unset, .unset, .unset] [(.long (v0_5 q0))])) t → Steps p.tables e below (s₁.setTop (entryFrame m #[(.long q0), (.long q1), (.long q2), (.long q3), (.int p4)] maxLocals)) t := by
          intro t k
          refine go94 _ ?_
          refine XS.icmpNo X49.here hx rfl (hb hby at_135) rfl (XT.ii_ne_f hs95) ?_
          show Steps p.tables e below (T49.setTop (mkF m 138 #[.val (.long q0), .second, .val (.long q1), .second, .val (.long q2), .second, .val (.long q3), .second, .val (.int p4), .val (.long (v0_5 q0)), .second, .val (.long (v3_6 q1)), .second, .val (.long (v0_9 q0 q2 p4)), .second, .val (.long (v0_14 q1 q3 p4)), .second, .val (.int (v0_15 p4)), .val (.ref b17), .val (.ref b34), .unset, .unset, .unset] [])) t
          refine XS.lload X49.here hx rfl (hb hby at_138) rfl ?_
          show Steps p.tables e below (T49.setTop (mkF m 140 #[.val (.long q0), .second, .val (.long q1), .second, .val (.long q2), .second, .val (.long q3), .second, .val (.int p4), .val (.long (v0_5 q0)), .second, .val (.long (v3_6 q1)), .second, .val (.long (v0_9 q0 q2 p4)), .second, .val (.long (v0_14 q1 q3 p4)), .second, .val (.int (v0_15 p4)), .val (.ref b17), .val (.ref b34), .unset, .unset, .unset] [(.long (v0_5 q0))])) t
          exact k
        obtain ⟨_, _, ⟨T97, L97, k97, n97⟩, -, X97, ⟨Lc97, hQ97, l97, y97, z97⟩, st97⟩ := Jvm.LawKit.callS X49 hx (y := (⟨"java/lang/Long", "valueOf", "(J)Ljava/lang/Long;"⟩ : MethodName)) hown (mvT hZ (hw _ (List.mem_of_getElem? (i := 40) rfl))) (mvT hZ (hw _ (List.mem_of_getElem? (i := 41) rfl))) (mvT hZ (hw _ (List.mem_of_getElem? (i := 42) rfl))) (mvT hZ (hw _ (List.mem_of_getElem? (i := 43) rfl))) (by decide) (backOf (W := 0) (rm7 l Z aZ hw [] (v0_5 q0) s_cache cc T49.heap n0 Zs49 F50 F51 Sz_cache F52) hZ (hw _ (List.mem_of_getElem? (i := 43) rfl)) (hw _ (List.mem_of_getElem? (i := 42) rfl)) (by decide) (by decide)) (g := (mkF m 140 #[.val (.long q0), .second, .val (.long q1), .second, .val (.long q2), .second, .val (.long q3), .second, .val (.int p4), .val (.long (v0_5 q0)), .second, .val (.long (v3_6 q1)), .second, .val (.long (v0_9 q0 q2 p4)), .second, .val (.long (v0_14 q1 q3 p4)), .second, .val (.int (v0_15 p4)), .val (.ref b17), .val (.ref b34), .unset, .unset, .unset] [(.long (v0_5 q0))])) rfl (by rw [hml]; rfl) (argsL := [(.long (v0_5 q0))]) (rest := []) (lenOf pd_200 rfl) rfl (by show 2 * 0 + _ ≤ _; exact Nat.le_of_eq rfl) (hb hby at_140) (fun _ _ => ⟨rfl, rfl, (by decide : 2 + 1 ≤ _), (by decide : 6 + 1 ≤ _)⟩)
        dsimp only [Pt.U, Pt.locs, Pt.cells, Pt.slots] at X97 l97 y97 z97 st97 hQ97
        subst l97 y97 z97
        obtain ⟨b97, rfl, N97q, K97q, G97⟩ := hQ97
        have N97 := Fr.app N49 N97q
        have K97 : Keep h0 T97.heap [] := K49.trans K97q all0
        have Zs97 : n0 ≤ T97.heap.size := Nat.le_trans Zs49 K97q.1
        have F98 : Sta Z T97.heap "java/lang/Long$LongCache" "cache" "[Ljava/lang/Long;" (.ref s_cache) := own_sta_keep F50 K97q all0
        have F99 : Arr Z T97.heap s_cache cc (.object "java/lang/Long") := own_arr_keep F51 K97q nin0
        have F100 : LCache Z T97.heap cc := F52.keep K97q
        have F101 : Exa Z T97.heap b17 "com/example/weir/weir/Window" := F53.keep K97q
        have F102 : Fld Z T97.heap b17 "com/example/weir/weir/Window" "limit" "J" (.long (v0_5 q0)) := F54.keep K97q nin0
        have F103 : Fld Z T97.heap b17 "com/example/weir/weir/Window" "windowMillis" "J" (.long (v3_6 q1)) := F55.keep K97q nin0
        have F104 : Fld Z T97.heap b17 "com/example/weir/weir/Window" "slotMillis" "J" (.long (v4_18 (v3_6 q1))) := F56.keep K97q nin0
        have F105 : Exa Z T97.heap b34 "com/example/weir/weir/Window" := G49_0.keep K97q
        have F106 : Fld Z T97.heap b34 "com/example/weir/weir/Window" "limit" "J" (.long (v0_9 q0 q2 p4)) := G49_1.keep K97q nin0
        have F107 : Fld Z T97.heap b34 "com/example/weir/weir/Window" "windowMillis" "J" (.long (v0_14 q1 q3 p4)) := G49_2.keep K97q nin0
        have F108 : Fld Z T97.heap b34 "com/example/weir/weir/Window" "slotMillis" "J" (.long (v4_18 (v0_14 q1 q3 p4))) := G49_3.keep K97q nin0
        have go109 : ∀ t, Steps p.tables e below (T97.setTop (mkF m 143 #[.val (.long q0), .second, .val (.long q1), .second, .val (.long q2), .second, .val (.long q3), .second, .val (.int p4), .val (.long (v0_5 q0)), .second, .val (.long (v3_6 q1)), .second, .val (.long (v0_9 q0 q2 p4)), .second, .val (.long (v0_14 q1 q3 p4)), .second, .val (.int (v0_15 p4)), .val (.ref b17), .val (.ref b34), .unset, .unset, .unset] [(.ref b97)])) t → Steps p.tables e below (s₁.setTop (entryFrame m #[(.long q0), (.long q1), (.long q2), (.long q3), (.int p4)] maxLocals)) t := fun t k => go96 _ (st97 _ k)
        have go110 : ∀ t, Steps p.tables e below (T97.setTop (mkF m 162 #[.val (.long q0), .second, .val (.long q1), .second, .val (.long q2), .second, .val (.long q3), .second, .val (.int p4), .val (.long (v0_5 q0)), .second, .val (.long (v3_6 q1)), .second, .val (.long (v0_9 q0 q2 p4)), .second, .val (.long (v0_14 q1 q3 p4)), .second, .val (.int (v0_15 p4)), .val (.ref b17), .val (.ref b34), .val (.ref b97), .val (.int (0 : Int32)), .unset] [(.ref b97), (.ref b17)])) t → Steps p.tables e below (s₁.setTop (entryFrame m #[(.long q0), (.long q1), (.long q2), (.long q3), (.int p4)] maxLocals)) t := by
          intro t k
          refine go109 _ ?_
          refine XS.astore X97.here hx rfl (hb hby at_143) rfl rfl (l' := #[.val (.long q0), .second, .val (.long q1), .second, .val (.long q2), .second, .val (.long q3), .second, .val (.int p4), .val (.long (v0_5 q0)), .second, .val (.long (v3_6 q1)), .second, .val (.long (v0_9 q0 q2 p4)), .second, .val (.long (v0_14 q1 q3 p4)), .second, .val (.int (v0_15 p4)), .val (.ref b17), .val (.ref b34), .val (.ref b97), .unset, .unset]) rfl ?_
          show Steps p.tables e below (T97.setTop (mkF m 145 #[.val (.long q0), .second, .val (.long q1), .second, .val (.long q2), .second, .val (.long q3), .second, .val (.int p4), .val (.long (v0_5 q0)), .second, .val (.long (v3_6 q1)), .second, .val (.long (v0_9 q0 q2 p4)), .second, .val (.long (v0_14 q1 q3 p4)), .second, .val (.int (v0_15 p4)), .val (.ref b17), .val (.ref b34), .val (.ref b97), .unset, .unset] [])) t
          refine XS.iconst X97.here hx rfl (hb hby at_145) ?_
          show Steps p.tables e below (T97.setTop (mkF m 146 #[.val (.long q0), .second, .val (.long q1), .second, .val (.long q2), .second, .val (.long q3), .second, .val (.int p4), .val (.long (v0_5 q0)), .second, .val (.long (v3_6 q1)), .second, .val (.long (v0_9 q0 q2 p4)), .second, .val (.long (v0_14 q1 q3 p4)), .second, .val (.int (v0_15 p4)), .val (.ref b17), .val (.ref b34), .val (.ref b97), .unset, .unset] [(.int (0 : Int32))])) t
          refine XS.istore X97.here hx rfl (hb hby at_146) rfl (l' := #[.val (.long q0), .second, .val (.long q1), .second, .val (.long q2), .second, .val (.long q3), .second, .val (.int p4), .val (.long (v0_5 q0)), .second, .val (.long (v3_6 q1)), .second, .val (.long (v0_9 q0 q2 p4)), .second, .val (.long (v0_14 q1 q3 p4)), .second, .val (.int (v0_15 p4)), .val (.ref b17), .val (.ref b34), .val (.ref b97), .val (.int (0 : Int32)), .unset]) rfl ?_
          show Steps p.tables e below (T97.setTop (mkF m 148 #[.val (.long q0), .second, .val (.long q1), .second, .val (.long q2), .second, .val (.long q3), .second, .val (.int p4), .val (.long (v0_5 q0)), .second, .val (.long (v3_6 q1)), .second, .val (.long (v0_9 q0 q2 p4)), .second, .val (.long (v0_14 q1 q3 p4)), .second, .val (.int (v0_15 p4)), .val (.ref b17), .val (.ref b34), .val (.ref b97), .val (.int (0 : Int32)), .unset] [])) t
          refine XS.goto X97.here hx rfl (pc0 := 148) (pc' := 158) rfl (hb hby at_148) (by decide) (by decide) ?_
          show Steps p.tables e below (T97.setTop (mkF m 158 #[.val (.long q0), .second, .val (.long q1), .second, .val (.long q2), .second, .val (.long q3), .second, .val (.int p4), .val (.long (v0_5 q0)), .second, .val (.long (v3_6 q1)), .second, .val (.long (v0_9 q0 q2 p4)), .second, .val (.long (v0_14 q1 q3 p4)), .second, .val (.int (v0_15 p4)), .val (.ref b17), .val (.ref b34), .val (.ref b97), .val (.int (0 : Int32)), .unset] [])) t
          refine XS.aload X97.here hx rfl (hb hby at_158) rfl rfl ?_
          show Steps p.tables e below (T97.setTop (mkF m 160 #[.val (.long q0), .second, .val (.long q1), .second, .val (.long q2), .second, .val (.long q3), .second, .val (.int p4), .val (.long (v0_5 q0)), .second, .val (.long (v3_6 q1)), .second, .val (.long (v0_9 q0 q2 p4)), .second, .val (.long (v0_14 q1 q3 p4)), .second, .val (.int (v0_15 p4)), .val (.ref b17), .val (.ref b34), .val (.ref b97), .val (.int (0 : Int32)), .unset] [(.ref b17)])) t
          refine XS.aload X97.here hx rfl (hb hby at_160) rfl rfl ?_
          show Steps p.tables e below (T97.setTop (mkF m 162 #[.val (.long q0), .second, .val (.long q1), .second, .val (.long q2), .second, .val (.long q3), .second, .val (.int p4), .val (.long (v0_5 q0)), .second, .val (.long (v3_6 q1)), .second, .val (.long (v0_9 q0 q2 p4)), .second, .val (.long (v0_14 q1 q3 p4)), .second, .val (.int (v0_15 p4)), .val (.ref b17), .val (.ref b34), .val (.ref b97), .val (.int (0 : Int32)), .unset] [(.ref b97), (.ref b17)])) t
          exact k
        obtain ⟨cq111, kq111, q111a, q111b, q111c⟩ := isOf hZ rfl F101
        obtain ⟨_, _, ⟨T111, L111, k111, n111⟩, -, X111, ⟨Lc111, hQ111, l111, y111, z111⟩, st111⟩ := X97.virtualBack hx (y := (⟨"com/example/weir/weir/Window", "equals", "(Ljava/lang/Object;)Z"⟩ : MethodName)) (z := (⟨"com/example/weir/weir/Window", "equals", "(Ljava/lang/Object;)Z"⟩ : MethodName)) hown (mvT hZ (hw _ (List.mem_of_getElem? (i := 31) rfl))) (mvT hZ (hw _ (List.mem_of_getElem? (i := 32) rfl))) (notFace_of_selects (args := #[]) (mvT hZ (hw _ (List.mem_of_getElem? (i := 34) rfl)))) (mvT hZ (hw _ (List.mem_of_getElem? (i := 34) rfl))) (mvT hZ (hw _ (List.mem_of_getElem? (i := 33) rfl))) (by decide) (backOf (W := 0) (rmeqL l Z aZ hw [] b17 b97 T97.heap n0 Zs97 G97 hno) hZ (hw _ (List.mem_of_getElem? (i := 35) rfl)) (hw _ (List.mem_of_getElem? (i := 15) rfl)) (by decide) (by decide)) q111a q111c (g := (mkF m 162 #[.val (.long q0), .second, .val (.long q1), .second, .val (.long q2), .second, .val (.long q3), .second, .val (.int p4), .val (.long (v0_5 q0)), .second, .val (.long (v3_6 q1)), .second, .val (.long (v0_9 q0 q2 p4)), .second, .val (.long (v0_14 q1 q3 p4)), .second, .val (.int (v0_15 p4)), .val (.ref b17), .val (.ref b34), .val (.ref b97), .val (.int (0 : Int32)), .unset] [(.ref b97), (.ref b17)])) rfl (by rw [hml]; rfl) (Steps.refl _) (argsL := [(.ref b97)]) (rest := []) (lenOf pd_197 rfl) rfl (by show 2 * 0 + _ ≤ _; exact Nat.le_of_eq rfl) (hb hby at_162) (fun _ _ => ⟨rfl, rfl, (by decide : 3 + 0 ≤ _), (by decide : 7 + 0 ≤ _)⟩)
        dsimp only [Pt.U, Pt.locs, Pt.cells, Pt.slots] at X111 l111 y111 z111 st111 hQ111
        subst l111 y111 z111
        obtain ⟨rfl, N111q, e111⟩ := hQ111
        have N111 := Fr.app N97 N111q
        have go112 : ∀ t, Steps p.tables e below (T111.setTop (mkF m 165 #[.val (.long q0), .second, .val (.long q1), .second, .val (.long q2), .second, .val (.long q3), .second, .val (.int p4), .val (.long (v0_5 q0)), .second, .val (.long (v3_6 q1)), .second, .val (.long (v0_9 q0 q2 p4)), .second, .val (.long (v0_14 q1 q3 p4)), .second, .val (.int (v0_15 p4)), .val (.ref b17), .val (.ref b34), .val (.ref b97), .val (.int (0 : Int32)), .unset] [(.int (0 : Int32))])) t → Steps p.tables e below (s₁.setTop (entryFrame m #[(.long q0), (.long q1), (.long q2), (.long q3), (.int p4)] maxLocals)) t := fun t k => go110 _ (st111.trans k)
        have go113 : ∀ t, Steps p.tables e below (T111.setTop (mkF m 208 #[.val (.long q0), .second, .val (.long q1), .second, .val (.long q2), .second, .val (.long q3), .second, .val (.int p4), .val (.long (v0_5 q0)), .second, .val (.long (v3_6 q1)), .second, .val (.long (v0_9 q0 q2 p4)), .second, .val (.long (v0_14 q1 q3 p4)), .second, .val (.int (v0_15 p4)), .val (.ref b17), .val (.ref b34), .val (.ref b97), .val (.int (0 : Int32)), .val (.int (1 : Int32))] [(.int (1 : Int32))])) t → Steps p.tables e below (s₁.setTop (entryFrame m #[(.long q0), (.long q1), (.long q2), (.long q3), (.int p4)] maxLocals)) t := by
          intro t k
          refine go112 _ ?_
          refine XS.iload X111.here hx rfl (hb hby at_165) rfl ?_
          show Steps p.tables e below (T111.setTop (mkF m 167 #[.val (.long q0), .second, .val (.long q1), .second, .val (.long q2), .second, .val (.long q3), .second, .val (.int p4), .val (.long (v0_5 q0)), .second, .val (.long (v3_6 q1)), .second, .val (.long (v0_9 q0 q2 p4)), .second, .val (.long (v0_14 q1 q3 p4)), .second, .val (.int (v0_15 p4)), .val (.ref b17), .val (.ref b34), .val (.ref b97), .val (.int (0 : Int32)), .unset] [(.int (0 : Int32)), (.int (0 : Int32))])) t
          refine XS.icmpNo X111.here hx rfl (hb hby at_167) rfl (XT.ii_ne_f (by decide : ((0 : Int32) = (0 : Int32)))) ?_
          show Steps p.tables e below (T111.setTop (mkF m 170 #[.val (.long q0), .second, .val (.long q1), .second, .val (.long q2), .second, .val (.long q3), .second, .val (.int p4), .val (.long (v0_5 q0)), .second, .val (.long (v3_6 q1)), .second, .val (.long (v0_9 q0 q2 p4)), .second, .val (.long (v0_14 q1 q3 p4)), .second, .val (.int (v0_15 p4)), .val (.ref b17), .val (.ref b34), .val (.ref b97), .val (.int (0 : Int32)), .unset] [])) t
          refine XS.iconst X111.here hx rfl (hb hby at_170) ?_
          show Steps p.tables e below (T111.setTop (mkF m 171 #[.val (.long q0), .second, .val (.long q1), .second, .val (.long q2), .second, .val (.long q3), .second, .val (.int p4), .val (.long (v0_5 q0)), .second, .val (.long (v3_6 q1)), .second, .val (.long (v0_9 q0 q2 p4)), .second, .val (.long (v0_14 q1 q3 p4)), .second, .val (.int (v0_15 p4)), .val (.ref b17), .val (.ref b34), .val (.ref b97), .val (.int (0 : Int32)), .unset] [(.int (1 : Int32))])) t
          refine XS.goto X111.here hx rfl (pc0 := 171) (pc' := 175) rfl (hb hby at_171) (by decide) (by decide) ?_
          show Steps p.tables e below (T111.setTop (mkF m 175 #[.val (.long q0), .second, .val (.long q1), .second, .val (.long q2), .second, .val (.long q3), .second, .val (.int p4), .val (.long (v0_5 q0)), .second, .val (.long (v3_6 q1)), .second, .val (.long (v0_9 q0 q2 p4)), .second, .val (.long (v0_14 q1 q3 p4)), .second, .val (.int (v0_15 p4)), .val (.ref b17), .val (.ref b34), .val (.ref b97), .val (.int (0 : Int32)), .unset] [(.int (1 : Int32))])) t
          refine XS.istore X111.here hx rfl (hb hby at_175) rfl (l' := #[.val (.long q0), .second, .val (.long q1), .second, .val (.long q2), .second, .val (.long q3), .second, .val (.int p4), .val (.long (v0_5 q0)), .second, .val (.long (v3_6 q1)), .second, .val (.long (v0_9 q0 q2 p4)), .second, .val (.long (v0_14 q1 q3 p4)), .second, .val (.int (v0_15 p4)), .val (.ref b17), .val (.ref b34), .val (.ref b97), .val (.int (0 : Int32)), .val (.int (1 : Int32))]) rfl ?_
          show Steps p.tables e below (T111.setTop (mkF m 177 #[.val (.long q0), .second, .val (.long q1), .second, .val (.long q2), .second, .val (.long q3), .second, .val (.int p4), .val (.long (v0_5 q0)), .second, .val (.long (v3_6 q1)), .second, .val (.long (v0_9 q0 q2 p4)), .second, .val (.long (v0_14 q1 q3 p4)), .second, .val (.int (v0_15 p4)), .val (.ref b17), .val (.ref b34), .val (.ref b97), .val (.int (0 : Int32)), .val (.int (1 : Int32))] [])) t
          refine XS.iload X111.here hx rfl (hb hby at_177) rfl ?_
          show Steps p.tables e below (T111.setTop (mkF m 179 #[.val (.long q0), .second, .val (.long q1), .second, .val (.long q2), .second, .val (.long q3), .second, .val (.int p4), .val (.long (v0_5 q0)), .second, .val (.long (v3_6 q1)), .second, .val (.long (v0_9 q0 q2 p4)), .second, .val (.long (v0_14 q1 q3 p4)), .second, .val (.int (v0_15 p4)), .val (.ref b17), .val (.ref b34), .val (.ref b97), .val (.int (0 : Int32)), .val (.int (1 : Int32))] [(.int (v0_15 p4))])) t
          refine XS.ifYes X111.here hx rfl (pc0 := 179) (pc' := 206) rfl (hb hby at_179) rfl (XT.i0_ne_t hs60) (by decide) (by decide) ?_
          show Steps p.tables e below (T111.setTop (mkF m 206 #[.val (.long q0), .second, .val (.long q1), .second, .val (.long q2), .second, .val (.long q3), .second, .val (.int p4), .val (.long (v0_5 q0)), .second, .val (.long (v3_6 q1)), .second, .val (.long (v0_9 q0 q2 p4)), .second, .val (.long (v0_14 q1 q3 p4)), .second, .val (.int (v0_15 p4)), .val (.ref b17), .val (.ref b34), .val (.ref b97), .val (.int (0 : Int32)), .val (.int (1 : Int32))] [])) t
          refine XS.iload X111.here hx rfl (hb hby at_206) rfl ?_
          show Steps p.tables e below (T111.setTop (mkF m 208 #[.val (.long q0), .second, .val (.long q1), .second, .val (.long q2), .second, .val (.long q3), .second, .val (.int p4), .val (.long (v0_5 q0)), .second, .val (.long (v3_6 q1)), .second, .val (.long (v0_9 q0 q2 p4)), .second, .val (.long (v0_14 q1 q3 p4)), .second, .val (.int (v0_15 p4)), .val (.ref b17), .val (.ref b34), .val (.ref b97), .val (.int (0 : Int32)), .val (.int (1 : Int32))] [(.int (1 : Int32))])) t
          exact k
        obtain ⟨fs, hr, hrun, hended, hW, hsame⟩ := X111.leave (v := some (.int (1 : Int32))) (fun h => by rw [Bd.returns] at h; cases h)
        refine ⟨_, _, go113 _ (Jvm.RoadKit.retOut X111 hx Bd.returns rfl (Or.inl ⟨rfl, Or.inr (Or.inl rfl), _, rfl⟩) (hb hby at_208) hr), hrun, hended, _, _, rfl, ?_, ⟨_, rfl⟩, hW, hsame.mono (by decide) (by decide)⟩
        show Q0 _ _ q0 q1 q2 q3 p4 s_cache cc h0 _ (T111.setFrames fs).heap _
        have hE : (T111.setFrames fs).heap = T97.heap := e111
        rw [hE]
        exact ⟨congrArg (fun z => some (Value.int z)) ((by rw [f0, if_neg hs60, if_neg hs89, if_pos hs95] : (1 : Int32) = (f0 q0 q1 q2 q3 p4)).trans (f0_one q0 q1 q2 q3 p4)), N111⟩
      · have go114 : ∀ t, Steps p.tables e below (T49.setTop (mkF m 162 #[.val (.long q0), .second, .val (.long q1), .second, .val (.long q2), .second, .val (.long q3), .second, .val (.int p4), .val (.long (v0_5 q0)), .second, .val (.long (v3_6 q1)), .second, .val (.long (v0_9 q0 q2 p4)), .second, .val (.long (v0_14 q1 q3 p4)), .second, .val (.int (v0_15 p4)), .val (.ref b17), .val (.ref b34), .val (.ref b17), .val (.int (1 : Int32)), .unset] [(.ref b17), (.ref b17)])) t → Steps p.tables e below (s₁.setTop (entryFrame m #[(.long q0), (.long q1), (.long q2), (.long q3), (.int p4)] maxLocals)) t := by
          intro t k
          refine go94 _ ?_
          refine XS.icmpYes X49.here hx rfl (pc0 := 135) (pc' := 151) rfl (hb hby at_135) rfl (XT.ii_ne_t hs95) (by decide) (by decide) ?_
          show Steps p.tables e below (T49.setTop (mkF m 151 #[.val (.long q0), .second, .val (.long q1), .second, .val (.long q2), .second, .val (.long q3), .second, .val (.int p4), .val (.long (v0_5 q0)), .second, .val (.long (v3_6 q1)), .second, .val (.long (v0_9 q0 q2 p4)), .second, .val (.long (v0_14 q1 q3 p4)), .second, .val (.int (v0_15 p4)), .val (.ref b17), .val (.ref b34), .unset, .unset, .unset] [])) t
          refine XS.aload X49.here hx rfl (hb hby at_151) rfl rfl ?_
          show Steps p.tables e below (T49.setTop (mkF m 153 #[.val (.long q0), .second, .val (.long q1), .second, .val (.long q2), .second, .val (.long q3), .second, .val (.int p4), .val (.long (v0_5 q0)), .second, .val (.long (v3_6 q1)), .second, .val (.long (v0_9 q0 q2 p4)), .second, .val (.long (v0_14 q1 q3 p4)), .second, .val (.int (v0_15 p4)), .val (.ref b17), .val (.ref b34), .unset, .unset, .unset] [(.ref b17)])) t
          refine XS.astore X49.here hx rfl (hb hby at_153) rfl rfl (l' := #[.val (.long q0), .second, .val (.long q1), .second, .val (.long q2), .second, .val (.long q3), .second, .val (.int p4), .val (.long (v0_5 q0)), .second, .val (.long (v3_6 q1)), .second, .val (.long (v0_9 q0 q2 p4)), .second, .val (.long (v0_14 q1 q3 p4)), .second, .val (.int (v0_15 p4)), .val (.ref b17), .val (.ref b34), .val (.ref b17), .unset, .unset]) rfl ?_
          show Steps p.tables e below (T49.setTop (mkF m 155 #[.val (.long q0), .second, .val (.long q1), .second, .val (.long q2), .second, .val (.long q3), .second, .val (.int p4), .val (.long (v0_5 q0)), .second, .val (.long (v3_6 q1)), .second, .val (.long (v0_9 q0 q2 p4)), .second, .val (.long (v0_14 q1 q3 p4)), .second, .val (.int (v0_15 p4)), .val (.ref b17), .val (.ref b34), .val (.ref b17), .unset, .unset] [])) t
          refine XS.iconst X49.here hx rfl (hb hby at_155) ?_
          show Steps p.tables e below (T49.setTop (mkF m 156 #[.val (.long q0), .second, .val (.long q1), .second, .val (.long q2), .second, .val (.long q3), .second, .val (.int p4), .val (.long (v0_5 q0)), .second, .val (.long (v3_6 q1)), .second, .val (.long (v0_9 q0 q2 p4)), .second, .val (.long (v0_14 q1 q3 p4)), .second, .val (.int (v0_15 p4)), .val (.ref b17), .val (.ref b34), .val (.ref b17), .unset, .unset] [(.int (1 : Int32))])) t
          refine XS.istore X49.here hx rfl (hb hby at_156) rfl (l' := #[.val (.long q0), .second, .val (.long q1), .second, .val (.long q2), .second, .val (.long q3), .second, .val (.int p4), .val (.long (v0_5 q0)), .second, .val (.long (v3_6 q1)), .second, .val (.long (v0_9 q0 q2 p4)), .second, .val (.long (v0_14 q1 q3 p4)), .second, .val (.int (v0_15 p4)), .val (.ref b17), .val (.ref b34), .val (.ref b17), .val (.int (1 : Int32)), .unset]) rfl ?_
          show Steps p.tables e below (T49.setTop (mkF m 158 #[.val (.long q0), .second, .val (.long q1), .second, .val (.long q2), .second, .val (.long q3), .second, .val (.int p4), .val (.long (v0_5 q0)), .second, .val (.long (v3_6 q1)), .second, .val (.long (v0_9 q0 q2 p4)), .second, .val (.long (v0_14 q1 q3 p4)), .second, .val (.int (v0_15 p4)), .val (.ref b17), .val (.ref b34), .val (.ref b17), .val (.int (1 : Int32)), .unset] [])) t
          refine XS.aload X49.here hx rfl (hb hby at_158) rfl rfl ?_
          show Steps p.tables e below (T49.setTop (mkF m 160 #[.val (.long q0), .second, .val (.long q1), .second, .val (.long q2), .second, .val (.long q3), .second, .val (.int p4), .val (.long (v0_5 q0)), .second, .val (.long (v3_6 q1)), .second, .val (.long (v0_9 q0 q2 p4)), .second, .val (.long (v0_14 q1 q3 p4)), .second, .val (.int (v0_15 p4)), .val (.ref b17), .val (.ref b34), .val (.ref b17), .val (.int (1 : Int32)), .unset] [(.ref b17)])) t
          refine XS.aload X49.here hx rfl (hb hby at_160) rfl rfl ?_
          show Steps p.tables e below (T49.setTop (mkF m 162 #[.val (.long q0), .second, .val (.long q1), .second, .val (.long q2), .second, .val (.long q3), .second, .val (.int p4), .val (.long (v0_5 q0)), .second, .val (.long (v3_6 q1)), .second, .val (.long (v0_9 q0 q2 p4)), .second, .val (.long (v0_14 q1 q3 p4)), .second, .val (.int (v0_15 p4)), .val (.ref b17), .val (.ref b34), .val (.ref b17), .val (.int (1 : Int32)), .unset] [(.ref b17), (.ref b17)])) t
          exact k
        obtain ⟨cq115, kq115, q115a, q115b, q115c⟩ := isOf hZ rfl F53
        obtain ⟨_, _, ⟨T115, L115, k115, n115⟩, -, X115, ⟨Lc115, hQ115, l115, y115, z115⟩, st115⟩ := X49.virtualBack hx (y := (⟨"com/example/weir/weir/Window", "equals", "(Ljava/lang/Object;)Z"⟩ : MethodName)) (z := (⟨"com/example/weir/weir/Window", "equals", "(Ljava/lang/Object;)Z"⟩ : MethodName)) hown (mvT hZ (hw _ (List.mem_of_getElem? (i := 31) rfl))) (mvT hZ (hw _ (List.mem_of_getElem? (i := 32) rfl))) (notFace_of_selects (args := #[]) (mvT hZ (hw _ (List.mem_of_getElem? (i := 34) rfl)))) (mvT hZ (hw _ (List.mem_of_getElem? (i := 34) rfl))) (mvT hZ (hw _ (List.mem_of_getElem? (i := 33) rfl))) (by decide) (backOf (W := 0) (rmeqW l Z aZ hw [] b17 b17 (v0_5 q0) (v3_6 q1) (v0_5 q0) (v3_6 q1) T49.heap n0 Zs49 F54 F55 F53 F54 F55) hZ (hw _ (List.mem_of_getElem? (i := 35) rfl)) (hw _ (List.mem_of_getElem? (i := 15) rfl)) (by decide) (by decide)) q115a q115c (g := (mkF m 162 #[.val (.long q0), .second, .val (.long q1), .second, .val (.long q2), .second, .val (.long q3), .second, .val (.int p4), .val (.long (v0_5 q0)), .second, .val (.long (v3_6 q1)), .second, .val (.long (v0_9 q0 q2 p4)), .second, .val (.long (v0_14 q1 q3 p4)), .second, .val (.int (v0_15 p4)), .val (.ref b17), .val (.ref b34), .val (.ref b17), .val (.int (1 : Int32)), .unset] [(.ref b17), (.ref b17)])) rfl (by rw [hml]; rfl) (Steps.refl _) (argsL := [(.ref b17)]) (rest := []) (lenOf pd_197 rfl) rfl (by show 2 * 0 + _ ≤ _; exact Nat.le_of_eq rfl) (hb hby at_162) (fun _ _ => ⟨rfl, rfl, (by decide : 2 + 0 ≤ _), (by decide : 6 + 0 ≤ _)⟩)
        dsimp only [Pt.U, Pt.locs, Pt.cells, Pt.slots] at X115 l115 y115 z115 st115 hQ115
        subst l115 y115 z115
        obtain ⟨rfl, N115q, e115⟩ := hQ115
        have N115 := Fr.app N49 N115q
        have go116 : ∀ t, Steps p.tables e below (T115.setTop (mkF m 165 #[.val (.long q0), .second, .val (.long q1), .second, .val (.long q2), .second, .val (.long q3), .second, .val (.int p4), .val (.long (v0_5 q0)), .second, .val (.long (v3_6 q1)), .second, .val (.long (v0_9 q0 q2 p4)), .second, .val (.long (v0_14 q1 q3 p4)), .second, .val (.int (v0_15 p4)), .val (.ref b17), .val (.ref b34), .val (.ref b17), .val (.int (1 : Int32)), .unset] [(.int (feqW (v0_5 q0) (v3_6 q1) (v0_5 q0) (v3_6 q1)))])) t → Steps p.tables e below (s₁.setTop (entryFrame m #[(.long q0), (.long q1), (.long q2), (.long q3), (.int p4)] maxLocals)) t := fun t k => go114 _ (st115.trans k)
        have go118 : ∀ t, Steps p.tables e below (T115.setTop (mkF m 175 #[.val (.long q0), .second, .val (.long q1), .second, .val (.long q2), .second, .val (.long q3), .second, .val (.int p4), .val (.long (v0_5 q0)), .second, .val (.long (v3_6 q1)), .second, .val (.long (v0_9 q0 q2 p4)), .second, .val (.long (v0_14 q1 q3 p4)), .second, .val (.int (v0_15 p4)), .val (.ref b17), .val (.ref b34), .val (.ref b17), .val (.int (1 : Int32)), .unset] [(.int (b0_119 q0 q1))])) t → Steps p.tables e below (s₁.setTop (entryFrame m #[(.long q0), (.long q1), (.long q2), (.long q3), (.int p4)] maxLocals)) t := by
          intro t k
          refine go116 _ ?_
          refine XS.iload X115.here hx rfl (hb hby at_165) rfl ?_
          show Steps p.tables e below (T115.setTop (mkF m 167 #[.val (.long q0), .second, .val (.long q1), .second, .val (.long q2), .second, .val (.long q3), .second, .val (.int p4), .val (.long (v0_5 q0)), .second, .val (.long (v3_6 q1)), .second, .val (.long (v0_9 q0 q2 p4)), .second, .val (.long (v0_14 q1 q3 p4)), .second, .val (.int (v0_15 p4)), .val (.ref b17), .val (.ref b34), .val (.ref b17), .val (.int (1 : Int32)), .unset] [(.int (1 : Int32)), (.int (feqW (v0_5 q0) (v3_6 q1) (v0_5 q0) (v3_6 q1)))])) t
          by_cases hc117 : (feqW (v0_5 q0) (v3_6 q1) (v0_5 q0) (v3_6 q1)) = (1 : Int32)
          · refine XS.icmpNo X115.here hx rfl (hb hby at_167) rfl (XT.ii_ne_f hc117) ?_
            show Steps p.tables e below (T115.setTop (mkF m 170 #[.val (.long q0), .second, .val (.long q1), .second, .val (.long q2), .second, .val (.long q3), .second, .val (.int p4), .val (.long (v0_5 q0)), .second, .val (.long (v3_6 q1)), .second, .val (.long (v0_9 q0 q2 p4)), .second, .val (.long (v0_14 q1 q3 p4)), .second, .val (.int (v0_15 p4)), .val (.ref b17), .val (.ref b34), .val (.ref b17), .val (.int (1 : Int32)), .unset] [])) t
            refine XS.iconst X115.here hx rfl (hb hby at_170) ?_
            show Steps p.tables e below (T115.setTop (mkF m 171 #[.val (.long q0), .second, .val (.long q1), .second, .val (.long q2), .second, .val (.long q3), .second, .val (.int p4), .val (.long (v0_5 q0)), .second, .val (.long (v3_6 q1)), .second, .val (.long (v0_9 q0 q2 p4)), .second, .val (.long (v0_14 q1 q3 p4)), .second, .val (.int (v0_15 p4)), .val (.ref b17), .val (.ref b34), .val (.ref b17), .val (.int (1 : Int32)), .unset] [(.int (1 : Int32))])) t
            refine XS.goto X115.here hx rfl (pc0 := 171) (pc' := 175) rfl (hb hby at_171) (by decide) (by decide) ?_
            show Steps p.tables e below (T115.setTop (mkF m 175 #[.val (.long q0), .second, .val (.long q1), .second, .val (.long q2), .second, .val (.long q3), .second, .val (.int p4), .val (.long (v0_5 q0)), .second, .val (.long (v3_6 q1)), .second, .val (.long (v0_9 q0 q2 p4)), .second, .val (.long (v0_14 q1 q3 p4)), .second, .val (.int (v0_15 p4)), .val (.ref b17), .val (.ref b34), .val (.ref b17), .val (.int (1 : Int32)), .unset] [(.int (1 : Int32))])) t
            have hq120 : (b0_119 q0 q1) = (1 : Int32) := by rw [b0_119, if_pos hc117]
            rw [hq120] at k
            exact k
          · refine XS.icmpYes X115.here hx rfl (pc0 := 167) (pc' := 174) rfl (hb hby at_167) rfl (XT.ii_ne_t hc117) (by decide) (by decide) ?_
            show Steps p.tables e below (T115.setTop (mkF m 174 #[.val (.long q0), .second, .val (.long q1), .second, .val (.long q2), .second, .val (.long q3), .second, .val (.int p4), .val (.long (v0_5 q0)), .second, .val (.long (v3_6 q1)), .second, .val (.long (v0_9 q0 q2 p4)), .second, .val (.long (v0_14 q1 q3 p4)), .second, .val (.int (v0_15 p4)), .val (.ref b17), .val (.ref b34), .val (.ref b17), .val (.int (1 : Int32)), .unset] [])) t
            refine XS.iconst X115.here hx rfl (hb hby at_174) ?_
            show Steps p.tables e below (T115.setTop (mkF m 175 #[.val (.long q0), .second, .val (.long q1), .second, .val (.long q2), .second, .val (.long q3), .second, .val (.int p4), .val (.long (v0_5 q0)), .second, .val (.long (v3_6 q1)), .second, .val (.long (v0_9 q0 q2 p4)), .second, .val (.long (v0_14 q1 q3 p4)), .second, .val (.int (v0_15 p4)), .val (.ref b17), .val (.ref b34), .val (.ref b17), .val (.int (1 : Int32)), .unset] [(.int (0 : Int32))])) t
            have hq121 : (b0_119 q0 q1) = (0 : Int32) := by rw [b0_119, if_neg hc117]
            rw [hq121] at k
            exact k
        have go122 : ∀ t, Steps p.tables e below (T115.setTop (mkF m 208 #[.val (.long q0), .second, .val (.long q1), .second, .val (.long q2), .second, .val (.long q3), .second, .val (.int p4), .val (.long (v0_5 q0)), .second, .val (.long (v3_6 q1)), .second, .val (.long (v0_9 q0 q2 p4)), .second, .val (.long (v0_14 q1 q3 p4)), .second, .val (.int (v0_15 p4)), .val (.ref b17), .val (.ref b34), .val (.ref b17), .val (.int (1 : Int32)), .val (.int (b0_119 q0 q1))] [(.int (b0_119 q0 q1))])) t → Steps p.tables e below (s₁.setTop (entryFrame m #[(.long q0), (.long q1), (.long q2), (.long q3), (.int p4)] maxLocals)) t := by
          intro t k
          refine go118 _ ?_
          refine XS.istore X115.here hx rfl (hb hby at_175) rfl (l' := #[.val (.long q0), .second, .val (.long q1), .second, .val (.long q2), .second, .val (.long q3), .second, .val (.int p4), .val (.long (v0_5 q0)), .second, .val (.long (v3_6 q1)), .second, .val (.long (v0_9 q0 q2 p4)), .second, .val (.long (v0_14 q1 q3 p4)), .second, .val (.int (v0_15 p4)), .val (.ref b17), .val (.ref b34), .val (.ref b17), .val (.int (1 : Int32)), .val (.int (b0_119 q0 q1))]) rfl ?_
          show Steps p.tables e below (T115.setTop (mkF m 177 #[.val (.long q0), .second, .val (.long q1), .second, .val (.long q2), .second, .val (.long q3), .second, .val (.int p4), .val (.long (v0_5 q0)), .second, .val (.long (v3_6 q1)), .second, .val (.long (v0_9 q0 q2 p4)), .second, .val (.long (v0_14 q1 q3 p4)), .second, .val (.int (v0_15 p4)), .val (.ref b17), .val (.ref b34), .val (.ref b17), .val (.int (1 : Int32)), .val (.int (b0_119 q0 q1))] [])) t
          refine XS.iload X115.here hx rfl (hb hby at_177) rfl ?_
          show Steps p.tables e below (T115.setTop (mkF m 179 #[.val (.long q0), .second, .val (.long q1), .second, .val (.long q2), .second, .val (.long q3), .second, .val (.int p4), .val (.long (v0_5 q0)), .second, .val (.long (v3_6 q1)), .second, .val (.long (v0_9 q0 q2 p4)), .second, .val (.long (v0_14 q1 q3 p4)), .second, .val (.int (v0_15 p4)), .val (.ref b17), .val (.ref b34), .val (.ref b17), .val (.int (1 : Int32)), .val (.int (b0_119 q0 q1))] [(.int (v0_15 p4))])) t
          refine XS.ifYes X115.here hx rfl (pc0 := 179) (pc' := 206) rfl (hb hby at_179) rfl (XT.i0_ne_t hs60) (by decide) (by decide) ?_
          show Steps p.tables e below (T115.setTop (mkF m 206 #[.val (.long q0), .second, .val (.long q1), .second, .val (.long q2), .second, .val (.long q3), .second, .val (.int p4), .val (.long (v0_5 q0)), .second, .val (.long (v3_6 q1)), .second, .val (.long (v0_9 q0 q2 p4)), .second, .val (.long (v0_14 q1 q3 p4)), .second, .val (.int (v0_15 p4)), .val (.ref b17), .val (.ref b34), .val (.ref b17), .val (.int (1 : Int32)), .val (.int (b0_119 q0 q1))] [])) t
          refine XS.iload X115.here hx rfl (hb hby at_206) rfl ?_
          show Steps p.tables e below (T115.setTop (mkF m 208 #[.val (.long q0), .second, .val (.long q1), .second, .val (.long q2), .second, .val (.long q3), .second, .val (.int p4), .val (.long (v0_5 q0)), .second, .val (.long (v3_6 q1)), .second, .val (.long (v0_9 q0 q2 p4)), .second, .val (.long (v0_14 q1 q3 p4)), .second, .val (.int (v0_15 p4)), .val (.ref b17), .val (.ref b34), .val (.ref b17), .val (.int (1 : Int32)), .val (.int (b0_119 q0 q1))] [(.int (b0_119 q0 q1))])) t
          exact k
        obtain ⟨fs, hr, hrun, hended, hW, hsame⟩ := X115.leave (v := some (.int (b0_119 q0 q1))) (fun h => by rw [Bd.returns] at h; cases h)
        refine ⟨_, _, go122 _ (Jvm.RoadKit.retOut X115 hx Bd.returns (own_nz (by unfold b0_119; (repeat' split) <;> first | exact Or.inl rfl | exact Or.inr rfl)) (Or.inl ⟨rfl, Or.inr (Or.inl rfl), _, rfl⟩) (hb hby at_208) hr), hrun, hended, _, _, rfl, ?_, ⟨_, rfl⟩, hW, hsame.mono (by decide) (by decide)⟩
        show Q0 _ _ q0 q1 q2 q3 p4 s_cache cc h0 _ (T115.setFrames fs).heap _
        have hE : (T115.setFrames fs).heap = T49.heap := e115
        rw [hE]
        exact ⟨congrArg (fun z => some (Value.int z)) ((by rw [f0, if_neg hs60, if_neg hs89, if_neg hs95] : (b0_119 q0 q1) = (f0 q0 q1 q2 q3 p4)).trans (f0_one q0 q1 q2 q3 p4)), N115⟩
set_option maxRecDepth 65536 in
set_option maxHeartbeats 40000000 in
theorem comes_1 {Post : Tables → Env → Array Value → State → Outcome → State → Prop} (hpost : ∀ tb e args s v u, (limb_1_1.after args s (.returned v) u = true ∧ limb_1_2.after args s (.returned v) u = true ∧ True) → FrameEnd s (.returned v) u (Jvm.fieldLocs frame_1_writes args s ++ Jvm.arrayLocs frame_1_arrays args s ++ Jvm.staticLocs frame_1_statics s) 16 128 → Post tb e args s (.returned v) u) :
    ArmFor flags0 classFile x code maxLocals ret World_1 tables_1 room_1 Calls_1 rest_1 Pre_1 Post := by
  intro l hfl _ _ p e ha hc hk s m args below hf hA hF happ hP
  obtain ⟨hcalls, hrest, hpre⟩ := hP
  obtain ⟨-, -, -, hnamed, -, -, -, hat⟩ := (Spec.applies_iff hf).mp happ
  obtain ⟨hg, hn⟩ := and_e (Cond.before_iff.mp (show (Jvm.Cond.and given_1 narrow_1).before args s = true from hpre))
  obtain ⟨hcount, hg1⟩ := and_e hg
  obtain ⟨ha0, hb0⟩ := and_e hg1
  obtain ⟨ha1, hb1⟩ := and_e hb0
  obtain ⟨ha2, hb2⟩ := and_e hb1
  obtain ⟨ha3, hb3⟩ := and_e hb2
  obtain ⟨w0, w1, w2, w3, w4, rfl⟩ : ∃ w0 w1 w2 w3 w4 : Value, args = #[w0, w1, w2, w3, w4] := by
    have hs : args.size = 5 := by simpa [Cond.value, given_1] using hcount
    obtain ⟨L⟩ := args
    match L, hs with
    | [w0, w1, w2, w3, w4], _ => exact ⟨w0, w1, w2, w3, w4, rfl⟩
  have hw := fun d (hd : d ∈ tables_1) => atoms_spec (ws := Jvm.Cond.code x code maxLocals ret :: tables_1) hat d (List.mem_cons_of_mem _ hd)
  have hfit : Fit s := fun {y c} hc i hi => by
    obtain ⟨ha, rfl⟩ := Array.getElem?_eq_some_iff.mp hc
    have q := List.all_eq_true.mp ((Array.all_eq_true_iff_forall_mem.mp hF) _ (Array.getElem_mem ha)) i (List.mem_range.mpr hi)
    simpa [Array.getElem?_eq_getElem hi] using q
  obtain ⟨hsets, hown0⟩ := atoms_of _ (rest_1_c_eq ▸ (show rest_1_c.before _ s = true from hrest))
  have hr0 := Cond.before_iff.mp hown0
  obtain ⟨i0, ei0⟩ := isL_v ha0
  obtain rfl : w0 = (.long i0) := Option.some.inj ei0
  obtain ⟨i1, ei1⟩ := isL_v ha1
  obtain rfl : w1 = (.long i1) := Option.some.inj ei1
  obtain ⟨i2, ei2⟩ := isL_v ha2
  obtain rfl : w2 = (.long i2) := Option.some.inj ei2
  obtain ⟨i3, ei3⟩ := isL_v ha3
  obtain rfl : w3 = (.long i3) := Option.some.inj ei3
  obtain ⟨i4, ei4⟩ := is_v hb3
  obtain rfl : w4 = (.int i4) := Option.some.inj ei4
  obtain ⟨xc, evc⟩ := arr_v (Cond.before_iff.mp (hsets _ (List.mem_of_getElem? (i := 2) rfl)))
  obtain ⟨cc, A_cache⟩ := Arr.start evc (Cond.before_iff.mp (hsets _ (List.mem_of_getElem? (i := 2) rfl)))
  obtain ⟨ltc, lec⟩ := own_len (own_eqi (Cond.before_iff.mp (hsets _ (List.mem_of_getElem? (i := 4) rfl)))) evc A_cache
  have Sz_cache : cc.slots.size = 256 := by
    have q := congrArg Int32.toInt lec
    rw [len_toInt ltc] at q
    have q2 : (256 : Int32).toInt = 256 := rfl
    omega
  have S_cache : Sta s s.heap "java/lang/Long$LongCache" "cache" "[Ljava/lang/Long;" (.ref xc) := Sta.start evc (Or.inl (hsets _ (List.mem_of_getElem? (i := 1) rfl)))
  have C_cache : LCache s s.heap cc := own_cache evc A_cache (fun _ => rfl) ltc (Cond.before_iff.mp (hsets _ (List.mem_of_getElem? (i := 5) rfl)))
  have hno : ∃ c t, s.vm.findClass "java/lang/Long" = some c ∧ s.vm.findClass "com/example/weir/weir/Window" = some t ∧ s.vm.assignable c t = false := own_ns_no (hw _ (List.mem_of_getElem? (i := 61) rfl)) (hw _ (List.mem_of_getElem? (i := 14) rfl)) (NS.step (hw _ (List.mem_of_getElem? (i := 61) rfl)) (NS.step (hw _ (List.mem_of_getElem? (i := 62) rfl)) (own_ns_root (hw _ (List.mem_of_getElem? (i := 63) rfl)) (hw _ (List.mem_of_getElem? (i := 14) rfl)) (by decide)) (by decide)) (by decide)) (by decide)
  obtain ⟨n, o, h1, h2, h3, _, L, rfl, ⟨rfl, N⟩, hq⟩ := rm0 l s _ hw tables_1 i0 i1 i2 i3 i4 xc cc s.heap s.heap.size (Nat.le_refl _) S_cache A_cache Sz_cache C_cache hno p e ha hc hk s m _ below hf ((Spec.applies_iff_loose hf).mp happ).1 ⟨rfl, State.Warmed39.refl s, rfl⟩ trivial
  refine ⟨n, _, h1, h2, h3, hpost _ _ _ _ _ _ ⟨Cond.after_iff.mpr rfl, Cond.after_iff.mpr (eq_i res_at (Term.int_eval (1)) rfl), trivial⟩ ⟨hq.1, hq.2.1, (hq.2.2.sift fun y hy => Or.inr (N y hy)).mono (by decide) (by decide)⟩⟩
theorem main_1_1 : Claimed_1_1 := comes_1 fun _ _ _ _ _ _ h hF => ⟨h.1, hF⟩
theorem main_1_2 : Claimed_1_2 := comes_1 fun _ _ _ _ _ _ h hF => ⟨h.2.1, hF⟩
end Jvm.Pilot.@@N@@
namespace Jvm.Pilot.@@N@@
open Jvm Jvm.ClassFile Sem Op Lib Jvm.Free Jvm.Stand Jvm.Pilot.@@N@@.Jvm.D
/-! MADE BY PROGRAM (witnessworld.py) out of the Statement's table words and the real class files: 17 classes; the members and pool entries that the words name. The judged class is class 1, her method 3. -/
namespace start1
open Jvm.ClassFile
def u (s : String) : CpInfo := .utf8 (stringToUtf16 s)
/-- a pool by its gaps: so many unusable entries, then the entry; so many at the end -/
def gap : Nat → List CpInfo → List CpInfo
  | 0, r => r
  | n + 1, r => .unusable :: gap n r
def poolList (es : List (Nat × CpInfo)) (last : Nat) : List CpInfo := es.foldr (fun e r => gap e.1 (e.2 :: r)) (gap last [])
def pool (es : List (Nat × CpInfo)) (last : Nat) : Array CpInfo := ⟨poolList es last⟩
def fileOf (pool : Array CpInfo) (this : Nat) (attrs : Array Attribute := #[]) (ms : Array MethodInfo := #[]) (fl : Nat := 33) (sup : Nat := 0) (ifs : Array Nat := #[]) (fds : Array FieldInfo := #[]) : ClassFile where
  minorVersion := 0
  majorVersion := 65
  constantPool := pool
  accessFlags := fl
  thisClass := this
  superClass := sup
  interfaces := ifs
  fields := fds
  methods := ms
  attributes := attrs
def plain (name : String) (sup : Option ClassId) : Class where
  name := name
  kind := .ordinary
  loader := none
  accessFlags := 33
  super := sup
  interfaces := #[]
  cf := none
  fields := #[]
  methods := #[]
  instanceTypes := #[]
  staticTypes := #[]
  resolved := #[]
  callSites := []
  init := .initialized
  statics := none
  mirror := none

def pool0 : Array CpInfo := pool [(5, u "<init>"), (0, u "()V"), (1, .class_ 10), (1, u "java/lang/Object")] 113

def k0c0 : Code := { maxStack := 0, maxLocals := 1, code := object_method_1_code, exceptionTable := #[], attributes := #[] }
def k0m0 : Method := { name := "<init>", desc := "()V", sig := { parameters := [], returnType := none }, accessFlags := 1, code := some k0c0 }
/-- java/lang/Object -/
def k0 : Class := { plain "java/lang/Object" none with
  accessFlags := 33
  interfaces := #[]
  cf := some (fileOf pool0 8 #[] #[{ accessFlags := 1, nameIndex := 5, descriptorIndex := 6, attributes := #[] }] 33 0 #[] #[])
  fields := #[]
  methods := #[k0m0]
  instanceTypes := #[]
  staticTypes := #[]
  resolved := Array.replicate 124 none
  statics := none }

def pool1 : Array CpInfo := pool [(2, .class_ 4), (1, u "java/lang/Object"), (0, u "<init>"), (0, u "()V"), (0, .long 9007199254740991), (1, .methodref 10 11), (0, .class_ 12), (0, .nameAndType 13 14), (0, u "java/lang/Math"), (0, u "max"), (0, u "(JJ)J"), (0, .long 2), (1, .long 1099511627775), (1, .long 1099511627776), (1, .methodref 22 23), (0, .class_ 24), (0, .nameAndType 25 26), (0, u "com/example/weir/weir/WindowEqualsPinLaw"), (0, u "pickLimit"), (0, u "(JJI)J"), (0, .methodref 22 28), (0, .nameAndType 29 26), (0, u "pickWindow"), (0, .class_ 31), (0, u "com/example/weir/weir/Window"), (0, .methodref 30 33), (0, .nameAndType 5 34), (0, u "(JJ)V"), (0, .methodref 36 37), (0, .class_ 38), (0, .nameAndType 39 40), (0, u "java/lang/Long"), (0, u "valueOf"), (0, u "(J)Ljava/lang/Long;"), (0, .methodref 30 42), (0, .nameAndType 43 44), (0, u "equals"), (0, u "(Ljava/lang/Object;)Z"), (3, u "law"), (0, u "(JJJJI)Z")] 2

def k1m0 : Method := { name := "<init>", desc := "()V", sig := { parameters := [], returnType := none }, accessFlags := 1, code := none }
def k1c1 : Code := { maxStack := 6, maxLocals := 5, code := method_2_code, exceptionTable := #[], attributes := #[] }
def k1m1 : Method := { name := "pickLimit", desc := "(JJI)J", sig := { parameters := [.long, .long, .int], returnType := some .long }, accessFlags := 10, code := some k1c1 }
def k1c2 : Code := { maxStack := 6, maxLocals := 5, code := method_3_code, exceptionTable := #[], attributes := #[] }
def k1m2 : Method := { name := "pickWindow", desc := "(JJI)J", sig := { parameters := [.long, .long, .int], returnType := some .long }, accessFlags := 10, code := some k1c2 }
def k1c3 : Code := { maxStack := 6, maxLocals := 23, code := code, exceptionTable := #[], attributes := #[] }
def k1m3 : Method := { name := "law", desc := "(JJJJI)Z", sig := { parameters := [.long, .long, .long, .long, .int], returnType := some .boolean }, accessFlags := 9, code := some k1c3 }
/-- com/example/weir/weir/WindowEqualsPinLaw -/
def k1 : Class := { plain "com/example/weir/weir/WindowEqualsPinLaw" (some 0) with
  accessFlags := 49
  interfaces := #[]
  cf := some (fileOf pool1 22 #[] #[{ accessFlags := 1, nameIndex := 5, descriptorIndex := 6, attributes := #[] }, { accessFlags := 10, nameIndex := 25, descriptorIndex := 26, attributes := #[] }, { accessFlags := 10, nameIndex := 29, descriptorIndex := 26, attributes := #[] }, { accessFlags := 9, nameIndex := 48, descriptorIndex := 49, attributes := #[] }] 49 2 #[] #[])
  fields := #[]
  methods := #[k1m0, k1m1, k1m2, k1m3]
  instanceTypes := #[]
  staticTypes := #[]
  resolved := Array.replicate 52 none
  statics := none }

def pool2 : Array CpInfo := pool [(1, .class_ 2), (0, u "java/lang/Math"), (1, .class_ 6), (1, u "java/lang/Object"), (0, u "<init>"), (0, u "()V"), (89, .class_ 100), (1, u "java/lang/Math$RandomNumberGeneratorHolder"), (20, u "(JJ)J"), (50, u "negativeZeroFloatBits"), (0, u "J"), (2, u "negativeZeroDoubleBits"), (21, u "max"), (46, u "$assertionsDisabled"), (0, u "Z"), (91, u "twoToTheDoubleScaleDown"), (0, u "D"), (4, u "twoToTheDoubleScaleUp"), (9, u "E"), (3, u "PI"), (2, u "TAU"), (2, u "DEGREES_TO_RADIANS"), (0, u "RADIANS_TO_DEGREES")] 94

def k2m0 : Method := { name := "<init>", desc := "()V", sig := { parameters := [], returnType := none }, accessFlags := 2, code := none }
def k2c1 : Code := { maxStack := 4, maxLocals := 4, code := jdk_29_method_66_code, exceptionTable := #[], attributes := #[] }
def k2m1 : Method := { name := "max", desc := "(JJ)J", sig := { parameters := [.long, .long], returnType := some .long }, accessFlags := 9, code := some k2c1 }
/-- java/lang/Math -/
def k2 : Class := { plain "java/lang/Math" (some 0) with
  accessFlags := 49
  interfaces := #[]
  cf := some (fileOf pool2 1 #[.nestMembers #[98]] #[{ accessFlags := 2, nameIndex := 7, descriptorIndex := 8, attributes := #[] }, { accessFlags := 9, nameIndex := 198, descriptorIndex := 121, attributes := #[] }] 49 4 #[] #[{ accessFlags := 25, nameIndex := 354, descriptorIndex := 339, attributes := #[] }, { accessFlags := 25, nameIndex := 358, descriptorIndex := 339, attributes := #[] }, { accessFlags := 25, nameIndex := 361, descriptorIndex := 339, attributes := #[] }, { accessFlags := 26, nameIndex := 364, descriptorIndex := 339, attributes := #[] }, { accessFlags := 26, nameIndex := 365, descriptorIndex := 339, attributes := #[] }, { accessFlags := 26, nameIndex := 172, descriptorIndex := 173, attributes := #[] }, { accessFlags := 26, nameIndex := 176, descriptorIndex := 173, attributes := #[] }, { accessFlags := 8, nameIndex := 344, descriptorIndex := 339, attributes := #[] }, { accessFlags := 8, nameIndex := 338, descriptorIndex := 339, attributes := #[] }, { accessFlags := 4120, nameIndex := 245, descriptorIndex := 246, attributes := #[] }])
  fields := #[{ name := "E", type := .double, accessFlags := 25, slot := 0, constantValue := 0 }, { name := "PI", type := .double, accessFlags := 25, slot := 1, constantValue := 0 }, { name := "TAU", type := .double, accessFlags := 25, slot := 2, constantValue := 0 }, { name := "DEGREES_TO_RADIANS", type := .double, accessFlags := 26, slot := 3, constantValue := 0 }, { name := "RADIANS_TO_DEGREES", type := .double, accessFlags := 26, slot := 4, constantValue := 0 }, { name := "negativeZeroFloatBits", type := .long, accessFlags := 26, slot := 5, constantValue := 0 }, { name := "negativeZeroDoubleBits", type := .long, accessFlags := 26, slot := 6, constantValue := 0 }, { name := "twoToTheDoubleScaleUp", type := .double, accessFlags := 8, slot := 7, constantValue := 0 }, { name := "twoToTheDoubleScaleDown", type := .double, accessFlags := 8, slot := 8, constantValue := 0 }, { name := "$assertionsDisabled", type := .boolean, accessFlags := 4120, slot := 9, constantValue := 0 }]
  methods := #[k2m0, k2m1]
  instanceTypes := #[]
  staticTypes := #[.double, .double, .double, .double, .double, .long, .long, .double, .double, .boolean]
  resolved := Array.replicate 460 none
  statics := none }

def pool3 : Array CpInfo := pool [(1, .methodref 2 3), (0, .class_ 4), (0, .nameAndType 5 6), (0, u "java/lang/Object"), (0, u "<init>"), (0, u "()V"), (0, .class_ 8), (0, u "com/example/weir/weir/Window"), (0, .long 9007199254740991), (10, .long 1099511627776), (2, .fieldref 7 24), (0, .nameAndType 25 26), (0, u "limit"), (0, u "J"), (0, .fieldref 7 28), (0, .nameAndType 29 26), (0, u "windowMillis"), (0, .long 30), (1, .fieldref 7 33), (0, .nameAndType 34 26), (0, u "slotMillis"), (12, u "(JJ)V"), (33, u "MAX_LIMIT"), (1, u "MAX_WINDOW_MILLIS"), (0, u "SLOTS"), (13, u "equals"), (0, u "(Ljava/lang/Object;)Z")] 24

def k3c0 : Code := { maxStack := 5, maxLocals := 5, code := prog_18_method_1_code, exceptionTable := #[], attributes := #[] }
def k3m0 : Method := { name := "<init>", desc := "(JJ)V", sig := { parameters := [.long, .long], returnType := none }, accessFlags := 1, code := some k3c0 }
def k3c1 : Code := { maxStack := 4, maxLocals := 3, code := prog_18_method_12_code, exceptionTable := #[], attributes := #[] }
def k3m1 : Method := { name := "equals", desc := "(Ljava/lang/Object;)Z", sig := { parameters := [(.object "java/lang/Object")], returnType := some .boolean }, accessFlags := 1, code := some k3c1 }
/-- com/example/weir/weir/Window -/
def k3 : Class := { plain "com/example/weir/weir/Window" (some 0) with
  accessFlags := 49
  interfaces := #[]
  cf := some (fileOf pool3 7 #[] #[{ accessFlags := 1, nameIndex := 5, descriptorIndex := 47, attributes := #[] }, { accessFlags := 1, nameIndex := 98, descriptorIndex := 99, attributes := #[] }] 49 2 #[] #[{ accessFlags := 26, nameIndex := 81, descriptorIndex := 26, attributes := #[] }, { accessFlags := 26, nameIndex := 83, descriptorIndex := 26, attributes := #[] }, { accessFlags := 26, nameIndex := 84, descriptorIndex := 26, attributes := #[] }, { accessFlags := 18, nameIndex := 25, descriptorIndex := 26, attributes := #[] }, { accessFlags := 18, nameIndex := 29, descriptorIndex := 26, attributes := #[] }, { accessFlags := 18, nameIndex := 34, descriptorIndex := 26, attributes := #[] }])
  fields := #[{ name := "MAX_LIMIT", type := .long, accessFlags := 26, slot := 0, constantValue := 0 }, { name := "MAX_WINDOW_MILLIS", type := .long, accessFlags := 26, slot := 1, constantValue := 0 }, { name := "SLOTS", type := .long, accessFlags := 26, slot := 2, constantValue := 0 }, { name := "limit", type := .long, accessFlags := 18, slot := 0, constantValue := 0 }, { name := "windowMillis", type := .long, accessFlags := 18, slot := 1, constantValue := 0 }, { name := "slotMillis", type := .long, accessFlags := 18, slot := 2, constantValue := 0 }]
  methods := #[k3m0, k3m1]
  instanceTypes := #[.long, .long, .long]
  staticTypes := #[.long, .long, .long]
  resolved := Array.replicate 124 none
  statics := none }

def pool4 : Array CpInfo := pool [(1, .class_ 2), (0, u "java/io/Serializable"), (0, .class_ 4), (0, u "java/lang/Object")] 2

/-- java/io/Serializable -/
def k4 : Class := { plain "java/io/Serializable" (some 0) with
  accessFlags := 1537
  interfaces := #[]
  cf := some (fileOf pool4 1 #[] #[] 1537 3 #[] #[])
  fields := #[]
  methods := #[]
  instanceTypes := #[]
  staticTypes := #[]
  resolved := Array.replicate 7 none
  statics := none }

def pool5 : Array CpInfo := pool [(1, .methodref 2 3), (0, .class_ 4), (0, .nameAndType 5 6), (0, u "java/lang/Object"), (0, u "<init>"), (0, u "()V"), (1, .class_ 10), (1, u "java/lang/Number"), (2, .class_ 14), (0, u "java/io/Serializable"), (0, u "serialVersionUID"), (0, u "J")] 20

def k5c0 : Code := { maxStack := 1, maxLocals := 1, code := jdk_18_method_1_code, exceptionTable := #[], attributes := #[] }
def k5m0 : Method := { name := "<init>", desc := "()V", sig := { parameters := [], returnType := none }, accessFlags := 1, code := some k5c0 }
/-- java/lang/Number -/
def k5 : Class := { plain "java/lang/Number" (some 0) with
  accessFlags := 1057
  interfaces := #[4]
  cf := some (fileOf pool5 8 #[] #[{ accessFlags := 1, nameIndex := 5, descriptorIndex := 6, attributes := #[] }] 1057 2 #[13] #[{ accessFlags := 26, nameIndex := 15, descriptorIndex := 16, attributes := #[] }])
  fields := #[{ name := "serialVersionUID", type := .long, accessFlags := 26, slot := 0, constantValue := 0 }]
  methods := #[k5m0]
  instanceTypes := #[]
  staticTypes := #[.long]
  resolved := Array.replicate 37 none
  statics := none }

def pool6 : Array CpInfo := pool [(1, .class_ 2), (0, u "java/lang/Comparable"), (0, .class_ 4), (0, u "java/lang/Object")] 7

/-- java/lang/Comparable -/
def k6 : Class := { plain "java/lang/Comparable" (some 0) with
  accessFlags := 1537
  interfaces := #[]
  cf := some (fileOf pool6 1 #[] #[] 1537 3 #[] #[])
  fields := #[]
  methods := #[]
  instanceTypes := #[]
  staticTypes := #[]
  resolved := Array.replicate 12 none
  statics := none }

def pool7 : Array CpInfo := pool [(1, .class_ 2), (0, u "java/lang/constant/Constable"), (0, .class_ 4), (0, u "java/lang/Object")] 6

/-- java/lang/constant/Constable -/
def k7 : Class := { plain "java/lang/constant/Constable" (some 0) with
  accessFlags := 1537
  interfaces := #[]
  cf := some (fileOf pool7 1 #[] #[] 1537 3 #[] #[])
  fields := #[]
  methods := #[]
  instanceTypes := #[]
  staticTypes := #[]
  resolved := Array.replicate 11 none
  statics := none }

def pool8 : Array CpInfo := pool [(1, .class_ 2), (0, u "java/lang/constant/ConstantDesc"), (0, .class_ 4), (0, u "java/lang/Object")] 32

/-- java/lang/constant/ConstantDesc -/
def k8 : Class := { plain "java/lang/constant/ConstantDesc" (some 0) with
  accessFlags := 1537
  interfaces := #[]
  cf := some (fileOf pool8 1 #[] #[] 1537 3 #[] #[])
  fields := #[]
  methods := #[]
  instanceTypes := #[]
  staticTypes := #[]
  resolved := Array.replicate 37 none
  statics := none }

def pool9 : Array CpInfo := pool [(1, .class_ 2), (0, u "java/lang/Long"), (55, .nameAndType 59 60), (0, u "<init>"), (0, u "()V"), (24, u "valueOf"), (143, u "(J)Ljava/lang/Long;"), (0, .long 18446744073709551488), (1, .long 127), (1, .fieldref 235 236), (0, .class_ 237), (0, .nameAndType 238 239), (0, u "java/lang/Long$LongCache"), (0, u "cache"), (0, u "[Ljava/lang/Long;"), (0, .methodref 1 241), (0, .nameAndType 59 242), (0, u "(J)V"), (27, .methodref 271 58), (0, .class_ 272), (0, u "java/lang/Number"), (0, .fieldref 1 274), (0, .nameAndType 275 276), (0, u "value"), (0, u "J"), (84, u "TYPE"), (0, u "Ljava/lang/Class;"), (0, .class_ 364), (0, u "java/lang/Comparable"), (0, .class_ 366), (0, u "java/lang/constant/Constable"), (0, .class_ 368), (0, u "java/lang/constant/ConstantDesc"), (0, u "MIN_VALUE"), (1, u "MAX_VALUE"), (4, u "SIZE"), (0, u "I"), (1, u "BYTES"), (1, u "serialVersionUID")] 142

def k9c0 : Code := { maxStack := 4, maxLocals := 3, code := jdk_35_method_24_code, exceptionTable := #[], attributes := #[] }
def k9m0 : Method := { name := "valueOf", desc := "(J)Ljava/lang/Long;", sig := { parameters := [.long], returnType := some (.object "java/lang/Long") }, accessFlags := 9, code := some k9c0 }
def k9c1 : Code := { maxStack := 3, maxLocals := 3, code := jdk_35_method_26_code, exceptionTable := #[], attributes := #[] }
def k9m1 : Method := { name := "<init>", desc := "(J)V", sig := { parameters := [.long], returnType := none }, accessFlags := 1, code := some k9c1 }
/-- java/lang/Long -/
def k9 : Class := { plain "java/lang/Long" (some 5) with
  accessFlags := 49
  interfaces := #[6, 7, 8]
  cf := some (fileOf pool9 1 #[.nestMembers #[235]] #[{ accessFlags := 9, nameIndex := 85, descriptorIndex := 229, attributes := #[] }, { accessFlags := 1, nameIndex := 59, descriptorIndex := 242, attributes := #[] }] 49 271 #[363, 365, 367] #[{ accessFlags := 25, nameIndex := 369, descriptorIndex := 276, attributes := #[] }, { accessFlags := 25, nameIndex := 371, descriptorIndex := 276, attributes := #[] }, { accessFlags := 25, nameIndex := 361, descriptorIndex := 362, attributes := #[] }, { accessFlags := 18, nameIndex := 275, descriptorIndex := 276, attributes := #[] }, { accessFlags := 25, nameIndex := 376, descriptorIndex := 377, attributes := #[] }, { accessFlags := 25, nameIndex := 379, descriptorIndex := 377, attributes := #[] }, { accessFlags := 26, nameIndex := 381, descriptorIndex := 276, attributes := #[] }])
  fields := #[{ name := "MIN_VALUE", type := .long, accessFlags := 25, slot := 0, constantValue := 0 }, { name := "MAX_VALUE", type := .long, accessFlags := 25, slot := 1, constantValue := 0 }, { name := "TYPE", type := (.object "java/lang/Class"), accessFlags := 25, slot := 2, constantValue := 0 }, { name := "value", type := .long, accessFlags := 18, slot := 0, constantValue := 0 }, { name := "SIZE", type := .int, accessFlags := 25, slot := 3, constantValue := 0 }, { name := "BYTES", type := .int, accessFlags := 25, slot := 4, constantValue := 0 }, { name := "serialVersionUID", type := .long, accessFlags := 26, slot := 5, constantValue := 0 }]
  methods := #[k9m0, k9m1]
  instanceTypes := #[.long]
  staticTypes := #[.long, .long, (.object "java/lang/Class"), .int, .int, .long]
  resolved := Array.replicate 524 none
  statics := none }

def pool10 : Array CpInfo := pool [(2, .class_ 4), (1, u "java/lang/Object"), (0, u "<init>"), (0, u "()V"), (0, .class_ 8), (0, u "java/lang/Long"), (7, .class_ 18), (1, u "java/lang/Long$LongCache"), (0, u "$assertionsDisabled"), (0, u "Z"), (8, u "archivedCache"), (0, u "[Ljava/lang/Long;"), (7, u "cache")] 24

def k10m0 : Method := { name := "<init>", desc := "()V", sig := { parameters := [], returnType := none }, accessFlags := 2, code := none }
/-- java/lang/Long$LongCache -/
def k10 : Class := { plain "java/lang/Long$LongCache" (some 0) with
  accessFlags := 48
  interfaces := #[]
  cf := some (fileOf pool10 16 #[.nestHost 7] #[{ accessFlags := 2, nameIndex := 5, descriptorIndex := 6, attributes := #[] }] 48 2 #[] #[{ accessFlags := 24, nameIndex := 38, descriptorIndex := 30, attributes := #[] }, { accessFlags := 8, nameIndex := 29, descriptorIndex := 30, attributes := #[] }, { accessFlags := 4120, nameIndex := 19, descriptorIndex := 20, attributes := #[] }])
  fields := #[{ name := "cache", type := (.array (.object "java/lang/Long")), accessFlags := 24, slot := 0, constantValue := 0 }, { name := "archivedCache", type := (.array (.object "java/lang/Long")), accessFlags := 8, slot := 1, constantValue := 0 }, { name := "$assertionsDisabled", type := .boolean, accessFlags := 4120, slot := 2, constantValue := 0 }]
  methods := #[k10m0]
  instanceTypes := #[]
  staticTypes := #[(.array (.object "java/lang/Long")), (.array (.object "java/lang/Long")), .boolean]
  resolved := Array.replicate 63 none
  statics := some 0 }

def pool11 : Array CpInfo := pool [(1, u "java/lang/Cloneable"), (0, .class_ 1), (0, u "java/lang/Object"), (0, .class_ 3)] 3

/-- java/lang/Cloneable -/
def k11 : Class := { plain "java/lang/Cloneable" (some 0) with
  accessFlags := 1537
  interfaces := #[]
  cf := some (fileOf pool11 2 #[] #[] 1537 4 #[] #[])
  fields := #[]
  methods := #[]
  instanceTypes := #[]
  staticTypes := #[]
  resolved := Array.replicate 8 none
  statics := none }

/-- the primitive byte -/
def k12 : Class := { plain "byte" none with kind := .primitive 'B', accessFlags := 0x411 }
/-- [B -/
def k13 : Class := { plain "[B" (some 0) with kind := .array 12 .byte, interfaces := #[11, 4], accessFlags := 1041 }

/-- the primitive int -/
def k14 : Class := { plain "int" none with kind := .primitive 'I', accessFlags := 0x411 }
/-- [I -/
def k15 : Class := { plain "[I" (some 0) with kind := .array 14 .int, interfaces := #[11, 4], accessFlags := 1041 }

/-- [Ljava/lang/Long; -/
def k16 : Class := { plain "[Ljava/lang/Long;" (some 0) with kind := .array 9 (.object "java/lang/Long"), interfaces := #[11, 4], accessFlags := 1041 }

def heap : Heap := #[{ cls := 10, slots := #[.ref 1, .null, .int 0], vm := .statics 10 },
  { cls := 16, slots := #[.ref 2, .ref 3, .ref 4, .ref 5, .ref 6, .ref 7, .ref 8, .ref 9, .ref 10, .ref 11, .ref 12, .ref 13, .ref 14, .ref 15, .ref 16, .ref 17, .ref 18, .ref 19, .ref 20, .ref 21, .ref 22, .ref 23, .ref 24, .ref 25, .ref 26, .ref 27, .ref 28, .ref 29, .ref 30, .ref 31, .ref 32, .ref 33, .ref 34, .ref 35, .ref 36, .ref 37, .ref 38, .ref 39, .ref 40, .ref 41, .ref 42, .ref 43, .ref 44, .ref 45, .ref 46, .ref 47, .ref 48, .ref 49, .ref 50, .ref 51, .ref 52, .ref 53, .ref 54, .ref 55, .ref 56, .ref 57, .ref 58, .ref 59, .ref 60, .ref 61, .ref 62, .ref 63, .ref 64, .ref 65, .ref 66, .ref 67, .ref 68, .ref 69, .ref 70, .ref 71, .ref 72, .ref 73, .ref 74, .ref 75, .ref 76, .ref 77, .ref 78, .ref 79, .ref 80, .ref 81, .ref 82, .ref 83, .ref 84, .ref 85, .ref 86, .ref 87, .ref 88, .ref 89, .ref 90, .ref 91, .ref 92, .ref 93, .ref 94, .ref 95, .ref 96, .ref 97, .ref 98, .ref 99, .ref 100, .ref 101, .ref 102, .ref 103, .ref 104, .ref 105, .ref 106, .ref 107, .ref 108, .ref 109, .ref 110, .ref 111, .ref 112, .ref 113, .ref 114, .ref 115, .ref 116, .ref 117, .ref 118, .ref 119, .ref 120, .ref 121, .ref 122, .ref 123, .ref 124, .ref 125, .ref 126, .ref 127, .ref 128, .ref 129, .ref 130, .ref 131, .ref 132, .ref 133, .ref 134, .ref 135, .ref 136, .ref 137, .ref 138, .ref 139, .ref 140, .ref 141, .ref 142, .ref 143, .ref 144, .ref 145, .ref 146, .ref 147, .ref 148, .ref 149, .ref 150, .ref 151, .ref 152, .ref 153, .ref 154, .ref 155, .ref 156, .ref 157, .ref 158, .ref 159, .ref 160, .ref 161, .ref 162, .ref 163, .ref 164, .ref 165, .ref 166, .ref 167, .ref 168, .ref 169, .ref 170, .ref 171, .ref 172, .ref 173, .ref 174, .ref 175, .ref 176, .ref 177, .ref 178, .ref 179, .ref 180, .ref 181, .ref 182, .ref 183, .ref 184, .ref 185, .ref 186, .ref 187, .ref 188, .ref 189, .ref 190, .ref 191, .ref 192, .ref 193, .ref 194, .ref 195, .ref 196, .ref 197, .ref 198, .ref 199, .ref 200, .ref 201, .ref 202, .ref 203, .ref 204, .ref 205, .ref 206, .ref 207, .ref 208, .ref 209, .ref 210, .ref 211, .ref 212, .ref 213, .ref 214, .ref 215, .ref 216, .ref 217, .ref 218, .ref 219, .ref 220, .ref 221, .ref 222, .ref 223, .ref 224, .ref 225, .ref 226, .ref 227, .ref 228, .ref 229, .ref 230, .ref 231, .ref 232, .ref 233, .ref 234, .ref 235, .ref 236, .ref 237, .ref 238, .ref 239, .ref 240, .ref 241, .ref 242, .ref 243, .ref 244, .ref 245, .ref 246, .ref 247, .ref 248, .ref 249, .ref 250, .ref 251, .ref 252, .ref 253, .ref 254, .ref 255, .ref 256, .ref 257], vm := .none },
  { cls := 9, slots := #[.long (-128)], vm := .none },
  { cls := 9, slots := #[.long (-127)], vm := .none },
  { cls := 9, slots := #[.long (-126)], vm := .none },
  { cls := 9, slots := #[.long (-125)], vm := .none },
  { cls := 9, slots := #[.long (-124)], vm := .none },
  { cls := 9, slots := #[.long (-123)], vm := .none },
  { cls := 9, slots := #[.long (-122)], vm := .none },
  { cls := 9, slots := #[.long (-121)], vm := .none },
  { cls := 9, slots := #[.long (-120)], vm := .none },
  { cls := 9, slots := #[.long (-119)], vm := .none },
  { cls := 9, slots := #[.long (-118)], vm := .none },
  { cls := 9, slots := #[.long (-117)], vm := .none },
  { cls := 9, slots := #[.long (-116)], vm := .none },
  { cls := 9, slots := #[.long (-115)], vm := .none },
  { cls := 9, slots := #[.long (-114)], vm := .none },
  { cls := 9, slots := #[.long (-113)], vm := .none },
  { cls := 9, slots := #[.long (-112)], vm := .none },
  { cls := 9, slots := #[.long (-111)], vm := .none },
  { cls := 9, slots := #[.long (-110)], vm := .none },
  { cls := 9, slots := #[.long (-109)], vm := .none },
  { cls := 9, slots := #[.long (-108)], vm := .none },
  { cls := 9, slots := #[.long (-107)], vm := .none },
  { cls := 9, slots := #[.long (-106)], vm := .none },
  { cls := 9, slots := #[.long (-105)], vm := .none },
  { cls := 9, slots := #[.long (-104)], vm := .none },
  { cls := 9, slots := #[.long (-103)], vm := .none },
  { cls := 9, slots := #[.long (-102)], vm := .none },
  { cls := 9, slots := #[.long (-101)], vm := .none },
  { cls := 9, slots := #[.long (-100)], vm := .none },
  { cls := 9, slots := #[.long (-99)], vm := .none },
  { cls := 9, slots := #[.long (-98)], vm := .none },
  { cls := 9, slots := #[.long (-97)], vm := .none },
  { cls := 9, slots := #[.long (-96)], vm := .none },
  { cls := 9, slots := #[.long (-95)], vm := .none },
  { cls := 9, slots := #[.long (-94)], vm := .none },
  { cls := 9, slots := #[.long (-93)], vm := .none },
  { cls := 9, slots := #[.long (-92)], vm := .none },
  { cls := 9, slots := #[.long (-91)], vm := .none },
  { cls := 9, slots := #[.long (-90)], vm := .none },
  { cls := 9, slots := #[.long (-89)], vm := .none },
  { cls := 9, slots := #[.long (-88)], vm := .none },
  { cls := 9, slots := #[.long (-87)], vm := .none },
  { cls := 9, slots := #[.long (-86)], vm := .none },
  { cls := 9, slots := #[.long (-85)], vm := .none },
  { cls := 9, slots := #[.long (-84)], vm := .none },
  { cls := 9, slots := #[.long (-83)], vm := .none },
  { cls := 9, slots := #[.long (-82)], vm := .none },
  { cls := 9, slots := #[.long (-81)], vm := .none },
  { cls := 9, slots := #[.long (-80)], vm := .none },
  { cls := 9, slots := #[.long (-79)], vm := .none },
  { cls := 9, slots := #[.long (-78)], vm := .none },
  { cls := 9, slots := #[.long (-77)], vm := .none },
  { cls := 9, slots := #[.long (-76)], vm := .none },
  { cls := 9, slots := #[.long (-75)], vm := .none },
  { cls := 9, slots := #[.long (-74)], vm := .none },
  { cls := 9, slots := #[.long (-73)], vm := .none },
  { cls := 9, slots := #[.long (-72)], vm := .none },
  { cls := 9, slots := #[.long (-71)], vm := .none },
  { cls := 9, slots := #[.long (-70)], vm := .none },
  { cls := 9, slots := #[.long (-69)], vm := .none },
  { cls := 9, slots := #[.long (-68)], vm := .none },
  { cls := 9, slots := #[.long (-67)], vm := .none },
  { cls := 9, slots := #[.long (-66)], vm := .none },
  { cls := 9, slots := #[.long (-65)], vm := .none },
  { cls := 9, slots := #[.long (-64)], vm := .none },
  { cls := 9, slots := #[.long (-63)], vm := .none },
  { cls := 9, slots := #[.long (-62)], vm := .none },
  { cls := 9, slots := #[.long (-61)], vm := .none },
  { cls := 9, slots := #[.long (-60)], vm := .none },
  { cls := 9, slots := #[.long (-59)], vm := .none },
  { cls := 9, slots := #[.long (-58)], vm := .none },
  { cls := 9, slots := #[.long (-57)], vm := .none },
  { cls := 9, slots := #[.long (-56)], vm := .none },
  { cls := 9, slots := #[.long (-55)], vm := .none },
  { cls := 9, slots := #[.long (-54)], vm := .none },
  { cls := 9, slots := #[.long (-53)], vm := .none },
  { cls := 9, slots := #[.long (-52)], vm := .none },
  { cls := 9, slots := #[.long (-51)], vm := .none },
  { cls := 9, slots := #[.long (-50)], vm := .none },
  { cls := 9, slots := #[.long (-49)], vm := .none },
  { cls := 9, slots := #[.long (-48)], vm := .none },
  { cls := 9, slots := #[.long (-47)], vm := .none },
  { cls := 9, slots := #[.long (-46)], vm := .none },
  { cls := 9, slots := #[.long (-45)], vm := .none },
  { cls := 9, slots := #[.long (-44)], vm := .none },
  { cls := 9, slots := #[.long (-43)], vm := .none },
  { cls := 9, slots := #[.long (-42)], vm := .none },
  { cls := 9, slots := #[.long (-41)], vm := .none },
  { cls := 9, slots := #[.long (-40)], vm := .none },
  { cls := 9, slots := #[.long (-39)], vm := .none },
  { cls := 9, slots := #[.long (-38)], vm := .none },
  { cls := 9, slots := #[.long (-37)], vm := .none },
  { cls := 9, slots := #[.long (-36)], vm := .none },
  { cls := 9, slots := #[.long (-35)], vm := .none },
  { cls := 9, slots := #[.long (-34)], vm := .none },
  { cls := 9, slots := #[.long (-33)], vm := .none },
  { cls := 9, slots := #[.long (-32)], vm := .none },
  { cls := 9, slots := #[.long (-31)], vm := .none },
  { cls := 9, slots := #[.long (-30)], vm := .none },
  { cls := 9, slots := #[.long (-29)], vm := .none },
  { cls := 9, slots := #[.long (-28)], vm := .none },
  { cls := 9, slots := #[.long (-27)], vm := .none },
  { cls := 9, slots := #[.long (-26)], vm := .none },
  { cls := 9, slots := #[.long (-25)], vm := .none },
  { cls := 9, slots := #[.long (-24)], vm := .none },
  { cls := 9, slots := #[.long (-23)], vm := .none },
  { cls := 9, slots := #[.long (-22)], vm := .none },
  { cls := 9, slots := #[.long (-21)], vm := .none },
  { cls := 9, slots := #[.long (-20)], vm := .none },
  { cls := 9, slots := #[.long (-19)], vm := .none },
  { cls := 9, slots := #[.long (-18)], vm := .none },
  { cls := 9, slots := #[.long (-17)], vm := .none },
  { cls := 9, slots := #[.long (-16)], vm := .none },
  { cls := 9, slots := #[.long (-15)], vm := .none },
  { cls := 9, slots := #[.long (-14)], vm := .none },
  { cls := 9, slots := #[.long (-13)], vm := .none },
  { cls := 9, slots := #[.long (-12)], vm := .none },
  { cls := 9, slots := #[.long (-11)], vm := .none },
  { cls := 9, slots := #[.long (-10)], vm := .none },
  { cls := 9, slots := #[.long (-9)], vm := .none },
  { cls := 9, slots := #[.long (-8)], vm := .none },
  { cls := 9, slots := #[.long (-7)], vm := .none },
  { cls := 9, slots := #[.long (-6)], vm := .none },
  { cls := 9, slots := #[.long (-5)], vm := .none },
  { cls := 9, slots := #[.long (-4)], vm := .none },
  { cls := 9, slots := #[.long (-3)], vm := .none },
  { cls := 9, slots := #[.long (-2)], vm := .none },
  { cls := 9, slots := #[.long (-1)], vm := .none },
  { cls := 9, slots := #[.long (0)], vm := .none },
  { cls := 9, slots := #[.long (1)], vm := .none },
  { cls := 9, slots := #[.long (2)], vm := .none },
  { cls := 9, slots := #[.long (3)], vm := .none },
  { cls := 9, slots := #[.long (4)], vm := .none },
  { cls := 9, slots := #[.long (5)], vm := .none },
  { cls := 9, slots := #[.long (6)], vm := .none },
  { cls := 9, slots := #[.long (7)], vm := .none },
  { cls := 9, slots := #[.long (8)], vm := .none },
  { cls := 9, slots := #[.long (9)], vm := .none },
  { cls := 9, slots := #[.long (10)], vm := .none },
  { cls := 9, slots := #[.long (11)], vm := .none },
  { cls := 9, slots := #[.long (12)], vm := .none },
  { cls := 9, slots := #[.long (13)], vm := .none },
  { cls := 9, slots := #[.long (14)], vm := .none },
  { cls := 9, slots := #[.long (15)], vm := .none },
  { cls := 9, slots := #[.long (16)], vm := .none },
  { cls := 9, slots := #[.long (17)], vm := .none },
  { cls := 9, slots := #[.long (18)], vm := .none },
  { cls := 9, slots := #[.long (19)], vm := .none },
  { cls := 9, slots := #[.long (20)], vm := .none },
  { cls := 9, slots := #[.long (21)], vm := .none },
  { cls := 9, slots := #[.long (22)], vm := .none },
  { cls := 9, slots := #[.long (23)], vm := .none },
  { cls := 9, slots := #[.long (24)], vm := .none },
  { cls := 9, slots := #[.long (25)], vm := .none },
  { cls := 9, slots := #[.long (26)], vm := .none },
  { cls := 9, slots := #[.long (27)], vm := .none },
  { cls := 9, slots := #[.long (28)], vm := .none },
  { cls := 9, slots := #[.long (29)], vm := .none },
  { cls := 9, slots := #[.long (30)], vm := .none },
  { cls := 9, slots := #[.long (31)], vm := .none },
  { cls := 9, slots := #[.long (32)], vm := .none },
  { cls := 9, slots := #[.long (33)], vm := .none },
  { cls := 9, slots := #[.long (34)], vm := .none },
  { cls := 9, slots := #[.long (35)], vm := .none },
  { cls := 9, slots := #[.long (36)], vm := .none },
  { cls := 9, slots := #[.long (37)], vm := .none },
  { cls := 9, slots := #[.long (38)], vm := .none },
  { cls := 9, slots := #[.long (39)], vm := .none },
  { cls := 9, slots := #[.long (40)], vm := .none },
  { cls := 9, slots := #[.long (41)], vm := .none },
  { cls := 9, slots := #[.long (42)], vm := .none },
  { cls := 9, slots := #[.long (43)], vm := .none },
  { cls := 9, slots := #[.long (44)], vm := .none },
  { cls := 9, slots := #[.long (45)], vm := .none },
  { cls := 9, slots := #[.long (46)], vm := .none },
  { cls := 9, slots := #[.long (47)], vm := .none },
  { cls := 9, slots := #[.long (48)], vm := .none },
  { cls := 9, slots := #[.long (49)], vm := .none },
  { cls := 9, slots := #[.long (50)], vm := .none },
  { cls := 9, slots := #[.long (51)], vm := .none },
  { cls := 9, slots := #[.long (52)], vm := .none },
  { cls := 9, slots := #[.long (53)], vm := .none },
  { cls := 9, slots := #[.long (54)], vm := .none },
  { cls := 9, slots := #[.long (55)], vm := .none },
  { cls := 9, slots := #[.long (56)], vm := .none },
  { cls := 9, slots := #[.long (57)], vm := .none },
  { cls := 9, slots := #[.long (58)], vm := .none },
  { cls := 9, slots := #[.long (59)], vm := .none },
  { cls := 9, slots := #[.long (60)], vm := .none },
  { cls := 9, slots := #[.long (61)], vm := .none },
  { cls := 9, slots := #[.long (62)], vm := .none },
  { cls := 9, slots := #[.long (63)], vm := .none },
  { cls := 9, slots := #[.long (64)], vm := .none },
  { cls := 9, slots := #[.long (65)], vm := .none },
  { cls := 9, slots := #[.long (66)], vm := .none },
  { cls := 9, slots := #[.long (67)], vm := .none },
  { cls := 9, slots := #[.long (68)], vm := .none },
  { cls := 9, slots := #[.long (69)], vm := .none },
  { cls := 9, slots := #[.long (70)], vm := .none },
  { cls := 9, slots := #[.long (71)], vm := .none },
  { cls := 9, slots := #[.long (72)], vm := .none },
  { cls := 9, slots := #[.long (73)], vm := .none },
  { cls := 9, slots := #[.long (74)], vm := .none },
  { cls := 9, slots := #[.long (75)], vm := .none },
  { cls := 9, slots := #[.long (76)], vm := .none },
  { cls := 9, slots := #[.long (77)], vm := .none },
  { cls := 9, slots := #[.long (78)], vm := .none },
  { cls := 9, slots := #[.long (79)], vm := .none },
  { cls := 9, slots := #[.long (80)], vm := .none },
  { cls := 9, slots := #[.long (81)], vm := .none },
  { cls := 9, slots := #[.long (82)], vm := .none },
  { cls := 9, slots := #[.long (83)], vm := .none },
  { cls := 9, slots := #[.long (84)], vm := .none },
  { cls := 9, slots := #[.long (85)], vm := .none },
  { cls := 9, slots := #[.long (86)], vm := .none },
  { cls := 9, slots := #[.long (87)], vm := .none },
  { cls := 9, slots := #[.long (88)], vm := .none },
  { cls := 9, slots := #[.long (89)], vm := .none },
  { cls := 9, slots := #[.long (90)], vm := .none },
  { cls := 9, slots := #[.long (91)], vm := .none },
  { cls := 9, slots := #[.long (92)], vm := .none },
  { cls := 9, slots := #[.long (93)], vm := .none },
  { cls := 9, slots := #[.long (94)], vm := .none },
  { cls := 9, slots := #[.long (95)], vm := .none },
  { cls := 9, slots := #[.long (96)], vm := .none },
  { cls := 9, slots := #[.long (97)], vm := .none },
  { cls := 9, slots := #[.long (98)], vm := .none },
  { cls := 9, slots := #[.long (99)], vm := .none },
  { cls := 9, slots := #[.long (100)], vm := .none },
  { cls := 9, slots := #[.long (101)], vm := .none },
  { cls := 9, slots := #[.long (102)], vm := .none },
  { cls := 9, slots := #[.long (103)], vm := .none },
  { cls := 9, slots := #[.long (104)], vm := .none },
  { cls := 9, slots := #[.long (105)], vm := .none },
  { cls := 9, slots := #[.long (106)], vm := .none },
  { cls := 9, slots := #[.long (107)], vm := .none },
  { cls := 9, slots := #[.long (108)], vm := .none },
  { cls := 9, slots := #[.long (109)], vm := .none },
  { cls := 9, slots := #[.long (110)], vm := .none },
  { cls := 9, slots := #[.long (111)], vm := .none },
  { cls := 9, slots := #[.long (112)], vm := .none },
  { cls := 9, slots := #[.long (113)], vm := .none },
  { cls := 9, slots := #[.long (114)], vm := .none },
  { cls := 9, slots := #[.long (115)], vm := .none },
  { cls := 9, slots := #[.long (116)], vm := .none },
  { cls := 9, slots := #[.long (117)], vm := .none },
  { cls := 9, slots := #[.long (118)], vm := .none },
  { cls := 9, slots := #[.long (119)], vm := .none },
  { cls := 9, slots := #[.long (120)], vm := .none },
  { cls := 9, slots := #[.long (121)], vm := .none },
  { cls := 9, slots := #[.long (122)], vm := .none },
  { cls := 9, slots := #[.long (123)], vm := .none },
  { cls := 9, slots := #[.long (124)], vm := .none },
  { cls := 9, slots := #[.long (125)], vm := .none },
  { cls := 9, slots := #[.long (126)], vm := .none },
  { cls := 9, slots := #[.long (127)], vm := .none }]
def classes : Array Class := #[k0, k1, k2, k3, k4, k5, k6, k7, k8, k9, k10, k11, k12, k13, k14, k15, k16]
def interned : List (Array UInt16 × Addr) := []
def slotsUsed : Nat := 515
def theMethod : MethodId := ⟨1, 3⟩
def args0 : Array Value := #[.long 5, .long 3, .long 4, .long 7, .int 3]
def aboutOver (below : List Frame) : State where
  vm := { classes := classes, interned := interned.toArray }
  heap := heap
  slotsUsed := slotsUsed
  threads := #[{ frames := .invoking theMethod args0 :: below }]
def below0 : List Frame := [.native { method := ⟨0, 0⟩, args := #[] }]
def about1 : State := aboutOver below0
def p0 : Program := .bare "" "" ""
def e0 : Env := launch0.env 0 0 0
theorem w_frames : about1.frames = Frame.invoking theMethod args0 :: below0 := rfl
set_option maxRecDepth 65536 in
theorem w_args : argsFit about1.vm theMethod args0 = true := by decide +kernel
set_option maxRecDepth 65536 in
theorem w_heap : heapFits about1 = true := by decide +kernel
set_option maxRecDepth 65536 in
theorem w_runnable : about1.curStatus? = some .runnable := by decide +kernel
set_option maxRecDepth 65536 in
theorem w_alone : about1.alone = true := by decide +kernel
set_option maxRecDepth 65536 in
theorem w_named : about1.methodNamed? x = some theMethod := by decide +kernel
set_option maxRecDepth 65536 in
theorem w_hears : about1.hears theMethod below0 = true := by decide +kernel
set_option maxRecDepth 65536 in
theorem w_ripe : about1.ripe theMethod args0 below0 = true := by decide +kernel
theorem w_running : about1.status = .running := rfl
set_option maxRecDepth 65536 in
theorem w_room : about1.hasRoom e0.platform room_1 = true :=
  launch0.hasRoom_least _ room_1 (by decide +kernel) (by decide +kernel) (by decide +kernel) (by decide +kernel) (by decide +kernel) (by decide +kernel)
theorem allAtoms_all (ts : List Jvm.Cond) (a : Array Jvm.Value) (st : Jvm.State) : (allAtoms ts).before a st = ts.all (fun c => c.before a st) := by
  induction ts with
  | nil => rfl
  | cons c t ih =>
    show (Jvm.Cond.and c (allAtoms t)).before a st = _
    rw [Jvm.Cond.before_and, ih, List.all_cons]
def words1 : List Jvm.Cond := Jvm.Cond.code x code maxLocals ret :: tables_1
/-- a 'code' word, met by the world's own term for the bytes: nothing is compared byte by byte -/
theorem code_word {y : MethodName} {bytes : ByteArray} {mx : Nat} {rt : Option FieldType} {a : Array Value} {s : State} {m : MethodId} {meth : Method} {c : Code} (h1 : s.methodNamed? y = some m) (h2 : s.vm.method? m = some meth) (h3 : meth.code = some c) (h4 : c.code = bytes)
    (h5 : (c.maxLocals == mx && c.exceptionTable.isEmpty && decide (c.maxStack ≤ mostOperands) && decide (meth.sig.returnType = rt) && !meth.locks && decide (parseMethodDescriptor y.desc = some meth.sig)) = true) : (Jvm.Cond.code y bytes mx rt).before a s = true := by
  simp only [Bool.and_eq_true, beq_iff_eq, Bool.not_eq_true', decide_eq_true_eq] at h5
  obtain ⟨⟨⟨⟨⟨g1, g2⟩, g3⟩, g4⟩, g5⟩, g6⟩ := h5
  simp [Cond.before, Cond.holds, Cond.value, h1, h2, h3, h4, g1, g2, g3, g4, g5, g6]
def isCode : Jvm.Cond → Bool
  | .code _ _ _ _ => true
  | _ => false
theorem all_split {L : List Jvm.Cond} {P : Jvm.Cond → Bool} (h1 : L.all (fun c => isCode c || P c) = true) (h2 : ∀ c ∈ L.filter isCode, P c = true) : L.all P = true := by
  refine List.all_eq_true.mpr fun c hc => ?_
  have h := List.all_eq_true.mp h1 c hc
  rcases Bool.eq_false_or_eq_true (isCode c) with hi | hi
  · exact h2 c (List.mem_filter.mpr ⟨hc, hi⟩)
  · simpa [hi] using h
set_option maxRecDepth 65536 in
theorem w_c0 : (Jvm.Cond.code x code maxLocals ret).before args0 about1 = true := code_word (m := ⟨1, 3⟩) (meth := k1m3) (c := k1c3) (by decide +kernel) rfl rfl rfl (by decide +kernel)
set_option maxRecDepth 65536 in
theorem w_c1 : (Jvm.Cond.code ({ cls := "java/lang/Math", name := "max", desc := "(JJ)J" } : Jvm.MethodName) jdk_29_method_66_code (4 : Nat) (Option.some Jvm.ClassFile.FieldType.long)).before args0 about1 = true := code_word (m := ⟨2, 1⟩) (meth := k2m1) (c := k2c1) (by decide +kernel) rfl rfl rfl (by decide +kernel)
set_option maxRecDepth 65536 in
theorem w_c2 : (Jvm.Cond.code ({ cls := "com/example/weir/weir/WindowEqualsPinLaw", name := "pickLimit", desc := "(JJI)J" } : Jvm.MethodName) method_2_code (5 : Nat) (Option.some Jvm.ClassFile.FieldType.long)).before args0 about1 = true := code_word (m := ⟨1, 1⟩) (meth := k1m1) (c := k1c1) (by decide +kernel) rfl rfl rfl (by decide +kernel)
set_option maxRecDepth 65536 in
theorem w_c3 : (Jvm.Cond.code ({ cls := "com/example/weir/weir/WindowEqualsPinLaw", name := "pickWindow", desc := "(JJI)J" } : Jvm.MethodName) method_3_code (5 : Nat) (Option.some Jvm.ClassFile.FieldType.long)).before args0 about1 = true := code_word (m := ⟨1, 2⟩) (meth := k1m2) (c := k1c2) (by decide +kernel) rfl rfl rfl (by decide +kernel)
set_option maxRecDepth 65536 in
theorem w_c4 : (Jvm.Cond.code ({ cls := "com/example/weir/weir/Window", name := "<init>", desc := "(JJ)V" } : Jvm.MethodName) prog_18_method_1_code (5 : Nat) (Option.none : Option Jvm.ClassFile.FieldType)).before args0 about1 = true := code_word (m := ⟨3, 0⟩) (meth := k3m0) (c := k3c0) (by decide +kernel) rfl rfl rfl (by decide +kernel)
set_option maxRecDepth 65536 in
theorem w_c5 : (Jvm.Cond.code ({ cls := "java/lang/Object", name := "<init>", desc := "()V" } : Jvm.MethodName) object_method_1_code (1 : Nat) (Option.none : Option Jvm.ClassFile.FieldType)).before args0 about1 = true := code_word (m := ⟨0, 0⟩) (meth := k0m0) (c := k0c0) (by decide +kernel) rfl rfl rfl (by decide +kernel)
set_option maxRecDepth 65536 in
theorem w_c6 : (Jvm.Cond.code ({ cls := "com/example/weir/weir/Window", name := "equals", desc := "(Ljava/lang/Object;)Z" } : Jvm.MethodName) prog_18_method_12_code (3 : Nat) (Option.some Jvm.ClassFile.FieldType.boolean)).before args0 about1 = true := code_word (m := ⟨3, 1⟩) (meth := k3m1) (c := k3c1) (by decide +kernel) rfl rfl rfl (by decide +kernel)
set_option maxRecDepth 65536 in
theorem w_c7 : (Jvm.Cond.code ({ cls := "java/lang/Long", name := "valueOf", desc := "(J)Ljava/lang/Long;" } : Jvm.MethodName) jdk_35_method_24_code (3 : Nat) (Option.some (Jvm.ClassFile.FieldType.object "java/lang/Long"))).before args0 about1 = true := code_word (m := ⟨9, 0⟩) (meth := k9m0) (c := k9c0) (by decide +kernel) rfl rfl rfl (by decide +kernel)
set_option maxRecDepth 65536 in
theorem w_c8 : (Jvm.Cond.code ({ cls := "java/lang/Long", name := "<init>", desc := "(J)V" } : Jvm.MethodName) jdk_35_method_26_code (3 : Nat) (Option.none : Option Jvm.ClassFile.FieldType)).before args0 about1 = true := code_word (m := ⟨9, 1⟩) (meth := k9m1) (c := k9c1) (by decide +kernel) rfl rfl rfl (by decide +kernel)
set_option maxRecDepth 65536 in
theorem w_c9 : (Jvm.Cond.code ({ cls := "java/lang/Number", name := "<init>", desc := "()V" } : Jvm.MethodName) jdk_18_method_1_code (1 : Nat) (Option.none : Option Jvm.ClassFile.FieldType)).before args0 about1 = true := code_word (m := ⟨5, 0⟩) (meth := k5m0) (c := k5c0) (by decide +kernel) rfl rfl rfl (by decide +kernel)
def codes1 : List Jvm.Cond := [Jvm.Cond.code x code maxLocals ret, Jvm.Cond.code ({ cls := "java/lang/Math", name := "max", desc := "(JJ)J" } : Jvm.MethodName) jdk_29_method_66_code (4 : Nat) (Option.some Jvm.ClassFile.FieldType.long), Jvm.Cond.code ({ cls := "com/example/weir/weir/WindowEqualsPinLaw", name := "pickLimit", desc := "(JJI)J" } : Jvm.MethodName) method_2_code (5 : Nat) (Option.some Jvm.ClassFile.FieldType.long), Jvm.Cond.code ({ cls := "com/example/weir/weir/WindowEqualsPinLaw", name := "pickWindow", desc := "(JJI)J" } : Jvm.MethodName) method_3_code (5 : Nat) (Option.some Jvm.ClassFile.FieldType.long), Jvm.Cond.code ({ cls := "com/example/weir/weir/Window", name := "<init>", desc := "(JJ)V" } : Jvm.MethodName) prog_18_method_1_code (5 : Nat) (Option.none : Option Jvm.ClassFile.FieldType), Jvm.Cond.code ({ cls := "java/lang/Object", name := "<init>", desc := "()V" } : Jvm.MethodName) object_method_1_code (1 : Nat) (Option.none : Option Jvm.ClassFile.FieldType), Jvm.Cond.code ({ cls := "com/example/weir/weir/Window", name := "equals", desc := "(Ljava/lang/Object;)Z" } : Jvm.MethodName) prog_18_method_12_code (3 : Nat) (Option.some Jvm.ClassFile.FieldType.boolean), Jvm.Cond.code ({ cls := "java/lang/Long", name := "valueOf", desc := "(J)Ljava/lang/Long;" } : Jvm.MethodName) jdk_35_method_24_code (3 : Nat) (Option.some (Jvm.ClassFile.FieldType.object "java/lang/Long")), Jvm.Cond.code ({ cls := "java/lang/Long", name := "<init>", desc := "(J)V" } : Jvm.MethodName) jdk_35_method_26_code (3 : Nat) (Option.none : Option Jvm.ClassFile.FieldType), Jvm.Cond.code ({ cls := "java/lang/Number", name := "<init>", desc := "()V" } : Jvm.MethodName) jdk_18_method_1_code (1 : Nat) (Option.none : Option Jvm.ClassFile.FieldType)]
set_option maxRecDepth 65536 in
theorem codes_eq : words1.filter isCode = codes1 := rfl
theorem w_codes : ∀ c ∈ words1.filter isCode, c.before args0 about1 = true := by
  rw [codes_eq]
  intro c hc
  simp only [codes1, List.mem_cons, List.not_mem_nil, or_false] at hc
  rcases hc with rfl | rfl | rfl | rfl | rfl | rfl | rfl | rfl | rfl | rfl
  · exact w_c0
  · exact w_c1
  · exact w_c2
  · exact w_c3
  · exact w_c4
  · exact w_c5
  · exact w_c6
  · exact w_c7
  · exact w_c8
  · exact w_c9
set_option maxRecDepth 65536 in
theorem w_t1 : (words1.take 24).all (fun c => isCode c || c.before args0 about1) = true := by decide +kernel
set_option maxRecDepth 65536 in
theorem w_t2 : ((words1.drop 24).take 24).all (fun c => isCode c || c.before args0 about1) = true := by decide +kernel
set_option maxRecDepth 65536 in
theorem w_t3 : ((words1.drop 24).drop 24).all (fun c => isCode c || c.before args0 about1) = true := by decide +kernel
theorem w_tables : (allAtoms (Jvm.Cond.code x code maxLocals ret :: tables_1)).before args0 about1 = true := by
  rw [allAtoms_all]
  show words1.all (fun c => c.before args0 about1) = true
  refine all_split ?_ w_codes
  rw [← List.take_append_drop 24 words1, List.all_append, w_t1, ← List.take_append_drop 24 (words1.drop 24), List.all_append, w_t2, w_t3]
  rfl
set_option maxRecDepth 65536 in
theorem w_rest : rest_1_c.before args0 about1 = true := by decide +kernel
set_option maxRecDepth 65536 in
theorem w_case : (Jvm.Cond.and given_1 narrow_1).before args0 about1 = true := by decide +kernel
theorem w_applies : (headSpec (Jvm.Cond.code x code maxLocals ret :: tables_1) room_1).applies x e0.platform about1 = true :=
  (Spec.applies_iff w_frames).mpr ⟨w_running, w_runnable, w_alone, w_named, w_hears, w_ripe, w_room, w_tables⟩
theorem atStart : AtStart classFile x code maxLocals ret World_1 tables_1 room_1 Calls_1 rest_1 Pre_1 launch0 p0 e0 about1 theMethod args0 below0 :=
  ⟨lists_1, trivial, launch0.admits_env _ _ _, launch0.least_env, fairChoices_fair.cas, fairChoices_fair.clock, w_frames, w_args, w_heap, w_applies, trivial, w_rest, w_case⟩
end start1
theorem witness_1 : WitnessClaimed_1 := ⟨start1.p0, start1.e0, start1.about1, start1.theMethod, start1.args0, start1.below0, start1.atStart⟩
end Jvm.Pilot.@@N@@
