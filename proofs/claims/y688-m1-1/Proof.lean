import JvmDerived
import JvmDerived.Pilot.@@N@@Statement
import JvmDerived.Pilot.@@N@@Code
set_option linter.unusedVariables false
set_option linter.unusedSimpArgs false
namespace Jvm.Pilot.@@N@@
open Jvm Jvm.ClassFile Sem Op Lib Jvm.Free Jvm.Stand Jvm.LawKit Jvm.RoadKit Bundle Jvm.Pilot.@@N@@.Jvm.D
theorem own_exa_ns {Z : State} {h : Heap} {a : Addr} {C : String} (E : Exa Z h a C) : ∀ c : Cell, h[a]? = some c → c.vm.isStatics = false := fun c hc => by
  obtain ⟨cell, k, h1, -, -, h4, -⟩ := E
  rw [h1] at hc; cases hc; exact h4
theorem own_sta_keep {Z : State} {h h' : Heap} {C n d : String} {v : Value} {ws : List Addr} (F : Sta Z h C n d v) (K : Keep h h' ws) (q : ∀ x ∈ ws, ∀ c : Cell, h[x]? = some c → c.vm.isStatics = false) : Sta Z h' C n d v := by
  obtain ⟨cf, i, k, f, st, cell, h1, h2, h3, h4, h5, h6, h7⟩ := F
  exact ⟨cf, i, k, f, st, cell, h1, h2, h3, h4, K.2.1 st cell h5 (fun hm => by have := q st hm cell h5; rw [h6] at this; cases this), h6, h7⟩
theorem own_ins_keep {Z : State} {h h' : Heap} {a : Addr} {C : String} {b : Bool} {ws : List Addr} (F : Ins Z h a C b) (K : Keep h h' ws) : Ins Z h' a C b := by
  obtain ⟨cell, cT, h1, h2, h3⟩ := F
  obtain ⟨c', q1, q2, q3, -⟩ := K.2.2 a cell h1
  exact ⟨c', cT, q1, h2, by rw [q3, q2]; exact h3⟩
theorem own_ne {r c : Int32} (k : Int) (hc : c.toInt = k) (h : ¬ r = c) : ¬ r.toInt = k := fun e => h (Int32.toInt_inj.mp (e.trans hc.symm))
theorem own_cat1 {v : Value} (h : v.isRef = true) : 2 * 0 + ([v].map fun v => v.category).sum ≤ 1 := by simp [XT.cat1 h]
theorem own_nz {z : Int32} (h : z = 0 ∨ z = 1) : narrow .boolean (.int z) = .int z := by rcases h with rfl | rfl <;> rfl
theorem own_eqi {a : Term} {args : Array Value} {s : State} {k : Int32} (h : (Jvm.Cond.eq a (Term.int k)).value args s none s [] = some true) : a.eval args s none [] s = some (.int k) := by
  cases ha : a.eval args s none [] s with
  | none => simp [Cond.value, ha] at h
  | some x => cases x <;> simp [Cond.value, ha, Term.eval] at h ⊢; exact h
theorem own_eqr {a b : Term} {args : Array Value} {s : State} {y : Addr} (hb : b.eval args s none [] s = some (.ref y)) (h : (Jvm.Cond.eq a b).value args s none s [] = some true) : a.eval args s none [] s = some (.ref y) := by
  cases ha : a.eval args s none [] s with
  | none => simp [Cond.value, ha] at h
  | some x => cases x <;> simp [Cond.value, ha, hb] at h ⊢; exact h
theorem own_len {t : Term} {args : Array Value} {s : State} {n : Int32} {x : Addr} {c : Cell} {ty : FieldType} (h : (Term.length t).eval args s none [] s = some (.int n)) (ht : t.eval args s none [] s = some (.ref x)) (A : Arr s s.heap x c ty) : c.slots.size < 2 ^ 31 ∧ c.slots.size.toInt32 = n := by
  have ha : s.arrayAt? x = some c := Arr.fin (Vm.Alike.refl _) A
  simp only [Term.eval, ht, ha, Option.bind_eq_bind, Option.bind_some] at h
  split at h
  · rename_i hl; simp at h; exact ⟨hl, h⟩
  · cases h
theorem own_ns_root {Z : State} {a0 : Array Value} {O K : String} {n : Nat} (w : (Jvm.Cond.noSuperclass O).before a0 Z = true) (wk : (Jvm.Cond.instantiable K n).before a0 Z = true) (hn : O ≠ K) : NS Z O K := by
  obtain ⟨c, k, h1, h2, h3, -, -⟩ := Cond.noSuperclass_spec w
  obtain ⟨t, kt, g1, -⟩ := Cond.instantiable_spec wk
  have ne := ids_ne h1 g1 hn
  refine ⟨c, t, h1, g1, fun fuel => ?_⟩
  cases fuel with
  | zero => rfl
  | succ f => simp [Vm.isSubclassAux, ne, h2, h3]
theorem own_ns_no {Z : State} {a0 : Array Value} {C S K : String} {n : Nat} (w : (Jvm.Cond.superclass C S).before a0 Z = true) (wk : (Jvm.Cond.instantiable K n).before a0 Z = true) (n : NS Z C K) (hn : C ≠ K) : ∃ c t, Z.vm.findClass C = some c ∧ Z.vm.findClass K = some t ∧ Z.vm.assignable c t = false := by
  obtain ⟨c, t, h0, g0, n3⟩ := n
  obtain ⟨p, k, kp, h1, h2, h3, h4, h5, -, h7⟩ := Cond.superclass_spec h0 w
  obtain ⟨t', k', g0', g2, g5, g6, -, -⟩ := Cond.instantiable_spec wk
  cases g0.symm.trans g0'
  simp only [Bool.or_eq_false_iff] at g6
  have ne := ids_ne h0 g0 hn
  refine ⟨c, t, h0, g0, ?_⟩
  show Z.vm.assignableAux (255 + 1) c t = false
  simp [Vm.assignableAux, ne, h2, g2, h5, g5, g6.1, Vm.isSubclass, n3]
theorem own_arr_keep {Z : State} {h h' : Heap} {a : Addr} {c : Cell} {ty : FieldType} {ws : List Addr} (A : Arr Z h a c ty) (K : Keep h h' ws) (q : a ∉ ws) : Arr Z h' a c ty := ⟨K.2.1 a c A.1 q, A.2⟩
def LCache (Z : State) (h : Heap) (cc : Cell) : Prop := ∀ j : Int32, ¬ (j < 0 ∨ cc.slots.size ≤ j.toNatClampNeg) → ∃ x : Addr, cc.slots[j.toNatClampNeg]? = some (.ref x) ∧ Exa Z h x "java/lang/Long"
theorem LCache.ext {Z : State} {h h' : Heap} {cc : Cell} (F : LCache Z h cc) (E : Ext h h') : LCache Z h' cc := fun j hj => by obtain ⟨x, q, r⟩ := F j hj; exact ⟨x, q, r.ext E⟩
theorem LCache.wr {Z : State} {h h' : Heap} {cc : Cell} {a : Addr} {sl : Nat} {v : Value} (F : LCache Z h cc) (W : Wr h h' a sl v) : LCache Z h' cc := fun j hj => by obtain ⟨x, q, r⟩ := F j hj; exact ⟨x, q, r.wr W⟩
theorem LCache.keep {Z : State} {h h' : Heap} {cc : Cell} {ws : List Addr} (F : LCache Z h cc) (K : Keep h h' ws) : LCache Z h' cc := fun j hj => by obtain ⟨x, q, r⟩ := F j hj; exact ⟨x, q, r.keep K⟩
theorem own_cache_idx (q0 : Int64) (h1 : ¬ q0 < (-128 : Int64)) (h2 : ¬ (127 : Int64) < q0) {cc : Cell} (hs : cc.slots.size = 256) : ¬ (q0.toInt32 + (128 : Int32) < 0 ∨ cc.slots.size ≤ (q0.toInt32 + (128 : Int32)).toNatClampNeg) := by
  rw [Int64.lt_iff_toInt_lt] at h1 h2
  have a1 : (-128 : Int64).toInt = -128 := rfl
  have a2 : (127 : Int64).toInt = 127 := rfl
  have e1 := c_l2i q0
  have r1 := rng32 q0.toInt32
  have e2 := c_iadd q0.toInt32 128
  have r2 := rng32 (q0.toInt32 + 128)
  have a3 : (128 : Int32).toInt = 128 := rfl
  have e3 : (0 : Int32).toInt = 0 := rfl
  have hn : ¬ q0.toInt32 + (128 : Int32) < 0 := by rw [Int32.lt_iff_toInt_lt]; omega
  have e4 := nat_of hn
  rintro (q | q)
  · exact hn q
  · omega
theorem own_cache {s : State} {args : Array Value} {x : Addr} {c : Cell} {t : Term} {d : Jvm.Cond} (ev : t.eval args s none [] s = some (.ref x)) (A : Arr s s.heap x c (.object "java/lang/Long")) (ht : ∀ i, t.eval args s none [i] s = t.eval args s none [] s) (hl : c.slots.size < 2 ^ 31)
    (w : (Jvm.Cond.all t (.and (.exactly (.elem t (.index 0)) "java/lang/Long") d)).value args s none s [] = some true) : LCache s s.heap c := by
  intro j hj
  have hj1 : ¬ j < 0 := fun q => hj (Or.inl q)
  have hj2 : j.toNatClampNeg < c.slots.size := Nat.lt_of_not_le fun q => hj (Or.inr q)
  have ha : s.arrayAt? x = some c := Arr.fin (Vm.Alike.refl _) A
  have h := Cond.all_elim ev ha w j.toNatClampNeg hj2
  have hv := (and_e h).1
  obtain ⟨y, ey⟩ := exa_v hv
  have ex := exa_at ey hv
  have hx := elem_in ey ((ht _).trans ev) (idx_at hj1) A.1
  exact ⟨y, hx.2, ex⟩

theorem d1_0 : decode jdk_29_method_66_code 0 = .ok (.lload_n 0, 1) := by decide +kernel
theorem d1_1 : decode jdk_29_method_66_code 1 = .ok (.lload_n 2, 1) := by decide +kernel
theorem d1_2 : decode jdk_29_method_66_code 2 = .ok (.lcmp, 1) := by decide +kernel
theorem d1_3 : decode jdk_29_method_66_code 3 = .ok (.ifCond .lt 7, 3) := by decide +kernel
theorem d1_10 : decode jdk_29_method_66_code 10 = .ok (.lload_n 2, 1) := by decide +kernel
theorem d1_6 : decode jdk_29_method_66_code 6 = .ok (.lload_n 0, 1) := by decide +kernel
theorem d1_7 : decode jdk_29_method_66_code 7 = .ok (.goto 4, 3) := by decide +kernel
theorem d1_11 : decode jdk_29_method_66_code 11 = .ok (.lreturn, 1) := by decide +kernel
def b1_3 (q0 : Int64) (q1 : Int64) : Int64 := (if q0 < q1 then q1 else q0)
def f1 (q0 : Int64) (q1 : Int64) : Int64 := (b1_3 q0 q1)
def Q1 (Z : State) (n0 : Nat) (q0 : Int64) (q1 : Int64) (h0 : Heap) (v : Option Value) (h : Heap) (L : List Loc) : Prop := v = some (.long (f1 q0 q1)) ∧ Fr n0 L ∧ h = h0
theorem ef1 (m : MethodId) (q0 : Int64) (q1 : Int64) : entryFrame m #[(.long q0), (.long q1)] 4 = mkF m 0 #[.val (.long q0), .second, .val (.long q1), .second] [] := by first | (simp [entryFrame, mkF, argsToLocals, Value.category]; done) | rfl
set_option maxRecDepth 65536 in
set_option maxHeartbeats 40000000 in
theorem rm1 (l : Launch) (Z : State) (aZ : Array Value) (hw : ∀ d ∈ tables_1, d.before aZ Z = true) (ws : List Jvm.Cond) (q0 : Int64) (q1 : Int64) (h0 : Heap) (n0 : Nat) (Z0 : n0 ≤ h0.size) :
    MetFree l (⟨"java/lang/Math", "max", "(JJ)J"⟩ : MethodName) (head1 (Jvm.Cond.code (⟨"java/lang/Math", "max", "(JJ)J"⟩ : MethodName) jdk_29_method_66_code 4 (some .long) :: ws) ({ frames := 0, cells := 0, slots := 0, locals := 0 } : Room)) (fun a U => a = #[(.long q0), (.long q1)] ∧ Z.Warmed39 U.vm ∧ U.heap = h0) (fun _ _ _ _ _ => True) (fun _ U o U' => ∃ v L, o = .returned v ∧ Q1 Z n0 q0 q1 h0 v U'.heap L ∧ FrameEnd U o U' L ({ frames := 0, cells := 0, slots := 0, locals := 0 } : Room).cells ({ frames := 0, cells := 0, slots := 0, locals := 0 } : Room).slots) := by
  refine MetFree.of_bodySF (Jvm.Free.JP.mathPlain rfl (by decide +kernel)) hisR ?_
  intro p e s m args below meth c s₁ Bd hml0 hP hK
  obtain ⟨rfl, hZ, hh⟩ := hP
  have hx := Bd.exec
  have hby := Bd.bytes
  have hml : c.maxLocals = 4 := hml0
  have hown : s.vm.findClass "java/lang/Math" = some m.cls := findClass_of_methodNamed Bd.named
  have hnm := (name_of_methodNamed Bd.named Bd.method).1
  have X0 : Stand p l e ({ frames := 0, cells := 0, slots := 0, locals := 0 } : Room) s m #[(.long q0), (.long q1)] below meth c s₁ [] 0 0 := Stand.of_body Bd
  have e0 : s₁.heap = h0 := by rw [← hh, Bd.state]; rfl
  have N0 := Fr.nil n0
  have K0 : Keep h0 h0 [] := Keep.refl _ _
  have go0 : ∀ t, Steps p.tables e below (s₁.setTop (mkF m 0 #[.val (.long q0), .second, .val (.long q1), .second] [])) t → Steps p.tables e below (s₁.setTop (entryFrame m #[(.long q0), (.long q1)] 4)) t := fun t k => castTop (ef1 m q0 q1) k
  have go2 : ∀ t, Steps p.tables e below (s₁.setTop (mkF m 11 #[.val (.long q0), .second, .val (.long q1), .second] [(.long (b1_3 q0 q1))])) t → Steps p.tables e below (s₁.setTop (entryFrame m #[(.long q0), (.long q1)] 4)) t := by
    intro t k
    refine go0 _ ?_
    refine XS.lloadN X0.here hx rfl (hb hby d1_0) rfl ?_
    show Steps p.tables e below (s₁.setTop (mkF m 1 #[.val (.long q0), .second, .val (.long q1), .second] [(.long q0)])) t
    refine XS.lloadN X0.here hx rfl (hb hby d1_1) rfl ?_
    show Steps p.tables e below (s₁.setTop (mkF m 2 #[.val (.long q0), .second, .val (.long q1), .second] [(.long q1), (.long q0)])) t
    refine XT.lcmp X0.here hx rfl (hb hby d1_2) rfl ?_
    show Steps p.tables e below (s₁.setTop (mkF m 3 #[.val (.long q0), .second, .val (.long q1), .second] [(.int (XT.cmpL q0 q1))])) t
    by_cases hc1 : q0 < q1
    · refine XS.ifYes X0.here hx rfl (pc0 := 3) (pc' := 10) rfl (hb hby d1_3) rfl (XT.ll_lt_t hc1) (by decide) (by decide) ?_
      show Steps p.tables e below (s₁.setTop (mkF m 10 #[.val (.long q0), .second, .val (.long q1), .second] [])) t
      refine XS.lloadN X0.here hx rfl (hb hby d1_10) rfl ?_
      show Steps p.tables e below (s₁.setTop (mkF m 11 #[.val (.long q0), .second, .val (.long q1), .second] [(.long q1)])) t
      have hq4 : (b1_3 q0 q1) = q1 := by rw [b1_3, if_pos hc1]
      rw [hq4] at k
      exact k
    · refine XS.ifNo X0.here hx rfl (hb hby d1_3) rfl (XT.ll_lt_f hc1) ?_
      show Steps p.tables e below (s₁.setTop (mkF m 6 #[.val (.long q0), .second, .val (.long q1), .second] [])) t
      refine XS.lloadN X0.here hx rfl (hb hby d1_6) rfl ?_
      show Steps p.tables e below (s₁.setTop (mkF m 7 #[.val (.long q0), .second, .val (.long q1), .second] [(.long q0)])) t
      refine XS.goto X0.here hx rfl (pc0 := 7) (pc' := 11) rfl (hb hby d1_7) (by decide) (by decide) ?_
      show Steps p.tables e below (s₁.setTop (mkF m 11 #[.val (.long q0), .second, .val (.long q1), .second] [(.long q0)])) t
      have hq5 : (b1_3 q0 q1) = q0 := by rw [b1_3, if_neg hc1]
      rw [hq5] at k
      exact k
  obtain ⟨fs, hr, hrun, hended, hW, hsame⟩ := X0.leave (v := some (.long (b1_3 q0 q1))) (fun h => by rw [Bd.returns] at h; cases h)
  refine ⟨_, _, go2 _ (Jvm.RoadKit.retOut X0 hx Bd.returns rfl (Or.inr (Or.inl ⟨rfl, rfl, _, rfl⟩)) (hb hby d1_11) hr), hrun, hended, _, _, rfl, ?_, ⟨_, rfl⟩, hW, hsame.mono (by decide) (by decide)⟩
  show Q1 _ _ q0 q1 h0 _ (s₁.setFrames fs).heap _
  have hE : (s₁.setFrames fs).heap = h0 := e0
  rw [hE]
  exact ⟨by rw [f1], N0, rfl⟩
theorem d4_0 : decode prog_17_method_17_code 0 = .ok (.lload_n 1, 1) := by decide +kernel
theorem d4_1 : decode prog_17_method_17_code 1 = .ok (.lconst 1, 1) := by decide +kernel
theorem d4_2 : decode prog_17_method_17_code 2 = .ok (.lcmp, 1) := by decide +kernel
theorem d4_3 : decode prog_17_method_17_code 3 = .ok (.ifCond .ge 18, 3) := by decide +kernel
theorem d4_21 : decode prog_17_method_17_code 21 = .ok (.return_, 1) := by decide +kernel
theorem pn_14 : plainName "com/example/weir/weir/TokenBucket" = true := by first | (simp [plainName, overriddenIn]; done) | decide +kernel
def Q4 (Z : State) (n0 : Nat) (a0 : Addr) (q1 : Int64) (h0 : Heap) (v : Option Value) (h : Heap) (L : List Loc) : Prop := v = none ∧ Fr n0 L ∧ h = h0
theorem ef4 (m : MethodId) (a0 : Addr) (q1 : Int64) : entryFrame m #[(.ref a0), (.long q1)] 3 = mkF m 0 #[.val (.ref a0), .val (.long q1), .second] [] := by first | (simp [entryFrame, mkF, argsToLocals, Value.category]; done) | rfl
set_option maxRecDepth 65536 in
set_option maxHeartbeats 40000000 in
theorem rm4 (l : Launch) (Z : State) (aZ : Array Value) (hw : ∀ d ∈ tables_1, d.before aZ Z = true) (ws : List Jvm.Cond) (a0 : Addr) (q1 : Int64) (h0 : Heap) (n0 : Nat) (Z0 : n0 ≤ h0.size) (hp : ¬ q1 < (1 : Int64)) :
    MetFree l (⟨"com/example/weir/weir/TokenBucket", "requireAtLeastOne", "(Ljava/lang/String;J)V"⟩ : MethodName) (head1 (Jvm.Cond.code (⟨"com/example/weir/weir/TokenBucket", "requireAtLeastOne", "(Ljava/lang/String;J)V"⟩ : MethodName) prog_17_method_17_code 3 none :: ws) ({ frames := 0, cells := 0, slots := 0, locals := 0 } : Room)) (fun a U => a = #[(.ref a0), (.long q1)] ∧ Z.Warmed39 U.vm ∧ U.heap = h0) (fun _ _ _ _ _ => True) (fun _ U o U' => ∃ v L, o = .returned v ∧ Q4 Z n0 a0 q1 h0 v U'.heap L ∧ FrameEnd U o U' L ({ frames := 0, cells := 0, slots := 0, locals := 0 } : Room).cells ({ frames := 0, cells := 0, slots := 0, locals := 0 } : Room).slots) := by
  refine MetFree.of_bodySF (plainFor_of_name pn_14) hisR ?_
  intro p e s m args below meth c s₁ Bd hml0 hP hK
  obtain ⟨rfl, hZ, hh⟩ := hP
  have hx := Bd.exec
  have hby := Bd.bytes
  have hml : c.maxLocals = 3 := hml0
  have hown : s.vm.findClass "com/example/weir/weir/TokenBucket" = some m.cls := findClass_of_methodNamed Bd.named
  have hnm := (name_of_methodNamed Bd.named Bd.method).1
  have X0 : Stand p l e ({ frames := 0, cells := 0, slots := 0, locals := 0 } : Room) s m #[(.ref a0), (.long q1)] below meth c s₁ [] 0 0 := Stand.of_body Bd
  have e0 : s₁.heap = h0 := by rw [← hh, Bd.state]; rfl
  have N0 := Fr.nil n0
  have K0 : Keep h0 h0 [] := Keep.refl _ _
  have go0 : ∀ t, Steps p.tables e below (s₁.setTop (mkF m 0 #[.val (.ref a0), .val (.long q1), .second] [])) t → Steps p.tables e below (s₁.setTop (entryFrame m #[(.ref a0), (.long q1)] 3)) t := fun t k => castTop (ef4 m a0 q1) k
  have go1 : ∀ t, Steps p.tables e below (s₁.setTop (mkF m 21 #[.val (.ref a0), .val (.long q1), .second] [])) t → Steps p.tables e below (s₁.setTop (entryFrame m #[(.ref a0), (.long q1)] 3)) t := by
    intro t k
    refine go0 _ ?_
    refine XS.lloadN X0.here hx rfl (hb hby d4_0) rfl ?_
    show Steps p.tables e below (s₁.setTop (mkF m 1 #[.val (.ref a0), .val (.long q1), .second] [(.long q1)])) t
    refine XS.lconst X0.here hx rfl (hb hby d4_1) ?_
    show Steps p.tables e below (s₁.setTop (mkF m 2 #[.val (.ref a0), .val (.long q1), .second] [(.long (1 : Int64)), (.long q1)])) t
    refine XT.lcmp X0.here hx rfl (hb hby d4_2) rfl ?_
    show Steps p.tables e below (s₁.setTop (mkF m 3 #[.val (.ref a0), .val (.long q1), .second] [(.int (XT.cmpL q1 (1 : Int64)))])) t
    refine XS.ifYes X0.here hx rfl (pc0 := 3) (pc' := 21) rfl (hb hby d4_3) rfl (XT.ll_ge_t hp) (by decide) (by decide) ?_
    show Steps p.tables e below (s₁.setTop (mkF m 21 #[.val (.ref a0), .val (.long q1), .second] [])) t
    exact k
  obtain ⟨fs, hr, hrun, hended, hW, hsame⟩ := X0.leave (v := none) (fun _ => rfl)
  refine ⟨_, _, go1 _ (X0.returnOut hx Bd.returns (hb hby d4_21) hr), hrun, hended, _, _, rfl, ?_, ⟨_, rfl⟩, hW, hsame.mono (by decide) (by decide)⟩
  show Q4 _ _ a0 q1 h0 _ (s₁.setFrames fs).heap _
  have hE : (s₁.setFrames fs).heap = h0 := e0
  rw [hE]
  exact ⟨rfl, N0, rfl⟩
def own_g : Nat → Int64 → Int64 → Int64
  | 0, a, _ => a
  | n + 1, a, b => if b = 0 then a else own_g n b (a % b)
theorem own_modr {a b : Int64} (ha : 0 ≤ a.toInt) (hb : 0 < b.toInt) : (a % b).toInt = a.toInt % b.toInt := by
  rw [Int64.toInt_mod, Int.tmod_eq_emod_of_nonneg ha]
theorem own_g_gcd : ∀ (n : Nat) (a b : Int64), 0 ≤ a.toInt → 0 ≤ b.toInt → b.toInt.toNat < n → (own_g n a b).toInt = (Nat.gcd a.toInt.toNat b.toInt.toNat : Nat)
  | 0, a, b, _, _, h => absurd h (Nat.not_lt_zero _)
  | n + 1, a, b, ha, hb, h => by
    unfold own_g
    by_cases hz : b = 0
    · rw [if_pos hz, hz]; have z : (0 : Int64).toInt = 0 := rfl
      rw [z]; show a.toInt = ((Nat.gcd a.toInt.toNat 0 : Nat) : Int); rw [Nat.gcd_zero_right]; omega
    · rw [if_neg hz]
      have hp : 0 < b.toInt := by
        have : b.toInt ≠ 0 := fun q => hz (Int64.toInt_inj.mp q)
        omega
      have hm := own_modr ha hp
      have h1 := Int.emod_nonneg a.toInt (show b.toInt ≠ 0 by omega)
      have h2 := Int.emod_lt_of_pos a.toInt hp
      rw [own_g_gcd n b (a % b) hb (by rw [hm]; exact h1) (by rw [hm]; omega), hm]
      congr 1
      have : (a.toInt % b.toInt).toNat = a.toInt.toNat % b.toInt.toNat := by
        rw [Int.toNat_emod ha hb]
      rw [this, Nat.gcd_comm b.toInt.toNat, ← Nat.gcd_rec, Nat.gcd_comm]
theorem own_gcd_le {n : Nat} {a b : Int64} (ha : 0 ≤ a.toInt) (hb : 0 < b.toInt) (hn : b.toInt.toNat < n) : 1 ≤ (own_g n a b).toInt ∧ (own_g n a b).toInt ≤ b.toInt := by
  have h := own_g_gcd n a b ha (by omega) hn
  have h1 : 0 < Nat.gcd a.toInt.toNat b.toInt.toNat := Nat.gcd_pos_of_pos_right _ (by omega)
  have h2 : Nat.gcd a.toInt.toNat b.toInt.toNat ≤ b.toInt.toNat := Nat.gcd_le_right _ (by omega)
  omega
theorem d5_0 : decode prog_17_method_18_code 0 = .ok (.lload_n 2, 1) := by decide +kernel
theorem d5_1 : decode prog_17_method_18_code 1 = .ok (.lconst 0, 1) := by decide +kernel
theorem d5_2 : decode prog_17_method_18_code 2 = .ok (.lcmp, 1) := by decide +kernel
theorem d5_3 : decode prog_17_method_18_code 3 = .ok (.ifCond .eq 16, 3) := by decide +kernel
theorem d5_6 : decode prog_17_method_18_code 6 = .ok (.lload_n 0, 1) := by decide +kernel
theorem d5_7 : decode prog_17_method_18_code 7 = .ok (.lload_n 2, 1) := by decide +kernel
theorem d5_8 : decode prog_17_method_18_code 8 = .ok (.lrem, 1) := by decide +kernel
theorem d5_9 : decode prog_17_method_18_code 9 = .ok (.lstore 4, 2) := by decide +kernel
theorem d5_11 : decode prog_17_method_18_code 11 = .ok (.lload_n 2, 1) := by decide +kernel
theorem d5_12 : decode prog_17_method_18_code 12 = .ok (.lstore_n 0, 1) := by decide +kernel
theorem d5_13 : decode prog_17_method_18_code 13 = .ok (.lload 4, 2) := by decide +kernel
theorem d5_15 : decode prog_17_method_18_code 15 = .ok (.lstore_n 2, 1) := by decide +kernel
theorem d5_16 : decode prog_17_method_18_code 16 = .ok (.goto (-16), 3) := by decide +kernel
set_option maxRecDepth 65536 in
theorem own_gloop {p : Program} {l : Launch} {e : Env} {R : Room} {s : State} {m : MethodId} {args : Array Value} {below : List Frame} {meth : Method} {c : Code} {T : State} {locs : List Loc} {cells slots : Nat} (X : Stand p l e R s m args below meth c T locs cells slots) (hx : p.tables.exec = Jvm.exec) (hby : c.code = prog_17_method_18_code) :
    ∀ (n : Nat) (a b z : Int64), 0 ≤ a.toInt → 0 ≤ b.toInt → b.toInt.toNat < n → ∃ w u : Int64, ∀ t, Steps p.tables e below (T.setTop (mkF m 19 #[.val (.long (own_g n a b)), .second, .val (.long w), .second, .val (.long u), .second] [])) t → Steps p.tables e below (T.setTop (mkF m 0 #[.val (.long a), .second, .val (.long b), .second, .val (.long z), .second] [])) t
  | 0, a, b, z, _, _, h => absurd h (Nat.not_lt_zero _)
  | n + 1, a, b, z, ha, h0, h => by
    by_cases hB0 : b = (0 : Int64)
    · refine ⟨b, z, fun t k => ?_⟩
      rw [show own_g (n + 1) a b = a from by unfold own_g; exact if_pos hB0] at k
      refine XS.lloadN X.here hx rfl (hb hby d5_0) rfl ?_
      show Steps p.tables e below (T.setTop (mkF m 1 #[.val (.long a), .second, .val (.long b), .second, .val (.long z), .second] [(.long b)])) t
      refine XS.lconst X.here hx rfl (hb hby d5_1) ?_
      show Steps p.tables e below (T.setTop (mkF m 2 #[.val (.long a), .second, .val (.long b), .second, .val (.long z), .second] [(.long (0 : Int64)), (.long b)])) t
      refine XT.lcmp X.here hx rfl (hb hby d5_2) rfl ?_
      show Steps p.tables e below (T.setTop (mkF m 3 #[.val (.long a), .second, .val (.long b), .second, .val (.long z), .second] [(.int (XT.cmpL b (0 : Int64)))])) t
      refine XS.ifYes X.here hx rfl (pc0 := 3) (pc' := 19) rfl (hb hby d5_3) rfl (XT.ll_eq_t hB0) (by decide) (by decide) ?_
      show Steps p.tables e below (T.setTop (mkF m 19 #[.val (.long a), .second, .val (.long b), .second, .val (.long z), .second] [])) t
      exact k
    · have hp : 0 < b.toInt := by
        have : b.toInt ≠ 0 := fun q => hB0 (Int64.toInt_inj.mp q)
        omega
      have hm := own_modr ha hp
      have h1 := Int.emod_nonneg a.toInt (show b.toInt ≠ 0 by omega)
      have h2 := Int.emod_lt_of_pos a.toInt hp
      obtain ⟨w, u, ih⟩ := own_gloop X hx hby n b (a % b) (a % b) h0 (by rw [hm]; exact h1) (by rw [hm]; omega)
      refine ⟨w, u, fun t k => ?_⟩
      rw [show own_g (n + 1) a b = own_g n b (a % b) from by rw [own_g, if_neg hB0]] at k
      refine XS.lloadN X.here hx rfl (hb hby d5_0) rfl ?_
      show Steps p.tables e below (T.setTop (mkF m 1 #[.val (.long a), .second, .val (.long b), .second, .val (.long z), .second] [(.long b)])) t
      refine XS.lconst X.here hx rfl (hb hby d5_1) ?_
      show Steps p.tables e below (T.setTop (mkF m 2 #[.val (.long a), .second, .val (.long b), .second, .val (.long z), .second] [(.long (0 : Int64)), (.long b)])) t
      refine XT.lcmp X.here hx rfl (hb hby d5_2) rfl ?_
      show Steps p.tables e below (T.setTop (mkF m 3 #[.val (.long a), .second, .val (.long b), .second, .val (.long z), .second] [(.int (XT.cmpL b (0 : Int64)))])) t
      refine XS.ifNo X.here hx rfl (hb hby d5_3) rfl (XT.ll_eq_f hB0) ?_
      show Steps p.tables e below (T.setTop (mkF m 6 #[.val (.long a), .second, .val (.long b), .second, .val (.long z), .second] [])) t
      refine XS.lloadN X.here hx rfl (hb hby d5_6) rfl ?_
      show Steps p.tables e below (T.setTop (mkF m 7 #[.val (.long a), .second, .val (.long b), .second, .val (.long z), .second] [(.long a)])) t
      refine XS.lloadN X.here hx rfl (hb hby d5_7) rfl ?_
      show Steps p.tables e below (T.setTop (mkF m 8 #[.val (.long a), .second, .val (.long b), .second, .val (.long z), .second] [(.long b), (.long a)])) t
      refine XS.lrem X.here hx rfl (hb hby d5_8) rfl hB0 ?_
      rw [lrem_mod]
      show Steps p.tables e below (T.setTop (mkF m 9 #[.val (.long a), .second, .val (.long b), .second, .val (.long z), .second] [(.long (a % b))])) t
      refine XS.lstore X.here hx rfl (hb hby d5_9) rfl (l' := #[.val (.long a), .second, .val (.long b), .second, .val (.long (a % b)), .second]) rfl ?_
      show Steps p.tables e below (T.setTop (mkF m 11 #[.val (.long a), .second, .val (.long b), .second, .val (.long (a % b)), .second] [])) t
      refine XS.lloadN X.here hx rfl (hb hby d5_11) rfl ?_
      show Steps p.tables e below (T.setTop (mkF m 12 #[.val (.long a), .second, .val (.long b), .second, .val (.long (a % b)), .second] [(.long b)])) t
      refine XS.lstoreN X.here hx rfl (hb hby d5_12) rfl (l' := #[.val (.long b), .second, .val (.long b), .second, .val (.long (a % b)), .second]) rfl ?_
      show Steps p.tables e below (T.setTop (mkF m 13 #[.val (.long b), .second, .val (.long b), .second, .val (.long (a % b)), .second] [])) t
      refine XS.lload X.here hx rfl (hb hby d5_13) rfl ?_
      show Steps p.tables e below (T.setTop (mkF m 15 #[.val (.long b), .second, .val (.long b), .second, .val (.long (a % b)), .second] [(.long (a % b))])) t
      refine XS.lstoreN X.here hx rfl (hb hby d5_15) rfl (l' := #[.val (.long b), .second, .val (.long (a % b)), .second, .val (.long (a % b)), .second]) rfl ?_
      show Steps p.tables e below (T.setTop (mkF m 16 #[.val (.long b), .second, .val (.long (a % b)), .second, .val (.long (a % b)), .second] [])) t
      refine XS.goto X.here hx rfl (pc0 := 16) (pc' := 0) rfl (hb hby d5_16) (by decide) (by decide) ?_
      show Steps p.tables e below (T.setTop (mkF m 0 #[.val (.long b), .second, .val (.long (a % b)), .second, .val (.long (a % b)), .second] [])) t
      exact ih t k
theorem d5_19 : decode prog_17_method_18_code 19 = .ok (.lload_n 0, 1) := by decide +kernel
theorem d5_20 : decode prog_17_method_18_code 20 = .ok (.lreturn, 1) := by decide +kernel
def vgcd_3 (q0 : Int64) (q1 : Int64) : Int64 := (own_g (q1.toInt.toNat + 1) q1 (q0 % q1))
def fgcd (q0 : Int64) (q1 : Int64) : Int64 := (vgcd_3 q0 q1)
def Qgcd (Z : State) (n0 : Nat) (q0 : Int64) (q1 : Int64) (h0 : Heap) (v : Option Value) (h : Heap) (L : List Loc) : Prop := v = some (.long (fgcd q0 q1)) ∧ Fr n0 L ∧ h = h0
theorem efgcd (m : MethodId) (q0 : Int64) (q1 : Int64) : entryFrame m #[(.long q0), (.long q1)] 6 = mkF m 0 #[.val (.long q0), .second, .val (.long q1), .second, .unset, .unset] [] := by first | (simp [entryFrame, mkF, argsToLocals, Value.category]; done) | rfl
set_option maxRecDepth 65536 in
set_option maxHeartbeats 40000000 in
theorem rmgcd (l : Launch) (Z : State) (aZ : Array Value) (hw : ∀ d ∈ tables_1, d.before aZ Z = true) (ws : List Jvm.Cond) (q0 : Int64) (q1 : Int64) (h0 : Heap) (n0 : Nat) (Z0 : n0 ≤ h0.size) (hA1 : 0 ≤ q0.toInt) (hB1 : 0 < q1.toInt) (hB0 : ¬ q1 = (0 : Int64)) :
    MetFree l (⟨"com/example/weir/weir/TokenBucket", "greatestCommonDivisor", "(JJ)J"⟩ : MethodName) (head1 (Jvm.Cond.code (⟨"com/example/weir/weir/TokenBucket", "greatestCommonDivisor", "(JJ)J"⟩ : MethodName) prog_17_method_18_code 6 (some .long) :: ws) ({ frames := 0, cells := 0, slots := 0, locals := 0 } : Room)) (fun a U => a = #[(.long q0), (.long q1)] ∧ Z.Warmed39 U.vm ∧ U.heap = h0) (fun _ _ _ _ _ => True) (fun _ U o U' => ∃ v L, o = .returned v ∧ Qgcd Z n0 q0 q1 h0 v U'.heap L ∧ FrameEnd U o U' L ({ frames := 0, cells := 0, slots := 0, locals := 0 } : Room).cells ({ frames := 0, cells := 0, slots := 0, locals := 0 } : Room).slots) := by
  refine MetFree.of_bodySF (plainFor_of_name pn_14) hisR ?_
  intro p e s m args below meth c s₁ Bd hml0 hP hK
  obtain ⟨rfl, hZ, hh⟩ := hP
  have hx := Bd.exec
  have hby := Bd.bytes
  have hml : c.maxLocals = 6 := hml0
  have hown : s.vm.findClass "com/example/weir/weir/TokenBucket" = some m.cls := findClass_of_methodNamed Bd.named
  have hnm := (name_of_methodNamed Bd.named Bd.method).1
  have X0 : Stand p l e ({ frames := 0, cells := 0, slots := 0, locals := 0 } : Room) s m #[(.long q0), (.long q1)] below meth c s₁ [] 0 0 := Stand.of_body Bd
  have e0 : s₁.heap = h0 := by rw [← hh, Bd.state]; rfl
  have N0 := Fr.nil n0
  have K0 : Keep h0 h0 [] := Keep.refl _ _
  have go0 : ∀ t, Steps p.tables e below (s₁.setTop (mkF m 0 #[.val (.long q0), .second, .val (.long q1), .second, .unset, .unset] [])) t → Steps p.tables e below (s₁.setTop (entryFrame m #[(.long q0), (.long q1)] 6)) t := fun t k => castTop (efgcd m q0 q1) k
  have go1 : ∀ t, Steps p.tables e below (s₁.setTop (mkF m 0 #[.val (.long q1), .second, .val (.long (q0 % q1)), .second, .val (.long (q0 % q1)), .second] [])) t → Steps p.tables e below (s₁.setTop (entryFrame m #[(.long q0), (.long q1)] 6)) t := by
    intro t k
    refine go0 _ ?_
    refine XS.lloadN X0.here hx rfl (hb hby d5_0) rfl ?_
    show Steps p.tables e below (s₁.setTop (mkF m 1 #[.val (.long q0), .second, .val (.long q1), .second, .unset, .unset] [(.long q1)])) t
    refine XS.lconst X0.here hx rfl (hb hby d5_1) ?_
    show Steps p.tables e below (s₁.setTop (mkF m 2 #[.val (.long q0), .second, .val (.long q1), .second, .unset, .unset] [(.long (0 : Int64)), (.long q1)])) t
    refine XT.lcmp X0.here hx rfl (hb hby d5_2) rfl ?_
    show Steps p.tables e below (s₁.setTop (mkF m 3 #[.val (.long q0), .second, .val (.long q1), .second, .unset, .unset] [(.int (XT.cmpL q1 (0 : Int64)))])) t
    refine XS.ifNo X0.here hx rfl (hb hby d5_3) rfl (XT.ll_eq_f hB0) ?_
    show Steps p.tables e below (s₁.setTop (mkF m 6 #[.val (.long q0), .second, .val (.long q1), .second, .unset, .unset] [])) t
    refine XS.lloadN X0.here hx rfl (hb hby d5_6) rfl ?_
    show Steps p.tables e below (s₁.setTop (mkF m 7 #[.val (.long q0), .second, .val (.long q1), .second, .unset, .unset] [(.long q0)])) t
    refine XS.lloadN X0.here hx rfl (hb hby d5_7) rfl ?_
    show Steps p.tables e below (s₁.setTop (mkF m 8 #[.val (.long q0), .second, .val (.long q1), .second, .unset, .unset] [(.long q1), (.long q0)])) t
    refine XS.lrem X0.here hx rfl (hb hby d5_8) rfl hB0 ?_
    rw [lrem_mod]
    show Steps p.tables e below (s₁.setTop (mkF m 9 #[.val (.long q0), .second, .val (.long q1), .second, .unset, .unset] [(.long (q0 % q1))])) t
    refine XS.lstore X0.here hx rfl (hb hby d5_9) rfl (l' := #[.val (.long q0), .second, .val (.long q1), .second, .val (.long (q0 % q1)), .second]) rfl ?_
    show Steps p.tables e below (s₁.setTop (mkF m 11 #[.val (.long q0), .second, .val (.long q1), .second, .val (.long (q0 % q1)), .second] [])) t
    refine XS.lloadN X0.here hx rfl (hb hby d5_11) rfl ?_
    show Steps p.tables e below (s₁.setTop (mkF m 12 #[.val (.long q0), .second, .val (.long q1), .second, .val (.long (q0 % q1)), .second] [(.long q1)])) t
    refine XS.lstoreN X0.here hx rfl (hb hby d5_12) rfl (l' := #[.val (.long q1), .second, .val (.long q1), .second, .val (.long (q0 % q1)), .second]) rfl ?_
    show Steps p.tables e below (s₁.setTop (mkF m 13 #[.val (.long q1), .second, .val (.long q1), .second, .val (.long (q0 % q1)), .second] [])) t
    refine XS.lload X0.here hx rfl (hb hby d5_13) rfl ?_
    show Steps p.tables e below (s₁.setTop (mkF m 15 #[.val (.long q1), .second, .val (.long q1), .second, .val (.long (q0 % q1)), .second] [(.long (q0 % q1))])) t
    refine XS.lstoreN X0.here hx rfl (hb hby d5_15) rfl (l' := #[.val (.long q1), .second, .val (.long (q0 % q1)), .second, .val (.long (q0 % q1)), .second]) rfl ?_
    show Steps p.tables e below (s₁.setTop (mkF m 16 #[.val (.long q1), .second, .val (.long (q0 % q1)), .second, .val (.long (q0 % q1)), .second] [])) t
    refine XS.goto X0.here hx rfl (pc0 := 16) (pc' := 0) rfl (hb hby d5_16) (by decide) (by decide) ?_
    show Steps p.tables e below (s₁.setTop (mkF m 0 #[.val (.long q1), .second, .val (.long (q0 % q1)), .second, .val (.long (q0 % q1)), .second] [])) t
    exact k
  have hm := own_modr hA1 hB1
  have h1 := Int.emod_nonneg q0.toInt (show q1.toInt ≠ 0 by omega)
  have h2 := Int.emod_lt_of_pos q0.toInt hB1
  obtain ⟨w, u, lp⟩ := own_gloop X0 hx hby (q1.toInt.toNat + 1) q1 (q0 % q1) (q0 % q1) (by omega) (by rw [hm]; exact h1) (by rw [hm]; omega)
  have go2 : ∀ t, Steps p.tables e below (s₁.setTop (mkF m 19 #[.val (.long (own_g (q1.toInt.toNat + 1) q1 (q0 % q1))), .second, .val (.long w), .second, .val (.long u), .second] [])) t → Steps p.tables e below (s₁.setTop (entryFrame m #[(.long q0), (.long q1)] 6)) t := fun t k => go1 t (lp t k)
  have go4 : ∀ t, Steps p.tables e below (s₁.setTop (mkF m 20 #[.val (.long (own_g (q1.toInt.toNat + 1) q1 (q0 % q1))), .second, .val (.long w), .second, .val (.long u), .second] [(.long (vgcd_3 q0 q1))])) t → Steps p.tables e below (s₁.setTop (entryFrame m #[(.long q0), (.long q1)] 6)) t := by
    intro t k
    refine go2 _ ?_
    refine XS.lloadN X0.here hx rfl (hb hby d5_19) rfl ?_
    show Steps p.tables e below (s₁.setTop (mkF m 20 #[.val (.long (own_g (q1.toInt.toNat + 1) q1 (q0 % q1))), .second, .val (.long w), .second, .val (.long u), .second] [(.long (own_g (q1.toInt.toNat + 1) q1 (q0 % q1)))])) t
    show Steps p.tables e below (s₁.setTop (mkF m 20 #[.val (.long (own_g (q1.toInt.toNat + 1) q1 (q0 % q1))), .second, .val (.long w), .second, .val (.long u), .second] [(.long (vgcd_3 q0 q1))])) t
    exact k
  obtain ⟨fs, hr, hrun, hended, hW, hsame⟩ := X0.leave (v := some (.long (vgcd_3 q0 q1))) (fun h => by rw [Bd.returns] at h; cases h)
  refine ⟨_, _, go4 _ (Jvm.RoadKit.retOut X0 hx Bd.returns rfl (Or.inr (Or.inl ⟨rfl, rfl, _, rfl⟩)) (hb hby d5_20) hr), hrun, hended, _, _, rfl, ?_, ⟨_, rfl⟩, hW, hsame.mono (by decide) (by decide)⟩
  show Qgcd _ _ q0 q1 h0 _ (s₁.setFrames fs).heap _
  have hE : (s₁.setFrames fs).heap = h0 := e0
  rw [hE]
  exact ⟨by rw [fgcd], N0, rfl⟩
theorem own_fg {a b : Int64} (hA1 : 0 ≤ a.toInt) (hB1 : 0 < b.toInt) : 1 ≤ (fgcd a b).toInt ∧ (fgcd a b).toInt ≤ b.toInt := by
  have hm := own_modr hA1 hB1
  have h1 := Int.emod_nonneg a.toInt (show b.toInt ≠ 0 by omega)
  have h2 := Int.emod_lt_of_pos a.toInt hB1
  have h := own_g_gcd (b.toInt.toNat + 1) b (a % b) (by omega) (by omega) (by omega)
  have h3 : 0 < Nat.gcd b.toInt.toNat (a % b).toInt.toNat := Nat.gcd_pos_of_pos_left _ (by omega)
  have h4 : Nat.gcd b.toInt.toNat (a % b).toInt.toNat ≤ b.toInt.toNat := Nat.gcd_le_left _ (by omega)
  have e : fgcd a b = own_g (b.toInt.toNat + 1) b (a % b) := rfl
  rw [e]; omega
theorem own_nz64 {x : Int64} (h : 1 ≤ x.toInt) : ¬ x = 0 := fun q => by
  rw [q] at h; exact absurd h (by decide)
theorem own_ge1 {x : Int64} (h : ¬ x < (1 : Int64)) : 1 ≤ x.toInt := by
  rw [Int64.lt_iff_toInt_lt] at h; have e : (1 : Int64).toInt = 1 := rfl
  omega
theorem own_nm1 {x : Int64} (h : 1 ≤ x.toInt) : x ≠ -1 := fun q => by
  rw [q] at h; exact absurd h (by decide)
theorem own_pg {a b : Int64} (hA1 : ¬ a < (1 : Int64)) (hB1 : ¬ b < (1 : Int64)) : 1 ≤ (b / fgcd a b).toInt ∧ (b / fgcd a b).toInt ≤ b.toInt := by
  have h1 := own_ge1 hA1; have h2 := own_ge1 hB1
  have g := own_fg (a := a) (b := b) (by omega) (by omega)
  have d := (c_ldiv b (fgcd a b) _ rfl (own_nm1 g.1)).1 (by omega)
  rw [d]
  constructor
  · exact (Int.le_ediv_iff_mul_le (by omega)).mpr (by omega)
  · exact Int.ediv_le_self _ (by omega)
theorem own_max {a b c : Int64} (hA1 : ¬ a < (1 : Int64)) (hB1 : ¬ b < (1 : Int64)) (hb : b.toInt ≤ 67108864) (hc : c.toInt ≤ 67108864) : ¬ (9007199254740991 : Int64) / (b / fgcd a b) < c := by
  have h := own_pg hA1 hB1
  have e : (9007199254740991 : Int64).toInt = 9007199254740991 := rfl
  have d := (c_ldiv 9007199254740991 (b / fgcd a b) _ rfl (own_nm1 h.1)).1 (by decide)
  rw [Int64.lt_iff_toInt_lt, d, e]
  have m : 67108864 ≤ 9007199254740991 / (b / fgcd a b).toInt := (Int.le_ediv_iff_mul_le (by omega)).mpr (by omega)
  omega
theorem d2_0 : decode prog_17_method_1_code 0 = .ok (.aload_n 0, 1) := by decide +kernel
theorem d2_1 : decode prog_17_method_1_code 1 = .ok (.invokespecial 1, 3) := by decide +kernel
theorem d2_4 : decode prog_17_method_1_code 4 = .ok (.ldc 7, 2) := by decide +kernel
theorem own_sa : ∀ a ∈ Bundle.stringAtoms, a ∈ tables_1 := by decide +kernel
theorem d2_6 : decode prog_17_method_1_code 6 = .ok (.lload_n 1, 1) := by decide +kernel
theorem d2_7 : decode prog_17_method_1_code 7 = .ok (.invokestatic 9, 3) := by decide +kernel
theorem pd_37 : parseMethodDescriptor "(Ljava/lang/String;J)V" = some ⟨[(.object "java/lang/String"), .long], none⟩ := by decide +kernel
theorem d2_10 : decode prog_17_method_1_code 10 = .ok (.ldc 15, 2) := by decide +kernel
theorem d2_12 : decode prog_17_method_1_code 12 = .ok (.lload_n 3, 1) := by decide +kernel
theorem d2_13 : decode prog_17_method_1_code 13 = .ok (.invokestatic 9, 3) := by decide +kernel
theorem d2_16 : decode prog_17_method_1_code 16 = .ok (.ldc 17, 2) := by decide +kernel
theorem d2_18 : decode prog_17_method_1_code 18 = .ok (.lload 5, 2) := by decide +kernel
theorem d2_20 : decode prog_17_method_1_code 20 = .ok (.invokestatic 9, 3) := by decide +kernel
theorem d2_23 : decode prog_17_method_1_code 23 = .ok (.lload_n 3, 1) := by decide +kernel
theorem d2_24 : decode prog_17_method_1_code 24 = .ok (.lload 5, 2) := by decide +kernel
theorem d2_26 : decode prog_17_method_1_code 26 = .ok (.invokestatic 19, 3) := by decide +kernel
theorem pd_47 : parseMethodDescriptor "(JJ)J" = some ⟨[.long, .long], some .long⟩ := by decide +kernel
theorem d2_29 : decode prog_17_method_1_code 29 = .ok (.lstore 7, 2) := by decide +kernel
theorem d2_31 : decode prog_17_method_1_code 31 = .ok (.lload 5, 2) := by decide +kernel
theorem d2_33 : decode prog_17_method_1_code 33 = .ok (.lload 7, 2) := by decide +kernel
theorem d2_35 : decode prog_17_method_1_code 35 = .ok (.ldiv, 1) := by decide +kernel
theorem d2_36 : decode prog_17_method_1_code 36 = .ok (.lstore 9, 2) := by decide +kernel
theorem d2_38 : decode prog_17_method_1_code 38 = .ok (.lload_n 1, 1) := by decide +kernel
theorem d2_39 : decode prog_17_method_1_code 39 = .ok (.ldc2_w 23, 3) := by decide +kernel
theorem d2_42 : decode prog_17_method_1_code 42 = .ok (.lload 9, 2) := by decide +kernel
theorem d2_44 : decode prog_17_method_1_code 44 = .ok (.ldiv, 1) := by decide +kernel
theorem d2_45 : decode prog_17_method_1_code 45 = .ok (.lcmp, 1) := by decide +kernel
theorem d2_46 : decode prog_17_method_1_code 46 = .ok (.ifCond .le 21, 3) := by decide +kernel
theorem d2_67 : decode prog_17_method_1_code 67 = .ok (.aload_n 0, 1) := by decide +kernel
theorem d2_68 : decode prog_17_method_1_code 68 = .ok (.lload_n 1, 1) := by decide +kernel
theorem d2_69 : decode prog_17_method_1_code 69 = .ok (.putfield 34, 3) := by decide +kernel
theorem d2_72 : decode prog_17_method_1_code 72 = .ok (.aload_n 0, 1) := by decide +kernel
theorem d2_73 : decode prog_17_method_1_code 73 = .ok (.lload_n 3, 1) := by decide +kernel
theorem d2_74 : decode prog_17_method_1_code 74 = .ok (.putfield 37, 3) := by decide +kernel
theorem d2_77 : decode prog_17_method_1_code 77 = .ok (.aload_n 0, 1) := by decide +kernel
theorem d2_78 : decode prog_17_method_1_code 78 = .ok (.lload 5, 2) := by decide +kernel
theorem d2_80 : decode prog_17_method_1_code 80 = .ok (.putfield 39, 3) := by decide +kernel
theorem d2_83 : decode prog_17_method_1_code 83 = .ok (.aload_n 0, 1) := by decide +kernel
theorem d2_84 : decode prog_17_method_1_code 84 = .ok (.lload 9, 2) := by decide +kernel
theorem d2_86 : decode prog_17_method_1_code 86 = .ok (.putfield 41, 3) := by decide +kernel
theorem d2_89 : decode prog_17_method_1_code 89 = .ok (.aload_n 0, 1) := by decide +kernel
theorem d2_90 : decode prog_17_method_1_code 90 = .ok (.lload_n 3, 1) := by decide +kernel
theorem d2_91 : decode prog_17_method_1_code 91 = .ok (.lload 7, 2) := by decide +kernel
theorem d2_93 : decode prog_17_method_1_code 93 = .ok (.ldiv, 1) := by decide +kernel
theorem d2_94 : decode prog_17_method_1_code 94 = .ok (.putfield 44, 3) := by decide +kernel
theorem d2_97 : decode prog_17_method_1_code 97 = .ok (.aload_n 0, 1) := by decide +kernel
theorem d2_98 : decode prog_17_method_1_code 98 = .ok (.lload_n 1, 1) := by decide +kernel
theorem d2_99 : decode prog_17_method_1_code 99 = .ok (.lload 9, 2) := by decide +kernel
theorem d2_101 : decode prog_17_method_1_code 101 = .ok (.lmul, 1) := by decide +kernel
theorem d2_102 : decode prog_17_method_1_code 102 = .ok (.putfield 47, 3) := by decide +kernel
theorem d2_105 : decode prog_17_method_1_code 105 = .ok (.return_, 1) := by decide +kernel
def v2_43 (q2 : Int64) (q3 : Int64) : Int64 := ((9007199254740991 : Int64) / (q3 / (fgcd q2 q3)))
def v2_94 (q1 : Int64) (q2 : Int64) (q3 : Int64) : Int64 := (q1 * (q3 / (fgcd q2 q3)))
def Q2 (Z : State) (n0 : Nat) (a0 : Addr) (q1 : Int64) (q2 : Int64) (q3 : Int64) (w_a0_capacity : Value) (w_a0_refillTokens : Value) (w_a0_refillPeriodMillis : Value) (w_a0_partsPerToken : Value) (w_a0_partsPerMilli : Value) (w_a0_fullLevel : Value) (h0 : Heap) (v : Option Value) (h : Heap) (L : List Loc) : Prop := v = none ∧ Fr n0 L ∧ Keep h0 h [a0] ∧ Exa Z h a0 "com/example/weir/weir/TokenBucket" ∧ Fld Z h a0 "com/example/weir/weir/TokenBucket" "capacity" "J" (.long q1) ∧ Fld Z h a0 "com/example/weir/weir/TokenBucket" "refillTokens" "J" (.long q2) ∧ Fld Z h a0 "com/example/weir/weir/TokenBucket" "refillPeriodMillis" "J" (.long q3) ∧ Fld Z h a0 "com/example/weir/weir/TokenBucket" "partsPerToken" "J" (.long (q3 / (fgcd q2 q3))) ∧ Fld Z h a0 "com/example/weir/weir/TokenBucket" "partsPerMilli" "J" (.long (q2 / (fgcd q2 q3))) ∧ Fld Z h a0 "com/example/weir/weir/TokenBucket" "fullLevel" "J" (.long (v2_94 q1 q2 q3))
theorem ef2 (m : MethodId) (a0 : Addr) (q1 : Int64) (q2 : Int64) (q3 : Int64) : entryFrame m #[(.ref a0), (.long q1), (.long q2), (.long q3)] 11 = mkF m 0 #[.val (.ref a0), .val (.long q1), .second, .val (.long q2), .second, .val (.long q3), .second, .unset, .unset, .unset, .unset] [] := by first | (simp [entryFrame, mkF, argsToLocals, Value.category]; done) | rfl
set_option maxRecDepth 65536 in
set_option maxHeartbeats 40000000 in
theorem rm2 (l : Launch) (Z : State) (aZ : Array Value) (hw : ∀ d ∈ tables_1, d.before aZ Z = true) (ws : List Jvm.Cond) (a0 : Addr) (q1 : Int64) (q2 : Int64) (q3 : Int64) (w_a0_capacity : Value) (w_a0_refillTokens : Value) (w_a0_refillPeriodMillis : Value) (w_a0_partsPerToken : Value) (w_a0_partsPerMilli : Value) (w_a0_fullLevel : Value) (h0 : Heap) (n0 : Nat) (Z0 : n0 ≤ h0.size) (E_a0 : Exa Z h0 a0 "com/example/weir/weir/TokenBucket") (F_a0_capacity : Fld Z h0 a0 "com/example/weir/weir/TokenBucket" "capacity" "J" w_a0_capacity) (F_a0_refillTokens : Fld Z h0 a0 "com/example/weir/weir/TokenBucket" "refillTokens" "J" w_a0_refillTokens) (F_a0_refillPeriodMillis : Fld Z h0 a0 "com/example/weir/weir/TokenBucket" "refillPeriodMillis" "J" w_a0_refillPeriodMillis) (F_a0_partsPerToken : Fld Z h0 a0 "com/example/weir/weir/TokenBucket" "partsPerToken" "J" w_a0_partsPerToken) (F_a0_partsPerMilli : Fld Z h0 a0 "com/example/weir/weir/TokenBucket" "partsPerMilli" "J" w_a0_partsPerMilli) (F_a0_fullLevel : Fld Z h0 a0 "com/example/weir/weir/TokenBucket" "fullLevel" "J" w_a0_fullLevel) (g_a0 : n0 ≤ a0) (h1 : ¬ q1 < (1 : Int64)) (h2 : ¬ q2 < (1 : Int64)) (h3 : ¬ q3 < (1 : Int64)) (hc : q1.toInt ≤ 67108864) (hp : q3.toInt ≤ 67108864) :
    MetFree l (⟨"com/example/weir/weir/TokenBucket", "<init>", "(JJJ)V"⟩ : MethodName) (head1 (Jvm.Cond.code (⟨"com/example/weir/weir/TokenBucket", "<init>", "(JJJ)V"⟩ : MethodName) prog_17_method_1_code 11 none :: ws) ({ frames := 1, cells := 6, slots := 164, locals := 17 } : Room)) (fun a U => a = #[(.ref a0), (.long q1), (.long q2), (.long q3)] ∧ Z.Warmed39 U.vm ∧ U.heap = h0) (fun _ _ _ _ _ => True) (fun _ U o U' => ∃ v L, o = .returned v ∧ Q2 Z n0 a0 q1 q2 q3 w_a0_capacity w_a0_refillTokens w_a0_refillPeriodMillis w_a0_partsPerToken w_a0_partsPerMilli w_a0_fullLevel h0 v U'.heap L ∧ ReturnedEndW U o U' L ({ frames := 1, cells := 6, slots := 164, locals := 17 } : Room).cells ({ frames := 1, cells := 6, slots := 164, locals := 17 } : Room).slots) := by
  refine MetFree.of_bodySF (plainFor_of_name pn_14) hisR ?_
  intro p e s m args below meth c s₁ Bd hml0 hP hK
  obtain ⟨rfl, hZ, hh⟩ := hP
  have hx := Bd.exec
  have hby := Bd.bytes
  have hml : c.maxLocals = 11 := hml0
  have hown : s.vm.findClass "com/example/weir/weir/TokenBucket" = some m.cls := findClass_of_methodNamed Bd.named
  have hnm := (name_of_methodNamed Bd.named Bd.method).1
  have X0 : Stand p l e ({ frames := 1, cells := 6, slots := 164, locals := 17 } : Room) (s.setVm s.vm) m #[(.ref a0), (.long q1), (.long q2), (.long q3)] below meth c s₁ [] 0 0 := Stand.of_body Bd
  have e0 : s₁.heap = h0 := by rw [← hh, Bd.state]; rfl
  have N0 := Fr.nil n0
  have K0 : Keep h0 h0 [a0] := Keep.refl _ _
  have go0 : ∀ t, Steps p.tables e below (s₁.setTop (mkF m 0 #[.val (.ref a0), .val (.long q1), .second, .val (.long q2), .second, .val (.long q3), .second, .unset, .unset, .unset, .unset] [])) t → Steps p.tables e below (s₁.setTop (entryFrame m #[(.ref a0), (.long q1), (.long q2), (.long q3)] 11)) t := fun t k => castTop (ef2 m a0 q1 q2 q3) k
  have hS0 : s.Since s.vm s.heap.size := (State.WarmedH.refl s).since _
  have hk0 : s.heap.size ≤ h0.size := by rw [← hh]; exact Nat.le_refl _
  have go1 : ∀ t, Steps p.tables e below (s₁.setTop (mkF m 1 #[.val (.ref a0), .val (.long q1), .second, .val (.long q2), .second, .val (.long q3), .second, .unset, .unset, .unset, .unset] [(.ref a0)])) t → Steps p.tables e below (s₁.setTop (entryFrame m #[(.ref a0), (.long q1), (.long q2), (.long q3)] 11)) t := by
    intro t k
    refine go0 _ ?_
    refine XS.aloadN X0.here hx rfl (hb hby d2_0) rfl rfl ?_
    show Steps p.tables e below (s₁.setTop (mkF m 1 #[.val (.ref a0), .val (.long q1), .second, .val (.long q2), .second, .val (.long q3), .second, .unset, .unset, .unset, .unset] [(.ref a0)])) t
    exact k
  obtain ⟨T2, X2, e2, st2⟩ := initO X0 hx hZ hown (hw _ (List.mem_of_getElem? (i := 13) rfl)) (hw _ (List.mem_of_getElem? (i := 14) rfl)) (hw _ (List.mem_of_getElem? (i := 15) rfl)) e0 (g := (mkF m 1 #[.val (.ref a0), .val (.long q1), .second, .val (.long q2), .second, .val (.long q3), .second, .unset, .unset, .unset, .unset] [(.ref a0)])) rfl (by rw [hml]; rfl) rfl (hb hby d2_1) (by decide) (W := 0) (by show 2 * 0 + _ ≤ _; exact Nat.le_of_eq rfl) (by decide)
  have go3 : ∀ t, Steps p.tables e below (T2.setTop (mkF m 4 #[.val (.ref a0), .val (.long q1), .second, .val (.long q2), .second, .val (.long q3), .second, .unset, .unset, .unset, .unset] [])) t → Steps p.tables e below (s₁.setTop (entryFrame m #[(.ref a0), (.long q1), (.long q2), (.long q3)] 11)) t := fun t k => go1 _ (st2 _ k)
  obtain ⟨b4, T4, h4, k4, X4, e4, E4, hS4, hk4, hZ4, hown4, st4⟩ := ldcS X2 hx hZ hown (hw _ (List.mem_of_getElem? (i := 16) rfl)) (fun a ha => hw a (own_sa a ha)) e2 hS0 hk0 (g := (mkF m 4 #[.val (.ref a0), .val (.long q1), .second, .val (.long q2), .second, .val (.long q3), .second, .unset, .unset, .unset, .unset] [])) rfl (hb hby d2_4) (n := 32) (by decide +kernel) (by decide) (by decide) (by decide)
  have go5 : ∀ t, Steps p.tables e below (T4.setTop (mkF m 6 #[.val (.ref a0), .val (.long q1), .second, .val (.long q2), .second, .val (.long q3), .second, .unset, .unset, .unset, .unset] [(.ref b4)])) t → Steps p.tables e below (s₁.setTop (entryFrame m #[(.ref a0), (.long q1), (.long q2), (.long q3)] 11)) t := fun t k => go3 _ (st4 _ k)
  have K4 : Keep h0 h4 [a0] := K0.ext E4
  have Zs4 : n0 ≤ h4.size := Nat.le_trans Z0 E4.1
  have F6 : Exa Z h4 a0 "com/example/weir/weir/TokenBucket" := E_a0.ext E4
  have F7 : Fld Z h4 a0 "com/example/weir/weir/TokenBucket" "capacity" "J" w_a0_capacity := F_a0_capacity.ext E4
  have F8 : Fld Z h4 a0 "com/example/weir/weir/TokenBucket" "refillTokens" "J" w_a0_refillTokens := F_a0_refillTokens.ext E4
  have F9 : Fld Z h4 a0 "com/example/weir/weir/TokenBucket" "refillPeriodMillis" "J" w_a0_refillPeriodMillis := F_a0_refillPeriodMillis.ext E4
  have F10 : Fld Z h4 a0 "com/example/weir/weir/TokenBucket" "partsPerToken" "J" w_a0_partsPerToken := F_a0_partsPerToken.ext E4
  have F11 : Fld Z h4 a0 "com/example/weir/weir/TokenBucket" "partsPerMilli" "J" w_a0_partsPerMilli := F_a0_partsPerMilli.ext E4
  have F12 : Fld Z h4 a0 "com/example/weir/weir/TokenBucket" "fullLevel" "J" w_a0_fullLevel := F_a0_fullLevel.ext E4
  have go13 : ∀ t, Steps p.tables e below (T4.setTop (mkF m 7 #[.val (.ref a0), .val (.long q1), .second, .val (.long q2), .second, .val (.long q3), .second, .unset, .unset, .unset, .unset] [(.long q1), (.ref b4)])) t → Steps p.tables e below (s₁.setTop (entryFrame m #[(.ref a0), (.long q1), (.long q2), (.long q3)] 11)) t := by
    intro t k
    refine go5 _ ?_
    refine XS.lloadN X4.here hx rfl (hb hby d2_6) rfl ?_
    show Steps p.tables e below (T4.setTop (mkF m 7 #[.val (.ref a0), .val (.long q1), .second, .val (.long q2), .second, .val (.long q3), .second, .unset, .unset, .unset, .unset] [(.long q1), (.ref b4)])) t
    exact k
  obtain ⟨_, _, ⟨T14, L14, k14, n14⟩, -, X14, ⟨Lc14, hQ14, l14, y14, z14⟩, st14⟩ := Jvm.LawKit.callS X4 hx (y := (⟨"com/example/weir/weir/TokenBucket", "requireAtLeastOne", "(Ljava/lang/String;J)V"⟩ : MethodName)) hown4 (mvT hZ4 (hw _ (List.mem_of_getElem? (i := 24) rfl))) (mvT hZ4 (hw _ (List.mem_of_getElem? (i := 25) rfl))) (mvT hZ4 (hw _ (List.mem_of_getElem? (i := 9) rfl))) (mvT hZ4 (hw _ (List.mem_of_getElem? (i := 26) rfl))) (by decide) (backOf (W := 0) (rm4 l Z aZ hw [] b4 q1 h4 n0 Zs4 h1) hZ4 (hw _ (List.mem_of_getElem? (i := 26) rfl)) (hw _ (List.mem_of_getElem? (i := 9) rfl)) (by decide) (by decide)) (g := (mkF m 7 #[.val (.ref a0), .val (.long q1), .second, .val (.long q2), .second, .val (.long q3), .second, .unset, .unset, .unset, .unset] [(.long q1), (.ref b4)])) rfl (by rw [hml]; rfl) (argsL := [(.ref b4), (.long q1)]) (rest := []) (lenOf pd_37 rfl) rfl (by show 2 * 0 + _ ≤ _; exact Nat.le_of_eq rfl) (hb hby d2_7) (fun _ _ => ⟨rfl, e4, (by decide : 2 + 0 ≤ _), (by decide : 36 + 0 ≤ _)⟩)
  dsimp only [Pt.U, Pt.locs, Pt.cells, Pt.slots] at X14 l14 y14 z14 st14 hQ14
  subst l14 y14 z14
  obtain ⟨rfl, N14q, e14⟩ := hQ14
  have N14 := Fr.app N0 N14q
  have go15 : ∀ t, Steps p.tables e below (T14.setTop (mkF m 10 #[.val (.ref a0), .val (.long q1), .second, .val (.long q2), .second, .val (.long q3), .second, .unset, .unset, .unset, .unset] [])) t → Steps p.tables e below (s₁.setTop (entryFrame m #[(.ref a0), (.long q1), (.long q2), (.long q3)] 11)) t := fun t k => go13 _ (st14 _ k)
  obtain ⟨b16, T16, h16, k16, X16, e16, E16, hS16, hk16, hZ16, hown16, st16⟩ := ldcS X14 hx hZ4 hown4 (hw _ (List.mem_of_getElem? (i := 27) rfl)) (fun a ha => hw a (own_sa a ha)) e14 hS4 hk4 (g := (mkF m 10 #[.val (.ref a0), .val (.long q1), .second, .val (.long q2), .second, .val (.long q3), .second, .unset, .unset, .unset, .unset] [])) rfl (hb hby d2_10) (n := 48) (by decide +kernel) (by decide) (by decide) (by decide)
  have go17 : ∀ t, Steps p.tables e below (T16.setTop (mkF m 12 #[.val (.ref a0), .val (.long q1), .second, .val (.long q2), .second, .val (.long q3), .second, .unset, .unset, .unset, .unset] [(.ref b16)])) t → Steps p.tables e below (s₁.setTop (entryFrame m #[(.ref a0), (.long q1), (.long q2), (.long q3)] 11)) t := fun t k => go15 _ (st16 _ k)
  have K16 : Keep h0 h16 [a0] := K4.ext E16
  have Zs16 : n0 ≤ h16.size := Nat.le_trans Zs4 E16.1
  have F18 : Exa Z h16 a0 "com/example/weir/weir/TokenBucket" := F6.ext E16
  have F19 : Fld Z h16 a0 "com/example/weir/weir/TokenBucket" "capacity" "J" w_a0_capacity := F7.ext E16
  have F20 : Fld Z h16 a0 "com/example/weir/weir/TokenBucket" "refillTokens" "J" w_a0_refillTokens := F8.ext E16
  have F21 : Fld Z h16 a0 "com/example/weir/weir/TokenBucket" "refillPeriodMillis" "J" w_a0_refillPeriodMillis := F9.ext E16
  have F22 : Fld Z h16 a0 "com/example/weir/weir/TokenBucket" "partsPerToken" "J" w_a0_partsPerToken := F10.ext E16
  have F23 : Fld Z h16 a0 "com/example/weir/weir/TokenBucket" "partsPerMilli" "J" w_a0_partsPerMilli := F11.ext E16
  have F24 : Fld Z h16 a0 "com/example/weir/weir/TokenBucket" "fullLevel" "J" w_a0_fullLevel := F12.ext E16
  have go25 : ∀ t, Steps p.tables e below (T16.setTop (mkF m 13 #[.val (.ref a0), .val (.long q1), .second, .val (.long q2), .second, .val (.long q3), .second, .unset, .unset, .unset, .unset] [(.long q2), (.ref b16)])) t → Steps p.tables e below (s₁.setTop (entryFrame m #[(.ref a0), (.long q1), (.long q2), (.long q3)] 11)) t := by
    intro t k
    refine go17 _ ?_
    refine XS.lloadN X16.here hx rfl (hb hby d2_12) rfl ?_
    show Steps p.tables e below (T16.setTop (mkF m 13 #[.val (.ref a0), .val (.long q1), .second, .val (.long q2), .second, .val (.long q3), .second, .unset, .unset, .unset, .unset] [(.long q2), (.ref b16)])) t
    exact k
  obtain ⟨_, _, ⟨T26, L26, k26, n26⟩, -, X26, ⟨Lc26, hQ26, l26, y26, z26⟩, st26⟩ := Jvm.LawKit.callS X16 hx (y := (⟨"com/example/weir/weir/TokenBucket", "requireAtLeastOne", "(Ljava/lang/String;J)V"⟩ : MethodName)) hown16 (mvT hZ16 (hw _ (List.mem_of_getElem? (i := 24) rfl))) (mvT hZ16 (hw _ (List.mem_of_getElem? (i := 25) rfl))) (mvT hZ16 (hw _ (List.mem_of_getElem? (i := 9) rfl))) (mvT hZ16 (hw _ (List.mem_of_getElem? (i := 26) rfl))) (by decide) (backOf (W := 0) (rm4 l Z aZ hw [] b16 q2 h16 n0 Zs16 h2) hZ16 (hw _ (List.mem_of_getElem? (i := 26) rfl)) (hw _ (List.mem_of_getElem? (i := 9) rfl)) (by decide) (by decide)) (g := (mkF m 13 #[.val (.ref a0), .val (.long q1), .second, .val (.long q2), .second, .val (.long q3), .second, .unset, .unset, .unset, .unset] [(.long q2), (.ref b16)])) rfl (by rw [hml]; rfl) (argsL := [(.ref b16), (.long q2)]) (rest := []) (lenOf pd_37 rfl) rfl (by show 2 * 0 + _ ≤ _; exact Nat.le_of_eq rfl) (hb hby d2_13) (fun _ _ => ⟨rfl, e16, (by decide : 4 + 0 ≤ _), (by decide : 88 + 0 ≤ _)⟩)
  dsimp only [Pt.U, Pt.locs, Pt.cells, Pt.slots] at X26 l26 y26 z26 st26 hQ26
  subst l26 y26 z26
  obtain ⟨rfl, N26q, e26⟩ := hQ26
  have N26 := Fr.app N14 N26q
  have go27 : ∀ t, Steps p.tables e below (T26.setTop (mkF m 16 #[.val (.ref a0), .val (.long q1), .second, .val (.long q2), .second, .val (.long q3), .second, .unset, .unset, .unset, .unset] [])) t → Steps p.tables e below (s₁.setTop (entryFrame m #[(.ref a0), (.long q1), (.long q2), (.long q3)] 11)) t := fun t k => go25 _ (st26 _ k)
  obtain ⟨b28, T28, h28, k28, X28, e28, E28, hS28, hk28, hZ28, hown28, st28⟩ := ldcS X26 hx hZ16 hown16 (hw _ (List.mem_of_getElem? (i := 28) rfl)) (fun a ha => hw a (own_sa a ha)) e26 hS16 hk16 (g := (mkF m 16 #[.val (.ref a0), .val (.long q1), .second, .val (.long q2), .second, .val (.long q3), .second, .unset, .unset, .unset, .unset] [])) rfl (hb hby d2_16) (n := 72) (by decide +kernel) (by decide) (by decide) (by decide)
  have go29 : ∀ t, Steps p.tables e below (T28.setTop (mkF m 18 #[.val (.ref a0), .val (.long q1), .second, .val (.long q2), .second, .val (.long q3), .second, .unset, .unset, .unset, .unset] [(.ref b28)])) t → Steps p.tables e below (s₁.setTop (entryFrame m #[(.ref a0), (.long q1), (.long q2), (.long q3)] 11)) t := fun t k => go27 _ (st28 _ k)
  have K28 : Keep h0 h28 [a0] := K16.ext E28
  have Zs28 : n0 ≤ h28.size := Nat.le_trans Zs16 E28.1
  have F30 : Exa Z h28 a0 "com/example/weir/weir/TokenBucket" := F18.ext E28
  have F31 : Fld Z h28 a0 "com/example/weir/weir/TokenBucket" "capacity" "J" w_a0_capacity := F19.ext E28
  have F32 : Fld Z h28 a0 "com/example/weir/weir/TokenBucket" "refillTokens" "J" w_a0_refillTokens := F20.ext E28
  have F33 : Fld Z h28 a0 "com/example/weir/weir/TokenBucket" "refillPeriodMillis" "J" w_a0_refillPeriodMillis := F21.ext E28
  have F34 : Fld Z h28 a0 "com/example/weir/weir/TokenBucket" "partsPerToken" "J" w_a0_partsPerToken := F22.ext E28
  have F35 : Fld Z h28 a0 "com/example/weir/weir/TokenBucket" "partsPerMilli" "J" w_a0_partsPerMilli := F23.ext E28
  have F36 : Fld Z h28 a0 "com/example/weir/weir/TokenBucket" "fullLevel" "J" w_a0_fullLevel := F24.ext E28
  have go37 : ∀ t, Steps p.tables e below (T28.setTop (mkF m 20 #[.val (.ref a0), .val (.long q1), .second, .val (.long q2), .second, .val (.long q3), .second, .unset, .unset, .unset, .unset] [(.long q3), (.ref b28)])) t → Steps p.tables e below (s₁.setTop (entryFrame m #[(.ref a0), (.long q1), (.long q2), (.long q3)] 11)) t := by
    intro t k
    refine go29 _ ?_
    refine XS.lload X28.here hx rfl (hb hby d2_18) rfl ?_
    show Steps p.tables e below (T28.setTop (mkF m 20 #[.val (.ref a0), .val (.long q1), .second, .val (.long q2), .second, .val (.long q3), .second, .unset, .unset, .unset, .unset] [(.long q3), (.ref b28)])) t
    exact k
  obtain ⟨_, _, ⟨T38, L38, k38, n38⟩, -, X38, ⟨Lc38, hQ38, l38, y38, z38⟩, st38⟩ := Jvm.LawKit.callS X28 hx (y := (⟨"com/example/weir/weir/TokenBucket", "requireAtLeastOne", "(Ljava/lang/String;J)V"⟩ : MethodName)) hown28 (mvT hZ28 (hw _ (List.mem_of_getElem? (i := 24) rfl))) (mvT hZ28 (hw _ (List.mem_of_getElem? (i := 25) rfl))) (mvT hZ28 (hw _ (List.mem_of_getElem? (i := 9) rfl))) (mvT hZ28 (hw _ (List.mem_of_getElem? (i := 26) rfl))) (by decide) (backOf (W := 0) (rm4 l Z aZ hw [] b28 q3 h28 n0 Zs28 h3) hZ28 (hw _ (List.mem_of_getElem? (i := 26) rfl)) (hw _ (List.mem_of_getElem? (i := 9) rfl)) (by decide) (by decide)) (g := (mkF m 20 #[.val (.ref a0), .val (.long q1), .second, .val (.long q2), .second, .val (.long q3), .second, .unset, .unset, .unset, .unset] [(.long q3), (.ref b28)])) rfl (by rw [hml]; rfl) (argsL := [(.ref b28), (.long q3)]) (rest := []) (lenOf pd_37 rfl) rfl (by show 2 * 0 + _ ≤ _; exact Nat.le_of_eq rfl) (hb hby d2_20) (fun _ _ => ⟨rfl, e28, (by decide : 6 + 0 ≤ _), (by decide : 164 + 0 ≤ _)⟩)
  dsimp only [Pt.U, Pt.locs, Pt.cells, Pt.slots] at X38 l38 y38 z38 st38 hQ38
  subst l38 y38 z38
  obtain ⟨rfl, N38q, e38⟩ := hQ38
  have N38 := Fr.app N26 N38q
  have go39 : ∀ t, Steps p.tables e below (T38.setTop (mkF m 23 #[.val (.ref a0), .val (.long q1), .second, .val (.long q2), .second, .val (.long q3), .second, .unset, .unset, .unset, .unset] [])) t → Steps p.tables e below (s₁.setTop (entryFrame m #[(.ref a0), (.long q1), (.long q2), (.long q3)] 11)) t := fun t k => go37 _ (st38 _ k)
  have go40 : ∀ t, Steps p.tables e below (T38.setTop (mkF m 26 #[.val (.ref a0), .val (.long q1), .second, .val (.long q2), .second, .val (.long q3), .second, .unset, .unset, .unset, .unset] [(.long q3), (.long q2)])) t → Steps p.tables e below (s₁.setTop (entryFrame m #[(.ref a0), (.long q1), (.long q2), (.long q3)] 11)) t := by
    intro t k
    refine go39 _ ?_
    refine XS.lloadN X38.here hx rfl (hb hby d2_23) rfl ?_
    show Steps p.tables e below (T38.setTop (mkF m 24 #[.val (.ref a0), .val (.long q1), .second, .val (.long q2), .second, .val (.long q3), .second, .unset, .unset, .unset, .unset] [(.long q2)])) t
    refine XS.lload X38.here hx rfl (hb hby d2_24) rfl ?_
    show Steps p.tables e below (T38.setTop (mkF m 26 #[.val (.ref a0), .val (.long q1), .second, .val (.long q2), .second, .val (.long q3), .second, .unset, .unset, .unset, .unset] [(.long q3), (.long q2)])) t
    exact k
  obtain ⟨_, _, ⟨T41, L41, k41, n41⟩, -, X41, ⟨Lc41, hQ41, l41, y41, z41⟩, st41⟩ := Jvm.LawKit.callS X38 hx (y := (⟨"com/example/weir/weir/TokenBucket", "greatestCommonDivisor", "(JJ)J"⟩ : MethodName)) hown28 (mvT hZ28 (hw _ (List.mem_of_getElem? (i := 29) rfl))) (mvT hZ28 (hw _ (List.mem_of_getElem? (i := 30) rfl))) (mvT hZ28 (hw _ (List.mem_of_getElem? (i := 9) rfl))) (mvT hZ28 (hw _ (List.mem_of_getElem? (i := 31) rfl))) (by decide) (backOf (W := 0) (rmgcd l Z aZ hw [] q2 q3 h28 n0 Zs28 (show 0 ≤ q2.toInt by have := own_ge1 h2; omega) (own_ge1 h3) (own_nz64 (own_ge1 h3))) hZ28 (hw _ (List.mem_of_getElem? (i := 31) rfl)) (hw _ (List.mem_of_getElem? (i := 9) rfl)) (by decide) (by decide)) (g := (mkF m 26 #[.val (.ref a0), .val (.long q1), .second, .val (.long q2), .second, .val (.long q3), .second, .unset, .unset, .unset, .unset] [(.long q3), (.long q2)])) rfl (by rw [hml]; rfl) (argsL := [(.long q2), (.long q3)]) (rest := []) (lenOf pd_47 rfl) rfl (by show 2 * 0 + _ ≤ _; exact Nat.le_of_eq rfl) (hb hby d2_26) (fun _ _ => ⟨rfl, e38, (by decide : 6 + 0 ≤ _), (by decide : 164 + 0 ≤ _)⟩)
  dsimp only [Pt.U, Pt.locs, Pt.cells, Pt.slots] at X41 l41 y41 z41 st41 hQ41
  subst l41 y41 z41
  obtain ⟨rfl, N41q, e41⟩ := hQ41
  have N41 := Fr.app N38 N41q
  have go42 : ∀ t, Steps p.tables e below (T41.setTop (mkF m 29 #[.val (.ref a0), .val (.long q1), .second, .val (.long q2), .second, .val (.long q3), .second, .unset, .unset, .unset, .unset] [(.long (fgcd q2 q3))])) t → Steps p.tables e below (s₁.setTop (entryFrame m #[(.ref a0), (.long q1), (.long q2), (.long q3)] 11)) t := fun t k => go40 _ (st41 _ k)
  have go44 : ∀ t, Steps p.tables e below (T41.setTop (mkF m 69 #[.val (.ref a0), .val (.long q1), .second, .val (.long q2), .second, .val (.long q3), .second, .val (.long (fgcd q2 q3)), .second, .val (.long (q3 / (fgcd q2 q3))), .second] [(.long q1), (.ref a0)])) t → Steps p.tables e below (s₁.setTop (entryFrame m #[(.ref a0), (.long q1), (.long q2), (.long q3)] 11)) t := by
    intro t k
    refine go42 _ ?_
    refine XS.lstore X41.here hx rfl (hb hby d2_29) rfl (l' := #[.val (.ref a0), .val (.long q1), .second, .val (.long q2), .second, .val (.long q3), .second, .val (.long (fgcd q2 q3)), .second, .unset, .unset]) rfl ?_
    show Steps p.tables e below (T41.setTop (mkF m 31 #[.val (.ref a0), .val (.long q1), .second, .val (.long q2), .second, .val (.long q3), .second, .val (.long (fgcd q2 q3)), .second, .unset, .unset] [])) t
    refine XS.lload X41.here hx rfl (hb hby d2_31) rfl ?_
    show Steps p.tables e below (T41.setTop (mkF m 33 #[.val (.ref a0), .val (.long q1), .second, .val (.long q2), .second, .val (.long q3), .second, .val (.long (fgcd q2 q3)), .second, .unset, .unset] [(.long q3)])) t
    refine XS.lload X41.here hx rfl (hb hby d2_33) rfl ?_
    show Steps p.tables e below (T41.setTop (mkF m 35 #[.val (.ref a0), .val (.long q1), .second, .val (.long q2), .second, .val (.long q3), .second, .val (.long (fgcd q2 q3)), .second, .unset, .unset] [(.long (fgcd q2 q3)), (.long q3)])) t
    refine XS.ldiv X41.here hx rfl (hb hby d2_35) rfl (own_nz64 (own_fg (show 0 ≤ q2.toInt by have := own_ge1 h2; omega) (own_ge1 h3)).1) ?_
    show Steps p.tables e below (T41.setTop (mkF m 36 #[.val (.ref a0), .val (.long q1), .second, .val (.long q2), .second, .val (.long q3), .second, .val (.long (fgcd q2 q3)), .second, .unset, .unset] [(.long (q3 / (fgcd q2 q3)))])) t
    refine XS.lstore X41.here hx rfl (hb hby d2_36) rfl (l' := #[.val (.ref a0), .val (.long q1), .second, .val (.long q2), .second, .val (.long q3), .second, .val (.long (fgcd q2 q3)), .second, .val (.long (q3 / (fgcd q2 q3))), .second]) rfl ?_
    show Steps p.tables e below (T41.setTop (mkF m 38 #[.val (.ref a0), .val (.long q1), .second, .val (.long q2), .second, .val (.long q3), .second, .val (.long (fgcd q2 q3)), .second, .val (.long (q3 / (fgcd q2 q3))), .second] [])) t
    refine XS.lloadN X41.here hx rfl (hb hby d2_38) rfl ?_
    show Steps p.tables e below (T41.setTop (mkF m 39 #[.val (.ref a0), .val (.long q1), .second, .val (.long q2), .second, .val (.long q3), .second, .val (.long (fgcd q2 q3)), .second, .val (.long (q3 / (fgcd q2 q3))), .second] [(.long q1)])) t
    refine X41.ldc2Long hx hown28 (mvT hZ28 (hw _ (List.mem_of_getElem? (i := 32) rfl))) (g := (mkF m 39 #[.val (.ref a0), .val (.long q1), .second, .val (.long q2), .second, .val (.long q3), .second, .val (.long (fgcd q2 q3)), .second, .val (.long (q3 / (fgcd q2 q3))), .second] [(.long q1)])) rfl (hb hby d2_39) _ ?_
    show Steps p.tables e below (T41.setTop (mkF m 42 #[.val (.ref a0), .val (.long q1), .second, .val (.long q2), .second, .val (.long q3), .second, .val (.long (fgcd q2 q3)), .second, .val (.long (q3 / (fgcd q2 q3))), .second] [(.long (9007199254740991 : Int64)), (.long q1)])) t
    refine XS.lload X41.here hx rfl (hb hby d2_42) rfl ?_
    show Steps p.tables e below (T41.setTop (mkF m 44 #[.val (.ref a0), .val (.long q1), .second, .val (.long q2), .second, .val (.long q3), .second, .val (.long (fgcd q2 q3)), .second, .val (.long (q3 / (fgcd q2 q3))), .second] [(.long (q3 / (fgcd q2 q3))), (.long (9007199254740991 : Int64)), (.long q1)])) t
    refine XS.ldiv X41.here hx rfl (hb hby d2_44) rfl (own_nz64 (own_pg h2 h3).1) ?_
    show Steps p.tables e below (T41.setTop (mkF m 45 #[.val (.ref a0), .val (.long q1), .second, .val (.long q2), .second, .val (.long q3), .second, .val (.long (fgcd q2 q3)), .second, .val (.long (q3 / (fgcd q2 q3))), .second] [(.long ((9007199254740991 : Int64) / (q3 / (fgcd q2 q3)))), (.long q1)])) t
    refine XT.lcmp X41.here hx rfl (hb hby d2_45) rfl ?_
    show Steps p.tables e below (T41.setTop (mkF m 46 #[.val (.ref a0), .val (.long q1), .second, .val (.long q2), .second, .val (.long q3), .second, .val (.long (fgcd q2 q3)), .second, .val (.long (q3 / (fgcd q2 q3))), .second] [(.int (XT.cmpL q1 (v2_43 q2 q3)))])) t
    refine XS.ifYes X41.here hx rfl (pc0 := 46) (pc' := 67) rfl (hb hby d2_46) rfl (XT.ll_le_t (own_max h2 h3 hp hc)) (by decide) (by decide) ?_
    show Steps p.tables e below (T41.setTop (mkF m 67 #[.val (.ref a0), .val (.long q1), .second, .val (.long q2), .second, .val (.long q3), .second, .val (.long (fgcd q2 q3)), .second, .val (.long (q3 / (fgcd q2 q3))), .second] [])) t
    refine XS.aloadN X41.here hx rfl (hb hby d2_67) rfl rfl ?_
    show Steps p.tables e below (T41.setTop (mkF m 68 #[.val (.ref a0), .val (.long q1), .second, .val (.long q2), .second, .val (.long q3), .second, .val (.long (fgcd q2 q3)), .second, .val (.long (q3 / (fgcd q2 q3))), .second] [(.ref a0)])) t
    refine XS.lloadN X41.here hx rfl (hb hby d2_68) rfl ?_
    show Steps p.tables e below (T41.setTop (mkF m 69 #[.val (.ref a0), .val (.long q1), .second, .val (.long q2), .second, .val (.long q3), .second, .val (.long (fgcd q2 q3)), .second, .val (.long (q3 / (fgcd q2 q3))), .second] [(.long q1), (.ref a0)])) t
    exact k
  obtain ⟨T45, h45, X45, e45, W45, st45⟩ := putF X41 hx hZ28 hown28 (host := "") (Or.inl (hw _ (List.mem_of_getElem? (i := 33) rfl))) Via.refl e41 F31 F30 (Or.inr ⟨(hw _ (List.mem_of_getElem? (i := 34) rfl)), rfl, hnm⟩) (hw _ (List.mem_of_getElem? (i := 8) rfl)) (ty := .long) (by decide) rfl rfl (g := (mkF m 69 #[.val (.ref a0), .val (.long q1), .second, .val (.long q2), .second, .val (.long q3), .second, .val (.long (fgcd q2 q3)), .second, .val (.long (q3 / (fgcd q2 q3))), .second] [(.long q1), (.ref a0)])) rfl rfl (hb hby d2_69)
  have go46 : ∀ t, Steps p.tables e below (T45.setTop (mkF m 72 #[.val (.ref a0), .val (.long q1), .second, .val (.long q2), .second, .val (.long q3), .second, .val (.long (fgcd q2 q3)), .second, .val (.long (q3 / (fgcd q2 q3))), .second] [])) t → Steps p.tables e below (s₁.setTop (entryFrame m #[(.ref a0), (.long q1), (.long q2), (.long q3)] 11)) t := fun t k => go44 _ (st45 _ k)
  have N45 := Fr.snoc X45 N41 g_a0
  have K45 : Keep h0 h45 [a0] := K28.wr W45 (Or.inl (List.mem_of_getElem? (i := 0) rfl))
  have Zs45 : n0 ≤ h45.size := Nat.le_trans Zs28 (Keep.of_wr W45).1
  have hk45 : k28 ≤ h45.size := Nat.le_trans hk28 (Keep.of_wr W45).1
  have F47 : Exa Z h45 a0 "com/example/weir/weir/TokenBucket" := F30.wr W45
  have F48 : Fld Z h45 a0 "com/example/weir/weir/TokenBucket" "capacity" "J" (.long q1) := F31.same W45
  have F49 : Fld Z h45 a0 "com/example/weir/weir/TokenBucket" "refillTokens" "J" w_a0_refillTokens := F32.other W45 (Or.inr (slot_ne (Or.inr (hw _ (List.mem_of_getElem? (i := 36) rfl))) (Or.inr (hw _ (List.mem_of_getElem? (i := 34) rfl))) (by decide) (t := .long) (t' := .long) (by decide) (by decide)))
  have F50 : Fld Z h45 a0 "com/example/weir/weir/TokenBucket" "refillPeriodMillis" "J" w_a0_refillPeriodMillis := F33.other W45 (Or.inr (slot_ne (Or.inr (hw _ (List.mem_of_getElem? (i := 38) rfl))) (Or.inr (hw _ (List.mem_of_getElem? (i := 34) rfl))) (by decide) (t := .long) (t' := .long) (by decide) (by decide)))
  have F51 : Fld Z h45 a0 "com/example/weir/weir/TokenBucket" "partsPerToken" "J" w_a0_partsPerToken := F34.other W45 (Or.inr (slot_ne (Or.inr (hw _ (List.mem_of_getElem? (i := 40) rfl))) (Or.inr (hw _ (List.mem_of_getElem? (i := 34) rfl))) (by decide) (t := .long) (t' := .long) (by decide) (by decide)))
  have F52 : Fld Z h45 a0 "com/example/weir/weir/TokenBucket" "partsPerMilli" "J" w_a0_partsPerMilli := F35.other W45 (Or.inr (slot_ne (Or.inr (hw _ (List.mem_of_getElem? (i := 42) rfl))) (Or.inr (hw _ (List.mem_of_getElem? (i := 34) rfl))) (by decide) (t := .long) (t' := .long) (by decide) (by decide)))
  have F53 : Fld Z h45 a0 "com/example/weir/weir/TokenBucket" "fullLevel" "J" w_a0_fullLevel := F36.other W45 (Or.inr (slot_ne (Or.inr (hw _ (List.mem_of_getElem? (i := 44) rfl))) (Or.inr (hw _ (List.mem_of_getElem? (i := 34) rfl))) (by decide) (t := .long) (t' := .long) (by decide) (by decide)))
  have go54 : ∀ t, Steps p.tables e below (T45.setTop (mkF m 74 #[.val (.ref a0), .val (.long q1), .second, .val (.long q2), .second, .val (.long q3), .second, .val (.long (fgcd q2 q3)), .second, .val (.long (q3 / (fgcd q2 q3))), .second] [(.long q2), (.ref a0)])) t → Steps p.tables e below (s₁.setTop (entryFrame m #[(.ref a0), (.long q1), (.long q2), (.long q3)] 11)) t := by
    intro t k
    refine go46 _ ?_
    refine XS.aloadN X45.here hx rfl (hb hby d2_72) rfl rfl ?_
    show Steps p.tables e below (T45.setTop (mkF m 73 #[.val (.ref a0), .val (.long q1), .second, .val (.long q2), .second, .val (.long q3), .second, .val (.long (fgcd q2 q3)), .second, .val (.long (q3 / (fgcd q2 q3))), .second] [(.ref a0)])) t
    refine XS.lloadN X45.here hx rfl (hb hby d2_73) rfl ?_
    show Steps p.tables e below (T45.setTop (mkF m 74 #[.val (.ref a0), .val (.long q1), .second, .val (.long q2), .second, .val (.long q3), .second, .val (.long (fgcd q2 q3)), .second, .val (.long (q3 / (fgcd q2 q3))), .second] [(.long q2), (.ref a0)])) t
    exact k
  obtain ⟨T55, h55, X55, e55, W55, st55⟩ := putF X45 hx hZ28 hown28 (host := "") (Or.inl (hw _ (List.mem_of_getElem? (i := 35) rfl))) Via.refl e45 F49 F47 (Or.inr ⟨(hw _ (List.mem_of_getElem? (i := 36) rfl)), rfl, hnm⟩) (hw _ (List.mem_of_getElem? (i := 8) rfl)) (ty := .long) (by decide) rfl rfl (g := (mkF m 74 #[.val (.ref a0), .val (.long q1), .second, .val (.long q2), .second, .val (.long q3), .second, .val (.long (fgcd q2 q3)), .second, .val (.long (q3 / (fgcd q2 q3))), .second] [(.long q2), (.ref a0)])) rfl rfl (hb hby d2_74)
  have go56 : ∀ t, Steps p.tables e below (T55.setTop (mkF m 77 #[.val (.ref a0), .val (.long q1), .second, .val (.long q2), .second, .val (.long q3), .second, .val (.long (fgcd q2 q3)), .second, .val (.long (q3 / (fgcd q2 q3))), .second] [])) t → Steps p.tables e below (s₁.setTop (entryFrame m #[(.ref a0), (.long q1), (.long q2), (.long q3)] 11)) t := fun t k => go54 _ (st55 _ k)
  have N55 := Fr.snoc X55 N45 g_a0
  have K55 : Keep h0 h55 [a0] := K45.wr W55 (Or.inl (List.mem_of_getElem? (i := 0) rfl))
  have Zs55 : n0 ≤ h55.size := Nat.le_trans Zs45 (Keep.of_wr W55).1
  have hk55 : k28 ≤ h55.size := Nat.le_trans hk45 (Keep.of_wr W55).1
  have F57 : Exa Z h55 a0 "com/example/weir/weir/TokenBucket" := F47.wr W55
  have F58 : Fld Z h55 a0 "com/example/weir/weir/TokenBucket" "capacity" "J" (.long q1) := F48.other W55 (Or.inr (slot_ne (Or.inr (hw _ (List.mem_of_getElem? (i := 34) rfl))) (Or.inr (hw _ (List.mem_of_getElem? (i := 36) rfl))) (by decide) (t := .long) (t' := .long) (by decide) (by decide)))
  have F59 : Fld Z h55 a0 "com/example/weir/weir/TokenBucket" "refillTokens" "J" (.long q2) := F49.same W55
  have F60 : Fld Z h55 a0 "com/example/weir/weir/TokenBucket" "refillPeriodMillis" "J" w_a0_refillPeriodMillis := F50.other W55 (Or.inr (slot_ne (Or.inr (hw _ (List.mem_of_getElem? (i := 38) rfl))) (Or.inr (hw _ (List.mem_of_getElem? (i := 36) rfl))) (by decide) (t := .long) (t' := .long) (by decide) (by decide)))
  have F61 : Fld Z h55 a0 "com/example/weir/weir/TokenBucket" "partsPerToken" "J" w_a0_partsPerToken := F51.other W55 (Or.inr (slot_ne (Or.inr (hw _ (List.mem_of_getElem? (i := 40) rfl))) (Or.inr (hw _ (List.mem_of_getElem? (i := 36) rfl))) (by decide) (t := .long) (t' := .long) (by decide) (by decide)))
  have F62 : Fld Z h55 a0 "com/example/weir/weir/TokenBucket" "partsPerMilli" "J" w_a0_partsPerMilli := F52.other W55 (Or.inr (slot_ne (Or.inr (hw _ (List.mem_of_getElem? (i := 42) rfl))) (Or.inr (hw _ (List.mem_of_getElem? (i := 36) rfl))) (by decide) (t := .long) (t' := .long) (by decide) (by decide)))
  have F63 : Fld Z h55 a0 "com/example/weir/weir/TokenBucket" "fullLevel" "J" w_a0_fullLevel := F53.other W55 (Or.inr (slot_ne (Or.inr (hw _ (List.mem_of_getElem? (i := 44) rfl))) (Or.inr (hw _ (List.mem_of_getElem? (i := 36) rfl))) (by decide) (t := .long) (t' := .long) (by decide) (by decide)))
  have go64 : ∀ t, Steps p.tables e below (T55.setTop (mkF m 80 #[.val (.ref a0), .val (.long q1), .second, .val (.long q2), .second, .val (.long q3), .second, .val (.long (fgcd q2 q3)), .second, .val (.long (q3 / (fgcd q2 q3))), .second] [(.long q3), (.ref a0)])) t → Steps p.tables e below (s₁.setTop (entryFrame m #[(.ref a0), (.long q1), (.long q2), (.long q3)] 11)) t := by
    intro t k
    refine go56 _ ?_
    refine XS.aloadN X55.here hx rfl (hb hby d2_77) rfl rfl ?_
    show Steps p.tables e below (T55.setTop (mkF m 78 #[.val (.ref a0), .val (.long q1), .second, .val (.long q2), .second, .val (.long q3), .second, .val (.long (fgcd q2 q3)), .second, .val (.long (q3 / (fgcd q2 q3))), .second] [(.ref a0)])) t
    refine XS.lload X55.here hx rfl (hb hby d2_78) rfl ?_
    show Steps p.tables e below (T55.setTop (mkF m 80 #[.val (.ref a0), .val (.long q1), .second, .val (.long q2), .second, .val (.long q3), .second, .val (.long (fgcd q2 q3)), .second, .val (.long (q3 / (fgcd q2 q3))), .second] [(.long q3), (.ref a0)])) t
    exact k
  obtain ⟨T65, h65, X65, e65, W65, st65⟩ := putF X55 hx hZ28 hown28 (host := "") (Or.inl (hw _ (List.mem_of_getElem? (i := 37) rfl))) Via.refl e55 F60 F57 (Or.inr ⟨(hw _ (List.mem_of_getElem? (i := 38) rfl)), rfl, hnm⟩) (hw _ (List.mem_of_getElem? (i := 8) rfl)) (ty := .long) (by decide) rfl rfl (g := (mkF m 80 #[.val (.ref a0), .val (.long q1), .second, .val (.long q2), .second, .val (.long q3), .second, .val (.long (fgcd q2 q3)), .second, .val (.long (q3 / (fgcd q2 q3))), .second] [(.long q3), (.ref a0)])) rfl rfl (hb hby d2_80)
  have go66 : ∀ t, Steps p.tables e below (T65.setTop (mkF m 83 #[.val (.ref a0), .val (.long q1), .second, .val (.long q2), .second, .val (.long q3), .second, .val (.long (fgcd q2 q3)), .second, .val (.long (q3 / (fgcd q2 q3))), .second] [])) t → Steps p.tables e below (s₁.setTop (entryFrame m #[(.ref a0), (.long q1), (.long q2), (.long q3)] 11)) t := fun t k => go64 _ (st65 _ k)
  have N65 := Fr.snoc X65 N55 g_a0
  have K65 : Keep h0 h65 [a0] := K55.wr W65 (Or.inl (List.mem_of_getElem? (i := 0) rfl))
  have Zs65 : n0 ≤ h65.size := Nat.le_trans Zs55 (Keep.of_wr W65).1
  have hk65 : k28 ≤ h65.size := Nat.le_trans hk55 (Keep.of_wr W65).1
  have F67 : Exa Z h65 a0 "com/example/weir/weir/TokenBucket" := F57.wr W65
  have F68 : Fld Z h65 a0 "com/example/weir/weir/TokenBucket" "capacity" "J" (.long q1) := F58.other W65 (Or.inr (slot_ne (Or.inr (hw _ (List.mem_of_getElem? (i := 34) rfl))) (Or.inr (hw _ (List.mem_of_getElem? (i := 38) rfl))) (by decide) (t := .long) (t' := .long) (by decide) (by decide)))
  have F69 : Fld Z h65 a0 "com/example/weir/weir/TokenBucket" "refillTokens" "J" (.long q2) := F59.other W65 (Or.inr (slot_ne (Or.inr (hw _ (List.mem_of_getElem? (i := 36) rfl))) (Or.inr (hw _ (List.mem_of_getElem? (i := 38) rfl))) (by decide) (t := .long) (t' := .long) (by decide) (by decide)))
  have F70 : Fld Z h65 a0 "com/example/weir/weir/TokenBucket" "refillPeriodMillis" "J" (.long q3) := F60.same W65
  have F71 : Fld Z h65 a0 "com/example/weir/weir/TokenBucket" "partsPerToken" "J" w_a0_partsPerToken := F61.other W65 (Or.inr (slot_ne (Or.inr (hw _ (List.mem_of_getElem? (i := 40) rfl))) (Or.inr (hw _ (List.mem_of_getElem? (i := 38) rfl))) (by decide) (t := .long) (t' := .long) (by decide) (by decide)))
  have F72 : Fld Z h65 a0 "com/example/weir/weir/TokenBucket" "partsPerMilli" "J" w_a0_partsPerMilli := F62.other W65 (Or.inr (slot_ne (Or.inr (hw _ (List.mem_of_getElem? (i := 42) rfl))) (Or.inr (hw _ (List.mem_of_getElem? (i := 38) rfl))) (by decide) (t := .long) (t' := .long) (by decide) (by decide)))
  have F73 : Fld Z h65 a0 "com/example/weir/weir/TokenBucket" "fullLevel" "J" w_a0_fullLevel := F63.other W65 (Or.inr (slot_ne (Or.inr (hw _ (List.mem_of_getElem? (i := 44) rfl))) (Or.inr (hw _ (List.mem_of_getElem? (i := 38) rfl))) (by decide) (t := .long) (t' := .long) (by decide) (by decide)))
  have go74 : ∀ t, Steps p.tables e below (T65.setTop (mkF m 86 #[.val (.ref a0), .val (.long q1), .second, .val (.long q2), .second, .val (.long q3), .second, .val (.long (fgcd q2 q3)), .second, .val (.long (q3 / (fgcd q2 q3))), .second] [(.long (q3 / (fgcd q2 q3))), (.ref a0)])) t → Steps p.tables e below (s₁.setTop (entryFrame m #[(.ref a0), (.long q1), (.long q2), (.long q3)] 11)) t := by
    intro t k
    refine go66 _ ?_
    refine XS.aloadN X65.here hx rfl (hb hby d2_83) rfl rfl ?_
    show Steps p.tables e below (T65.setTop (mkF m 84 #[.val (.ref a0), .val (.long q1), .second, .val (.long q2), .second, .val (.long q3), .second, .val (.long (fgcd q2 q3)), .second, .val (.long (q3 / (fgcd q2 q3))), .second] [(.ref a0)])) t
    refine XS.lload X65.here hx rfl (hb hby d2_84) rfl ?_
    show Steps p.tables e below (T65.setTop (mkF m 86 #[.val (.ref a0), .val (.long q1), .second, .val (.long q2), .second, .val (.long q3), .second, .val (.long (fgcd q2 q3)), .second, .val (.long (q3 / (fgcd q2 q3))), .second] [(.long (q3 / (fgcd q2 q3))), (.ref a0)])) t
    exact k
  obtain ⟨T75, h75, X75, e75, W75, st75⟩ := putF X65 hx hZ28 hown28 (host := "") (Or.inl (hw _ (List.mem_of_getElem? (i := 39) rfl))) Via.refl e65 F71 F67 (Or.inr ⟨(hw _ (List.mem_of_getElem? (i := 40) rfl)), rfl, hnm⟩) (hw _ (List.mem_of_getElem? (i := 8) rfl)) (ty := .long) (by decide) rfl rfl (g := (mkF m 86 #[.val (.ref a0), .val (.long q1), .second, .val (.long q2), .second, .val (.long q3), .second, .val (.long (fgcd q2 q3)), .second, .val (.long (q3 / (fgcd q2 q3))), .second] [(.long (q3 / (fgcd q2 q3))), (.ref a0)])) rfl rfl (hb hby d2_86)
  have go76 : ∀ t, Steps p.tables e below (T75.setTop (mkF m 89 #[.val (.ref a0), .val (.long q1), .second, .val (.long q2), .second, .val (.long q3), .second, .val (.long (fgcd q2 q3)), .second, .val (.long (q3 / (fgcd q2 q3))), .second] [])) t → Steps p.tables e below (s₁.setTop (entryFrame m #[(.ref a0), (.long q1), (.long q2), (.long q3)] 11)) t := fun t k => go74 _ (st75 _ k)
  have N75 := Fr.snoc X75 N65 g_a0
  have K75 : Keep h0 h75 [a0] := K65.wr W75 (Or.inl (List.mem_of_getElem? (i := 0) rfl))
  have Zs75 : n0 ≤ h75.size := Nat.le_trans Zs65 (Keep.of_wr W75).1
  have hk75 : k28 ≤ h75.size := Nat.le_trans hk65 (Keep.of_wr W75).1
  have F77 : Exa Z h75 a0 "com/example/weir/weir/TokenBucket" := F67.wr W75
  have F78 : Fld Z h75 a0 "com/example/weir/weir/TokenBucket" "capacity" "J" (.long q1) := F68.other W75 (Or.inr (slot_ne (Or.inr (hw _ (List.mem_of_getElem? (i := 34) rfl))) (Or.inr (hw _ (List.mem_of_getElem? (i := 40) rfl))) (by decide) (t := .long) (t' := .long) (by decide) (by decide)))
  have F79 : Fld Z h75 a0 "com/example/weir/weir/TokenBucket" "refillTokens" "J" (.long q2) := F69.other W75 (Or.inr (slot_ne (Or.inr (hw _ (List.mem_of_getElem? (i := 36) rfl))) (Or.inr (hw _ (List.mem_of_getElem? (i := 40) rfl))) (by decide) (t := .long) (t' := .long) (by decide) (by decide)))
  have F80 : Fld Z h75 a0 "com/example/weir/weir/TokenBucket" "refillPeriodMillis" "J" (.long q3) := F70.other W75 (Or.inr (slot_ne (Or.inr (hw _ (List.mem_of_getElem? (i := 38) rfl))) (Or.inr (hw _ (List.mem_of_getElem? (i := 40) rfl))) (by decide) (t := .long) (t' := .long) (by decide) (by decide)))
  have F81 : Fld Z h75 a0 "com/example/weir/weir/TokenBucket" "partsPerToken" "J" (.long (q3 / (fgcd q2 q3))) := F71.same W75
  have F82 : Fld Z h75 a0 "com/example/weir/weir/TokenBucket" "partsPerMilli" "J" w_a0_partsPerMilli := F72.other W75 (Or.inr (slot_ne (Or.inr (hw _ (List.mem_of_getElem? (i := 42) rfl))) (Or.inr (hw _ (List.mem_of_getElem? (i := 40) rfl))) (by decide) (t := .long) (t' := .long) (by decide) (by decide)))
  have F83 : Fld Z h75 a0 "com/example/weir/weir/TokenBucket" "fullLevel" "J" w_a0_fullLevel := F73.other W75 (Or.inr (slot_ne (Or.inr (hw _ (List.mem_of_getElem? (i := 44) rfl))) (Or.inr (hw _ (List.mem_of_getElem? (i := 40) rfl))) (by decide) (t := .long) (t' := .long) (by decide) (by decide)))
  have go84 : ∀ t, Steps p.tables e below (T75.setTop (mkF m 94 #[.val (.ref a0), .val (.long q1), .second, .val (.long q2), .second, .val (.long q3), .second, .val (.long (fgcd q2 q3)), .second, .val (.long (q3 / (fgcd q2 q3))), .second] [(.long (q2 / (fgcd q2 q3))), (.ref a0)])) t → Steps p.tables e below (s₁.setTop (entryFrame m #[(.ref a0), (.long q1), (.long q2), (.long q3)] 11)) t := by
    intro t k
    refine go76 _ ?_
    refine XS.aloadN X75.here hx rfl (hb hby d2_89) rfl rfl ?_
    show Steps p.tables e below (T75.setTop (mkF m 90 #[.val (.ref a0), .val (.long q1), .second, .val (.long q2), .second, .val (.long q3), .second, .val (.long (fgcd q2 q3)), .second, .val (.long (q3 / (fgcd q2 q3))), .second] [(.ref a0)])) t
    refine XS.lloadN X75.here hx rfl (hb hby d2_90) rfl ?_
    show Steps p.tables e below (T75.setTop (mkF m 91 #[.val (.ref a0), .val (.long q1), .second, .val (.long q2), .second, .val (.long q3), .second, .val (.long (fgcd q2 q3)), .second, .val (.long (q3 / (fgcd q2 q3))), .second] [(.long q2), (.ref a0)])) t
    refine XS.lload X75.here hx rfl (hb hby d2_91) rfl ?_
    show Steps p.tables e below (T75.setTop (mkF m 93 #[.val (.ref a0), .val (.long q1), .second, .val (.long q2), .second, .val (.long q3), .second, .val (.long (fgcd q2 q3)), .second, .val (.long (q3 / (fgcd q2 q3))), .second] [(.long (fgcd q2 q3)), (.long q2), (.ref a0)])) t
    refine XS.ldiv X75.here hx rfl (hb hby d2_93) rfl (own_nz64 (own_fg (show 0 ≤ q2.toInt by have := own_ge1 h2; omega) (own_ge1 h3)).1) ?_
    show Steps p.tables e below (T75.setTop (mkF m 94 #[.val (.ref a0), .val (.long q1), .second, .val (.long q2), .second, .val (.long q3), .second, .val (.long (fgcd q2 q3)), .second, .val (.long (q3 / (fgcd q2 q3))), .second] [(.long (q2 / (fgcd q2 q3))), (.ref a0)])) t
    exact k
  obtain ⟨T85, h85, X85, e85, W85, st85⟩ := putF X75 hx hZ28 hown28 (host := "") (Or.inl (hw _ (List.mem_of_getElem? (i := 41) rfl))) Via.refl e75 F82 F77 (Or.inr ⟨(hw _ (List.mem_of_getElem? (i := 42) rfl)), rfl, hnm⟩) (hw _ (List.mem_of_getElem? (i := 8) rfl)) (ty := .long) (by decide) rfl rfl (g := (mkF m 94 #[.val (.ref a0), .val (.long q1), .second, .val (.long q2), .second, .val (.long q3), .second, .val (.long (fgcd q2 q3)), .second, .val (.long (q3 / (fgcd q2 q3))), .second] [(.long (q2 / (fgcd q2 q3))), (.ref a0)])) rfl rfl (hb hby d2_94)
  have go86 : ∀ t, Steps p.tables e below (T85.setTop (mkF m 97 #[.val (.ref a0), .val (.long q1), .second, .val (.long q2), .second, .val (.long q3), .second, .val (.long (fgcd q2 q3)), .second, .val (.long (q3 / (fgcd q2 q3))), .second] [])) t → Steps p.tables e below (s₁.setTop (entryFrame m #[(.ref a0), (.long q1), (.long q2), (.long q3)] 11)) t := fun t k => go84 _ (st85 _ k)
  have N85 := Fr.snoc X85 N75 g_a0
  have K85 : Keep h0 h85 [a0] := K75.wr W85 (Or.inl (List.mem_of_getElem? (i := 0) rfl))
  have Zs85 : n0 ≤ h85.size := Nat.le_trans Zs75 (Keep.of_wr W85).1
  have hk85 : k28 ≤ h85.size := Nat.le_trans hk75 (Keep.of_wr W85).1
  have F87 : Exa Z h85 a0 "com/example/weir/weir/TokenBucket" := F77.wr W85
  have F88 : Fld Z h85 a0 "com/example/weir/weir/TokenBucket" "capacity" "J" (.long q1) := F78.other W85 (Or.inr (slot_ne (Or.inr (hw _ (List.mem_of_getElem? (i := 34) rfl))) (Or.inr (hw _ (List.mem_of_getElem? (i := 42) rfl))) (by decide) (t := .long) (t' := .long) (by decide) (by decide)))
  have F89 : Fld Z h85 a0 "com/example/weir/weir/TokenBucket" "refillTokens" "J" (.long q2) := F79.other W85 (Or.inr (slot_ne (Or.inr (hw _ (List.mem_of_getElem? (i := 36) rfl))) (Or.inr (hw _ (List.mem_of_getElem? (i := 42) rfl))) (by decide) (t := .long) (t' := .long) (by decide) (by decide)))
  have F90 : Fld Z h85 a0 "com/example/weir/weir/TokenBucket" "refillPeriodMillis" "J" (.long q3) := F80.other W85 (Or.inr (slot_ne (Or.inr (hw _ (List.mem_of_getElem? (i := 38) rfl))) (Or.inr (hw _ (List.mem_of_getElem? (i := 42) rfl))) (by decide) (t := .long) (t' := .long) (by decide) (by decide)))
  have F91 : Fld Z h85 a0 "com/example/weir/weir/TokenBucket" "partsPerToken" "J" (.long (q3 / (fgcd q2 q3))) := F81.other W85 (Or.inr (slot_ne (Or.inr (hw _ (List.mem_of_getElem? (i := 40) rfl))) (Or.inr (hw _ (List.mem_of_getElem? (i := 42) rfl))) (by decide) (t := .long) (t' := .long) (by decide) (by decide)))
  have F92 : Fld Z h85 a0 "com/example/weir/weir/TokenBucket" "partsPerMilli" "J" (.long (q2 / (fgcd q2 q3))) := F82.same W85
  have F93 : Fld Z h85 a0 "com/example/weir/weir/TokenBucket" "fullLevel" "J" w_a0_fullLevel := F83.other W85 (Or.inr (slot_ne (Or.inr (hw _ (List.mem_of_getElem? (i := 44) rfl))) (Or.inr (hw _ (List.mem_of_getElem? (i := 42) rfl))) (by decide) (t := .long) (t' := .long) (by decide) (by decide)))
  have go95 : ∀ t, Steps p.tables e below (T85.setTop (mkF m 102 #[.val (.ref a0), .val (.long q1), .second, .val (.long q2), .second, .val (.long q3), .second, .val (.long (fgcd q2 q3)), .second, .val (.long (q3 / (fgcd q2 q3))), .second] [(.long (v2_94 q1 q2 q3)), (.ref a0)])) t → Steps p.tables e below (s₁.setTop (entryFrame m #[(.ref a0), (.long q1), (.long q2), (.long q3)] 11)) t := by
    intro t k
    refine go86 _ ?_
    refine XS.aloadN X85.here hx rfl (hb hby d2_97) rfl rfl ?_
    show Steps p.tables e below (T85.setTop (mkF m 98 #[.val (.ref a0), .val (.long q1), .second, .val (.long q2), .second, .val (.long q3), .second, .val (.long (fgcd q2 q3)), .second, .val (.long (q3 / (fgcd q2 q3))), .second] [(.ref a0)])) t
    refine XS.lloadN X85.here hx rfl (hb hby d2_98) rfl ?_
    show Steps p.tables e below (T85.setTop (mkF m 99 #[.val (.ref a0), .val (.long q1), .second, .val (.long q2), .second, .val (.long q3), .second, .val (.long (fgcd q2 q3)), .second, .val (.long (q3 / (fgcd q2 q3))), .second] [(.long q1), (.ref a0)])) t
    refine XS.lload X85.here hx rfl (hb hby d2_99) rfl ?_
    show Steps p.tables e below (T85.setTop (mkF m 101 #[.val (.ref a0), .val (.long q1), .second, .val (.long q2), .second, .val (.long q3), .second, .val (.long (fgcd q2 q3)), .second, .val (.long (q3 / (fgcd q2 q3))), .second] [(.long (q3 / (fgcd q2 q3))), (.long q1), (.ref a0)])) t
    refine XS.lmul X85.here hx rfl (hb hby d2_101) rfl ?_
    show Steps p.tables e below (T85.setTop (mkF m 102 #[.val (.ref a0), .val (.long q1), .second, .val (.long q2), .second, .val (.long q3), .second, .val (.long (fgcd q2 q3)), .second, .val (.long (q3 / (fgcd q2 q3))), .second] [(.long (q1 * (q3 / (fgcd q2 q3)))), (.ref a0)])) t
    show Steps p.tables e below (T85.setTop (mkF m 102 #[.val (.ref a0), .val (.long q1), .second, .val (.long q2), .second, .val (.long q3), .second, .val (.long (fgcd q2 q3)), .second, .val (.long (q3 / (fgcd q2 q3))), .second] [(.long (v2_94 q1 q2 q3)), (.ref a0)])) t
    exact k
  obtain ⟨T96, h96, X96, e96, W96, st96⟩ := putF X85 hx hZ28 hown28 (host := "") (Or.inl (hw _ (List.mem_of_getElem? (i := 43) rfl))) Via.refl e85 F93 F87 (Or.inr ⟨(hw _ (List.mem_of_getElem? (i := 44) rfl)), rfl, hnm⟩) (hw _ (List.mem_of_getElem? (i := 8) rfl)) (ty := .long) (by decide) rfl rfl (g := (mkF m 102 #[.val (.ref a0), .val (.long q1), .second, .val (.long q2), .second, .val (.long q3), .second, .val (.long (fgcd q2 q3)), .second, .val (.long (q3 / (fgcd q2 q3))), .second] [(.long (v2_94 q1 q2 q3)), (.ref a0)])) rfl rfl (hb hby d2_102)
  have go97 : ∀ t, Steps p.tables e below (T96.setTop (mkF m 105 #[.val (.ref a0), .val (.long q1), .second, .val (.long q2), .second, .val (.long q3), .second, .val (.long (fgcd q2 q3)), .second, .val (.long (q3 / (fgcd q2 q3))), .second] [])) t → Steps p.tables e below (s₁.setTop (entryFrame m #[(.ref a0), (.long q1), (.long q2), (.long q3)] 11)) t := fun t k => go95 _ (st96 _ k)
  have N96 := Fr.snoc X96 N85 g_a0
  have K96 : Keep h0 h96 [a0] := K85.wr W96 (Or.inl (List.mem_of_getElem? (i := 0) rfl))
  have Zs96 : n0 ≤ h96.size := Nat.le_trans Zs85 (Keep.of_wr W96).1
  have hk96 : k28 ≤ h96.size := Nat.le_trans hk85 (Keep.of_wr W96).1
  have F98 : Exa Z h96 a0 "com/example/weir/weir/TokenBucket" := F87.wr W96
  have F99 : Fld Z h96 a0 "com/example/weir/weir/TokenBucket" "capacity" "J" (.long q1) := F88.other W96 (Or.inr (slot_ne (Or.inr (hw _ (List.mem_of_getElem? (i := 34) rfl))) (Or.inr (hw _ (List.mem_of_getElem? (i := 44) rfl))) (by decide) (t := .long) (t' := .long) (by decide) (by decide)))
  have F100 : Fld Z h96 a0 "com/example/weir/weir/TokenBucket" "refillTokens" "J" (.long q2) := F89.other W96 (Or.inr (slot_ne (Or.inr (hw _ (List.mem_of_getElem? (i := 36) rfl))) (Or.inr (hw _ (List.mem_of_getElem? (i := 44) rfl))) (by decide) (t := .long) (t' := .long) (by decide) (by decide)))
  have F101 : Fld Z h96 a0 "com/example/weir/weir/TokenBucket" "refillPeriodMillis" "J" (.long q3) := F90.other W96 (Or.inr (slot_ne (Or.inr (hw _ (List.mem_of_getElem? (i := 38) rfl))) (Or.inr (hw _ (List.mem_of_getElem? (i := 44) rfl))) (by decide) (t := .long) (t' := .long) (by decide) (by decide)))
  have F102 : Fld Z h96 a0 "com/example/weir/weir/TokenBucket" "partsPerToken" "J" (.long (q3 / (fgcd q2 q3))) := F91.other W96 (Or.inr (slot_ne (Or.inr (hw _ (List.mem_of_getElem? (i := 40) rfl))) (Or.inr (hw _ (List.mem_of_getElem? (i := 44) rfl))) (by decide) (t := .long) (t' := .long) (by decide) (by decide)))
  have F103 : Fld Z h96 a0 "com/example/weir/weir/TokenBucket" "partsPerMilli" "J" (.long (q2 / (fgcd q2 q3))) := F92.other W96 (Or.inr (slot_ne (Or.inr (hw _ (List.mem_of_getElem? (i := 42) rfl))) (Or.inr (hw _ (List.mem_of_getElem? (i := 44) rfl))) (by decide) (t := .long) (t' := .long) (by decide) (by decide)))
  have F104 : Fld Z h96 a0 "com/example/weir/weir/TokenBucket" "fullLevel" "J" (.long (v2_94 q1 q2 q3)) := F93.same W96
  obtain ⟨fs, hr, hrun, hended, hRW⟩ := X96.leaveW hS28 (by rw [e96]; exact hk96) (v := none) (fun _ => rfl)
  refine ⟨_, _, go97 _ (X96.returnOut hx Bd.returns (hb hby d2_105) hr), hrun, hended, _, _, rfl, ?_, hRW.1, hRW.2.1, hRW.2.2.1, hRW.2.2.2.mono (by decide) (by decide)⟩
  show Q2 _ _ a0 q1 q2 q3 w_a0_capacity w_a0_refillTokens w_a0_refillPeriodMillis w_a0_partsPerToken w_a0_partsPerMilli w_a0_fullLevel h0 _ (T96.setFrames fs).heap _
  have hE : (T96.setFrames fs).heap = h96 := e96
  rw [hE]
  exact ⟨rfl, N96, K96, F98, F99, F100, F101, F102, F103, F104⟩
theorem d6_0 : decode prog_17_method_14_code 0 = .ok (.aload_n 1, 1) := by decide +kernel
theorem d6_1 : decode prog_17_method_14_code 1 = .ok (.instanceof 10, 3) := by decide +kernel
theorem d6_4 : decode prog_17_method_14_code 4 = .ok (.ifCond .eq 48, 3) := by decide +kernel
theorem d6_7 : decode prog_17_method_14_code 7 = .ok (.aload_n 1, 1) := by decide +kernel
theorem d6_8 : decode prog_17_method_14_code 8 = .ok (.checkcast 10, 3) := by decide +kernel
theorem d6_11 : decode prog_17_method_14_code 11 = .ok (.astore_n 2, 1) := by decide +kernel
theorem d6_12 : decode prog_17_method_14_code 12 = .ok (.aload_n 0, 1) := by decide +kernel
theorem d6_13 : decode prog_17_method_14_code 13 = .ok (.getfield 34, 3) := by decide +kernel
theorem d6_16 : decode prog_17_method_14_code 16 = .ok (.aload_n 2, 1) := by decide +kernel
theorem d6_17 : decode prog_17_method_14_code 17 = .ok (.getfield 34, 3) := by decide +kernel
theorem d6_20 : decode prog_17_method_14_code 20 = .ok (.lcmp, 1) := by decide +kernel
theorem d6_21 : decode prog_17_method_14_code 21 = .ok (.ifCond .ne 31, 3) := by decide +kernel
theorem d6_24 : decode prog_17_method_14_code 24 = .ok (.aload_n 0, 1) := by decide +kernel
theorem d6_25 : decode prog_17_method_14_code 25 = .ok (.getfield 37, 3) := by decide +kernel
theorem d6_28 : decode prog_17_method_14_code 28 = .ok (.aload_n 2, 1) := by decide +kernel
theorem d6_29 : decode prog_17_method_14_code 29 = .ok (.getfield 37, 3) := by decide +kernel
theorem d6_32 : decode prog_17_method_14_code 32 = .ok (.lcmp, 1) := by decide +kernel
theorem d6_33 : decode prog_17_method_14_code 33 = .ok (.ifCond .ne 19, 3) := by decide +kernel
theorem d6_36 : decode prog_17_method_14_code 36 = .ok (.aload_n 0, 1) := by decide +kernel
theorem d6_37 : decode prog_17_method_14_code 37 = .ok (.getfield 39, 3) := by decide +kernel
theorem d6_40 : decode prog_17_method_14_code 40 = .ok (.aload_n 2, 1) := by decide +kernel
theorem d6_41 : decode prog_17_method_14_code 41 = .ok (.getfield 39, 3) := by decide +kernel
theorem d6_44 : decode prog_17_method_14_code 44 = .ok (.lcmp, 1) := by decide +kernel
theorem d6_45 : decode prog_17_method_14_code 45 = .ok (.ifCond .ne 7, 3) := by decide +kernel
theorem d6_48 : decode prog_17_method_14_code 48 = .ok (.iconst 1, 1) := by decide +kernel
theorem d6_49 : decode prog_17_method_14_code 49 = .ok (.goto 4, 3) := by decide +kernel
theorem d6_52 : decode prog_17_method_14_code 52 = .ok (.iconst 0, 1) := by decide +kernel
theorem d6_53 : decode prog_17_method_14_code 53 = .ok (.ireturn, 1) := by decide +kernel
def beqW_31 (w_a0_refillPeriodMillis : Int64) (w_a1_refillPeriodMillis : Int64) : Int32 := (if w_a0_refillPeriodMillis = w_a1_refillPeriodMillis then (1 : Int32) else (0 : Int32))
def veqW_34 (w_a0_refillPeriodMillis : Int64) (w_a1_refillPeriodMillis : Int64) : Int32 := (beqW_31 w_a0_refillPeriodMillis w_a1_refillPeriodMillis)
def feqW (w_a0_capacity : Int64) (w_a0_refillTokens : Int64) (w_a0_refillPeriodMillis : Int64) (w_a1_capacity : Int64) (w_a1_refillTokens : Int64) (w_a1_refillPeriodMillis : Int64) : Int32 := (if w_a0_capacity = w_a1_capacity then (if w_a0_refillTokens = w_a1_refillTokens then (veqW_34 w_a0_refillPeriodMillis w_a1_refillPeriodMillis) else (0 : Int32)) else (0 : Int32))
def QeqW (Z : State) (n0 : Nat) (a0 : Addr) (a1 : Addr) (w_a0_capacity : Int64) (w_a0_refillTokens : Int64) (w_a0_refillPeriodMillis : Int64) (w_a1_capacity : Int64) (w_a1_refillTokens : Int64) (w_a1_refillPeriodMillis : Int64) (h0 : Heap) (v : Option Value) (h : Heap) (L : List Loc) : Prop := v = some (.int (feqW w_a0_capacity w_a0_refillTokens w_a0_refillPeriodMillis w_a1_capacity w_a1_refillTokens w_a1_refillPeriodMillis)) ∧ Fr n0 L ∧ h = h0
theorem efeqW (m : MethodId) (a0 : Addr) (a1 : Addr) : entryFrame m #[(.ref a0), (.ref a1)] 3 = mkF m 0 #[.val (.ref a0), .val (.ref a1), .unset] [] := by first | (simp [entryFrame, mkF, argsToLocals, Value.category]; done) | rfl
set_option maxRecDepth 65536 in
set_option maxHeartbeats 40000000 in
theorem rmeqW (l : Launch) (Z : State) (aZ : Array Value) (hw : ∀ d ∈ tables_1, d.before aZ Z = true) (ws : List Jvm.Cond) (a0 : Addr) (a1 : Addr) (w_a0_capacity : Int64) (w_a0_refillTokens : Int64) (w_a0_refillPeriodMillis : Int64) (w_a1_capacity : Int64) (w_a1_refillTokens : Int64) (w_a1_refillPeriodMillis : Int64) (h0 : Heap) (n0 : Nat) (Z0 : n0 ≤ h0.size) (F_a0_capacity : Fld Z h0 a0 "com/example/weir/weir/TokenBucket" "capacity" "J" (.long w_a0_capacity)) (F_a0_refillTokens : Fld Z h0 a0 "com/example/weir/weir/TokenBucket" "refillTokens" "J" (.long w_a0_refillTokens)) (F_a0_refillPeriodMillis : Fld Z h0 a0 "com/example/weir/weir/TokenBucket" "refillPeriodMillis" "J" (.long w_a0_refillPeriodMillis)) (E_a1 : Exa Z h0 a1 "com/example/weir/weir/TokenBucket") (F_a1_capacity : Fld Z h0 a1 "com/example/weir/weir/TokenBucket" "capacity" "J" (.long w_a1_capacity)) (F_a1_refillTokens : Fld Z h0 a1 "com/example/weir/weir/TokenBucket" "refillTokens" "J" (.long w_a1_refillTokens)) (F_a1_refillPeriodMillis : Fld Z h0 a1 "com/example/weir/weir/TokenBucket" "refillPeriodMillis" "J" (.long w_a1_refillPeriodMillis)) :
    MetFree l (⟨"com/example/weir/weir/TokenBucket", "equals", "(Ljava/lang/Object;)Z"⟩ : MethodName) (head1 (Jvm.Cond.code (⟨"com/example/weir/weir/TokenBucket", "equals", "(Ljava/lang/Object;)Z"⟩ : MethodName) prog_17_method_14_code 3 (some .boolean) :: ws) ({ frames := 0, cells := 0, slots := 0, locals := 0 } : Room)) (fun a U => a = #[(.ref a0), (.ref a1)] ∧ Z.Warmed39 U.vm ∧ U.heap = h0) (fun _ _ _ _ _ => True) (fun _ U o U' => ∃ v L, o = .returned v ∧ QeqW Z n0 a0 a1 w_a0_capacity w_a0_refillTokens w_a0_refillPeriodMillis w_a1_capacity w_a1_refillTokens w_a1_refillPeriodMillis h0 v U'.heap L ∧ FrameEnd U o U' L ({ frames := 0, cells := 0, slots := 0, locals := 0 } : Room).cells ({ frames := 0, cells := 0, slots := 0, locals := 0 } : Room).slots) := by
  refine MetFree.of_bodySF (plainFor_of_name pn_14) hisR ?_
  intro p e s m args below meth c s₁ Bd hml0 hP hK
  obtain ⟨rfl, hZ, hh⟩ := hP
  have hx := Bd.exec
  have hby := Bd.bytes
  have hml : c.maxLocals = 3 := hml0
  have hown : s.vm.findClass "com/example/weir/weir/TokenBucket" = some m.cls := findClass_of_methodNamed Bd.named
  have hnm := (name_of_methodNamed Bd.named Bd.method).1
  have X0 : Stand p l e ({ frames := 0, cells := 0, slots := 0, locals := 0 } : Room) s m #[(.ref a0), (.ref a1)] below meth c s₁ [] 0 0 := Stand.of_body Bd
  have e0 : s₁.heap = h0 := by rw [← hh, Bd.state]; rfl
  have N0 := Fr.nil n0
  have K0 : Keep h0 h0 [] := Keep.refl _ _
  have go0 : ∀ t, Steps p.tables e below (s₁.setTop (mkF m 0 #[.val (.ref a0), .val (.ref a1), .unset] [])) t → Steps p.tables e below (s₁.setTop (entryFrame m #[(.ref a0), (.ref a1)] 3)) t := fun t k => castTop (efeqW m a0 a1) k
  have go1 : ∀ t, Steps p.tables e below (s₁.setTop (mkF m 1 #[.val (.ref a0), .val (.ref a1), .unset] [(.ref a1)])) t → Steps p.tables e below (s₁.setTop (entryFrame m #[(.ref a0), (.ref a1)] 3)) t := by
    intro t k
    refine go0 _ ?_
    refine XS.aloadN X0.here hx rfl (hb hby d6_0) rfl rfl ?_
    show Steps p.tables e below (s₁.setTop (mkF m 1 #[.val (.ref a0), .val (.ref a1), .unset] [(.ref a1)])) t
    exact k
  obtain ⟨T2, X2, e2, st2⟩ := instY X0 hx hZ hown (hw _ (List.mem_of_getElem? (i := 50) rfl)) e0 (Ins.self E_a1) (g := (mkF m 1 #[.val (.ref a0), .val (.ref a1), .unset] [(.ref a1)])) rfl rfl (hb hby d6_1)
  have go3 : ∀ t, Steps p.tables e below (T2.setTop (mkF m 4 #[.val (.ref a0), .val (.ref a1), .unset] [(.int (1 : Int32))])) t → Steps p.tables e below (s₁.setTop (entryFrame m #[(.ref a0), (.ref a1)] 3)) t := fun t k => go1 _ (st2 _ k)
  have go4 : ∀ t, Steps p.tables e below (T2.setTop (mkF m 8 #[.val (.ref a0), .val (.ref a1), .unset] [(.ref a1)])) t → Steps p.tables e below (s₁.setTop (entryFrame m #[(.ref a0), (.ref a1)] 3)) t := by
    intro t k
    refine go3 _ ?_
    refine XS.ifNo X2.here hx rfl (hb hby d6_4) rfl (XT.i0_eq_f (by decide : ¬ ((1 : Int32) = (0 : Int32)))) ?_
    show Steps p.tables e below (T2.setTop (mkF m 7 #[.val (.ref a0), .val (.ref a1), .unset] [])) t
    refine XS.aloadN X2.here hx rfl (hb hby d6_7) rfl rfl ?_
    show Steps p.tables e below (T2.setTop (mkF m 8 #[.val (.ref a0), .val (.ref a1), .unset] [(.ref a1)])) t
    exact k
  obtain ⟨T5, X5, e5, st5⟩ := castY X2 hx hZ hown (hw _ (List.mem_of_getElem? (i := 50) rfl)) e2 (Ins.self E_a1) (g := (mkF m 8 #[.val (.ref a0), .val (.ref a1), .unset] [(.ref a1)])) rfl rfl (hb hby d6_8)
  have go6 : ∀ t, Steps p.tables e below (T5.setTop (mkF m 11 #[.val (.ref a0), .val (.ref a1), .unset] [(.ref a1)])) t → Steps p.tables e below (s₁.setTop (entryFrame m #[(.ref a0), (.ref a1)] 3)) t := fun t k => go4 _ (st5 _ k)
  have go7 : ∀ t, Steps p.tables e below (T5.setTop (mkF m 13 #[.val (.ref a0), .val (.ref a1), .val (.ref a1)] [(.ref a0)])) t → Steps p.tables e below (s₁.setTop (entryFrame m #[(.ref a0), (.ref a1)] 3)) t := by
    intro t k
    refine go6 _ ?_
    refine XS.astoreN X5.here hx rfl (hb hby d6_11) rfl rfl (l' := #[.val (.ref a0), .val (.ref a1), .val (.ref a1)]) rfl ?_
    show Steps p.tables e below (T5.setTop (mkF m 12 #[.val (.ref a0), .val (.ref a1), .val (.ref a1)] [])) t
    refine XS.aloadN X5.here hx rfl (hb hby d6_12) rfl rfl ?_
    show Steps p.tables e below (T5.setTop (mkF m 13 #[.val (.ref a0), .val (.ref a1), .val (.ref a1)] [(.ref a0)])) t
    exact k
  obtain ⟨T8, X8, e8, st8⟩ := getF X5 hx hZ hown (host := "") (Or.inl (hw _ (List.mem_of_getElem? (i := 33) rfl))) Via.refl e5 F_a0_capacity (g := (mkF m 13 #[.val (.ref a0), .val (.ref a1), .val (.ref a1)] [(.ref a0)])) rfl rfl (hb hby d6_13)
  have go9 : ∀ t, Steps p.tables e below (T8.setTop (mkF m 16 #[.val (.ref a0), .val (.ref a1), .val (.ref a1)] [(.long w_a0_capacity)])) t → Steps p.tables e below (s₁.setTop (entryFrame m #[(.ref a0), (.ref a1)] 3)) t := fun t k => go7 _ (st8 _ k)
  have go10 : ∀ t, Steps p.tables e below (T8.setTop (mkF m 17 #[.val (.ref a0), .val (.ref a1), .val (.ref a1)] [(.ref a1), (.long w_a0_capacity)])) t → Steps p.tables e below (s₁.setTop (entryFrame m #[(.ref a0), (.ref a1)] 3)) t := by
    intro t k
    refine go9 _ ?_
    refine XS.aloadN X8.here hx rfl (hb hby d6_16) rfl rfl ?_
    show Steps p.tables e below (T8.setTop (mkF m 17 #[.val (.ref a0), .val (.ref a1), .val (.ref a1)] [(.ref a1), (.long w_a0_capacity)])) t
    exact k
  obtain ⟨T11, X11, e11, st11⟩ := getF X8 hx hZ hown (host := "") (Or.inl (hw _ (List.mem_of_getElem? (i := 33) rfl))) Via.refl e8 F_a1_capacity (g := (mkF m 17 #[.val (.ref a0), .val (.ref a1), .val (.ref a1)] [(.ref a1), (.long w_a0_capacity)])) rfl rfl (hb hby d6_17)
  have go12 : ∀ t, Steps p.tables e below (T11.setTop (mkF m 20 #[.val (.ref a0), .val (.ref a1), .val (.ref a1)] [(.long w_a1_capacity), (.long w_a0_capacity)])) t → Steps p.tables e below (s₁.setTop (entryFrame m #[(.ref a0), (.ref a1)] 3)) t := fun t k => go10 _ (st11 _ k)
  have go13 : ∀ t, Steps p.tables e below (T11.setTop (mkF m 21 #[.val (.ref a0), .val (.ref a1), .val (.ref a1)] [(.int (XT.cmpL w_a0_capacity w_a1_capacity))])) t → Steps p.tables e below (s₁.setTop (entryFrame m #[(.ref a0), (.ref a1)] 3)) t := by
    intro t k
    refine go12 _ ?_
    refine XT.lcmp X11.here hx rfl (hb hby d6_20) rfl ?_
    show Steps p.tables e below (T11.setTop (mkF m 21 #[.val (.ref a0), .val (.ref a1), .val (.ref a1)] [(.int (XT.cmpL w_a0_capacity w_a1_capacity))])) t
    exact k
  by_cases hs14 : w_a0_capacity = w_a1_capacity
  · have go15 : ∀ t, Steps p.tables e below (T11.setTop (mkF m 25 #[.val (.ref a0), .val (.ref a1), .val (.ref a1)] [(.ref a0)])) t → Steps p.tables e below (s₁.setTop (entryFrame m #[(.ref a0), (.ref a1)] 3)) t := by
      intro t k
      refine go13 _ ?_
      refine XS.ifNo X11.here hx rfl (hb hby d6_21) rfl (XT.ll_ne_f hs14) ?_
      show Steps p.tables e below (T11.setTop (mkF m 24 #[.val (.ref a0), .val (.ref a1), .val (.ref a1)] [])) t
      refine XS.aloadN X11.here hx rfl (hb hby d6_24) rfl rfl ?_
      show Steps p.tables e below (T11.setTop (mkF m 25 #[.val (.ref a0), .val (.ref a1), .val (.ref a1)] [(.ref a0)])) t
      exact k
    obtain ⟨T16, X16, e16, st16⟩ := getF X11 hx hZ hown (host := "") (Or.inl (hw _ (List.mem_of_getElem? (i := 35) rfl))) Via.refl e11 F_a0_refillTokens (g := (mkF m 25 #[.val (.ref a0), .val (.ref a1), .val (.ref a1)] [(.ref a0)])) rfl rfl (hb hby d6_25)
    have go17 : ∀ t, Steps p.tables e below (T16.setTop (mkF m 28 #[.val (.ref a0), .val (.ref a1), .val (.ref a1)] [(.long w_a0_refillTokens)])) t → Steps p.tables e below (s₁.setTop (entryFrame m #[(.ref a0), (.ref a1)] 3)) t := fun t k => go15 _ (st16 _ k)
    have go18 : ∀ t, Steps p.tables e below (T16.setTop (mkF m 29 #[.val (.ref a0), .val (.ref a1), .val (.ref a1)] [(.ref a1), (.long w_a0_refillTokens)])) t → Steps p.tables e below (s₁.setTop (entryFrame m #[(.ref a0), (.ref a1)] 3)) t := by
      intro t k
      refine go17 _ ?_
      refine XS.aloadN X16.here hx rfl (hb hby d6_28) rfl rfl ?_
      show Steps p.tables e below (T16.setTop (mkF m 29 #[.val (.ref a0), .val (.ref a1), .val (.ref a1)] [(.ref a1), (.long w_a0_refillTokens)])) t
      exact k
    obtain ⟨T19, X19, e19, st19⟩ := getF X16 hx hZ hown (host := "") (Or.inl (hw _ (List.mem_of_getElem? (i := 35) rfl))) Via.refl e16 F_a1_refillTokens (g := (mkF m 29 #[.val (.ref a0), .val (.ref a1), .val (.ref a1)] [(.ref a1), (.long w_a0_refillTokens)])) rfl rfl (hb hby d6_29)
    have go20 : ∀ t, Steps p.tables e below (T19.setTop (mkF m 32 #[.val (.ref a0), .val (.ref a1), .val (.ref a1)] [(.long w_a1_refillTokens), (.long w_a0_refillTokens)])) t → Steps p.tables e below (s₁.setTop (entryFrame m #[(.ref a0), (.ref a1)] 3)) t := fun t k => go18 _ (st19 _ k)
    have go21 : ∀ t, Steps p.tables e below (T19.setTop (mkF m 33 #[.val (.ref a0), .val (.ref a1), .val (.ref a1)] [(.int (XT.cmpL w_a0_refillTokens w_a1_refillTokens))])) t → Steps p.tables e below (s₁.setTop (entryFrame m #[(.ref a0), (.ref a1)] 3)) t := by
      intro t k
      refine go20 _ ?_
      refine XT.lcmp X19.here hx rfl (hb hby d6_32) rfl ?_
      show Steps p.tables e below (T19.setTop (mkF m 33 #[.val (.ref a0), .val (.ref a1), .val (.ref a1)] [(.int (XT.cmpL w_a0_refillTokens w_a1_refillTokens))])) t
      exact k
    by_cases hs22 : w_a0_refillTokens = w_a1_refillTokens
    · have go23 : ∀ t, Steps p.tables e below (T19.setTop (mkF m 37 #[.val (.ref a0), .val (.ref a1), .val (.ref a1)] [(.ref a0)])) t → Steps p.tables e below (s₁.setTop (entryFrame m #[(.ref a0), (.ref a1)] 3)) t := by
        intro t k
        refine go21 _ ?_
        refine XS.ifNo X19.here hx rfl (hb hby d6_33) rfl (XT.ll_ne_f hs22) ?_
        show Steps p.tables e below (T19.setTop (mkF m 36 #[.val (.ref a0), .val (.ref a1), .val (.ref a1)] [])) t
        refine XS.aloadN X19.here hx rfl (hb hby d6_36) rfl rfl ?_
        show Steps p.tables e below (T19.setTop (mkF m 37 #[.val (.ref a0), .val (.ref a1), .val (.ref a1)] [(.ref a0)])) t
        exact k
      obtain ⟨T24, X24, e24, st24⟩ := getF X19 hx hZ hown (host := "") (Or.inl (hw _ (List.mem_of_getElem? (i := 37) rfl))) Via.refl e19 F_a0_refillPeriodMillis (g := (mkF m 37 #[.val (.ref a0), .val (.ref a1), .val (.ref a1)] [(.ref a0)])) rfl rfl (hb hby d6_37)
      have go25 : ∀ t, Steps p.tables e below (T24.setTop (mkF m 40 #[.val (.ref a0), .val (.ref a1), .val (.ref a1)] [(.long w_a0_refillPeriodMillis)])) t → Steps p.tables e below (s₁.setTop (entryFrame m #[(.ref a0), (.ref a1)] 3)) t := fun t k => go23 _ (st24 _ k)
      have go26 : ∀ t, Steps p.tables e below (T24.setTop (mkF m 41 #[.val (.ref a0), .val (.ref a1), .val (.ref a1)] [(.ref a1), (.long w_a0_refillPeriodMillis)])) t → Steps p.tables e below (s₁.setTop (entryFrame m #[(.ref a0), (.ref a1)] 3)) t := by
        intro t k
        refine go25 _ ?_
        refine XS.aloadN X24.here hx rfl (hb hby d6_40) rfl rfl ?_
        show Steps p.tables e below (T24.setTop (mkF m 41 #[.val (.ref a0), .val (.ref a1), .val (.ref a1)] [(.ref a1), (.long w_a0_refillPeriodMillis)])) t
        exact k
      obtain ⟨T27, X27, e27, st27⟩ := getF X24 hx hZ hown (host := "") (Or.inl (hw _ (List.mem_of_getElem? (i := 37) rfl))) Via.refl e24 F_a1_refillPeriodMillis (g := (mkF m 41 #[.val (.ref a0), .val (.ref a1), .val (.ref a1)] [(.ref a1), (.long w_a0_refillPeriodMillis)])) rfl rfl (hb hby d6_41)
      have go28 : ∀ t, Steps p.tables e below (T27.setTop (mkF m 44 #[.val (.ref a0), .val (.ref a1), .val (.ref a1)] [(.long w_a1_refillPeriodMillis), (.long w_a0_refillPeriodMillis)])) t → Steps p.tables e below (s₁.setTop (entryFrame m #[(.ref a0), (.ref a1)] 3)) t := fun t k => go26 _ (st27 _ k)
      have go30 : ∀ t, Steps p.tables e below (T27.setTop (mkF m 53 #[.val (.ref a0), .val (.ref a1), .val (.ref a1)] [(.int (beqW_31 w_a0_refillPeriodMillis w_a1_refillPeriodMillis))])) t → Steps p.tables e below (s₁.setTop (entryFrame m #[(.ref a0), (.ref a1)] 3)) t := by
        intro t k
        refine go28 _ ?_
        refine XT.lcmp X27.here hx rfl (hb hby d6_44) rfl ?_
        show Steps p.tables e below (T27.setTop (mkF m 45 #[.val (.ref a0), .val (.ref a1), .val (.ref a1)] [(.int (XT.cmpL w_a0_refillPeriodMillis w_a1_refillPeriodMillis))])) t
        by_cases hc29 : w_a0_refillPeriodMillis = w_a1_refillPeriodMillis
        · refine XS.ifNo X27.here hx rfl (hb hby d6_45) rfl (XT.ll_ne_f hc29) ?_
          show Steps p.tables e below (T27.setTop (mkF m 48 #[.val (.ref a0), .val (.ref a1), .val (.ref a1)] [])) t
          refine XS.iconst X27.here hx rfl (hb hby d6_48) ?_
          show Steps p.tables e below (T27.setTop (mkF m 49 #[.val (.ref a0), .val (.ref a1), .val (.ref a1)] [(.int (1 : Int32))])) t
          refine XS.goto X27.here hx rfl (pc0 := 49) (pc' := 53) rfl (hb hby d6_49) (by decide) (by decide) ?_
          show Steps p.tables e below (T27.setTop (mkF m 53 #[.val (.ref a0), .val (.ref a1), .val (.ref a1)] [(.int (1 : Int32))])) t
          have hq32 : (beqW_31 w_a0_refillPeriodMillis w_a1_refillPeriodMillis) = (1 : Int32) := by rw [beqW_31, if_pos hc29]
          rw [hq32] at k
          exact k
        · refine XS.ifYes X27.here hx rfl (pc0 := 45) (pc' := 52) rfl (hb hby d6_45) rfl (XT.ll_ne_t hc29) (by decide) (by decide) ?_
          show Steps p.tables e below (T27.setTop (mkF m 52 #[.val (.ref a0), .val (.ref a1), .val (.ref a1)] [])) t
          refine XS.iconst X27.here hx rfl (hb hby d6_52) ?_
          show Steps p.tables e below (T27.setTop (mkF m 53 #[.val (.ref a0), .val (.ref a1), .val (.ref a1)] [(.int (0 : Int32))])) t
          have hq33 : (beqW_31 w_a0_refillPeriodMillis w_a1_refillPeriodMillis) = (0 : Int32) := by rw [beqW_31, if_neg hc29]
          rw [hq33] at k
          exact k
      have go35 : ∀ t, Steps p.tables e below (T27.setTop (mkF m 53 #[.val (.ref a0), .val (.ref a1), .val (.ref a1)] [(.int (veqW_34 w_a0_refillPeriodMillis w_a1_refillPeriodMillis))])) t → Steps p.tables e below (s₁.setTop (entryFrame m #[(.ref a0), (.ref a1)] 3)) t := by
        intro t k
        refine go30 _ ?_
        show Steps p.tables e below (T27.setTop (mkF m 53 #[.val (.ref a0), .val (.ref a1), .val (.ref a1)] [(.int (veqW_34 w_a0_refillPeriodMillis w_a1_refillPeriodMillis))])) t
        exact k
      obtain ⟨fs, hr, hrun, hended, hW, hsame⟩ := X27.leave (v := some (.int (veqW_34 w_a0_refillPeriodMillis w_a1_refillPeriodMillis))) (fun h => by rw [Bd.returns] at h; cases h)
      refine ⟨_, _, go35 _ (Jvm.RoadKit.retOut X27 hx Bd.returns (own_nz (by simp only [veqW_34, beqW_31]; (repeat' split) <;> first | exact Or.inl rfl | exact Or.inr rfl)) (Or.inl ⟨rfl, Or.inr (Or.inl rfl), _, rfl⟩) (hb hby d6_53) hr), hrun, hended, _, _, rfl, ?_, ⟨_, rfl⟩, hW, hsame.mono (by decide) (by decide)⟩
      show QeqW _ _ a0 a1 w_a0_capacity w_a0_refillTokens w_a0_refillPeriodMillis w_a1_capacity w_a1_refillTokens w_a1_refillPeriodMillis h0 _ (T27.setFrames fs).heap _
      have hE : (T27.setFrames fs).heap = h0 := e27
      rw [hE]
      exact ⟨by rw [feqW, if_pos hs14, if_pos hs22], N0, rfl⟩
    · have go36 : ∀ t, Steps p.tables e below (T19.setTop (mkF m 53 #[.val (.ref a0), .val (.ref a1), .val (.ref a1)] [(.int (0 : Int32))])) t → Steps p.tables e below (s₁.setTop (entryFrame m #[(.ref a0), (.ref a1)] 3)) t := by
        intro t k
        refine go21 _ ?_
        refine XS.ifYes X19.here hx rfl (pc0 := 33) (pc' := 52) rfl (hb hby d6_33) rfl (XT.ll_ne_t hs22) (by decide) (by decide) ?_
        show Steps p.tables e below (T19.setTop (mkF m 52 #[.val (.ref a0), .val (.ref a1), .val (.ref a1)] [])) t
        refine XS.iconst X19.here hx rfl (hb hby d6_52) ?_
        show Steps p.tables e below (T19.setTop (mkF m 53 #[.val (.ref a0), .val (.ref a1), .val (.ref a1)] [(.int (0 : Int32))])) t
        exact k
      obtain ⟨fs, hr, hrun, hended, hW, hsame⟩ := X19.leave (v := some (.int (0 : Int32))) (fun h => by rw [Bd.returns] at h; cases h)
      refine ⟨_, _, go36 _ (Jvm.RoadKit.retOut X19 hx Bd.returns rfl (Or.inl ⟨rfl, Or.inr (Or.inl rfl), _, rfl⟩) (hb hby d6_53) hr), hrun, hended, _, _, rfl, ?_, ⟨_, rfl⟩, hW, hsame.mono (by decide) (by decide)⟩
      show QeqW _ _ a0 a1 w_a0_capacity w_a0_refillTokens w_a0_refillPeriodMillis w_a1_capacity w_a1_refillTokens w_a1_refillPeriodMillis h0 _ (T19.setFrames fs).heap _
      have hE : (T19.setFrames fs).heap = h0 := e19
      rw [hE]
      exact ⟨by rw [feqW, if_pos hs14, if_neg hs22], N0, rfl⟩
  · have go37 : ∀ t, Steps p.tables e below (T11.setTop (mkF m 53 #[.val (.ref a0), .val (.ref a1), .val (.ref a1)] [(.int (0 : Int32))])) t → Steps p.tables e below (s₁.setTop (entryFrame m #[(.ref a0), (.ref a1)] 3)) t := by
      intro t k
      refine go13 _ ?_
      refine XS.ifYes X11.here hx rfl (pc0 := 21) (pc' := 52) rfl (hb hby d6_21) rfl (XT.ll_ne_t hs14) (by decide) (by decide) ?_
      show Steps p.tables e below (T11.setTop (mkF m 52 #[.val (.ref a0), .val (.ref a1), .val (.ref a1)] [])) t
      refine XS.iconst X11.here hx rfl (hb hby d6_52) ?_
      show Steps p.tables e below (T11.setTop (mkF m 53 #[.val (.ref a0), .val (.ref a1), .val (.ref a1)] [(.int (0 : Int32))])) t
      exact k
    obtain ⟨fs, hr, hrun, hended, hW, hsame⟩ := X11.leave (v := some (.int (0 : Int32))) (fun h => by rw [Bd.returns] at h; cases h)
    refine ⟨_, _, go37 _ (Jvm.RoadKit.retOut X11 hx Bd.returns rfl (Or.inl ⟨rfl, Or.inr (Or.inl rfl), _, rfl⟩) (hb hby d6_53) hr), hrun, hended, _, _, rfl, ?_, ⟨_, rfl⟩, hW, hsame.mono (by decide) (by decide)⟩
    show QeqW _ _ a0 a1 w_a0_capacity w_a0_refillTokens w_a0_refillPeriodMillis w_a1_capacity w_a1_refillTokens w_a1_refillPeriodMillis h0 _ (T11.setFrames fs).heap _
    have hE : (T11.setFrames fs).heap = h0 := e11
    rw [hE]
    exact ⟨by rw [feqW, if_neg hs14], N0, rfl⟩
def QeqN (Z : State) (n0 : Nat) (a0 : Addr) (h0 : Heap) (v : Option Value) (h : Heap) (L : List Loc) : Prop := v = some (.int (0 : Int32)) ∧ Fr n0 L ∧ h = h0
theorem efeqN (m : MethodId) (a0 : Addr) : entryFrame m #[(.ref a0), .null] 3 = mkF m 0 #[.val (.ref a0), .val .null, .unset] [] := by first | (simp [entryFrame, mkF, argsToLocals, Value.category]; done) | rfl
set_option maxRecDepth 65536 in
set_option maxHeartbeats 40000000 in
theorem rmeqN (l : Launch) (Z : State) (aZ : Array Value) (hw : ∀ d ∈ tables_1, d.before aZ Z = true) (ws : List Jvm.Cond) (a0 : Addr) (h0 : Heap) (n0 : Nat) (Z0 : n0 ≤ h0.size) :
    MetFree l (⟨"com/example/weir/weir/TokenBucket", "equals", "(Ljava/lang/Object;)Z"⟩ : MethodName) (head1 (Jvm.Cond.code (⟨"com/example/weir/weir/TokenBucket", "equals", "(Ljava/lang/Object;)Z"⟩ : MethodName) prog_17_method_14_code 3 (some .boolean) :: ws) ({ frames := 0, cells := 0, slots := 0, locals := 0 } : Room)) (fun a U => a = #[(.ref a0), .null] ∧ Z.Warmed39 U.vm ∧ U.heap = h0) (fun _ _ _ _ _ => True) (fun _ U o U' => ∃ v L, o = .returned v ∧ QeqN Z n0 a0 h0 v U'.heap L ∧ FrameEnd U o U' L ({ frames := 0, cells := 0, slots := 0, locals := 0 } : Room).cells ({ frames := 0, cells := 0, slots := 0, locals := 0 } : Room).slots) := by
  refine MetFree.of_bodySF (plainFor_of_name pn_14) hisR ?_
  intro p e s m args below meth c s₁ Bd hml0 hP hK
  obtain ⟨rfl, hZ, hh⟩ := hP
  have hx := Bd.exec
  have hby := Bd.bytes
  have hml : c.maxLocals = 3 := hml0
  have hown : s.vm.findClass "com/example/weir/weir/TokenBucket" = some m.cls := findClass_of_methodNamed Bd.named
  have hnm := (name_of_methodNamed Bd.named Bd.method).1
  have X0 : Stand p l e ({ frames := 0, cells := 0, slots := 0, locals := 0 } : Room) s m #[(.ref a0), .null] below meth c s₁ [] 0 0 := Stand.of_body Bd
  have e0 : s₁.heap = h0 := by rw [← hh, Bd.state]; rfl
  have N0 := Fr.nil n0
  have K0 : Keep h0 h0 [] := Keep.refl _ _
  have go0 : ∀ t, Steps p.tables e below (s₁.setTop (mkF m 0 #[.val (.ref a0), .val .null, .unset] [])) t → Steps p.tables e below (s₁.setTop (entryFrame m #[(.ref a0), .null] 3)) t := fun t k => castTop (efeqN m a0) k
  have go1 : ∀ t, Steps p.tables e below (s₁.setTop (mkF m 1 #[.val (.ref a0), .val .null, .unset] [.null])) t → Steps p.tables e below (s₁.setTop (entryFrame m #[(.ref a0), .null] 3)) t := by
    intro t k
    refine go0 _ ?_
    refine XS.aloadN X0.here hx rfl (hb hby d6_0) rfl rfl ?_
    show Steps p.tables e below (s₁.setTop (mkF m 1 #[.val (.ref a0), .val .null, .unset] [.null])) t
    exact k
  have go3 : ∀ t, Steps p.tables e below (s₁.setTop (mkF m 53 #[.val (.ref a0), .val .null, .unset] [(.int (0 : Int32))])) t → Steps p.tables e below (s₁.setTop (entryFrame m #[(.ref a0), .null] 3)) t := by
    intro t k
    refine go1 _ ?_
    refine X0.instanceofNull hx (g := (mkF m 1 #[.val (.ref a0), .val .null, .unset] [.null])) rfl rfl (hb hby d6_1) _ ?_
    show Steps p.tables e below (s₁.setTop (mkF m 4 #[.val (.ref a0), .val .null, .unset] [(.int (0 : Int32))])) t
    refine XS.ifYes X0.here hx rfl (pc0 := 4) (pc' := 52) rfl (hb hby d6_4) rfl (XT.i0_eq_t (by decide : ((0 : Int32) = (0 : Int32)))) (by decide) (by decide) ?_
    show Steps p.tables e below (s₁.setTop (mkF m 52 #[.val (.ref a0), .val .null, .unset] [])) t
    refine XS.iconst X0.here hx rfl (hb hby d6_52) ?_
    show Steps p.tables e below (s₁.setTop (mkF m 53 #[.val (.ref a0), .val .null, .unset] [(.int (0 : Int32))])) t
    exact k
  obtain ⟨fs, hr, hrun, hended, hW, hsame⟩ := X0.leave (v := some (.int (0 : Int32))) (fun h => by rw [Bd.returns] at h; cases h)
  refine ⟨_, _, go3 _ (Jvm.RoadKit.retOut X0 hx Bd.returns rfl (Or.inl ⟨rfl, Or.inr (Or.inl rfl), _, rfl⟩) (hb hby d6_53) hr), hrun, hended, _, _, rfl, ?_, ⟨_, rfl⟩, hW, hsame.mono (by decide) (by decide)⟩
  show QeqN _ _ a0 h0 _ (s₁.setFrames fs).heap _
  have hE : (s₁.setFrames fs).heap = h0 := e0
  rw [hE]
  exact ⟨rfl, N0, rfl⟩
def QeqL (Z : State) (n0 : Nat) (a0 : Addr) (a1 : Addr) (h0 : Heap) (v : Option Value) (h : Heap) (L : List Loc) : Prop := v = some (.int (0 : Int32)) ∧ Fr n0 L ∧ h = h0
theorem efeqL (m : MethodId) (a0 : Addr) (a1 : Addr) : entryFrame m #[(.ref a0), (.ref a1)] 3 = mkF m 0 #[.val (.ref a0), .val (.ref a1), .unset] [] := by first | (simp [entryFrame, mkF, argsToLocals, Value.category]; done) | rfl
set_option maxRecDepth 65536 in
set_option maxHeartbeats 40000000 in
theorem rmeqL (l : Launch) (Z : State) (aZ : Array Value) (hw : ∀ d ∈ tables_1, d.before aZ Z = true) (ws : List Jvm.Cond) (a0 : Addr) (a1 : Addr) (h0 : Heap) (n0 : Nat) (Z0 : n0 ≤ h0.size) (E_a1 : Exa Z h0 a1 "java/lang/Long") (hno : ∃ c t, Z.vm.findClass "java/lang/Long" = some c ∧ Z.vm.findClass "com/example/weir/weir/TokenBucket" = some t ∧ Z.vm.assignable c t = false) :
    MetFree l (⟨"com/example/weir/weir/TokenBucket", "equals", "(Ljava/lang/Object;)Z"⟩ : MethodName) (head1 (Jvm.Cond.code (⟨"com/example/weir/weir/TokenBucket", "equals", "(Ljava/lang/Object;)Z"⟩ : MethodName) prog_17_method_14_code 3 (some .boolean) :: ws) ({ frames := 0, cells := 0, slots := 0, locals := 0 } : Room)) (fun a U => a = #[(.ref a0), (.ref a1)] ∧ Z.Warmed39 U.vm ∧ U.heap = h0) (fun _ _ _ _ _ => True) (fun _ U o U' => ∃ v L, o = .returned v ∧ QeqL Z n0 a0 a1 h0 v U'.heap L ∧ FrameEnd U o U' L ({ frames := 0, cells := 0, slots := 0, locals := 0 } : Room).cells ({ frames := 0, cells := 0, slots := 0, locals := 0 } : Room).slots) := by
  refine MetFree.of_bodySF (plainFor_of_name pn_14) hisR ?_
  intro p e s m args below meth c s₁ Bd hml0 hP hK
  obtain ⟨rfl, hZ, hh⟩ := hP
  have hx := Bd.exec
  have hby := Bd.bytes
  have hml : c.maxLocals = 3 := hml0
  have hown : s.vm.findClass "com/example/weir/weir/TokenBucket" = some m.cls := findClass_of_methodNamed Bd.named
  have hnm := (name_of_methodNamed Bd.named Bd.method).1
  have X0 : Stand p l e ({ frames := 0, cells := 0, slots := 0, locals := 0 } : Room) s m #[(.ref a0), (.ref a1)] below meth c s₁ [] 0 0 := Stand.of_body Bd
  have e0 : s₁.heap = h0 := by rw [← hh, Bd.state]; rfl
  have N0 := Fr.nil n0
  have K0 : Keep h0 h0 [] := Keep.refl _ _
  have go0 : ∀ t, Steps p.tables e below (s₁.setTop (mkF m 0 #[.val (.ref a0), .val (.ref a1), .unset] [])) t → Steps p.tables e below (s₁.setTop (entryFrame m #[(.ref a0), (.ref a1)] 3)) t := fun t k => castTop (efeqL m a0 a1) k
  have go1 : ∀ t, Steps p.tables e below (s₁.setTop (mkF m 1 #[.val (.ref a0), .val (.ref a1), .unset] [(.ref a1)])) t → Steps p.tables e below (s₁.setTop (entryFrame m #[(.ref a0), (.ref a1)] 3)) t := by
    intro t k
    refine go0 _ ?_
    refine XS.aloadN X0.here hx rfl (hb hby d6_0) rfl rfl ?_
    show Steps p.tables e below (s₁.setTop (mkF m 1 #[.val (.ref a0), .val (.ref a1), .unset] [(.ref a1)])) t
    exact k
  obtain ⟨T2, X2, e2, st2⟩ := instNo X0 hx hZ hown (hw _ (List.mem_of_getElem? (i := 50) rfl)) e0 E_a1 hno (g := (mkF m 1 #[.val (.ref a0), .val (.ref a1), .unset] [(.ref a1)])) rfl rfl (hb hby d6_1)
  have go3 : ∀ t, Steps p.tables e below (T2.setTop (mkF m 4 #[.val (.ref a0), .val (.ref a1), .unset] [(.int (0 : Int32))])) t → Steps p.tables e below (s₁.setTop (entryFrame m #[(.ref a0), (.ref a1)] 3)) t := fun t k => go1 _ (st2 _ k)
  have go4 : ∀ t, Steps p.tables e below (T2.setTop (mkF m 53 #[.val (.ref a0), .val (.ref a1), .unset] [(.int (0 : Int32))])) t → Steps p.tables e below (s₁.setTop (entryFrame m #[(.ref a0), (.ref a1)] 3)) t := by
    intro t k
    refine go3 _ ?_
    refine XS.ifYes X2.here hx rfl (pc0 := 4) (pc' := 52) rfl (hb hby d6_4) rfl (XT.i0_eq_t (by decide : ((0 : Int32) = (0 : Int32)))) (by decide) (by decide) ?_
    show Steps p.tables e below (T2.setTop (mkF m 52 #[.val (.ref a0), .val (.ref a1), .unset] [])) t
    refine XS.iconst X2.here hx rfl (hb hby d6_52) ?_
    show Steps p.tables e below (T2.setTop (mkF m 53 #[.val (.ref a0), .val (.ref a1), .unset] [(.int (0 : Int32))])) t
    exact k
  obtain ⟨fs, hr, hrun, hended, hW, hsame⟩ := X2.leave (v := some (.int (0 : Int32))) (fun h => by rw [Bd.returns] at h; cases h)
  refine ⟨_, _, go4 _ (Jvm.RoadKit.retOut X2 hx Bd.returns rfl (Or.inl ⟨rfl, Or.inr (Or.inl rfl), _, rfl⟩) (hb hby d6_53) hr), hrun, hended, _, _, rfl, ?_, ⟨_, rfl⟩, hW, hsame.mono (by decide) (by decide)⟩
  show QeqL _ _ a0 a1 h0 _ (T2.setFrames fs).heap _
  have hE : (T2.setFrames fs).heap = h0 := e2
  rw [hE]
  exact ⟨rfl, N0, rfl⟩
theorem d9_0 : decode jdk_18_method_1_code 0 = .ok (.aload_n 0, 1) := by decide +kernel
theorem d9_1 : decode jdk_18_method_1_code 1 = .ok (.invokespecial 1, 3) := by decide +kernel
theorem d9_4 : decode jdk_18_method_1_code 4 = .ok (.return_, 1) := by decide +kernel
theorem pn_117 : plainName "java/lang/Number" = true := by first | (simp [plainName, overriddenIn]; done) | decide +kernel
def Q9 (Z : State) (n0 : Nat) (a0 : Addr) (h0 : Heap) (v : Option Value) (h : Heap) (L : List Loc) : Prop := v = none ∧ Fr n0 L ∧ h = h0
theorem ef9 (m : MethodId) (a0 : Addr) : entryFrame m #[(.ref a0)] 1 = mkF m 0 #[.val (.ref a0)] [] := by first | (simp [entryFrame, mkF, argsToLocals, Value.category]; done) | rfl
set_option maxRecDepth 65536 in
set_option maxHeartbeats 40000000 in
theorem rm9 (l : Launch) (Z : State) (aZ : Array Value) (hw : ∀ d ∈ tables_1, d.before aZ Z = true) (ws : List Jvm.Cond) (a0 : Addr) (h0 : Heap) (n0 : Nat) (Z0 : n0 ≤ h0.size) :
    MetFree l (⟨"java/lang/Number", "<init>", "()V"⟩ : MethodName) (head1 (Jvm.Cond.code (⟨"java/lang/Number", "<init>", "()V"⟩ : MethodName) jdk_18_method_1_code 1 none :: ws) ({ frames := 1, cells := 0, slots := 0, locals := 12 } : Room)) (fun a U => a = #[(.ref a0)] ∧ Z.Warmed39 U.vm ∧ U.heap = h0) (fun _ _ _ _ _ => True) (fun _ U o U' => ∃ v L, o = .returned v ∧ Q9 Z n0 a0 h0 v U'.heap L ∧ FrameEnd U o U' L ({ frames := 1, cells := 0, slots := 0, locals := 12 } : Room).cells ({ frames := 1, cells := 0, slots := 0, locals := 12 } : Room).slots) := by
  refine MetFree.of_bodySF (plainFor_of_name pn_117) hisR ?_
  intro p e s m args below meth c s₁ Bd hml0 hP hK
  obtain ⟨rfl, hZ, hh⟩ := hP
  have hx := Bd.exec
  have hby := Bd.bytes
  have hml : c.maxLocals = 1 := hml0
  have hown : s.vm.findClass "java/lang/Number" = some m.cls := findClass_of_methodNamed Bd.named
  have hnm := (name_of_methodNamed Bd.named Bd.method).1
  have X0 : Stand p l e ({ frames := 1, cells := 0, slots := 0, locals := 12 } : Room) s m #[(.ref a0)] below meth c s₁ [] 0 0 := Stand.of_body Bd
  have e0 : s₁.heap = h0 := by rw [← hh, Bd.state]; rfl
  have N0 := Fr.nil n0
  have K0 : Keep h0 h0 [] := Keep.refl _ _
  have go0 : ∀ t, Steps p.tables e below (s₁.setTop (mkF m 0 #[.val (.ref a0)] [])) t → Steps p.tables e below (s₁.setTop (entryFrame m #[(.ref a0)] 1)) t := fun t k => castTop (ef9 m a0) k
  have go1 : ∀ t, Steps p.tables e below (s₁.setTop (mkF m 1 #[.val (.ref a0)] [(.ref a0)])) t → Steps p.tables e below (s₁.setTop (entryFrame m #[(.ref a0)] 1)) t := by
    intro t k
    refine go0 _ ?_
    refine XS.aloadN X0.here hx rfl (hb hby d9_0) rfl rfl ?_
    show Steps p.tables e below (s₁.setTop (mkF m 1 #[.val (.ref a0)] [(.ref a0)])) t
    exact k
  obtain ⟨T2, X2, e2, st2⟩ := initO X0 hx hZ hown (hw _ (List.mem_of_getElem? (i := 75) rfl)) (hw _ (List.mem_of_getElem? (i := 14) rfl)) (hw _ (List.mem_of_getElem? (i := 15) rfl)) e0 (g := (mkF m 1 #[.val (.ref a0)] [(.ref a0)])) rfl (by rw [hml]; rfl) rfl (hb hby d9_1) (by decide) (W := 0) (by show 2 * 0 + _ ≤ _; exact Nat.le_of_eq rfl) (by decide)
  have go3 : ∀ t, Steps p.tables e below (T2.setTop (mkF m 4 #[.val (.ref a0)] [])) t → Steps p.tables e below (s₁.setTop (entryFrame m #[(.ref a0)] 1)) t := fun t k => go1 _ (st2 _ k)
  obtain ⟨fs, hr, hrun, hended, hW, hsame⟩ := X2.leave (v := none) (fun _ => rfl)
  refine ⟨_, _, go3 _ (X2.returnOut hx Bd.returns (hb hby d9_4) hr), hrun, hended, _, _, rfl, ?_, ⟨_, rfl⟩, hW, hsame.mono (by decide) (by decide)⟩
  show Q9 _ _ a0 h0 _ (T2.setFrames fs).heap _
  have hE : (T2.setFrames fs).heap = h0 := e2
  rw [hE]
  exact ⟨rfl, N0, rfl⟩
theorem d8_0 : decode jdk_35_method_26_code 0 = .ok (.aload_n 0, 1) := by decide +kernel
theorem d8_1 : decode jdk_35_method_26_code 1 = .ok (.invokespecial 270, 3) := by decide +kernel
theorem pd_120 : parseMethodDescriptor "()V" = some ⟨[], none⟩ := by decide +kernel
theorem d8_4 : decode jdk_35_method_26_code 4 = .ok (.aload_n 0, 1) := by decide +kernel
theorem d8_5 : decode jdk_35_method_26_code 5 = .ok (.lload_n 1, 1) := by decide +kernel
theorem d8_6 : decode jdk_35_method_26_code 6 = .ok (.putfield 273, 3) := by decide +kernel
theorem d8_9 : decode jdk_35_method_26_code 9 = .ok (.return_, 1) := by decide +kernel
theorem pn_125 : plainName "java/lang/Long" = true := by first | (simp [plainName, overriddenIn]; done) | decide +kernel
def Q8 (Z : State) (n0 : Nat) (a0 : Addr) (q1 : Int64) (w_a0_value : Value) (h0 : Heap) (v : Option Value) (h : Heap) (L : List Loc) : Prop := v = none ∧ Fr n0 L ∧ Keep h0 h [a0] ∧ Exa Z h a0 "java/lang/Long" ∧ Fld Z h a0 "java/lang/Long" "value" "J" (.long q1)
theorem ef8 (m : MethodId) (a0 : Addr) (q1 : Int64) : entryFrame m #[(.ref a0), (.long q1)] 3 = mkF m 0 #[.val (.ref a0), .val (.long q1), .second] [] := by first | (simp [entryFrame, mkF, argsToLocals, Value.category]; done) | rfl
set_option maxRecDepth 65536 in
set_option maxHeartbeats 40000000 in
theorem rm8 (l : Launch) (Z : State) (aZ : Array Value) (hw : ∀ d ∈ tables_1, d.before aZ Z = true) (ws : List Jvm.Cond) (a0 : Addr) (q1 : Int64) (w_a0_value : Value) (h0 : Heap) (n0 : Nat) (Z0 : n0 ≤ h0.size) (E_a0 : Exa Z h0 a0 "java/lang/Long") (F_a0_value : Fld Z h0 a0 "java/lang/Long" "value" "J" w_a0_value) (g_a0 : n0 ≤ a0) :
    MetFree l (⟨"java/lang/Long", "<init>", "(J)V"⟩ : MethodName) (head1 (Jvm.Cond.code (⟨"java/lang/Long", "<init>", "(J)V"⟩ : MethodName) jdk_35_method_26_code 3 none :: ws) ({ frames := 2, cells := 0, slots := 0, locals := 24 } : Room)) (fun a U => a = #[(.ref a0), (.long q1)] ∧ Z.Warmed39 U.vm ∧ U.heap = h0) (fun _ _ _ _ _ => True) (fun _ U o U' => ∃ v L, o = .returned v ∧ Q8 Z n0 a0 q1 w_a0_value h0 v U'.heap L ∧ FrameEnd U o U' L ({ frames := 2, cells := 0, slots := 0, locals := 24 } : Room).cells ({ frames := 2, cells := 0, slots := 0, locals := 24 } : Room).slots) := by
  refine MetFree.of_bodySF (plainFor_of_name pn_125) hisR ?_
  intro p e s m args below meth c s₁ Bd hml0 hP hK
  obtain ⟨rfl, hZ, hh⟩ := hP
  have hx := Bd.exec
  have hby := Bd.bytes
  have hml : c.maxLocals = 3 := hml0
  have hown : s.vm.findClass "java/lang/Long" = some m.cls := findClass_of_methodNamed Bd.named
  have hnm := (name_of_methodNamed Bd.named Bd.method).1
  have X0 : Stand p l e ({ frames := 2, cells := 0, slots := 0, locals := 24 } : Room) s m #[(.ref a0), (.long q1)] below meth c s₁ [] 0 0 := Stand.of_body Bd
  have e0 : s₁.heap = h0 := by rw [← hh, Bd.state]; rfl
  have N0 := Fr.nil n0
  have K0 : Keep h0 h0 [a0] := Keep.refl _ _
  have go0 : ∀ t, Steps p.tables e below (s₁.setTop (mkF m 0 #[.val (.ref a0), .val (.long q1), .second] [])) t → Steps p.tables e below (s₁.setTop (entryFrame m #[(.ref a0), (.long q1)] 3)) t := fun t k => castTop (ef8 m a0 q1) k
  have go1 : ∀ t, Steps p.tables e below (s₁.setTop (mkF m 1 #[.val (.ref a0), .val (.long q1), .second] [(.ref a0)])) t → Steps p.tables e below (s₁.setTop (entryFrame m #[(.ref a0), (.long q1)] 3)) t := by
    intro t k
    refine go0 _ ?_
    refine XS.aloadN X0.here hx rfl (hb hby d8_0) rfl rfl ?_
    show Steps p.tables e below (s₁.setTop (mkF m 1 #[.val (.ref a0), .val (.long q1), .second] [(.ref a0)])) t
    exact k
  obtain ⟨_, _, ⟨T2, L2, k2, n2⟩, -, X2, ⟨Lc2, hQ2, l2, y2, z2⟩, st2⟩ := X0.specialBack hx (y := (⟨"java/lang/Number", "<init>", "()V"⟩ : MethodName)) rfl hown (mvT hZ (hw _ (List.mem_of_getElem? (i := 69) rfl))) (mvT hZ (hw _ (List.mem_of_getElem? (i := 70) rfl))) (mvT hZ (hw _ (List.mem_of_getElem? (i := 74) rfl))) (by decide) (backOf (W := 0) (rm9 l Z aZ hw [] a0 h0 n0 Z0 ) hZ (hw _ (List.mem_of_getElem? (i := 74) rfl)) (hw _ (List.mem_of_getElem? (i := 73) rfl)) (by decide) (by decide)) (g := (mkF m 1 #[.val (.ref a0), .val (.long q1), .second] [(.ref a0)])) rfl (by rw [hml]; rfl) (Steps.refl _) (a := a0) (argsL := []) (rest := []) (lenOf pd_120 rfl) rfl (by show 2 * 0 + _ ≤ _; exact Nat.le_of_eq rfl) (hb hby d8_1) (fun _ _ => ⟨rfl, e0, (by decide : 0 + 0 ≤ _), (by decide : 0 + 0 ≤ _)⟩)
  dsimp only [Pt.U, Pt.locs, Pt.cells, Pt.slots] at X2 l2 y2 z2 st2 hQ2
  subst l2 y2 z2
  obtain ⟨rfl, N2q, e2⟩ := hQ2
  have N2 := Fr.app N0 N2q
  have go3 : ∀ t, Steps p.tables e below (T2.setTop (mkF m 4 #[.val (.ref a0), .val (.long q1), .second] [])) t → Steps p.tables e below (s₁.setTop (entryFrame m #[(.ref a0), (.long q1)] 3)) t := fun t k => go1 _ (st2.trans k)
  have go4 : ∀ t, Steps p.tables e below (T2.setTop (mkF m 6 #[.val (.ref a0), .val (.long q1), .second] [(.long q1), (.ref a0)])) t → Steps p.tables e below (s₁.setTop (entryFrame m #[(.ref a0), (.long q1)] 3)) t := by
    intro t k
    refine go3 _ ?_
    refine XS.aloadN X2.here hx rfl (hb hby d8_4) rfl rfl ?_
    show Steps p.tables e below (T2.setTop (mkF m 5 #[.val (.ref a0), .val (.long q1), .second] [(.ref a0)])) t
    refine XS.lloadN X2.here hx rfl (hb hby d8_5) rfl ?_
    show Steps p.tables e below (T2.setTop (mkF m 6 #[.val (.ref a0), .val (.long q1), .second] [(.long q1), (.ref a0)])) t
    exact k
  obtain ⟨T5, h5, X5, e5, W5, st5⟩ := putF X2 hx hZ hown (host := "") (Or.inl (hw _ (List.mem_of_getElem? (i := 76) rfl))) Via.refl e2 F_a0_value E_a0 (Or.inr ⟨(hw _ (List.mem_of_getElem? (i := 77) rfl)), rfl, hnm⟩) (hw _ (List.mem_of_getElem? (i := 64) rfl)) (ty := .long) (by decide) rfl rfl (g := (mkF m 6 #[.val (.ref a0), .val (.long q1), .second] [(.long q1), (.ref a0)])) rfl rfl (hb hby d8_6)
  have go6 : ∀ t, Steps p.tables e below (T5.setTop (mkF m 9 #[.val (.ref a0), .val (.long q1), .second] [])) t → Steps p.tables e below (s₁.setTop (entryFrame m #[(.ref a0), (.long q1)] 3)) t := fun t k => go4 _ (st5 _ k)
  have N5 := Fr.snoc X5 N2 g_a0
  have K5 : Keep h0 h5 [a0] := K0.wr W5 (Or.inl (List.mem_of_getElem? (i := 0) rfl))
  have Zs5 : n0 ≤ h5.size := Nat.le_trans Z0 (Keep.of_wr W5).1
  have F7 : Exa Z h5 a0 "java/lang/Long" := E_a0.wr W5
  have F8 : Fld Z h5 a0 "java/lang/Long" "value" "J" (.long q1) := F_a0_value.same W5
  obtain ⟨fs, hr, hrun, hended, hW, hsame⟩ := X5.leave (v := none) (fun _ => rfl)
  refine ⟨_, _, go6 _ (X5.returnOut hx Bd.returns (hb hby d8_9) hr), hrun, hended, _, _, rfl, ?_, ⟨_, rfl⟩, hW, hsame.mono (by decide) (by decide)⟩
  show Q8 _ _ a0 q1 w_a0_value h0 _ (T5.setFrames fs).heap _
  have hE : (T5.setFrames fs).heap = h5 := e5
  rw [hE]
  exact ⟨rfl, N5, K5, F7, F8⟩
theorem d7_0 : decode jdk_35_method_24_code 0 = .ok (.sipush 128, 3) := by decide +kernel
theorem d7_3 : decode jdk_35_method_24_code 3 = .ok (.istore_n 2, 1) := by decide +kernel
theorem d7_4 : decode jdk_35_method_24_code 4 = .ok (.lload_n 0, 1) := by decide +kernel
theorem d7_5 : decode jdk_35_method_24_code 5 = .ok (.ldc2_w 230, 3) := by decide +kernel
theorem d7_8 : decode jdk_35_method_24_code 8 = .ok (.lcmp, 1) := by decide +kernel
theorem d7_9 : decode jdk_35_method_24_code 9 = .ok (.ifCond .lt 22, 3) := by decide +kernel
theorem d7_31 : decode jdk_35_method_24_code 31 = .ok (.new 1, 3) := by decide +kernel
theorem d7_34 : decode jdk_35_method_24_code 34 = .ok (.dup, 1) := by decide +kernel
theorem d7_35 : decode jdk_35_method_24_code 35 = .ok (.lload_n 0, 1) := by decide +kernel
theorem d7_36 : decode jdk_35_method_24_code 36 = .ok (.invokespecial 240, 3) := by decide +kernel
theorem pd_136 : parseMethodDescriptor "(J)V" = some ⟨[.long], none⟩ := by decide +kernel
theorem d7_39 : decode jdk_35_method_24_code 39 = .ok (.areturn, 1) := by decide +kernel
theorem d7_12 : decode jdk_35_method_24_code 12 = .ok (.lload_n 0, 1) := by decide +kernel
theorem d7_13 : decode jdk_35_method_24_code 13 = .ok (.ldc2_w 232, 3) := by decide +kernel
theorem d7_16 : decode jdk_35_method_24_code 16 = .ok (.lcmp, 1) := by decide +kernel
theorem d7_17 : decode jdk_35_method_24_code 17 = .ok (.ifCond .gt 14, 3) := by decide +kernel
theorem d7_20 : decode jdk_35_method_24_code 20 = .ok (.getstatic 234, 3) := by decide +kernel
theorem d7_23 : decode jdk_35_method_24_code 23 = .ok (.lload_n 0, 1) := by decide +kernel
theorem d7_24 : decode jdk_35_method_24_code 24 = .ok (.l2i, 1) := by decide +kernel
theorem d7_25 : decode jdk_35_method_24_code 25 = .ok (.sipush 128, 3) := by decide +kernel
theorem d7_28 : decode jdk_35_method_24_code 28 = .ok (.iadd, 1) := by decide +kernel
theorem d7_29 : decode jdk_35_method_24_code 29 = .ok (.aaload, 1) := by decide +kernel
theorem d7_30 : decode jdk_35_method_24_code 30 = .ok (.areturn, 1) := by decide +kernel
def Q7 (Z : State) (n0 : Nat) (q0 : Int64) (s_cache : Addr) (cc : Cell) (h0 : Heap) (v : Option Value) (h : Heap) (L : List Loc) : Prop := ∃ b : Addr, v = some (.ref b) ∧ Fr n0 L ∧ Keep h0 h [] ∧ Exa Z h b "java/lang/Long"
theorem ef7 (m : MethodId) (q0 : Int64) : entryFrame m #[(.long q0)] 3 = mkF m 0 #[.val (.long q0), .second, .unset] [] := by first | (simp [entryFrame, mkF, argsToLocals, Value.category]; done) | rfl
set_option maxRecDepth 65536 in
set_option maxHeartbeats 40000000 in
theorem rm7 (l : Launch) (Z : State) (aZ : Array Value) (hw : ∀ d ∈ tables_1, d.before aZ Z = true) (ws : List Jvm.Cond) (q0 : Int64) (s_cache : Addr) (cc : Cell) (h0 : Heap) (n0 : Nat) (Z0 : n0 ≤ h0.size) (S_cache : Sta Z h0 "java/lang/Long$LongCache" "cache" "[Ljava/lang/Long;" (.ref s_cache)) (A_cache : Arr Z h0 s_cache cc (.object "java/lang/Long")) (Sz_cache : cc.slots.size = 256) (C_cache : LCache Z h0 cc) :
    MetFree l (⟨"java/lang/Long", "valueOf", "(J)Ljava/lang/Long;"⟩ : MethodName) (head1 (Jvm.Cond.code (⟨"java/lang/Long", "valueOf", "(J)Ljava/lang/Long;"⟩ : MethodName) jdk_35_method_24_code 3 (some (.object "java/lang/Long")) :: ws) ({ frames := 3, cells := 1, slots := 1, locals := 39 } : Room)) (fun a U => a = #[(.long q0)] ∧ Z.Warmed39 U.vm ∧ U.heap = h0) (fun _ _ _ _ _ => True) (fun _ U o U' => ∃ v L, o = .returned v ∧ Q7 Z n0 q0 s_cache cc h0 v U'.heap L ∧ FrameEnd U o U' L ({ frames := 3, cells := 1, slots := 1, locals := 39 } : Room).cells ({ frames := 3, cells := 1, slots := 1, locals := 39 } : Room).slots) := by
  refine MetFree.of_bodySF (plainFor_of_name pn_125) hisR ?_
  intro p e s m args below meth c s₁ Bd hml0 hP hK
  obtain ⟨rfl, hZ, hh⟩ := hP
  have hx := Bd.exec
  have hby := Bd.bytes
  have hml : c.maxLocals = 3 := hml0
  have hown : s.vm.findClass "java/lang/Long" = some m.cls := findClass_of_methodNamed Bd.named
  have hnm := (name_of_methodNamed Bd.named Bd.method).1
  have X0 : Stand p l e ({ frames := 3, cells := 1, slots := 1, locals := 39 } : Room) s m #[(.long q0)] below meth c s₁ [] 0 0 := Stand.of_body Bd
  have e0 : s₁.heap = h0 := by rw [← hh, Bd.state]; rfl
  have N0 := Fr.nil n0
  have K0 : Keep h0 h0 [] := Keep.refl _ _
  have go0 : ∀ t, Steps p.tables e below (s₁.setTop (mkF m 0 #[.val (.long q0), .second, .unset] [])) t → Steps p.tables e below (s₁.setTop (entryFrame m #[(.long q0)] 3)) t := fun t k => castTop (ef7 m q0) k
  have go1 : ∀ t, Steps p.tables e below (s₁.setTop (mkF m 9 #[.val (.long q0), .second, .val (.int (128 : Int32))] [(.int (XT.cmpL q0 (-128 : Int64)))])) t → Steps p.tables e below (s₁.setTop (entryFrame m #[(.long q0)] 3)) t := by
    intro t k
    refine go0 _ ?_
    refine XS.sipush X0.here hx rfl (hb hby d7_0) ?_
    show Steps p.tables e below (s₁.setTop (mkF m 3 #[.val (.long q0), .second, .unset] [(.int (128 : Int32))])) t
    refine XS.istoreN X0.here hx rfl (hb hby d7_3) rfl (l' := #[.val (.long q0), .second, .val (.int (128 : Int32))]) rfl ?_
    show Steps p.tables e below (s₁.setTop (mkF m 4 #[.val (.long q0), .second, .val (.int (128 : Int32))] [])) t
    refine XS.lloadN X0.here hx rfl (hb hby d7_4) rfl ?_
    show Steps p.tables e below (s₁.setTop (mkF m 5 #[.val (.long q0), .second, .val (.int (128 : Int32))] [(.long q0)])) t
    refine X0.ldc2Long hx hown (mvT hZ (hw _ (List.mem_of_getElem? (i := 56) rfl))) (g := (mkF m 5 #[.val (.long q0), .second, .val (.int (128 : Int32))] [(.long q0)])) rfl (hb hby d7_5) _ ?_
    show Steps p.tables e below (s₁.setTop (mkF m 8 #[.val (.long q0), .second, .val (.int (128 : Int32))] [(.long (-128 : Int64)), (.long q0)])) t
    refine XT.lcmp X0.here hx rfl (hb hby d7_8) rfl ?_
    show Steps p.tables e below (s₁.setTop (mkF m 9 #[.val (.long q0), .second, .val (.int (128 : Int32))] [(.int (XT.cmpL q0 (-128 : Int64)))])) t
    exact k
  by_cases hs2 : q0 < (-128 : Int64)
  · have go3 : ∀ t, Steps p.tables e below (s₁.setTop (mkF m 31 #[.val (.long q0), .second, .val (.int (128 : Int32))] [])) t → Steps p.tables e below (s₁.setTop (entryFrame m #[(.long q0)] 3)) t := by
      intro t k
      refine go1 _ ?_
      refine XS.ifYes X0.here hx rfl (pc0 := 9) (pc' := 31) rfl (hb hby d7_9) rfl (XT.ll_lt_t hs2) (by decide) (by decide) ?_
      show Steps p.tables e below (s₁.setTop (mkF m 31 #[.val (.long q0), .second, .val (.int (128 : Int32))] [])) t
      exact k
    obtain ⟨T4, h4, X4, e4, E4, A4, D4, -, st4⟩ := newO X0 hx hZ hown (hw _ (List.mem_of_getElem? (i := 63) rfl)) (hw _ (List.mem_of_getElem? (i := 64) rfl)) (hw _ (List.mem_of_getElem? (i := 54) rfl)) e0 (g := (mkF m 31 #[.val (.long q0), .second, .val (.int (128 : Int32))] [])) rfl (hb hby d7_31) (by decide) (by decide)
    obtain ⟨b4, g4⟩ : ∃ z, z = h0.size := ⟨_, rfl⟩
    rw [← g4] at A4 D4 st4
    have ne5 : s_cache ≠ b4 := Nat.ne_of_lt (Nat.lt_of_lt_of_le A_cache.lt (Nat.le_of_eq g4.symm))
    have low4 : n0 ≤ b4 := Nat.le_trans Z0 (Nat.le_of_eq g4.symm)
    have fsh4 : h0.size ≤ b4 := Nat.le_trans K0.1 (Nat.le_of_eq g4.symm)
    have K4 : Keep h0 h4 [] := K0.ext E4
    have Zs4 : n0 ≤ h4.size := Nat.le_trans Z0 E4.1
    have go6 : ∀ t, Steps p.tables e below (T4.setTop (mkF m 34 #[.val (.long q0), .second, .val (.int (128 : Int32))] [(.ref b4)])) t → Steps p.tables e below (s₁.setTop (entryFrame m #[(.long q0)] 3)) t := fun t k => go3 _ (st4 _ k)
    have F7 : Sta Z h4 "java/lang/Long$LongCache" "cache" "[Ljava/lang/Long;" (.ref s_cache) := S_cache.ext E4
    have F8 : Arr Z h4 s_cache cc (.object "java/lang/Long") := A_cache.ext E4
    have F9 : LCache Z h4 cc := C_cache.ext E4
    have F10 : Fld Z h4 b4 "java/lang/Long" "value" "J" (.long (0 : Int64)) := D4 (Or.inr (hw _ (List.mem_of_getElem? (i := 77) rfl))) (ty := .long) (by decide)
    have go11 : ∀ t, Steps p.tables e below (T4.setTop (mkF m 36 #[.val (.long q0), .second, .val (.int (128 : Int32))] [(.long q0), (.ref b4), (.ref b4)])) t → Steps p.tables e below (s₁.setTop (entryFrame m #[(.long q0)] 3)) t := by
      intro t k
      refine go6 _ ?_
      refine XS.dup X4.here hx rfl (hb hby d7_34) rfl rfl ?_
      show Steps p.tables e below (T4.setTop (mkF m 35 #[.val (.long q0), .second, .val (.int (128 : Int32))] [(.ref b4), (.ref b4)])) t
      refine XS.lloadN X4.here hx rfl (hb hby d7_35) rfl ?_
      show Steps p.tables e below (T4.setTop (mkF m 36 #[.val (.long q0), .second, .val (.int (128 : Int32))] [(.long q0), (.ref b4), (.ref b4)])) t
      exact k
    obtain ⟨_, _, ⟨T12, L12, k12, n12⟩, -, X12, ⟨Lc12, hQ12, l12, y12, z12⟩, st12⟩ := X4.specialBack hx (y := (⟨"java/lang/Long", "<init>", "(J)V"⟩ : MethodName)) rfl hown (mvT hZ (hw _ (List.mem_of_getElem? (i := 65) rfl))) (mvT hZ (hw _ (List.mem_of_getElem? (i := 66) rfl))) (mvT hZ (hw _ (List.mem_of_getElem? (i := 68) rfl))) (by decide) (backOf (W := 1) (rm8 l Z aZ hw [] b4 q0 (.long (0 : Int64)) h4 n0 Zs4 A4 F10 low4) hZ (hw _ (List.mem_of_getElem? (i := 68) rfl)) (hw _ (List.mem_of_getElem? (i := 54) rfl)) (by decide) (by decide)) (g := (mkF m 36 #[.val (.long q0), .second, .val (.int (128 : Int32))] [(.long q0), (.ref b4), (.ref b4)])) rfl (by rw [hml]; rfl) (Steps.refl _) (a := b4) (argsL := [(.long q0)]) (rest := [(.ref b4)]) (lenOf pd_136 rfl) rfl (by show 2 * 0 + _ ≤ _; exact Nat.le_of_eq rfl) (hb hby d7_36) (fun _ _ => ⟨rfl, e4, (by decide : 1 + 0 ≤ _), (by decide : 1 + 0 ≤ _)⟩)
    dsimp only [Pt.U, Pt.locs, Pt.cells, Pt.slots] at X12 l12 y12 z12 st12 hQ12
    subst l12 y12 z12
    obtain ⟨rfl, N12q, K12q, G12_0, G12_1⟩ := hQ12
    have N12 := Fr.app N0 N12q
    have K12 : Keep h0 T12.heap [] := K4.trans K12q (allS (Or.inr fsh4) all0)
    have Zs12 : n0 ≤ T12.heap.size := Nat.le_trans Zs4 K12q.1
    have F13 : Sta Z T12.heap "java/lang/Long$LongCache" "cache" "[Ljava/lang/Long;" (.ref s_cache) := own_sta_keep F7 K12q (allS (own_exa_ns A4) all0)
    have F14 : Arr Z T12.heap s_cache cc (.object "java/lang/Long") := own_arr_keep F8 K12q (ninS ne5 nin0)
    have F15 : LCache Z T12.heap cc := F9.keep K12q
    have F16 : Exa Z T12.heap b4 "java/lang/Long" := A4.keep K12q
    have go17 : ∀ t, Steps p.tables e below (T12.setTop (mkF m 39 #[.val (.long q0), .second, .val (.int (128 : Int32))] [(.ref b4)])) t → Steps p.tables e below (s₁.setTop (entryFrame m #[(.long q0)] 3)) t := fun t k => go11 _ (st12.trans k)
    obtain ⟨fs, hr, hrun, hended, hW, hsame⟩ := X12.leave (v := some (.ref b4)) (fun h => by rw [Bd.returns] at h; cases h)
    refine ⟨_, _, go17 _ (Jvm.RoadKit.retOut X12 hx Bd.returns rfl (Or.inr (Or.inr (Or.inr (Or.inr ⟨rfl, rfl, rfl⟩)))) (hb hby d7_39) hr), hrun, hended, _, _, rfl, ?_, ⟨_, rfl⟩, hW, hsame.mono (by decide) (by decide)⟩
    show Q7 _ _ q0 s_cache cc h0 _ (T12.setFrames fs).heap _
    have hE : (T12.setFrames fs).heap = T12.heap := rfl
    rw [hE]
    exact ⟨b4, rfl, N12, K12, G12_0⟩
  · have go18 : ∀ t, Steps p.tables e below (s₁.setTop (mkF m 17 #[.val (.long q0), .second, .val (.int (128 : Int32))] [(.int (XT.cmpL q0 (127 : Int64)))])) t → Steps p.tables e below (s₁.setTop (entryFrame m #[(.long q0)] 3)) t := by
      intro t k
      refine go1 _ ?_
      refine XS.ifNo X0.here hx rfl (hb hby d7_9) rfl (XT.ll_lt_f hs2) ?_
      show Steps p.tables e below (s₁.setTop (mkF m 12 #[.val (.long q0), .second, .val (.int (128 : Int32))] [])) t
      refine XS.lloadN X0.here hx rfl (hb hby d7_12) rfl ?_
      show Steps p.tables e below (s₁.setTop (mkF m 13 #[.val (.long q0), .second, .val (.int (128 : Int32))] [(.long q0)])) t
      refine X0.ldc2Long hx hown (mvT hZ (hw _ (List.mem_of_getElem? (i := 57) rfl))) (g := (mkF m 13 #[.val (.long q0), .second, .val (.int (128 : Int32))] [(.long q0)])) rfl (hb hby d7_13) _ ?_
      show Steps p.tables e below (s₁.setTop (mkF m 16 #[.val (.long q0), .second, .val (.int (128 : Int32))] [(.long (127 : Int64)), (.long q0)])) t
      refine XT.lcmp X0.here hx rfl (hb hby d7_16) rfl ?_
      show Steps p.tables e below (s₁.setTop (mkF m 17 #[.val (.long q0), .second, .val (.int (128 : Int32))] [(.int (XT.cmpL q0 (127 : Int64)))])) t
      exact k
    by_cases hs19 : (127 : Int64) < q0
    · have go20 : ∀ t, Steps p.tables e below (s₁.setTop (mkF m 31 #[.val (.long q0), .second, .val (.int (128 : Int32))] [])) t → Steps p.tables e below (s₁.setTop (entryFrame m #[(.long q0)] 3)) t := by
        intro t k
        refine go18 _ ?_
        refine XS.ifYes X0.here hx rfl (pc0 := 17) (pc' := 31) rfl (hb hby d7_17) rfl (XT.ll_gt_t hs19) (by decide) (by decide) ?_
        show Steps p.tables e below (s₁.setTop (mkF m 31 #[.val (.long q0), .second, .val (.int (128 : Int32))] [])) t
        exact k
      obtain ⟨T21, h21, X21, e21, E21, A21, D21, -, st21⟩ := newO X0 hx hZ hown (hw _ (List.mem_of_getElem? (i := 63) rfl)) (hw _ (List.mem_of_getElem? (i := 64) rfl)) (hw _ (List.mem_of_getElem? (i := 54) rfl)) e0 (g := (mkF m 31 #[.val (.long q0), .second, .val (.int (128 : Int32))] [])) rfl (hb hby d7_31) (by decide) (by decide)
      obtain ⟨b21, g21⟩ : ∃ z, z = h0.size := ⟨_, rfl⟩
      rw [← g21] at A21 D21 st21
      have ne22 : s_cache ≠ b21 := Nat.ne_of_lt (Nat.lt_of_lt_of_le A_cache.lt (Nat.le_of_eq g21.symm))
      have low21 : n0 ≤ b21 := Nat.le_trans Z0 (Nat.le_of_eq g21.symm)
      have fsh21 : h0.size ≤ b21 := Nat.le_trans K0.1 (Nat.le_of_eq g21.symm)
      have K21 : Keep h0 h21 [] := K0.ext E21
      have Zs21 : n0 ≤ h21.size := Nat.le_trans Z0 E21.1
      have go23 : ∀ t, Steps p.tables e below (T21.setTop (mkF m 34 #[.val (.long q0), .second, .val (.int (128 : Int32))] [(.ref b21)])) t → Steps p.tables e below (s₁.setTop (entryFrame m #[(.long q0)] 3)) t := fun t k => go20 _ (st21 _ k)
      have F24 : Sta Z h21 "java/lang/Long$LongCache" "cache" "[Ljava/lang/Long;" (.ref s_cache) := S_cache.ext E21
      have F25 : Arr Z h21 s_cache cc (.object "java/lang/Long") := A_cache.ext E21
      have F26 : LCache Z h21 cc := C_cache.ext E21
      have F27 : Fld Z h21 b21 "java/lang/Long" "value" "J" (.long (0 : Int64)) := D21 (Or.inr (hw _ (List.mem_of_getElem? (i := 77) rfl))) (ty := .long) (by decide)
      have go28 : ∀ t, Steps p.tables e below (T21.setTop (mkF m 36 #[.val (.long q0), .second, .val (.int (128 : Int32))] [(.long q0), (.ref b21), (.ref b21)])) t → Steps p.tables e below (s₁.setTop (entryFrame m #[(.long q0)] 3)) t := by
        intro t k
        refine go23 _ ?_
        refine XS.dup X21.here hx rfl (hb hby d7_34) rfl rfl ?_
        show Steps p.tables e below (T21.setTop (mkF m 35 #[.val (.long q0), .second, .val (.int (128 : Int32))] [(.ref b21), (.ref b21)])) t
        refine XS.lloadN X21.here hx rfl (hb hby d7_35) rfl ?_
        show Steps p.tables e below (T21.setTop (mkF m 36 #[.val (.long q0), .second, .val (.int (128 : Int32))] [(.long q0), (.ref b21), (.ref b21)])) t
        exact k
      obtain ⟨_, _, ⟨T29, L29, k29, n29⟩, -, X29, ⟨Lc29, hQ29, l29, y29, z29⟩, st29⟩ := X21.specialBack hx (y := (⟨"java/lang/Long", "<init>", "(J)V"⟩ : MethodName)) rfl hown (mvT hZ (hw _ (List.mem_of_getElem? (i := 65) rfl))) (mvT hZ (hw _ (List.mem_of_getElem? (i := 66) rfl))) (mvT hZ (hw _ (List.mem_of_getElem? (i := 68) rfl))) (by decide) (backOf (W := 1) (rm8 l Z aZ hw [] b21 q0 (.long (0 : Int64)) h21 n0 Zs21 A21 F27 low21) hZ (hw _ (List.mem_of_getElem? (i := 68) rfl)) (hw _ (List.mem_of_getElem? (i := 54) rfl)) (by decide) (by decide)) (g := (mkF m 36 #[.val (.long q0), .second, .val (.int (128 : Int32))] [(.long q0), (.ref b21), (.ref b21)])) rfl (by rw [hml]; rfl) (Steps.refl _) (a := b21) (argsL := [(.long q0)]) (rest := [(.ref b21)]) (lenOf pd_136 rfl) rfl (by show 2 * 0 + _ ≤ _; exact Nat.le_of_eq rfl) (hb hby d7_36) (fun _ _ => ⟨rfl, e21, (by decide : 1 + 0 ≤ _), (by decide : 1 + 0 ≤ _)⟩)
      dsimp only [Pt.U, Pt.locs, Pt.cells, Pt.slots] at X29 l29 y29 z29 st29 hQ29
      subst l29 y29 z29
      obtain ⟨rfl, N29q, K29q, G29_0, G29_1⟩ := hQ29
      have N29 := Fr.app N0 N29q
      have K29 : Keep h0 T29.heap [] := K21.trans K29q (allS (Or.inr fsh21) all0)
      have Zs29 : n0 ≤ T29.heap.size := Nat.le_trans Zs21 K29q.1
      have F30 : Sta Z T29.heap "java/lang/Long$LongCache" "cache" "[Ljava/lang/Long;" (.ref s_cache) := own_sta_keep F24 K29q (allS (own_exa_ns A21) all0)
      have F31 : Arr Z T29.heap s_cache cc (.object "java/lang/Long") := own_arr_keep F25 K29q (ninS ne22 nin0)
      have F32 : LCache Z T29.heap cc := F26.keep K29q
      have F33 : Exa Z T29.heap b21 "java/lang/Long" := A21.keep K29q
      have go34 : ∀ t, Steps p.tables e below (T29.setTop (mkF m 39 #[.val (.long q0), .second, .val (.int (128 : Int32))] [(.ref b21)])) t → Steps p.tables e below (s₁.setTop (entryFrame m #[(.long q0)] 3)) t := fun t k => go28 _ (st29.trans k)
      obtain ⟨fs, hr, hrun, hended, hW, hsame⟩ := X29.leave (v := some (.ref b21)) (fun h => by rw [Bd.returns] at h; cases h)
      refine ⟨_, _, go34 _ (Jvm.RoadKit.retOut X29 hx Bd.returns rfl (Or.inr (Or.inr (Or.inr (Or.inr ⟨rfl, rfl, rfl⟩)))) (hb hby d7_39) hr), hrun, hended, _, _, rfl, ?_, ⟨_, rfl⟩, hW, hsame.mono (by decide) (by decide)⟩
      show Q7 _ _ q0 s_cache cc h0 _ (T29.setFrames fs).heap _
      have hE : (T29.setFrames fs).heap = T29.heap := rfl
      rw [hE]
      exact ⟨b21, rfl, N29, K29, G29_0⟩
    · have go35 : ∀ t, Steps p.tables e below (s₁.setTop (mkF m 20 #[.val (.long q0), .second, .val (.int (128 : Int32))] [])) t → Steps p.tables e below (s₁.setTop (entryFrame m #[(.long q0)] 3)) t := by
        intro t k
        refine go18 _ ?_
        refine XS.ifNo X0.here hx rfl (hb hby d7_17) rfl (XT.ll_gt_f hs19) ?_
        show Steps p.tables e below (s₁.setTop (mkF m 20 #[.val (.long q0), .second, .val (.int (128 : Int32))] [])) t
        exact k
      obtain ⟨T36, X36, e36, st36⟩ := getS2 X0 hx hZ hown (host := "") (Or.inl (hw _ (List.mem_of_getElem? (i := 58) rfl))) Via.refl e0 S_cache (g := (mkF m 20 #[.val (.long q0), .second, .val (.int (128 : Int32))] [])) rfl (hb hby d7_20)
      have go37 : ∀ t, Steps p.tables e below (T36.setTop (mkF m 23 #[.val (.long q0), .second, .val (.int (128 : Int32))] [(.ref s_cache)])) t → Steps p.tables e below (s₁.setTop (entryFrame m #[(.long q0)] 3)) t := fun t k => go35 _ (st36 _ k)
      have hin := own_cache_idx q0 hs2 hs19 Sz_cache
      obtain ⟨xl, hxl, Exl⟩ := C_cache _ hin
      have go38 : ∀ t, Steps p.tables e below (T36.setTop (mkF m 30 #[.val (.long q0), .second, .val (.int (128 : Int32))] [(.ref xl)])) t → Steps p.tables e below (s₁.setTop (entryFrame m #[(.long q0)] 3)) t := by
        intro t k
        refine go37 _ ?_
        refine XS.lloadN X36.here hx rfl (hb hby d7_23) rfl ?_
        show Steps p.tables e below (T36.setTop (mkF m 24 #[.val (.long q0), .second, .val (.int (128 : Int32))] [(.long q0), (.ref s_cache)])) t
        refine XS.l2i X36.here hx rfl (hb hby d7_24) rfl ?_
        show Steps p.tables e below (T36.setTop (mkF m 25 #[.val (.long q0), .second, .val (.int (128 : Int32))] [(.int q0.toInt32), (.ref s_cache)])) t
        refine XS.sipush X36.here hx rfl (hb hby d7_25) ?_
        show Steps p.tables e below (T36.setTop (mkF m 28 #[.val (.long q0), .second, .val (.int (128 : Int32))] [(.int (128 : Int32)), (.int q0.toInt32), (.ref s_cache)])) t
        refine XS.iadd X36.here hx rfl (hb hby d7_28) rfl ?_
        show Steps p.tables e below (T36.setTop (mkF m 29 #[.val (.long q0), .second, .val (.int (128 : Int32))] [(.int (q0.toInt32 + (128 : Int32))), (.ref s_cache)])) t
        refine X36.aaload hx (j := (q0.toInt32 + (128 : Int32))) (v := (.ref xl)) (by rw [e36]; exact A_cache.1) (State.isArrayOf_alike hZ.alike A_cache.2.1) rfl A_cache.2.2 hin hxl (g := (mkF m 29 #[.val (.long q0), .second, .val (.int (128 : Int32))] [(.int (q0.toInt32 + (128 : Int32))), (.ref s_cache)])) rfl rfl (hb hby d7_29) _ ?_
        show Steps p.tables e below (T36.setTop (mkF m 30 #[.val (.long q0), .second, .val (.int (128 : Int32))] [(.ref xl)])) t
        exact k
      obtain ⟨fs, hr, hrun, hended, hW, hsame⟩ := X36.leave (v := some (.ref xl)) (fun h => by rw [Bd.returns] at h; cases h)
      refine ⟨_, _, go38 _ (Jvm.RoadKit.retOut X36 hx Bd.returns rfl (Or.inr (Or.inr (Or.inr (Or.inr ⟨rfl, rfl, rfl⟩)))) (hb hby d7_30) hr), hrun, hended, _, _, rfl, ?_, ⟨_, rfl⟩, hW, hsame.mono (by decide) (by decide)⟩
      show Q7 _ _ q0 s_cache cc h0 _ (T36.setFrames fs).heap _
      have hE : (T36.setFrames fs).heap = h0 := e36
      rw [hE]
      exact ⟨xl, rfl, N0, K0, Exl⟩
theorem own_f1i (a b : Int64) : (f1 a b).toInt = if a.toInt < b.toInt then b.toInt else a.toInt := by
  unfold f1 b1_3; simp only [Int64.lt_iff_toInt_lt]; split <;> rfl
theorem own_r1 (q : Int64) : ¬ f1 (1 : Int64) (q &&& 9223372036854775807) < (1 : Int64) := by
  have e1 : (1 : Int64).toInt = 1 := rfl
  rw [Int64.lt_iff_toInt_lt, own_f1i, e1]; split <;> omega
theorem own_c1 (q : Int64) : ¬ (q &&& 67108863) + (1 : Int64) < (1 : Int64) ∧ ((q &&& 67108863) + (1 : Int64)).toInt ≤ 67108864 := by
  have h := c_maskL q 67108863 26 (by decide) (by decide)
  have e1 : (1 : Int64).toInt = 1 := rfl
  have a := c_ladd (q &&& 67108863) 1; have r := rng64 ((q &&& 67108863) + 1)
  rw [Int64.lt_iff_toInt_lt]; omega
theorem own_c2 (x : Int32) : ¬ (x &&& 67108863).toInt64 + (1 : Int64) < (1 : Int64) ∧ ((x &&& 67108863).toInt64 + (1 : Int64)).toInt ≤ 67108864 := by
  have h := c_mask x 67108863 26 (by decide) (by decide)
  have e1 : (1 : Int64).toInt = 1 := rfl
  have a := c_ladd (x &&& 67108863).toInt64 1; have r := rng64 ((x &&& 67108863).toInt64 + 1); have e := c_i2l (x &&& 67108863)
  rw [Int64.lt_iff_toInt_lt]; omega
theorem pd_157 : parseMethodDescriptor "(JJJ)V" = some ⟨[.long, .long, .long], none⟩ := by decide +kernel
theorem pd_159 : parseMethodDescriptor "(Ljava/lang/Object;)Z" = some ⟨[(.object "java/lang/Object")], some .boolean⟩ := by decide +kernel
theorem pd_160 : parseMethodDescriptor "(J)Ljava/lang/Long;" = some ⟨[.long], some (.object "java/lang/Long")⟩ := by decide +kernel
def v0_1 (q0 : Int64) : Int64 := ((q0 &&& (67108863 : Int64)) + (1 : Int64))
def v0_2 (q1 : Int64) : Int64 := (q1 &&& (9223372036854775807 : Int64))
def v0_6 (q1 : Int64) : Int64 := (f1 (1 : Int64) (v0_2 q1))
def v0_7 (q2 : Int64) : Int64 := ((q2 &&& (67108863 : Int64)) + (1 : Int64))
def b0_10 (q0 : Int64) (q3 : Int64) (p5 : Int32) : Int64 := (if (p5 &&& (1 : Int32)) = (0 : Int32) then ((q3 &&& (67108863 : Int64)) + (1 : Int64)) else (v0_1 q0))
def v0_15 (q4 : Int64) : Int64 := (q4 &&& (9223372036854775807 : Int64))
def v0_19 (q4 : Int64) : Int64 := (f1 (1 : Int64) (v0_15 q4))
def b0_22 (q2 : Int64) (p5 : Int32) : Int64 := (if (p5 &&& (4 : Int32)) = (0 : Int32) then ((((p5.toUInt32 >>> ((3 : Int32) &&& 31).toUInt32).toInt32) &&& (67108863 : Int32)).toInt64 + (1 : Int64)) else (v0_7 q2))
def b0_84 (q0 : Int64) (q1 : Int64) (q2 : Int64) (q3 : Int64) (q4 : Int64) (p5 : Int32) : Int32 := (if (v0_1 q0) = (b0_10 q0 q3 p5) then (if (v0_6 q1) = (v0_19 q4) then (if (v0_7 q2) = (b0_22 q2 p5) then (1 : Int32) else (0 : Int32)) else (0 : Int32)) else (0 : Int32))
def b0_194 (q0 : Int64) (q2 : Int64) (q3 : Int64) (p5 : Int32) : Int32 := (if (v0_1 q0) = (b0_10 q0 q3 p5) then (if (v0_7 q2) = (b0_22 q2 p5) then (1 : Int32) else (0 : Int32)) else (0 : Int32))
def f0 (q0 : Int64) (q1 : Int64) (q2 : Int64) (q3 : Int64) (q4 : Int64) (p5 : Int32) : Int32 := (if (p5 &&& (2 : Int32)) = (0 : Int32) then (if (feqW (v0_1 q0) (v0_6 q1) (v0_7 q2) (b0_10 q0 q3 p5) (v0_19 q4) (b0_22 q2 p5)) = (b0_84 q0 q1 q2 q3 q4 p5) then (if (feqW (b0_10 q0 q3 p5) (v0_19 q4) (b0_22 q2 p5) (v0_1 q0) (v0_6 q1) (v0_7 q2)) = (b0_84 q0 q1 q2 q3 q4 p5) then (if (feqW (v0_1 q0) (v0_6 q1) (v0_7 q2) (v0_1 q0) (v0_6 q1) (v0_7 q2)) = (0 : Int32) then (0 : Int32) else (1 : Int32)) else (0 : Int32)) else (0 : Int32)) else (if (feqW (v0_1 q0) (v0_6 q1) (v0_7 q2) (b0_10 q0 q3 p5) (v0_6 q1) (b0_22 q2 p5)) = (b0_194 q0 q2 q3 p5) then (if (feqW (b0_10 q0 q3 p5) (v0_6 q1) (b0_22 q2 p5) (v0_1 q0) (v0_6 q1) (v0_7 q2)) = (b0_194 q0 q2 q3 p5) then (if (feqW (v0_1 q0) (v0_6 q1) (v0_7 q2) (v0_1 q0) (v0_6 q1) (v0_7 q2)) = (0 : Int32) then (0 : Int32) else (1 : Int32)) else (0 : Int32)) else (0 : Int32)))
theorem own_fe (a b c d e f : Int64) : feqW a b c d e f = if a = d then (if b = e then (if c = f then 1 else 0) else 0) else 0 := rfl
theorem own_fs (a b c d e f : Int64) : feqW a b c d e f = feqW d e f a b c := by
  rw [own_fe, own_fe]; simp only [eq_comm]
theorem own_fr (a b c : Int64) : ¬ feqW a b c a b c = 0 := by rw [own_fe]; simp
theorem own_ft (a b c d f : Int64) : feqW a b c d b f = if a = d then (if c = f then 1 else 0) else 0 := by rw [own_fe]; simp
theorem f0_one (q0 : Int64) (q1 : Int64) (q2 : Int64) (q3 : Int64) (q4 : Int64) (p5 : Int32) : f0 q0 q1 q2 q3 q4 p5 = 1 := by
  unfold f0 b0_84 b0_194
  split
  · rw [if_pos (own_fe _ _ _ _ _ _), if_pos ((own_fs _ _ _ _ _ _).trans (own_fe _ _ _ _ _ _)), if_neg (own_fr _ _ _)]
  · rw [if_pos (own_ft _ _ _ _ _), if_pos ((own_fs _ _ _ _ _ _).trans (own_ft _ _ _ _ _)), if_neg (own_fr _ _ _)]
theorem pn_162 : plainName "com/example/weir/weir/TokenBucketEqualsPinLaw" = true := by first | (simp [plainName, overriddenIn]; done) | decide +kernel
def Q0 (Z : State) (n0 : Nat) (q0 : Int64) (q1 : Int64) (q2 : Int64) (q3 : Int64) (q4 : Int64) (p5 : Int32) (s_cache : Addr) (cc : Cell) (h0 : Heap) (v : Option Value) (h : Heap) (L : List Loc) : Prop := v = some (.int 1) ∧ Fr n0 L
theorem ef0 (m : MethodId) (q0 : Int64) (q1 : Int64) (q2 : Int64) (q3 : Int64) (q4 : Int64) (p5 : Int32) : entryFrame m #[(.long q0), (.long q1), (.long q2), (.long q3), (.long q4), (.int p5)] maxLocals = mkF m 0 #[.val (.long q0), .second, .val (.long q1), .second, .val (.long q2), .second, .val (.long q3), .second, .val (.long q4), .second, .val (.int p5), .unset, .unset, .unset, .unset, .unset, .unset, .unset, .unset, .unset, .unset, .unset, .unset, .unset, .unset, .unset] [] := by first | (simp [entryFrame, mkF, argsToLocals, Value.category, maxLocals]; done) | rfl
set_option maxRecDepth 65536 in
set_option maxHeartbeats 40000000 in
theorem rm0 (l : Launch) (Z : State) (aZ : Array Value) (hw : ∀ d ∈ tables_1, d.before aZ Z = true) (ws : List Jvm.Cond) (q0 : Int64) (q1 : Int64) (q2 : Int64) (q3 : Int64) (q4 : Int64) (p5 : Int32) (s_cache : Addr) (cc : Cell) (h0 : Heap) (n0 : Nat) (Z0 : n0 ≤ h0.size) (S_cache : Sta Z h0 "java/lang/Long$LongCache" "cache" "[Ljava/lang/Long;" (.ref s_cache)) (A_cache : Arr Z h0 s_cache cc (.object "java/lang/Long")) (Sz_cache : cc.slots.size = 256) (C_cache : LCache Z h0 cc) (hno : ∃ c t, Z.vm.findClass "java/lang/Long" = some c ∧ Z.vm.findClass "com/example/weir/weir/TokenBucket" = some t ∧ Z.vm.assignable c t = false) :
    MetFree l x (head1 (Jvm.Cond.code x code maxLocals ret :: ws) room_1) (fun a U => a = #[(.long q0), (.long q1), (.long q2), (.long q3), (.long q4), (.int p5)] ∧ Z.Warmed39 U.vm ∧ U.heap = h0) (fun _ _ _ _ _ => True) (fun _ U o U' => ∃ v L, o = .returned v ∧ Q0 Z n0 q0 q1 q2 q3 q4 p5 s_cache cc h0 v U'.heap L ∧ ReturnedEndW U o U' L room_1.cells room_1.slots) := by
  refine MetFree.of_bodySF (plainFor_of_name pn_162) hisR ?_
  intro p e s m args below meth c s₁ Bd hml0 hP hK
  obtain ⟨rfl, hZ, hh⟩ := hP
  have hx := Bd.exec
  have hby := Bd.bytes
  have hml : c.maxLocals = 26 := hml0
  have hown : s.vm.findClass "com/example/weir/weir/TokenBucketEqualsPinLaw" = some m.cls := findClass_of_methodNamed Bd.named
  have hnm := (name_of_methodNamed Bd.named Bd.method).1
  have X0 : Stand p l e room_1 (s.setVm s.vm) m #[(.long q0), (.long q1), (.long q2), (.long q3), (.long q4), (.int p5)] below meth c s₁ [] 0 0 := Stand.of_body Bd
  have e0 : s₁.heap = h0 := by rw [← hh, Bd.state]; rfl
  have N0 := Fr.nil n0
  have K0 : Keep h0 h0 [] := Keep.refl _ _
  have go0 : ∀ t, Steps p.tables e below (s₁.setTop (mkF m 0 #[.val (.long q0), .second, .val (.long q1), .second, .val (.long q2), .second, .val (.long q3), .second, .val (.long q4), .second, .val (.int p5), .unset, .unset, .unset, .unset, .unset, .unset, .unset, .unset, .unset, .unset, .unset, .unset, .unset, .unset, .unset] [])) t → Steps p.tables e below (s₁.setTop (entryFrame m #[(.long q0), (.long q1), (.long q2), (.long q3), (.long q4), (.int p5)] maxLocals)) t := fun t k => castTop (ef0 m q0 q1 q2 q3 q4 p5) k
  have hS0 : s.Since s.vm s.heap.size := (State.WarmedH.refl s).since _
  have hk0 : s.heap.size ≤ h0.size := by rw [← hh]; exact Nat.le_refl _
  have go3 : ∀ t, Steps p.tables e below (s₁.setTop (mkF m 15 #[.val (.long q0), .second, .val (.long q1), .second, .val (.long q2), .second, .val (.long q3), .second, .val (.long q4), .second, .val (.int p5), .val (.long (v0_1 q0)), .second, .unset, .unset, .unset, .unset, .unset, .unset, .unset, .unset, .unset, .unset, .unset, .unset, .unset] [(.long (v0_2 q1)), (.long (1 : Int64))])) t → Steps p.tables e below (s₁.setTop (entryFrame m #[(.long q0), (.long q1), (.long q2), (.long q3), (.long q4), (.int p5)] maxLocals)) t := by
    intro t k
    refine go0 _ ?_
    refine XS.lloadN X0.here hx rfl (hb hby at_0) rfl ?_
    show Steps p.tables e below (s₁.setTop (mkF m 1 #[.val (.long q0), .second, .val (.long q1), .second, .val (.long q2), .second, .val (.long q3), .second, .val (.long q4), .second, .val (.int p5), .unset, .unset, .unset, .unset, .unset, .unset, .unset, .unset, .unset, .unset, .unset, .unset, .unset, .unset, .unset] [(.long q0)])) t
    refine X0.ldc2Long hx hown (mvT hZ (hw _ (List.mem_of_getElem? (i := 0) rfl))) (g := (mkF m 1 #[.val (.long q0), .second, .val (.long q1), .second, .val (.long q2), .second, .val (.long q3), .second, .val (.long q4), .second, .val (.int p5), .unset, .unset, .unset, .unset, .unset, .unset, .unset, .unset, .unset, .unset, .unset, .unset, .unset, .unset, .unset] [(.long q0)])) rfl (hb hby at_1) _ ?_
    show Steps p.tables e below (s₁.setTop (mkF m 4 #[.val (.long q0), .second, .val (.long q1), .second, .val (.long q2), .second, .val (.long q3), .second, .val (.long q4), .second, .val (.int p5), .unset, .unset, .unset, .unset, .unset, .unset, .unset, .unset, .unset, .unset, .unset, .unset, .unset, .unset, .unset] [(.long (67108863 : Int64)), (.long q0)])) t
    refine XS.land X0.here hx rfl (hb hby at_4) rfl ?_
    show Steps p.tables e below (s₁.setTop (mkF m 5 #[.val (.long q0), .second, .val (.long q1), .second, .val (.long q2), .second, .val (.long q3), .second, .val (.long q4), .second, .val (.int p5), .unset, .unset, .unset, .unset, .unset, .unset, .unset, .unset, .unset, .unset, .unset, .unset, .unset, .unset, .unset] [(.long (q0 &&& (67108863 : Int64)))])) t
    refine XS.lconst X0.here hx rfl (hb hby at_5) ?_
    show Steps p.tables e below (s₁.setTop (mkF m 6 #[.val (.long q0), .second, .val (.long q1), .second, .val (.long q2), .second, .val (.long q3), .second, .val (.long q4), .second, .val (.int p5), .unset, .unset, .unset, .unset, .unset, .unset, .unset, .unset, .unset, .unset, .unset, .unset, .unset, .unset, .unset] [(.long (1 : Int64)), (.long (q0 &&& (67108863 : Int64)))])) t
    refine XS.ladd X0.here hx rfl (hb hby at_6) rfl ?_
    show Steps p.tables e below (s₁.setTop (mkF m 7 #[.val (.long q0), .second, .val (.long q1), .second, .val (.long q2), .second, .val (.long q3), .second, .val (.long q4), .second, .val (.int p5), .unset, .unset, .unset, .unset, .unset, .unset, .unset, .unset, .unset, .unset, .unset, .unset, .unset, .unset, .unset] [(.long ((q0 &&& (67108863 : Int64)) + (1 : Int64)))])) t
    show Steps p.tables e below (s₁.setTop (mkF m 7 #[.val (.long q0), .second, .val (.long q1), .second, .val (.long q2), .second, .val (.long q3), .second, .val (.long q4), .second, .val (.int p5), .unset, .unset, .unset, .unset, .unset, .unset, .unset, .unset, .unset, .unset, .unset, .unset, .unset, .unset, .unset] [(.long (v0_1 q0))])) t
    refine XS.lstore X0.here hx rfl (hb hby at_7) rfl (l' := #[.val (.long q0), .second, .val (.long q1), .second, .val (.long q2), .second, .val (.long q3), .second, .val (.long q4), .second, .val (.int p5), .val (.long (v0_1 q0)), .second, .unset, .unset, .unset, .unset, .unset, .unset, .unset, .unset, .unset, .unset, .unset, .unset, .unset]) rfl ?_
    show Steps p.tables e below (s₁.setTop (mkF m 9 #[.val (.long q0), .second, .val (.long q1), .second, .val (.long q2), .second, .val (.long q3), .second, .val (.long q4), .second, .val (.int p5), .val (.long (v0_1 q0)), .second, .unset, .unset, .unset, .unset, .unset, .unset, .unset, .unset, .unset, .unset, .unset, .unset, .unset] [])) t
    refine XS.lconst X0.here hx rfl (hb hby at_9) ?_
    show Steps p.tables e below (s₁.setTop (mkF m 10 #[.val (.long q0), .second, .val (.long q1), .second, .val (.long q2), .second, .val (.long q3), .second, .val (.long q4), .second, .val (.int p5), .val (.long (v0_1 q0)), .second, .unset, .unset, .unset, .unset, .unset, .unset, .unset, .unset, .unset, .unset, .unset, .unset, .unset] [(.long (1 : Int64))])) t
    refine XS.lloadN X0.here hx rfl (hb hby at_10) rfl ?_
    show Steps p.tables e below (s₁.setTop (mkF m 11 #[.val (.long q0), .second, .val (.long q1), .second, .val (.long q2), .second, .val (.long q3), .second, .val (.long q4), .second, .val (.int p5), .val (.long (v0_1 q0)), .second, .unset, .unset, .unset, .unset, .unset, .unset, .unset, .unset, .unset, .unset, .unset, .unset, .unset] [(.long q1), (.long (1 : Int64))])) t
    refine X0.ldc2Long hx hown (mvT hZ (hw _ (List.mem_of_getElem? (i := 1) rfl))) (g := (mkF m 11 #[.val (.long q0), .second, .val (.long q1), .second, .val (.long q2), .second, .val (.long q3), .second, .val (.long q4), .second, .val (.int p5), .val (.long (v0_1 q0)), .second, .unset, .unset, .unset, .unset, .unset, .unset, .unset, .unset, .unset, .unset, .unset, .unset, .unset] [(.long q1), (.long (1 : Int64))])) rfl (hb hby at_11) _ ?_
    show Steps p.tables e below (s₁.setTop (mkF m 14 #[.val (.long q0), .second, .val (.long q1), .second, .val (.long q2), .second, .val (.long q3), .second, .val (.long q4), .second, .val (.int p5), .val (.long (v0_1 q0)), .second, .unset, .unset, .unset, .unset, .unset, .unset, .unset, .unset, .unset, .unset, .unset, .unset, .unset] [(.long (9223372036854775807 : Int64)), (.long q1), (.long (1 : Int64))])) t
    refine XS.land X0.here hx rfl (hb hby at_14) rfl ?_
    show Steps p.tables e below (s₁.setTop (mkF m 15 #[.val (.long q0), .second, .val (.long q1), .second, .val (.long q2), .second, .val (.long q3), .second, .val (.long q4), .second, .val (.int p5), .val (.long (v0_1 q0)), .second, .unset, .unset, .unset, .unset, .unset, .unset, .unset, .unset, .unset, .unset, .unset, .unset, .unset] [(.long (q1 &&& (9223372036854775807 : Int64))), (.long (1 : Int64))])) t
    show Steps p.tables e below (s₁.setTop (mkF m 15 #[.val (.long q0), .second, .val (.long q1), .second, .val (.long q2), .second, .val (.long q3), .second, .val (.long q4), .second, .val (.int p5), .val (.long (v0_1 q0)), .second, .unset, .unset, .unset, .unset, .unset, .unset, .unset, .unset, .unset, .unset, .unset, .unset, .unset] [(.long (v0_2 q1)), (.long (1 : Int64))])) t
    exact k
  obtain ⟨_, _, ⟨T4, L4, k4, n4⟩, -, X4, ⟨Lc4, hQ4, l4, y4, z4⟩, st4⟩ := Jvm.LawKit.callS X0 hx (y := (⟨"java/lang/Math", "max", "(JJ)J"⟩ : MethodName)) hown (mvT hZ (hw _ (List.mem_of_getElem? (i := 2) rfl))) (mvT hZ (hw _ (List.mem_of_getElem? (i := 3) rfl))) (mvT hZ (hw _ (List.mem_of_getElem? (i := 4) rfl))) (mvT hZ (hw _ (List.mem_of_getElem? (i := 5) rfl))) (by decide) (backOf (W := 0) (rm1 l Z aZ hw [] (1 : Int64) (v0_2 q1) h0 n0 Z0 ) hZ (hw _ (List.mem_of_getElem? (i := 5) rfl)) (hw _ (List.mem_of_getElem? (i := 4) rfl)) (by decide) (by decide)) (g := (mkF m 15 #[.val (.long q0), .second, .val (.long q1), .second, .val (.long q2), .second, .val (.long q3), .second, .val (.long q4), .second, .val (.int p5), .val (.long (v0_1 q0)), .second, .unset, .unset, .unset, .unset, .unset, .unset, .unset, .unset, .unset, .unset, .unset, .unset, .unset] [(.long (v0_2 q1)), (.long (1 : Int64))])) rfl (by rw [hml]; rfl) (argsL := [(.long (1 : Int64)), (.long (v0_2 q1))]) (rest := []) (lenOf pd_47 rfl) rfl (by show 2 * 0 + _ ≤ _; exact Nat.le_of_eq rfl) (hb hby at_15) (fun _ _ => ⟨rfl, e0, (by decide : 0 + 0 ≤ _), (by decide : 0 + 0 ≤ _)⟩)
  dsimp only [Pt.U, Pt.locs, Pt.cells, Pt.slots] at X4 l4 y4 z4 st4 hQ4
  subst l4 y4 z4
  obtain ⟨rfl, N4q, e4⟩ := hQ4
  have N4 := Fr.app N0 N4q
  have go5 : ∀ t, Steps p.tables e below (T4.setTop (mkF m 18 #[.val (.long q0), .second, .val (.long q1), .second, .val (.long q2), .second, .val (.long q3), .second, .val (.long q4), .second, .val (.int p5), .val (.long (v0_1 q0)), .second, .unset, .unset, .unset, .unset, .unset, .unset, .unset, .unset, .unset, .unset, .unset, .unset, .unset] [(.long (f1 (1 : Int64) (v0_2 q1)))])) t → Steps p.tables e below (s₁.setTop (entryFrame m #[(.long q0), (.long q1), (.long q2), (.long q3), (.long q4), (.int p5)] maxLocals)) t := fun t k => go3 _ (st4 _ k)
  have go9 : ∀ t, Steps p.tables e below (T4.setTop (mkF m 50 #[.val (.long q0), .second, .val (.long q1), .second, .val (.long q2), .second, .val (.long q3), .second, .val (.long q4), .second, .val (.int p5), .val (.long (v0_1 q0)), .second, .val (.long (v0_6 q1)), .second, .val (.long (v0_7 q2)), .second, .unset, .unset, .unset, .unset, .unset, .unset, .unset, .unset, .unset] [(.long (b0_10 q0 q3 p5))])) t → Steps p.tables e below (s₁.setTop (entryFrame m #[(.long q0), (.long q1), (.long q2), (.long q3), (.long q4), (.int p5)] maxLocals)) t := by
    intro t k
    refine go5 _ ?_
    show Steps p.tables e below (T4.setTop (mkF m 18 #[.val (.long q0), .second, .val (.long q1), .second, .val (.long q2), .second, .val (.long q3), .second, .val (.long q4), .second, .val (.int p5), .val (.long (v0_1 q0)), .second, .unset, .unset, .unset, .unset, .unset, .unset, .unset, .unset, .unset, .unset, .unset, .unset, .unset] [(.long (v0_6 q1))])) t
    refine XS.lstore X4.here hx rfl (hb hby at_18) rfl (l' := #[.val (.long q0), .second, .val (.long q1), .second, .val (.long q2), .second, .val (.long q3), .second, .val (.long q4), .second, .val (.int p5), .val (.long (v0_1 q0)), .second, .val (.long (v0_6 q1)), .second, .unset, .unset, .unset, .unset, .unset, .unset, .unset, .unset, .unset, .unset, .unset]) rfl ?_
    show Steps p.tables e below (T4.setTop (mkF m 20 #[.val (.long q0), .second, .val (.long q1), .second, .val (.long q2), .second, .val (.long q3), .second, .val (.long q4), .second, .val (.int p5), .val (.long (v0_1 q0)), .second, .val (.long (v0_6 q1)), .second, .unset, .unset, .unset, .unset, .unset, .unset, .unset, .unset, .unset, .unset, .unset] [])) t
    refine XS.lload X4.here hx rfl (hb hby at_20) rfl ?_
    show Steps p.tables e below (T4.setTop (mkF m 22 #[.val (.long q0), .second, .val (.long q1), .second, .val (.long q2), .second, .val (.long q3), .second, .val (.long q4), .second, .val (.int p5), .val (.long (v0_1 q0)), .second, .val (.long (v0_6 q1)), .second, .unset, .unset, .unset, .unset, .unset, .unset, .unset, .unset, .unset, .unset, .unset] [(.long q2)])) t
    refine X4.ldc2Long hx hown (mvT hZ (hw _ (List.mem_of_getElem? (i := 0) rfl))) (g := (mkF m 22 #[.val (.long q0), .second, .val (.long q1), .second, .val (.long q2), .second, .val (.long q3), .second, .val (.long q4), .second, .val (.int p5), .val (.long (v0_1 q0)), .second, .val (.long (v0_6 q1)), .second, .unset, .unset, .unset, .unset, .unset, .unset, .unset, .unset, .unset, .unset, .unset] [(.long q2)])) rfl (hb hby at_22) _ ?_
    show Steps p.tables e below (T4.setTop (mkF m 25 #[.val (.long q0), .second, .val (.long q1), .second, .val (.long q2), .second, .val (.long q3), .second, .val (.long q4), .second, .val (.int p5), .val (.long (v0_1 q0)), .second, .val (.long (v0_6 q1)), .second, .unset, .unset, .unset, .unset, .unset, .unset, .unset, .unset, .unset, .unset, .unset] [(.long (67108863 : Int64)), (.long q2)])) t
    refine XS.land X4.here hx rfl (hb hby at_25) rfl ?_
    show Steps p.tables e below (T4.setTop (mkF m 26 #[.val (.long q0), .second, .val (.long q1), .second, .val (.long q2), .second, .val (.long q3), .second, .val (.long q4), .second, .val (.int p5), .val (.long (v0_1 q0)), .second, .val (.long (v0_6 q1)), .second, .unset, .unset, .unset, .unset, .unset, .unset, .unset, .unset, .unset, .unset, .unset] [(.long (q2 &&& (67108863 : Int64)))])) t
    refine XS.lconst X4.here hx rfl (hb hby at_26) ?_
    show Steps p.tables e below (T4.setTop (mkF m 27 #[.val (.long q0), .second, .val (.long q1), .second, .val (.long q2), .second, .val (.long q3), .second, .val (.long q4), .second, .val (.int p5), .val (.long (v0_1 q0)), .second, .val (.long (v0_6 q1)), .second, .unset, .unset, .unset, .unset, .unset, .unset, .unset, .unset, .unset, .unset, .unset] [(.long (1 : Int64)), (.long (q2 &&& (67108863 : Int64)))])) t
    refine XS.ladd X4.here hx rfl (hb hby at_27) rfl ?_
    show Steps p.tables e below (T4.setTop (mkF m 28 #[.val (.long q0), .second, .val (.long q1), .second, .val (.long q2), .second, .val (.long q3), .second, .val (.long q4), .second, .val (.int p5), .val (.long (v0_1 q0)), .second, .val (.long (v0_6 q1)), .second, .unset, .unset, .unset, .unset, .unset, .unset, .unset, .unset, .unset, .unset, .unset] [(.long ((q2 &&& (67108863 : Int64)) + (1 : Int64)))])) t
    show Steps p.tables e below (T4.setTop (mkF m 28 #[.val (.long q0), .second, .val (.long q1), .second, .val (.long q2), .second, .val (.long q3), .second, .val (.long q4), .second, .val (.int p5), .val (.long (v0_1 q0)), .second, .val (.long (v0_6 q1)), .second, .unset, .unset, .unset, .unset, .unset, .unset, .unset, .unset, .unset, .unset, .unset] [(.long (v0_7 q2))])) t
    refine XS.lstore X4.here hx rfl (hb hby at_28) rfl (l' := #[.val (.long q0), .second, .val (.long q1), .second, .val (.long q2), .second, .val (.long q3), .second, .val (.long q4), .second, .val (.int p5), .val (.long (v0_1 q0)), .second, .val (.long (v0_6 q1)), .second, .val (.long (v0_7 q2)), .second, .unset, .unset, .unset, .unset, .unset, .unset, .unset, .unset, .unset]) rfl ?_
    show Steps p.tables e below (T4.setTop (mkF m 30 #[.val (.long q0), .second, .val (.long q1), .second, .val (.long q2), .second, .val (.long q3), .second, .val (.long q4), .second, .val (.int p5), .val (.long (v0_1 q0)), .second, .val (.long (v0_6 q1)), .second, .val (.long (v0_7 q2)), .second, .unset, .unset, .unset, .unset, .unset, .unset, .unset, .unset, .unset] [])) t
    refine XS.iload X4.here hx rfl (hb hby at_30) rfl ?_
    show Steps p.tables e below (T4.setTop (mkF m 32 #[.val (.long q0), .second, .val (.long q1), .second, .val (.long q2), .second, .val (.long q3), .second, .val (.long q4), .second, .val (.int p5), .val (.long (v0_1 q0)), .second, .val (.long (v0_6 q1)), .second, .val (.long (v0_7 q2)), .second, .unset, .unset, .unset, .unset, .unset, .unset, .unset, .unset, .unset] [(.int p5)])) t
    refine XS.iconst X4.here hx rfl (hb hby at_32) ?_
    show Steps p.tables e below (T4.setTop (mkF m 33 #[.val (.long q0), .second, .val (.long q1), .second, .val (.long q2), .second, .val (.long q3), .second, .val (.long q4), .second, .val (.int p5), .val (.long (v0_1 q0)), .second, .val (.long (v0_6 q1)), .second, .val (.long (v0_7 q2)), .second, .unset, .unset, .unset, .unset, .unset, .unset, .unset, .unset, .unset] [(.int (1 : Int32)), (.int p5)])) t
    refine XS.iand X4.here hx rfl (hb hby at_33) rfl ?_
    show Steps p.tables e below (T4.setTop (mkF m 34 #[.val (.long q0), .second, .val (.long q1), .second, .val (.long q2), .second, .val (.long q3), .second, .val (.long q4), .second, .val (.int p5), .val (.long (v0_1 q0)), .second, .val (.long (v0_6 q1)), .second, .val (.long (v0_7 q2)), .second, .unset, .unset, .unset, .unset, .unset, .unset, .unset, .unset, .unset] [(.int (p5 &&& (1 : Int32)))])) t
    by_cases hc8 : (p5 &&& (1 : Int32)) = (0 : Int32)
    · refine XS.ifYes X4.here hx rfl (pc0 := 34) (pc' := 42) rfl (hb hby at_34) rfl (XT.i0_eq_t hc8) (by decide) (by decide) ?_
      show Steps p.tables e below (T4.setTop (mkF m 42 #[.val (.long q0), .second, .val (.long q1), .second, .val (.long q2), .second, .val (.long q3), .second, .val (.long q4), .second, .val (.int p5), .val (.long (v0_1 q0)), .second, .val (.long (v0_6 q1)), .second, .val (.long (v0_7 q2)), .second, .unset, .unset, .unset, .unset, .unset, .unset, .unset, .unset, .unset] [])) t
      refine XS.lload X4.here hx rfl (hb hby at_42) rfl ?_
      show Steps p.tables e below (T4.setTop (mkF m 44 #[.val (.long q0), .second, .val (.long q1), .second, .val (.long q2), .second, .val (.long q3), .second, .val (.long q4), .second, .val (.int p5), .val (.long (v0_1 q0)), .second, .val (.long (v0_6 q1)), .second, .val (.long (v0_7 q2)), .second, .unset, .unset, .unset, .unset, .unset, .unset, .unset, .unset, .unset] [(.long q3)])) t
      refine X4.ldc2Long hx hown (mvT hZ (hw _ (List.mem_of_getElem? (i := 0) rfl))) (g := (mkF m 44 #[.val (.long q0), .second, .val (.long q1), .second, .val (.long q2), .second, .val (.long q3), .second, .val (.long q4), .second, .val (.int p5), .val (.long (v0_1 q0)), .second, .val (.long (v0_6 q1)), .second, .val (.long (v0_7 q2)), .second, .unset, .unset, .unset, .unset, .unset, .unset, .unset, .unset, .unset] [(.long q3)])) rfl (hb hby at_44) _ ?_
      show Steps p.tables e below (T4.setTop (mkF m 47 #[.val (.long q0), .second, .val (.long q1), .second, .val (.long q2), .second, .val (.long q3), .second, .val (.long q4), .second, .val (.int p5), .val (.long (v0_1 q0)), .second, .val (.long (v0_6 q1)), .second, .val (.long (v0_7 q2)), .second, .unset, .unset, .unset, .unset, .unset, .unset, .unset, .unset, .unset] [(.long (67108863 : Int64)), (.long q3)])) t
      refine XS.land X4.here hx rfl (hb hby at_47) rfl ?_
      show Steps p.tables e below (T4.setTop (mkF m 48 #[.val (.long q0), .second, .val (.long q1), .second, .val (.long q2), .second, .val (.long q3), .second, .val (.long q4), .second, .val (.int p5), .val (.long (v0_1 q0)), .second, .val (.long (v0_6 q1)), .second, .val (.long (v0_7 q2)), .second, .unset, .unset, .unset, .unset, .unset, .unset, .unset, .unset, .unset] [(.long (q3 &&& (67108863 : Int64)))])) t
      refine XS.lconst X4.here hx rfl (hb hby at_48) ?_
      show Steps p.tables e below (T4.setTop (mkF m 49 #[.val (.long q0), .second, .val (.long q1), .second, .val (.long q2), .second, .val (.long q3), .second, .val (.long q4), .second, .val (.int p5), .val (.long (v0_1 q0)), .second, .val (.long (v0_6 q1)), .second, .val (.long (v0_7 q2)), .second, .unset, .unset, .unset, .unset, .unset, .unset, .unset, .unset, .unset] [(.long (1 : Int64)), (.long (q3 &&& (67108863 : Int64)))])) t
      refine XS.ladd X4.here hx rfl (hb hby at_49) rfl ?_
      show Steps p.tables e below (T4.setTop (mkF m 50 #[.val (.long q0), .second, .val (.long q1), .second, .val (.long q2), .second, .val (.long q3), .second, .val (.long q4), .second, .val (.int p5), .val (.long (v0_1 q0)), .second, .val (.long (v0_6 q1)), .second, .val (.long (v0_7 q2)), .second, .unset, .unset, .unset, .unset, .unset, .unset, .unset, .unset, .unset] [(.long ((q3 &&& (67108863 : Int64)) + (1 : Int64)))])) t
      have hq11 : (b0_10 q0 q3 p5) = ((q3 &&& (67108863 : Int64)) + (1 : Int64)) := by rw [b0_10, if_pos hc8]
      rw [hq11] at k
      exact k
    · refine XS.ifNo X4.here hx rfl (hb hby at_34) rfl (XT.i0_eq_f hc8) ?_
      show Steps p.tables e below (T4.setTop (mkF m 37 #[.val (.long q0), .second, .val (.long q1), .second, .val (.long q2), .second, .val (.long q3), .second, .val (.long q4), .second, .val (.int p5), .val (.long (v0_1 q0)), .second, .val (.long (v0_6 q1)), .second, .val (.long (v0_7 q2)), .second, .unset, .unset, .unset, .unset, .unset, .unset, .unset, .unset, .unset] [])) t
      refine XS.lload X4.here hx rfl (hb hby at_37) rfl ?_
      show Steps p.tables e below (T4.setTop (mkF m 39 #[.val (.long q0), .second, .val (.long q1), .second, .val (.long q2), .second, .val (.long q3), .second, .val (.long q4), .second, .val (.int p5), .val (.long (v0_1 q0)), .second, .val (.long (v0_6 q1)), .second, .val (.long (v0_7 q2)), .second, .unset, .unset, .unset, .unset, .unset, .unset, .unset, .unset, .unset] [(.long (v0_1 q0))])) t
      refine XS.goto X4.here hx rfl (pc0 := 39) (pc' := 50) rfl (hb hby at_39) (by decide) (by decide) ?_
      show Steps p.tables e below (T4.setTop (mkF m 50 #[.val (.long q0), .second, .val (.long q1), .second, .val (.long q2), .second, .val (.long q3), .second, .val (.long q4), .second, .val (.int p5), .val (.long (v0_1 q0)), .second, .val (.long (v0_6 q1)), .second, .val (.long (v0_7 q2)), .second, .unset, .unset, .unset, .unset, .unset, .unset, .unset, .unset, .unset] [(.long (v0_1 q0))])) t
      have hq12 : (b0_10 q0 q3 p5) = (v0_1 q0) := by rw [b0_10, if_neg hc8]
      rw [hq12] at k
      exact k
  have go13 : ∀ t, Steps p.tables e below (T4.setTop (mkF m 56 #[.val (.long q0), .second, .val (.long q1), .second, .val (.long q2), .second, .val (.long q3), .second, .val (.long q4), .second, .val (.int p5), .val (.long (v0_1 q0)), .second, .val (.long (v0_6 q1)), .second, .val (.long (v0_7 q2)), .second, .val (.long (b0_10 q0 q3 p5)), .second, .unset, .unset, .unset, .unset, .unset, .unset, .unset] [(.int (p5 &&& (2 : Int32)))])) t → Steps p.tables e below (s₁.setTop (entryFrame m #[(.long q0), (.long q1), (.long q2), (.long q3), (.long q4), (.int p5)] maxLocals)) t := by
    intro t k
    refine go9 _ ?_
    refine XS.lstore X4.here hx rfl (hb hby at_50) rfl (l' := #[.val (.long q0), .second, .val (.long q1), .second, .val (.long q2), .second, .val (.long q3), .second, .val (.long q4), .second, .val (.int p5), .val (.long (v0_1 q0)), .second, .val (.long (v0_6 q1)), .second, .val (.long (v0_7 q2)), .second, .val (.long (b0_10 q0 q3 p5)), .second, .unset, .unset, .unset, .unset, .unset, .unset, .unset]) rfl ?_
    show Steps p.tables e below (T4.setTop (mkF m 52 #[.val (.long q0), .second, .val (.long q1), .second, .val (.long q2), .second, .val (.long q3), .second, .val (.long q4), .second, .val (.int p5), .val (.long (v0_1 q0)), .second, .val (.long (v0_6 q1)), .second, .val (.long (v0_7 q2)), .second, .val (.long (b0_10 q0 q3 p5)), .second, .unset, .unset, .unset, .unset, .unset, .unset, .unset] [])) t
    refine XS.iload X4.here hx rfl (hb hby at_52) rfl ?_
    show Steps p.tables e below (T4.setTop (mkF m 54 #[.val (.long q0), .second, .val (.long q1), .second, .val (.long q2), .second, .val (.long q3), .second, .val (.long q4), .second, .val (.int p5), .val (.long (v0_1 q0)), .second, .val (.long (v0_6 q1)), .second, .val (.long (v0_7 q2)), .second, .val (.long (b0_10 q0 q3 p5)), .second, .unset, .unset, .unset, .unset, .unset, .unset, .unset] [(.int p5)])) t
    refine XS.iconst X4.here hx rfl (hb hby at_54) ?_
    show Steps p.tables e below (T4.setTop (mkF m 55 #[.val (.long q0), .second, .val (.long q1), .second, .val (.long q2), .second, .val (.long q3), .second, .val (.long q4), .second, .val (.int p5), .val (.long (v0_1 q0)), .second, .val (.long (v0_6 q1)), .second, .val (.long (v0_7 q2)), .second, .val (.long (b0_10 q0 q3 p5)), .second, .unset, .unset, .unset, .unset, .unset, .unset, .unset] [(.int (2 : Int32)), (.int p5)])) t
    refine XS.iand X4.here hx rfl (hb hby at_55) rfl ?_
    show Steps p.tables e below (T4.setTop (mkF m 56 #[.val (.long q0), .second, .val (.long q1), .second, .val (.long q2), .second, .val (.long q3), .second, .val (.long q4), .second, .val (.int p5), .val (.long (v0_1 q0)), .second, .val (.long (v0_6 q1)), .second, .val (.long (v0_7 q2)), .second, .val (.long (b0_10 q0 q3 p5)), .second, .unset, .unset, .unset, .unset, .unset, .unset, .unset] [(.int (p5 &&& (2 : Int32)))])) t
    exact k
  by_cases hs14 : (p5 &&& (2 : Int32)) = (0 : Int32)
  · have go16 : ∀ t, Steps p.tables e below (T4.setTop (mkF m 71 #[.val (.long q0), .second, .val (.long q1), .second, .val (.long q2), .second, .val (.long q3), .second, .val (.long q4), .second, .val (.int p5), .val (.long (v0_1 q0)), .second, .val (.long (v0_6 q1)), .second, .val (.long (v0_7 q2)), .second, .val (.long (b0_10 q0 q3 p5)), .second, .unset, .unset, .unset, .unset, .unset, .unset, .unset] [(.long (v0_15 q4)), (.long (1 : Int64))])) t → Steps p.tables e below (s₁.setTop (entryFrame m #[(.long q0), (.long q1), (.long q2), (.long q3), (.long q4), (.int p5)] maxLocals)) t := by
      intro t k
      refine go13 _ ?_
      refine XS.ifYes X4.here hx rfl (pc0 := 56) (pc' := 64) rfl (hb hby at_56) rfl (XT.i0_eq_t hs14) (by decide) (by decide) ?_
      show Steps p.tables e below (T4.setTop (mkF m 64 #[.val (.long q0), .second, .val (.long q1), .second, .val (.long q2), .second, .val (.long q3), .second, .val (.long q4), .second, .val (.int p5), .val (.long (v0_1 q0)), .second, .val (.long (v0_6 q1)), .second, .val (.long (v0_7 q2)), .second, .val (.long (b0_10 q0 q3 p5)), .second, .unset, .unset, .unset, .unset, .unset, .unset, .unset] [])) t
      refine XS.lconst X4.here hx rfl (hb hby at_64) ?_
      show Steps p.tables e below (T4.setTop (mkF m 65 #[.val (.long q0), .second, .val (.long q1), .second, .val (.long q2), .second, .val (.long q3), .second, .val (.long q4), .second, .val (.int p5), .val (.long (v0_1 q0)), .second, .val (.long (v0_6 q1)), .second, .val (.long (v0_7 q2)), .second, .val (.long (b0_10 q0 q3 p5)), .second, .unset, .unset, .unset, .unset, .unset, .unset, .unset] [(.long (1 : Int64))])) t
      refine XS.lload X4.here hx rfl (hb hby at_65) rfl ?_
      show Steps p.tables e below (T4.setTop (mkF m 67 #[.val (.long q0), .second, .val (.long q1), .second, .val (.long q2), .second, .val (.long q3), .second, .val (.long q4), .second, .val (.int p5), .val (.long (v0_1 q0)), .second, .val (.long (v0_6 q1)), .second, .val (.long (v0_7 q2)), .second, .val (.long (b0_10 q0 q3 p5)), .second, .unset, .unset, .unset, .unset, .unset, .unset, .unset] [(.long q4), (.long (1 : Int64))])) t
      refine X4.ldc2Long hx hown (mvT hZ (hw _ (List.mem_of_getElem? (i := 1) rfl))) (g := (mkF m 67 #[.val (.long q0), .second, .val (.long q1), .second, .val (.long q2), .second, .val (.long q3), .second, .val (.long q4), .second, .val (.int p5), .val (.long (v0_1 q0)), .second, .val (.long (v0_6 q1)), .second, .val (.long (v0_7 q2)), .second, .val (.long (b0_10 q0 q3 p5)), .second, .unset, .unset, .unset, .unset, .unset, .unset, .unset] [(.long q4), (.long (1 : Int64))])) rfl (hb hby at_67) _ ?_
      show Steps p.tables e below (T4.setTop (mkF m 70 #[.val (.long q0), .second, .val (.long q1), .second, .val (.long q2), .second, .val (.long q3), .second, .val (.long q4), .second, .val (.int p5), .val (.long (v0_1 q0)), .second, .val (.long (v0_6 q1)), .second, .val (.long (v0_7 q2)), .second, .val (.long (b0_10 q0 q3 p5)), .second, .unset, .unset, .unset, .unset, .unset, .unset, .unset] [(.long (9223372036854775807 : Int64)), (.long q4), (.long (1 : Int64))])) t
      refine XS.land X4.here hx rfl (hb hby at_70) rfl ?_
      show Steps p.tables e below (T4.setTop (mkF m 71 #[.val (.long q0), .second, .val (.long q1), .second, .val (.long q2), .second, .val (.long q3), .second, .val (.long q4), .second, .val (.int p5), .val (.long (v0_1 q0)), .second, .val (.long (v0_6 q1)), .second, .val (.long (v0_7 q2)), .second, .val (.long (b0_10 q0 q3 p5)), .second, .unset, .unset, .unset, .unset, .unset, .unset, .unset] [(.long (q4 &&& (9223372036854775807 : Int64))), (.long (1 : Int64))])) t
      show Steps p.tables e below (T4.setTop (mkF m 71 #[.val (.long q0), .second, .val (.long q1), .second, .val (.long q2), .second, .val (.long q3), .second, .val (.long q4), .second, .val (.int p5), .val (.long (v0_1 q0)), .second, .val (.long (v0_6 q1)), .second, .val (.long (v0_7 q2)), .second, .val (.long (b0_10 q0 q3 p5)), .second, .unset, .unset, .unset, .unset, .unset, .unset, .unset] [(.long (v0_15 q4)), (.long (1 : Int64))])) t
      exact k
    obtain ⟨_, _, ⟨T17, L17, k17, n17⟩, -, X17, ⟨Lc17, hQ17, l17, y17, z17⟩, st17⟩ := Jvm.LawKit.callS X4 hx (y := (⟨"java/lang/Math", "max", "(JJ)J"⟩ : MethodName)) hown (mvT hZ (hw _ (List.mem_of_getElem? (i := 2) rfl))) (mvT hZ (hw _ (List.mem_of_getElem? (i := 3) rfl))) (mvT hZ (hw _ (List.mem_of_getElem? (i := 4) rfl))) (mvT hZ (hw _ (List.mem_of_getElem? (i := 5) rfl))) (by decide) (backOf (W := 0) (rm1 l Z aZ hw [] (1 : Int64) (v0_15 q4) h0 n0 Z0 ) hZ (hw _ (List.mem_of_getElem? (i := 5) rfl)) (hw _ (List.mem_of_getElem? (i := 4) rfl)) (by decide) (by decide)) (g := (mkF m 71 #[.val (.long q0), .second, .val (.long q1), .second, .val (.long q2), .second, .val (.long q3), .second, .val (.long q4), .second, .val (.int p5), .val (.long (v0_1 q0)), .second, .val (.long (v0_6 q1)), .second, .val (.long (v0_7 q2)), .second, .val (.long (b0_10 q0 q3 p5)), .second, .unset, .unset, .unset, .unset, .unset, .unset, .unset] [(.long (v0_15 q4)), (.long (1 : Int64))])) rfl (by rw [hml]; rfl) (argsL := [(.long (1 : Int64)), (.long (v0_15 q4))]) (rest := []) (lenOf pd_47 rfl) rfl (by show 2 * 0 + _ ≤ _; exact Nat.le_of_eq rfl) (hb hby at_71) (fun _ _ => ⟨rfl, e4, (by decide : 0 + 0 ≤ _), (by decide : 0 + 0 ≤ _)⟩)
    dsimp only [Pt.U, Pt.locs, Pt.cells, Pt.slots] at X17 l17 y17 z17 st17 hQ17
    subst l17 y17 z17
    obtain ⟨rfl, N17q, e17⟩ := hQ17
    have N17 := Fr.app N4 N17q
    have go18 : ∀ t, Steps p.tables e below (T17.setTop (mkF m 74 #[.val (.long q0), .second, .val (.long q1), .second, .val (.long q2), .second, .val (.long q3), .second, .val (.long q4), .second, .val (.int p5), .val (.long (v0_1 q0)), .second, .val (.long (v0_6 q1)), .second, .val (.long (v0_7 q2)), .second, .val (.long (b0_10 q0 q3 p5)), .second, .unset, .unset, .unset, .unset, .unset, .unset, .unset] [(.long (f1 (1 : Int64) (v0_15 q4)))])) t → Steps p.tables e below (s₁.setTop (entryFrame m #[(.long q0), (.long q1), (.long q2), (.long q3), (.long q4), (.int p5)] maxLocals)) t := fun t k => go16 _ (st17 _ k)
    have go21 : ∀ t, Steps p.tables e below (T17.setTop (mkF m 98 #[.val (.long q0), .second, .val (.long q1), .second, .val (.long q2), .second, .val (.long q3), .second, .val (.long q4), .second, .val (.int p5), .val (.long (v0_1 q0)), .second, .val (.long (v0_6 q1)), .second, .val (.long (v0_7 q2)), .second, .val (.long (b0_10 q0 q3 p5)), .second, .val (.long (v0_19 q4)), .second, .unset, .unset, .unset, .unset, .unset] [(.long (b0_22 q2 p5))])) t → Steps p.tables e below (s₁.setTop (entryFrame m #[(.long q0), (.long q1), (.long q2), (.long q3), (.long q4), (.int p5)] maxLocals)) t := by
      intro t k
      refine go18 _ ?_
      show Steps p.tables e below (T17.setTop (mkF m 74 #[.val (.long q0), .second, .val (.long q1), .second, .val (.long q2), .second, .val (.long q3), .second, .val (.long q4), .second, .val (.int p5), .val (.long (v0_1 q0)), .second, .val (.long (v0_6 q1)), .second, .val (.long (v0_7 q2)), .second, .val (.long (b0_10 q0 q3 p5)), .second, .unset, .unset, .unset, .unset, .unset, .unset, .unset] [(.long (v0_19 q4))])) t
      refine XS.lstore X17.here hx rfl (hb hby at_74) rfl (l' := #[.val (.long q0), .second, .val (.long q1), .second, .val (.long q2), .second, .val (.long q3), .second, .val (.long q4), .second, .val (.int p5), .val (.long (v0_1 q0)), .second, .val (.long (v0_6 q1)), .second, .val (.long (v0_7 q2)), .second, .val (.long (b0_10 q0 q3 p5)), .second, .val (.long (v0_19 q4)), .second, .unset, .unset, .unset, .unset, .unset]) rfl ?_
      show Steps p.tables e below (T17.setTop (mkF m 76 #[.val (.long q0), .second, .val (.long q1), .second, .val (.long q2), .second, .val (.long q3), .second, .val (.long q4), .second, .val (.int p5), .val (.long (v0_1 q0)), .second, .val (.long (v0_6 q1)), .second, .val (.long (v0_7 q2)), .second, .val (.long (b0_10 q0 q3 p5)), .second, .val (.long (v0_19 q4)), .second, .unset, .unset, .unset, .unset, .unset] [])) t
      refine XS.iload X17.here hx rfl (hb hby at_76) rfl ?_
      show Steps p.tables e below (T17.setTop (mkF m 78 #[.val (.long q0), .second, .val (.long q1), .second, .val (.long q2), .second, .val (.long q3), .second, .val (.long q4), .second, .val (.int p5), .val (.long (v0_1 q0)), .second, .val (.long (v0_6 q1)), .second, .val (.long (v0_7 q2)), .second, .val (.long (b0_10 q0 q3 p5)), .second, .val (.long (v0_19 q4)), .second, .unset, .unset, .unset, .unset, .unset] [(.int p5)])) t
      refine XS.iconst X17.here hx rfl (hb hby at_78) ?_
      show Steps p.tables e below (T17.setTop (mkF m 79 #[.val (.long q0), .second, .val (.long q1), .second, .val (.long q2), .second, .val (.long q3), .second, .val (.long q4), .second, .val (.int p5), .val (.long (v0_1 q0)), .second, .val (.long (v0_6 q1)), .second, .val (.long (v0_7 q2)), .second, .val (.long (b0_10 q0 q3 p5)), .second, .val (.long (v0_19 q4)), .second, .unset, .unset, .unset, .unset, .unset] [(.int (4 : Int32)), (.int p5)])) t
      refine XS.iand X17.here hx rfl (hb hby at_79) rfl ?_
      show Steps p.tables e below (T17.setTop (mkF m 80 #[.val (.long q0), .second, .val (.long q1), .second, .val (.long q2), .second, .val (.long q3), .second, .val (.long q4), .second, .val (.int p5), .val (.long (v0_1 q0)), .second, .val (.long (v0_6 q1)), .second, .val (.long (v0_7 q2)), .second, .val (.long (b0_10 q0 q3 p5)), .second, .val (.long (v0_19 q4)), .second, .unset, .unset, .unset, .unset, .unset] [(.int (p5 &&& (4 : Int32)))])) t
      by_cases hc20 : (p5 &&& (4 : Int32)) = (0 : Int32)
      · refine XS.ifYes X17.here hx rfl (pc0 := 80) (pc' := 88) rfl (hb hby at_80) rfl (XT.i0_eq_t hc20) (by decide) (by decide) ?_
        show Steps p.tables e below (T17.setTop (mkF m 88 #[.val (.long q0), .second, .val (.long q1), .second, .val (.long q2), .second, .val (.long q3), .second, .val (.long q4), .second, .val (.int p5), .val (.long (v0_1 q0)), .second, .val (.long (v0_6 q1)), .second, .val (.long (v0_7 q2)), .second, .val (.long (b0_10 q0 q3 p5)), .second, .val (.long (v0_19 q4)), .second, .unset, .unset, .unset, .unset, .unset] [])) t
        refine XS.iload X17.here hx rfl (hb hby at_88) rfl ?_
        show Steps p.tables e below (T17.setTop (mkF m 90 #[.val (.long q0), .second, .val (.long q1), .second, .val (.long q2), .second, .val (.long q3), .second, .val (.long q4), .second, .val (.int p5), .val (.long (v0_1 q0)), .second, .val (.long (v0_6 q1)), .second, .val (.long (v0_7 q2)), .second, .val (.long (b0_10 q0 q3 p5)), .second, .val (.long (v0_19 q4)), .second, .unset, .unset, .unset, .unset, .unset] [(.int p5)])) t
        refine XS.iconst X17.here hx rfl (hb hby at_90) ?_
        show Steps p.tables e below (T17.setTop (mkF m 91 #[.val (.long q0), .second, .val (.long q1), .second, .val (.long q2), .second, .val (.long q3), .second, .val (.long q4), .second, .val (.int p5), .val (.long (v0_1 q0)), .second, .val (.long (v0_6 q1)), .second, .val (.long (v0_7 q2)), .second, .val (.long (b0_10 q0 q3 p5)), .second, .val (.long (v0_19 q4)), .second, .unset, .unset, .unset, .unset, .unset] [(.int (3 : Int32)), (.int p5)])) t
        refine XS.iushr X17.here hx rfl (hb hby at_91) rfl ?_
        show Steps p.tables e below (T17.setTop (mkF m 92 #[.val (.long q0), .second, .val (.long q1), .second, .val (.long q2), .second, .val (.long q3), .second, .val (.long q4), .second, .val (.int p5), .val (.long (v0_1 q0)), .second, .val (.long (v0_6 q1)), .second, .val (.long (v0_7 q2)), .second, .val (.long (b0_10 q0 q3 p5)), .second, .val (.long (v0_19 q4)), .second, .unset, .unset, .unset, .unset, .unset] [(.int ((p5.toUInt32 >>> ((3 : Int32) &&& 31).toUInt32).toInt32))])) t
        refine X17.ldcInt hx hown (mvT hZ (hw _ (List.mem_of_getElem? (i := 6) rfl))) (g := (mkF m 92 #[.val (.long q0), .second, .val (.long q1), .second, .val (.long q2), .second, .val (.long q3), .second, .val (.long q4), .second, .val (.int p5), .val (.long (v0_1 q0)), .second, .val (.long (v0_6 q1)), .second, .val (.long (v0_7 q2)), .second, .val (.long (b0_10 q0 q3 p5)), .second, .val (.long (v0_19 q4)), .second, .unset, .unset, .unset, .unset, .unset] [(.int ((p5.toUInt32 >>> ((3 : Int32) &&& 31).toUInt32).toInt32))])) rfl (hb hby at_92) _ ?_
        show Steps p.tables e below (T17.setTop (mkF m 94 #[.val (.long q0), .second, .val (.long q1), .second, .val (.long q2), .second, .val (.long q3), .second, .val (.long q4), .second, .val (.int p5), .val (.long (v0_1 q0)), .second, .val (.long (v0_6 q1)), .second, .val (.long (v0_7 q2)), .second, .val (.long (b0_10 q0 q3 p5)), .second, .val (.long (v0_19 q4)), .second, .unset, .unset, .unset, .unset, .unset] [(.int (67108863 : Int32)), (.int ((p5.toUInt32 >>> ((3 : Int32) &&& 31).toUInt32).toInt32))])) t
        refine XS.iand X17.here hx rfl (hb hby at_94) rfl ?_
        show Steps p.tables e below (T17.setTop (mkF m 95 #[.val (.long q0), .second, .val (.long q1), .second, .val (.long q2), .second, .val (.long q3), .second, .val (.long q4), .second, .val (.int p5), .val (.long (v0_1 q0)), .second, .val (.long (v0_6 q1)), .second, .val (.long (v0_7 q2)), .second, .val (.long (b0_10 q0 q3 p5)), .second, .val (.long (v0_19 q4)), .second, .unset, .unset, .unset, .unset, .unset] [(.int (((p5.toUInt32 >>> ((3 : Int32) &&& 31).toUInt32).toInt32) &&& (67108863 : Int32)))])) t
        refine XS.i2l X17.here hx rfl (hb hby at_95) rfl ?_
        show Steps p.tables e below (T17.setTop (mkF m 96 #[.val (.long q0), .second, .val (.long q1), .second, .val (.long q2), .second, .val (.long q3), .second, .val (.long q4), .second, .val (.int p5), .val (.long (v0_1 q0)), .second, .val (.long (v0_6 q1)), .second, .val (.long (v0_7 q2)), .second, .val (.long (b0_10 q0 q3 p5)), .second, .val (.long (v0_19 q4)), .second, .unset, .unset, .unset, .unset, .unset] [(.long (((p5.toUInt32 >>> ((3 : Int32) &&& 31).toUInt32).toInt32) &&& (67108863 : Int32)).toInt64)])) t
        refine XS.lconst X17.here hx rfl (hb hby at_96) ?_
        show Steps p.tables e below (T17.setTop (mkF m 97 #[.val (.long q0), .second, .val (.long q1), .second, .val (.long q2), .second, .val (.long q3), .second, .val (.long q4), .second, .val (.int p5), .val (.long (v0_1 q0)), .second, .val (.long (v0_6 q1)), .second, .val (.long (v0_7 q2)), .second, .val (.long (b0_10 q0 q3 p5)), .second, .val (.long (v0_19 q4)), .second, .unset, .unset, .unset, .unset, .unset] [(.long (1 : Int64)), (.long (((p5.toUInt32 >>> ((3 : Int32) &&& 31).toUInt32).toInt32) &&& (67108863 : Int32)).toInt64)])) t
        refine XS.ladd X17.here hx rfl (hb hby at_97) rfl ?_
        show Steps p.tables e below (T17.setTop (mkF m 98 #[.val (.long q0), .second, .val (.long q1), .second, .val (.long q2), .second, .val (.long q3), .second, .val (.long q4), .second, .val (.int p5), .val (.long (v0_1 q0)), .second, .val (.long (v0_6 q1)), .second, .val (.long (v0_7 q2)), .second, .val (.long (b0_10 q0 q3 p5)), .second, .val (.long (v0_19 q4)), .second, .unset, .unset, .unset, .unset, .unset] [(.long ((((p5.toUInt32 >>> ((3 : Int32) &&& 31).toUInt32).toInt32) &&& (67108863 : Int32)).toInt64 + (1 : Int64)))])) t
        have hq23 : (b0_22 q2 p5) = ((((p5.toUInt32 >>> ((3 : Int32) &&& 31).toUInt32).toInt32) &&& (67108863 : Int32)).toInt64 + (1 : Int64)) := by rw [b0_22, if_pos hc20]
        rw [hq23] at k
        exact k
      · refine XS.ifNo X17.here hx rfl (hb hby at_80) rfl (XT.i0_eq_f hc20) ?_
        show Steps p.tables e below (T17.setTop (mkF m 83 #[.val (.long q0), .second, .val (.long q1), .second, .val (.long q2), .second, .val (.long q3), .second, .val (.long q4), .second, .val (.int p5), .val (.long (v0_1 q0)), .second, .val (.long (v0_6 q1)), .second, .val (.long (v0_7 q2)), .second, .val (.long (b0_10 q0 q3 p5)), .second, .val (.long (v0_19 q4)), .second, .unset, .unset, .unset, .unset, .unset] [])) t
        refine XS.lload X17.here hx rfl (hb hby at_83) rfl ?_
        show Steps p.tables e below (T17.setTop (mkF m 85 #[.val (.long q0), .second, .val (.long q1), .second, .val (.long q2), .second, .val (.long q3), .second, .val (.long q4), .second, .val (.int p5), .val (.long (v0_1 q0)), .second, .val (.long (v0_6 q1)), .second, .val (.long (v0_7 q2)), .second, .val (.long (b0_10 q0 q3 p5)), .second, .val (.long (v0_19 q4)), .second, .unset, .unset, .unset, .unset, .unset] [(.long (v0_7 q2))])) t
        refine XS.goto X17.here hx rfl (pc0 := 85) (pc' := 98) rfl (hb hby at_85) (by decide) (by decide) ?_
        show Steps p.tables e below (T17.setTop (mkF m 98 #[.val (.long q0), .second, .val (.long q1), .second, .val (.long q2), .second, .val (.long q3), .second, .val (.long q4), .second, .val (.int p5), .val (.long (v0_1 q0)), .second, .val (.long (v0_6 q1)), .second, .val (.long (v0_7 q2)), .second, .val (.long (b0_10 q0 q3 p5)), .second, .val (.long (v0_19 q4)), .second, .unset, .unset, .unset, .unset, .unset] [(.long (v0_7 q2))])) t
        have hq24 : (b0_22 q2 p5) = (v0_7 q2) := by rw [b0_22, if_neg hc20]
        rw [hq24] at k
        exact k
    have go25 : ∀ t, Steps p.tables e below (T17.setTop (mkF m 100 #[.val (.long q0), .second, .val (.long q1), .second, .val (.long q2), .second, .val (.long q3), .second, .val (.long q4), .second, .val (.int p5), .val (.long (v0_1 q0)), .second, .val (.long (v0_6 q1)), .second, .val (.long (v0_7 q2)), .second, .val (.long (b0_10 q0 q3 p5)), .second, .val (.long (v0_19 q4)), .second, .val (.long (b0_22 q2 p5)), .second, .unset, .unset, .unset] [])) t → Steps p.tables e below (s₁.setTop (entryFrame m #[(.long q0), (.long q1), (.long q2), (.long q3), (.long q4), (.int p5)] maxLocals)) t := by
      intro t k
      refine go21 _ ?_
      refine XS.lstore X17.here hx rfl (hb hby at_98) rfl (l' := #[.val (.long q0), .second, .val (.long q1), .second, .val (.long q2), .second, .val (.long q3), .second, .val (.long q4), .second, .val (.int p5), .val (.long (v0_1 q0)), .second, .val (.long (v0_6 q1)), .second, .val (.long (v0_7 q2)), .second, .val (.long (b0_10 q0 q3 p5)), .second, .val (.long (v0_19 q4)), .second, .val (.long (b0_22 q2 p5)), .second, .unset, .unset, .unset]) rfl ?_
      show Steps p.tables e below (T17.setTop (mkF m 100 #[.val (.long q0), .second, .val (.long q1), .second, .val (.long q2), .second, .val (.long q3), .second, .val (.long q4), .second, .val (.int p5), .val (.long (v0_1 q0)), .second, .val (.long (v0_6 q1)), .second, .val (.long (v0_7 q2)), .second, .val (.long (b0_10 q0 q3 p5)), .second, .val (.long (v0_19 q4)), .second, .val (.long (b0_22 q2 p5)), .second, .unset, .unset, .unset] [])) t
      exact k
    obtain ⟨T26, h26, X26, e26, E26, A26, D26, -, st26⟩ := newO X17 hx hZ hown (hw _ (List.mem_of_getElem? (i := 7) rfl)) (hw _ (List.mem_of_getElem? (i := 8) rfl)) (hw _ (List.mem_of_getElem? (i := 9) rfl)) e17 (g := (mkF m 100 #[.val (.long q0), .second, .val (.long q1), .second, .val (.long q2), .second, .val (.long q3), .second, .val (.long q4), .second, .val (.int p5), .val (.long (v0_1 q0)), .second, .val (.long (v0_6 q1)), .second, .val (.long (v0_7 q2)), .second, .val (.long (b0_10 q0 q3 p5)), .second, .val (.long (v0_19 q4)), .second, .val (.long (b0_22 q2 p5)), .second, .unset, .unset, .unset] [])) rfl (hb hby at_100) (by decide) (by decide)
    obtain ⟨b26, g26⟩ : ∃ z, z = h0.size := ⟨_, rfl⟩
    rw [← g26] at A26 D26 st26
    have ne27 : s_cache ≠ b26 := Nat.ne_of_lt (Nat.lt_of_lt_of_le A_cache.lt (Nat.le_of_eq g26.symm))
    have low26 : n0 ≤ b26 := Nat.le_trans Z0 (Nat.le_of_eq g26.symm)
    have fsh26 : h0.size ≤ b26 := Nat.le_trans K0.1 (Nat.le_of_eq g26.symm)
    have K26 : Keep h0 h26 [] := K0.ext E26
    have Zs26 : n0 ≤ h26.size := Nat.le_trans Z0 E26.1
    have hk26 : s.heap.size ≤ h26.size := Nat.le_trans hk0 E26.1
    have go28 : ∀ t, Steps p.tables e below (T26.setTop (mkF m 103 #[.val (.long q0), .second, .val (.long q1), .second, .val (.long q2), .second, .val (.long q3), .second, .val (.long q4), .second, .val (.int p5), .val (.long (v0_1 q0)), .second, .val (.long (v0_6 q1)), .second, .val (.long (v0_7 q2)), .second, .val (.long (b0_10 q0 q3 p5)), .second, .val (.long (v0_19 q4)), .second, .val (.long (b0_22 q2 p5)), .second, .unset, .unset, .unset] [(.ref b26)])) t → Steps p.tables e below (s₁.setTop (entryFrame m #[(.long q0), (.long q1), (.long q2), (.long q3), (.long q4), (.int p5)] maxLocals)) t := fun t k => go25 _ (st26 _ k)
    have F29 : Sta Z h26 "java/lang/Long$LongCache" "cache" "[Ljava/lang/Long;" (.ref s_cache) := S_cache.ext E26
    have F30 : Arr Z h26 s_cache cc (.object "java/lang/Long") := A_cache.ext E26
    have F31 : LCache Z h26 cc := C_cache.ext E26
    have F32 : Fld Z h26 b26 "com/example/weir/weir/TokenBucket" "capacity" "J" (.long (0 : Int64)) := D26 (Or.inr (hw _ (List.mem_of_getElem? (i := 34) rfl))) (ty := .long) (by decide)
    have F33 : Fld Z h26 b26 "com/example/weir/weir/TokenBucket" "refillTokens" "J" (.long (0 : Int64)) := D26 (Or.inr (hw _ (List.mem_of_getElem? (i := 36) rfl))) (ty := .long) (by decide)
    have F34 : Fld Z h26 b26 "com/example/weir/weir/TokenBucket" "refillPeriodMillis" "J" (.long (0 : Int64)) := D26 (Or.inr (hw _ (List.mem_of_getElem? (i := 38) rfl))) (ty := .long) (by decide)
    have F35 : Fld Z h26 b26 "com/example/weir/weir/TokenBucket" "partsPerToken" "J" (.long (0 : Int64)) := D26 (Or.inr (hw _ (List.mem_of_getElem? (i := 40) rfl))) (ty := .long) (by decide)
    have F36 : Fld Z h26 b26 "com/example/weir/weir/TokenBucket" "partsPerMilli" "J" (.long (0 : Int64)) := D26 (Or.inr (hw _ (List.mem_of_getElem? (i := 42) rfl))) (ty := .long) (by decide)
    have F37 : Fld Z h26 b26 "com/example/weir/weir/TokenBucket" "fullLevel" "J" (.long (0 : Int64)) := D26 (Or.inr (hw _ (List.mem_of_getElem? (i := 44) rfl))) (ty := .long) (by decide)
    have go38 : ∀ t, Steps p.tables e below (T26.setTop (mkF m 110 #[.val (.long q0), .second, .val (.long q1), .second, .val (.long q2), .second, .val (.long q3), .second, .val (.long q4), .second, .val (.int p5), .val (.long (v0_1 q0)), .second, .val (.long (v0_6 q1)), .second, .val (.long (v0_7 q2)), .second, .val (.long (b0_10 q0 q3 p5)), .second, .val (.long (v0_19 q4)), .second, .val (.long (b0_22 q2 p5)), .second, .unset, .unset, .unset] [(.long (v0_7 q2)), (.long (v0_6 q1)), (.long (v0_1 q0)), (.ref b26), (.ref b26)])) t → Steps p.tables e below (s₁.setTop (entryFrame m #[(.long q0), (.long q1), (.long q2), (.long q3), (.long q4), (.int p5)] maxLocals)) t := by
      intro t k
      refine go28 _ ?_
      refine XS.dup X26.here hx rfl (hb hby at_103) rfl rfl ?_
      show Steps p.tables e below (T26.setTop (mkF m 104 #[.val (.long q0), .second, .val (.long q1), .second, .val (.long q2), .second, .val (.long q3), .second, .val (.long q4), .second, .val (.int p5), .val (.long (v0_1 q0)), .second, .val (.long (v0_6 q1)), .second, .val (.long (v0_7 q2)), .second, .val (.long (b0_10 q0 q3 p5)), .second, .val (.long (v0_19 q4)), .second, .val (.long (b0_22 q2 p5)), .second, .unset, .unset, .unset] [(.ref b26), (.ref b26)])) t
      refine XS.lload X26.here hx rfl (hb hby at_104) rfl ?_
      show Steps p.tables e below (T26.setTop (mkF m 106 #[.val (.long q0), .second, .val (.long q1), .second, .val (.long q2), .second, .val (.long q3), .second, .val (.long q4), .second, .val (.int p5), .val (.long (v0_1 q0)), .second, .val (.long (v0_6 q1)), .second, .val (.long (v0_7 q2)), .second, .val (.long (b0_10 q0 q3 p5)), .second, .val (.long (v0_19 q4)), .second, .val (.long (b0_22 q2 p5)), .second, .unset, .unset, .unset] [(.long (v0_1 q0)), (.ref b26), (.ref b26)])) t
      refine XS.lload X26.here hx rfl (hb hby at_106) rfl ?_
      show Steps p.tables e below (T26.setTop (mkF m 108 #[.val (.long q0), .second, .val (.long q1), .second, .val (.long q2), .second, .val (.long q3), .second, .val (.long q4), .second, .val (.int p5), .val (.long (v0_1 q0)), .second, .val (.long (v0_6 q1)), .second, .val (.long (v0_7 q2)), .second, .val (.long (b0_10 q0 q3 p5)), .second, .val (.long (v0_19 q4)), .second, .val (.long (b0_22 q2 p5)), .second, .unset, .unset, .unset] [(.long (v0_6 q1)), (.long (v0_1 q0)), (.ref b26), (.ref b26)])) t
      refine XS.lload X26.here hx rfl (hb hby at_108) rfl ?_
      show Steps p.tables e below (T26.setTop (mkF m 110 #[.val (.long q0), .second, .val (.long q1), .second, .val (.long q2), .second, .val (.long q3), .second, .val (.long q4), .second, .val (.int p5), .val (.long (v0_1 q0)), .second, .val (.long (v0_6 q1)), .second, .val (.long (v0_7 q2)), .second, .val (.long (b0_10 q0 q3 p5)), .second, .val (.long (v0_19 q4)), .second, .val (.long (b0_22 q2 p5)), .second, .unset, .unset, .unset] [(.long (v0_7 q2)), (.long (v0_6 q1)), (.long (v0_1 q0)), (.ref b26), (.ref b26)])) t
      exact k
    obtain ⟨_, _, ⟨T39, L39, k39, n39⟩, -, X39q, hS39q, hg39, ⟨Lc39, hQ39, l39, y39, z39⟩, st39⟩ := X26.specialBackS hx (y := (⟨"com/example/weir/weir/TokenBucket", "<init>", "(JJJ)V"⟩ : MethodName)) rfl hown (mvT hZ (hw _ (List.mem_of_getElem? (i := 10) rfl))) (mvT hZ (hw _ (List.mem_of_getElem? (i := 11) rfl))) (mvT hZ (hw _ (List.mem_of_getElem? (i := 12) rfl))) (by decide) (backOfS (W := 1) (rm2 l Z aZ hw [] b26 (v0_1 q0) (v0_6 q1) (v0_7 q2) (.long (0 : Int64)) (.long (0 : Int64)) (.long (0 : Int64)) (.long (0 : Int64)) (.long (0 : Int64)) (.long (0 : Int64)) h26 n0 Zs26 A26 F32 F33 F34 F35 F36 F37 low26 (own_c1 q0).1 (own_r1 q1) (own_c1 q2).1 (own_c1 q0).2 (own_c1 q2).2) hZ (hw _ (List.mem_of_getElem? (i := 12) rfl)) (hw _ (List.mem_of_getElem? (i := 9) rfl)) (by decide) (by decide)) (g := (mkF m 110 #[.val (.long q0), .second, .val (.long q1), .second, .val (.long q2), .second, .val (.long q3), .second, .val (.long q4), .second, .val (.int p5), .val (.long (v0_1 q0)), .second, .val (.long (v0_6 q1)), .second, .val (.long (v0_7 q2)), .second, .val (.long (b0_10 q0 q3 p5)), .second, .val (.long (v0_19 q4)), .second, .val (.long (b0_22 q2 p5)), .second, .unset, .unset, .unset] [(.long (v0_7 q2)), (.long (v0_6 q1)), (.long (v0_1 q0)), (.ref b26), (.ref b26)])) rfl (by rw [hml]; rfl) (Steps.refl _) (a := b26) (argsL := [(.long (v0_1 q0)), (.long (v0_6 q1)), (.long (v0_7 q2))]) (rest := [(.ref b26)]) (lenOf pd_157 rfl) rfl (by show 2 * 0 + _ ≤ _; exact Nat.le_of_eq rfl) (hb hby at_110) (fun _ _ => ⟨rfl, e26, (by decide : 1 + 6 ≤ _), (by decide : 6 + 164 ≤ _)⟩)
    dsimp only [Pt.U, Pt.locs, Pt.cells, Pt.slots] at X39q hS39q hg39 l39 y39 z39 st39 hQ39
    subst l39 y39 z39
    have hk39q : s.heap.size ≤ T26.heap.size := by rw [e26]; exact hk26
    obtain ⟨X39, hS39, hZ39, hown39⟩ := rebS hS0 hk39q X39q hS39q hg39 hZ hown
    have hk39r : T39.heap.size ≤ T39.heap.size := Nat.le_refl _
    obtain ⟨rfl, N39q, K39q, G39_0, G39_1, G39_2, G39_3, G39_4, G39_5, G39_6⟩ := hQ39
    have N39 := Fr.app N17 N39q
    have K39 : Keep h0 T39.heap [] := K26.trans K39q (allS (Or.inr fsh26) all0)
    have Zs39 : n0 ≤ T39.heap.size := Nat.le_trans Zs26 K39q.1
    have hk39 : s.heap.size ≤ T39.heap.size := Nat.le_trans hk26 K39q.1
    have F40 : Sta Z T39.heap "java/lang/Long$LongCache" "cache" "[Ljava/lang/Long;" (.ref s_cache) := own_sta_keep F29 K39q (allS (own_exa_ns A26) all0)
    have F41 : Arr Z T39.heap s_cache cc (.object "java/lang/Long") := own_arr_keep F30 K39q (ninS ne27 nin0)
    have F42 : LCache Z T39.heap cc := F31.keep K39q
    have F43 : Exa Z T39.heap b26 "com/example/weir/weir/TokenBucket" := A26.keep K39q
    have go44 : ∀ t, Steps p.tables e below (T39.setTop (mkF m 113 #[.val (.long q0), .second, .val (.long q1), .second, .val (.long q2), .second, .val (.long q3), .second, .val (.long q4), .second, .val (.int p5), .val (.long (v0_1 q0)), .second, .val (.long (v0_6 q1)), .second, .val (.long (v0_7 q2)), .second, .val (.long (b0_10 q0 q3 p5)), .second, .val (.long (v0_19 q4)), .second, .val (.long (b0_22 q2 p5)), .second, .unset, .unset, .unset] [(.ref b26)])) t → Steps p.tables e below (s₁.setTop (entryFrame m #[(.long q0), (.long q1), (.long q2), (.long q3), (.long q4), (.int p5)] maxLocals)) t := fun t k => go38 _ (st39.trans k)
    have go45 : ∀ t, Steps p.tables e below (T39.setTop (mkF m 115 #[.val (.long q0), .second, .val (.long q1), .second, .val (.long q2), .second, .val (.long q3), .second, .val (.long q4), .second, .val (.int p5), .val (.long (v0_1 q0)), .second, .val (.long (v0_6 q1)), .second, .val (.long (v0_7 q2)), .second, .val (.long (b0_10 q0 q3 p5)), .second, .val (.long (v0_19 q4)), .second, .val (.long (b0_22 q2 p5)), .second, .val (.ref b26), .unset, .unset] [])) t → Steps p.tables e below (s₁.setTop (entryFrame m #[(.long q0), (.long q1), (.long q2), (.long q3), (.long q4), (.int p5)] maxLocals)) t := by
      intro t k
      refine go44 _ ?_
      refine XS.astore X39.here hx rfl (hb hby at_113) rfl rfl (l' := #[.val (.long q0), .second, .val (.long q1), .second, .val (.long q2), .second, .val (.long q3), .second, .val (.long q4), .second, .val (.int p5), .val (.long (v0_1 q0)), .second, .val (.long (v0_6 q1)), .second, .val (.long (v0_7 q2)), .second, .val (.long (b0_10 q0 q3 p5)), .second, .val (.long (v0_19 q4)), .second, .val (.long (b0_22 q2 p5)), .second, .val (.ref b26), .unset, .unset]) rfl ?_
      show Steps p.tables e below (T39.setTop (mkF m 115 #[.val (.long q0), .second, .val (.long q1), .second, .val (.long q2), .second, .val (.long q3), .second, .val (.long q4), .second, .val (.int p5), .val (.long (v0_1 q0)), .second, .val (.long (v0_6 q1)), .second, .val (.long (v0_7 q2)), .second, .val (.long (b0_10 q0 q3 p5)), .second, .val (.long (v0_19 q4)), .second, .val (.long (b0_22 q2 p5)), .second, .val (.ref b26), .unset, .unset] [])) t
      exact k
    obtain ⟨T46, h46, X46, e46, E46, A46, D46, -, st46⟩ := newO X39 hx hZ39 hown39 (hw _ (List.mem_of_getElem? (i := 7) rfl)) (hw _ (List.mem_of_getElem? (i := 8) rfl)) (hw _ (List.mem_of_getElem? (i := 9) rfl)) rfl (g := (mkF m 115 #[.val (.long q0), .second, .val (.long q1), .second, .val (.long q2), .second, .val (.long q3), .second, .val (.long q4), .second, .val (.int p5), .val (.long (v0_1 q0)), .second, .val (.long (v0_6 q1)), .second, .val (.long (v0_7 q2)), .second, .val (.long (b0_10 q0 q3 p5)), .second, .val (.long (v0_19 q4)), .second, .val (.long (b0_22 q2 p5)), .second, .val (.ref b26), .unset, .unset] [])) rfl (hb hby at_115) (by decide) (by decide)
    obtain ⟨b46, g46⟩ : ∃ z, z = T39.heap.size := ⟨_, rfl⟩
    rw [← g46] at A46 D46 st46
    have ne47 : s_cache ≠ b46 := Nat.ne_of_lt (Nat.lt_of_lt_of_le F41.lt (Nat.le_of_eq g46.symm))
    have ne48 : b26 ≠ b46 := Nat.ne_of_lt (Nat.lt_of_lt_of_le G39_0.lt (Nat.le_of_eq g46.symm))
    have low46 : n0 ≤ b46 := Nat.le_trans Zs39 (Nat.le_of_eq g46.symm)
    have fsh46 : h0.size ≤ b46 := Nat.le_trans K39.1 (Nat.le_of_eq g46.symm)
    have K46 : Keep h0 h46 [] := K39.ext E46
    have Zs46 : n0 ≤ h46.size := Nat.le_trans Zs39 E46.1
    have hk46 : T39.heap.size ≤ h46.size := Nat.le_trans hk39r E46.1
    have go49 : ∀ t, Steps p.tables e below (T46.setTop (mkF m 118 #[.val (.long q0), .second, .val (.long q1), .second, .val (.long q2), .second, .val (.long q3), .second, .val (.long q4), .second, .val (.int p5), .val (.long (v0_1 q0)), .second, .val (.long (v0_6 q1)), .second, .val (.long (v0_7 q2)), .second, .val (.long (b0_10 q0 q3 p5)), .second, .val (.long (v0_19 q4)), .second, .val (.long (b0_22 q2 p5)), .second, .val (.ref b26), .unset, .unset] [(.ref b46)])) t → Steps p.tables e below (s₁.setTop (entryFrame m #[(.long q0), (.long q1), (.long q2), (.long q3), (.long q4), (.int p5)] maxLocals)) t := fun t k => go45 _ (st46 _ k)
    have F50 : Sta Z h46 "java/lang/Long$LongCache" "cache" "[Ljava/lang/Long;" (.ref s_cache) := F40.ext E46
    have F51 : Arr Z h46 s_cache cc (.object "java/lang/Long") := F41.ext E46
    have F52 : LCache Z h46 cc := F42.ext E46
    have F53 : Exa Z h46 b26 "com/example/weir/weir/TokenBucket" := G39_0.ext E46
    have F54 : Fld Z h46 b26 "com/example/weir/weir/TokenBucket" "capacity" "J" (.long (v0_1 q0)) := G39_1.ext E46
    have F55 : Fld Z h46 b26 "com/example/weir/weir/TokenBucket" "refillTokens" "J" (.long (v0_6 q1)) := G39_2.ext E46
    have F56 : Fld Z h46 b26 "com/example/weir/weir/TokenBucket" "refillPeriodMillis" "J" (.long (v0_7 q2)) := G39_3.ext E46
    have F57 : Fld Z h46 b26 "com/example/weir/weir/TokenBucket" "partsPerToken" "J" (.long ((v0_7 q2) / (fgcd (v0_6 q1) (v0_7 q2)))) := G39_4.ext E46
    have F58 : Fld Z h46 b26 "com/example/weir/weir/TokenBucket" "partsPerMilli" "J" (.long ((v0_6 q1) / (fgcd (v0_6 q1) (v0_7 q2)))) := G39_5.ext E46
    have F59 : Fld Z h46 b26 "com/example/weir/weir/TokenBucket" "fullLevel" "J" (.long (v2_94 (v0_1 q0) (v0_6 q1) (v0_7 q2))) := G39_6.ext E46
    have F60 : Fld Z h46 b46 "com/example/weir/weir/TokenBucket" "capacity" "J" (.long (0 : Int64)) := D46 (Or.inr (hw _ (List.mem_of_getElem? (i := 34) rfl))) (ty := .long) (by decide)
    have F61 : Fld Z h46 b46 "com/example/weir/weir/TokenBucket" "refillTokens" "J" (.long (0 : Int64)) := D46 (Or.inr (hw _ (List.mem_of_getElem? (i := 36) rfl))) (ty := .long) (by decide)
    have F62 : Fld Z h46 b46 "com/example/weir/weir/TokenBucket" "refillPeriodMillis" "J" (.long (0 : Int64)) := D46 (Or.inr (hw _ (List.mem_of_getElem? (i := 38) rfl))) (ty := .long) (by decide)
    have F63 : Fld Z h46 b46 "com/example/weir/weir/TokenBucket" "partsPerToken" "J" (.long (0 : Int64)) := D46 (Or.inr (hw _ (List.mem_of_getElem? (i := 40) rfl))) (ty := .long) (by decide)
    have F64 : Fld Z h46 b46 "com/example/weir/weir/TokenBucket" "partsPerMilli" "J" (.long (0 : Int64)) := D46 (Or.inr (hw _ (List.mem_of_getElem? (i := 42) rfl))) (ty := .long) (by decide)
    have F65 : Fld Z h46 b46 "com/example/weir/weir/TokenBucket" "fullLevel" "J" (.long (0 : Int64)) := D46 (Or.inr (hw _ (List.mem_of_getElem? (i := 44) rfl))) (ty := .long) (by decide)
    have go66 : ∀ t, Steps p.tables e below (T46.setTop (mkF m 125 #[.val (.long q0), .second, .val (.long q1), .second, .val (.long q2), .second, .val (.long q3), .second, .val (.long q4), .second, .val (.int p5), .val (.long (v0_1 q0)), .second, .val (.long (v0_6 q1)), .second, .val (.long (v0_7 q2)), .second, .val (.long (b0_10 q0 q3 p5)), .second, .val (.long (v0_19 q4)), .second, .val (.long (b0_22 q2 p5)), .second, .val (.ref b26), .unset, .unset] [(.long (b0_22 q2 p5)), (.long (v0_19 q4)), (.long (b0_10 q0 q3 p5)), (.ref b46), (.ref b46)])) t → Steps p.tables e below (s₁.setTop (entryFrame m #[(.long q0), (.long q1), (.long q2), (.long q3), (.long q4), (.int p5)] maxLocals)) t := by
      intro t k
      refine go49 _ ?_
      refine XS.dup X46.here hx rfl (hb hby at_118) rfl rfl ?_
      show Steps p.tables e below (T46.setTop (mkF m 119 #[.val (.long q0), .second, .val (.long q1), .second, .val (.long q2), .second, .val (.long q3), .second, .val (.long q4), .second, .val (.int p5), .val (.long (v0_1 q0)), .second, .val (.long (v0_6 q1)), .second, .val (.long (v0_7 q2)), .second, .val (.long (b0_10 q0 q3 p5)), .second, .val (.long (v0_19 q4)), .second, .val (.long (b0_22 q2 p5)), .second, .val (.ref b26), .unset, .unset] [(.ref b46), (.ref b46)])) t
      refine XS.lload X46.here hx rfl (hb hby at_119) rfl ?_
      show Steps p.tables e below (T46.setTop (mkF m 121 #[.val (.long q0), .second, .val (.long q1), .second, .val (.long q2), .second, .val (.long q3), .second, .val (.long q4), .second, .val (.int p5), .val (.long (v0_1 q0)), .second, .val (.long (v0_6 q1)), .second, .val (.long (v0_7 q2)), .second, .val (.long (b0_10 q0 q3 p5)), .second, .val (.long (v0_19 q4)), .second, .val (.long (b0_22 q2 p5)), .second, .val (.ref b26), .unset, .unset] [(.long (b0_10 q0 q3 p5)), (.ref b46), (.ref b46)])) t
      refine XS.lload X46.here hx rfl (hb hby at_121) rfl ?_
      show Steps p.tables e below (T46.setTop (mkF m 123 #[.val (.long q0), .second, .val (.long q1), .second, .val (.long q2), .second, .val (.long q3), .second, .val (.long q4), .second, .val (.int p5), .val (.long (v0_1 q0)), .second, .val (.long (v0_6 q1)), .second, .val (.long (v0_7 q2)), .second, .val (.long (b0_10 q0 q3 p5)), .second, .val (.long (v0_19 q4)), .second, .val (.long (b0_22 q2 p5)), .second, .val (.ref b26), .unset, .unset] [(.long (v0_19 q4)), (.long (b0_10 q0 q3 p5)), (.ref b46), (.ref b46)])) t
      refine XS.lload X46.here hx rfl (hb hby at_123) rfl ?_
      show Steps p.tables e below (T46.setTop (mkF m 125 #[.val (.long q0), .second, .val (.long q1), .second, .val (.long q2), .second, .val (.long q3), .second, .val (.long q4), .second, .val (.int p5), .val (.long (v0_1 q0)), .second, .val (.long (v0_6 q1)), .second, .val (.long (v0_7 q2)), .second, .val (.long (b0_10 q0 q3 p5)), .second, .val (.long (v0_19 q4)), .second, .val (.long (b0_22 q2 p5)), .second, .val (.ref b26), .unset, .unset] [(.long (b0_22 q2 p5)), (.long (v0_19 q4)), (.long (b0_10 q0 q3 p5)), (.ref b46), (.ref b46)])) t
      exact k
    obtain ⟨_, _, ⟨T67, L67, k67, n67⟩, -, X67q, hS67q, hg67, ⟨Lc67, hQ67, l67, y67, z67⟩, st67⟩ := X46.specialBackS hx (y := (⟨"com/example/weir/weir/TokenBucket", "<init>", "(JJJ)V"⟩ : MethodName)) rfl hown39 (mvT hZ39 (hw _ (List.mem_of_getElem? (i := 10) rfl))) (mvT hZ39 (hw _ (List.mem_of_getElem? (i := 11) rfl))) (mvT hZ39 (hw _ (List.mem_of_getElem? (i := 12) rfl))) (by decide) (backOfS (W := 1) (rm2 l Z aZ hw [] b46 (b0_10 q0 q3 p5) (v0_19 q4) (b0_22 q2 p5) (.long (0 : Int64)) (.long (0 : Int64)) (.long (0 : Int64)) (.long (0 : Int64)) (.long (0 : Int64)) (.long (0 : Int64)) h46 n0 Zs46 A46 F60 F61 F62 F63 F64 F65 low46 (by unfold b0_10; split; exact (own_c1 q3).1; exact (own_c1 q0).1) (own_r1 q4) (by unfold b0_22; split; exact (own_c2 ((p5.toUInt32 >>> ((3 : Int32) &&& 31).toUInt32).toInt32)).1; exact (own_c1 q2).1) (by unfold b0_10; split; exact (own_c1 q3).2; exact (own_c1 q0).2) (by unfold b0_22; split; exact (own_c2 ((p5.toUInt32 >>> ((3 : Int32) &&& 31).toUInt32).toInt32)).2; exact (own_c1 q2).2)) hZ39 (hw _ (List.mem_of_getElem? (i := 12) rfl)) (hw _ (List.mem_of_getElem? (i := 9) rfl)) (by decide) (by decide)) (g := (mkF m 125 #[.val (.long q0), .second, .val (.long q1), .second, .val (.long q2), .second, .val (.long q3), .second, .val (.long q4), .second, .val (.int p5), .val (.long (v0_1 q0)), .second, .val (.long (v0_6 q1)), .second, .val (.long (v0_7 q2)), .second, .val (.long (b0_10 q0 q3 p5)), .second, .val (.long (v0_19 q4)), .second, .val (.long (b0_22 q2 p5)), .second, .val (.ref b26), .unset, .unset] [(.long (b0_22 q2 p5)), (.long (v0_19 q4)), (.long (b0_10 q0 q3 p5)), (.ref b46), (.ref b46)])) rfl (by rw [hml]; rfl) (Steps.refl _) (a := b46) (argsL := [(.long (b0_10 q0 q3 p5)), (.long (v0_19 q4)), (.long (b0_22 q2 p5))]) (rest := [(.ref b46)]) (lenOf pd_157 rfl) rfl (by show 2 * 0 + _ ≤ _; exact Nat.le_of_eq rfl) (hb hby at_125) (fun _ _ => ⟨rfl, e46, (by decide : 8 + 6 ≤ _), (by decide : 176 + 164 ≤ _)⟩)
    dsimp only [Pt.U, Pt.locs, Pt.cells, Pt.slots] at X67q hS67q hg67 l67 y67 z67 st67 hQ67
    subst l67 y67 z67
    have hk67q : T39.heap.size ≤ T46.heap.size := by rw [e46]; exact hk46
    obtain ⟨X67, hS67, hZ67, hown67⟩ := rebS hS39 hk67q X67q hS67q hg67 hZ39 hown39
    have hk67r : T67.heap.size ≤ T67.heap.size := Nat.le_refl _
    obtain ⟨rfl, N67q, K67q, G67_0, G67_1, G67_2, G67_3, G67_4, G67_5, G67_6⟩ := hQ67
    have N67 := Fr.app N39 N67q
    have K67 : Keep h0 T67.heap [] := K46.trans K67q (allS (Or.inr fsh46) all0)
    have Zs67 : n0 ≤ T67.heap.size := Nat.le_trans Zs46 K67q.1
    have hk67 : T39.heap.size ≤ T67.heap.size := Nat.le_trans hk46 K67q.1
    have F68 : Sta Z T67.heap "java/lang/Long$LongCache" "cache" "[Ljava/lang/Long;" (.ref s_cache) := own_sta_keep F50 K67q (allS (own_exa_ns A46) all0)
    have F69 : Arr Z T67.heap s_cache cc (.object "java/lang/Long") := own_arr_keep F51 K67q (ninS ne47 nin0)
    have F70 : LCache Z T67.heap cc := F52.keep K67q
    have F71 : Exa Z T67.heap b26 "com/example/weir/weir/TokenBucket" := F53.keep K67q
    have F72 : Fld Z T67.heap b26 "com/example/weir/weir/TokenBucket" "capacity" "J" (.long (v0_1 q0)) := F54.keep K67q (ninS ne48 nin0)
    have F73 : Fld Z T67.heap b26 "com/example/weir/weir/TokenBucket" "refillTokens" "J" (.long (v0_6 q1)) := F55.keep K67q (ninS ne48 nin0)
    have F74 : Fld Z T67.heap b26 "com/example/weir/weir/TokenBucket" "refillPeriodMillis" "J" (.long (v0_7 q2)) := F56.keep K67q (ninS ne48 nin0)
    have F75 : Fld Z T67.heap b26 "com/example/weir/weir/TokenBucket" "partsPerToken" "J" (.long ((v0_7 q2) / (fgcd (v0_6 q1) (v0_7 q2)))) := F57.keep K67q (ninS ne48 nin0)
    have F76 : Fld Z T67.heap b26 "com/example/weir/weir/TokenBucket" "partsPerMilli" "J" (.long ((v0_6 q1) / (fgcd (v0_6 q1) (v0_7 q2)))) := F58.keep K67q (ninS ne48 nin0)
    have F77 : Fld Z T67.heap b26 "com/example/weir/weir/TokenBucket" "fullLevel" "J" (.long (v2_94 (v0_1 q0) (v0_6 q1) (v0_7 q2))) := F59.keep K67q (ninS ne48 nin0)
    have F78 : Exa Z T67.heap b46 "com/example/weir/weir/TokenBucket" := A46.keep K67q
    have go79 : ∀ t, Steps p.tables e below (T67.setTop (mkF m 128 #[.val (.long q0), .second, .val (.long q1), .second, .val (.long q2), .second, .val (.long q3), .second, .val (.long q4), .second, .val (.int p5), .val (.long (v0_1 q0)), .second, .val (.long (v0_6 q1)), .second, .val (.long (v0_7 q2)), .second, .val (.long (b0_10 q0 q3 p5)), .second, .val (.long (v0_19 q4)), .second, .val (.long (b0_22 q2 p5)), .second, .val (.ref b26), .unset, .unset] [(.ref b46)])) t → Steps p.tables e below (s₁.setTop (entryFrame m #[(.long q0), (.long q1), (.long q2), (.long q3), (.long q4), (.int p5)] maxLocals)) t := fun t k => go66 _ (st67.trans k)
    have go83 : ∀ t, Steps p.tables e below (T67.setTop (mkF m 159 #[.val (.long q0), .second, .val (.long q1), .second, .val (.long q2), .second, .val (.long q3), .second, .val (.long q4), .second, .val (.int p5), .val (.long (v0_1 q0)), .second, .val (.long (v0_6 q1)), .second, .val (.long (v0_7 q2)), .second, .val (.long (b0_10 q0 q3 p5)), .second, .val (.long (v0_19 q4)), .second, .val (.long (b0_22 q2 p5)), .second, .val (.ref b26), .val (.ref b46), .unset] [(.int (b0_84 q0 q1 q2 q3 q4 p5))])) t → Steps p.tables e below (s₁.setTop (entryFrame m #[(.long q0), (.long q1), (.long q2), (.long q3), (.long q4), (.int p5)] maxLocals)) t := by
      intro t k
      refine go79 _ ?_
      refine XS.astore X67.here hx rfl (hb hby at_128) rfl rfl (l' := #[.val (.long q0), .second, .val (.long q1), .second, .val (.long q2), .second, .val (.long q3), .second, .val (.long q4), .second, .val (.int p5), .val (.long (v0_1 q0)), .second, .val (.long (v0_6 q1)), .second, .val (.long (v0_7 q2)), .second, .val (.long (b0_10 q0 q3 p5)), .second, .val (.long (v0_19 q4)), .second, .val (.long (b0_22 q2 p5)), .second, .val (.ref b26), .val (.ref b46), .unset]) rfl ?_
      show Steps p.tables e below (T67.setTop (mkF m 130 #[.val (.long q0), .second, .val (.long q1), .second, .val (.long q2), .second, .val (.long q3), .second, .val (.long q4), .second, .val (.int p5), .val (.long (v0_1 q0)), .second, .val (.long (v0_6 q1)), .second, .val (.long (v0_7 q2)), .second, .val (.long (b0_10 q0 q3 p5)), .second, .val (.long (v0_19 q4)), .second, .val (.long (b0_22 q2 p5)), .second, .val (.ref b26), .val (.ref b46), .unset] [])) t
      refine XS.lload X67.here hx rfl (hb hby at_130) rfl ?_
      show Steps p.tables e below (T67.setTop (mkF m 132 #[.val (.long q0), .second, .val (.long q1), .second, .val (.long q2), .second, .val (.long q3), .second, .val (.long q4), .second, .val (.int p5), .val (.long (v0_1 q0)), .second, .val (.long (v0_6 q1)), .second, .val (.long (v0_7 q2)), .second, .val (.long (b0_10 q0 q3 p5)), .second, .val (.long (v0_19 q4)), .second, .val (.long (b0_22 q2 p5)), .second, .val (.ref b26), .val (.ref b46), .unset] [(.long (v0_1 q0))])) t
      refine XS.lload X67.here hx rfl (hb hby at_132) rfl ?_
      show Steps p.tables e below (T67.setTop (mkF m 134 #[.val (.long q0), .second, .val (.long q1), .second, .val (.long q2), .second, .val (.long q3), .second, .val (.long q4), .second, .val (.int p5), .val (.long (v0_1 q0)), .second, .val (.long (v0_6 q1)), .second, .val (.long (v0_7 q2)), .second, .val (.long (b0_10 q0 q3 p5)), .second, .val (.long (v0_19 q4)), .second, .val (.long (b0_22 q2 p5)), .second, .val (.ref b26), .val (.ref b46), .unset] [(.long (b0_10 q0 q3 p5)), (.long (v0_1 q0))])) t
      refine XT.lcmp X67.here hx rfl (hb hby at_134) rfl ?_
      show Steps p.tables e below (T67.setTop (mkF m 135 #[.val (.long q0), .second, .val (.long q1), .second, .val (.long q2), .second, .val (.long q3), .second, .val (.long q4), .second, .val (.int p5), .val (.long (v0_1 q0)), .second, .val (.long (v0_6 q1)), .second, .val (.long (v0_7 q2)), .second, .val (.long (b0_10 q0 q3 p5)), .second, .val (.long (v0_19 q4)), .second, .val (.long (b0_22 q2 p5)), .second, .val (.ref b26), .val (.ref b46), .unset] [(.int (XT.cmpL (v0_1 q0) (b0_10 q0 q3 p5)))])) t
      by_cases hc80 : (v0_1 q0) = (b0_10 q0 q3 p5)
      · refine XS.ifNo X67.here hx rfl (hb hby at_135) rfl (XT.ll_ne_f hc80) ?_
        show Steps p.tables e below (T67.setTop (mkF m 138 #[.val (.long q0), .second, .val (.long q1), .second, .val (.long q2), .second, .val (.long q3), .second, .val (.long q4), .second, .val (.int p5), .val (.long (v0_1 q0)), .second, .val (.long (v0_6 q1)), .second, .val (.long (v0_7 q2)), .second, .val (.long (b0_10 q0 q3 p5)), .second, .val (.long (v0_19 q4)), .second, .val (.long (b0_22 q2 p5)), .second, .val (.ref b26), .val (.ref b46), .unset] [])) t
        refine XS.lload X67.here hx rfl (hb hby at_138) rfl ?_
        show Steps p.tables e below (T67.setTop (mkF m 140 #[.val (.long q0), .second, .val (.long q1), .second, .val (.long q2), .second, .val (.long q3), .second, .val (.long q4), .second, .val (.int p5), .val (.long (v0_1 q0)), .second, .val (.long (v0_6 q1)), .second, .val (.long (v0_7 q2)), .second, .val (.long (b0_10 q0 q3 p5)), .second, .val (.long (v0_19 q4)), .second, .val (.long (b0_22 q2 p5)), .second, .val (.ref b26), .val (.ref b46), .unset] [(.long (v0_6 q1))])) t
        refine XS.lload X67.here hx rfl (hb hby at_140) rfl ?_
        show Steps p.tables e below (T67.setTop (mkF m 142 #[.val (.long q0), .second, .val (.long q1), .second, .val (.long q2), .second, .val (.long q3), .second, .val (.long q4), .second, .val (.int p5), .val (.long (v0_1 q0)), .second, .val (.long (v0_6 q1)), .second, .val (.long (v0_7 q2)), .second, .val (.long (b0_10 q0 q3 p5)), .second, .val (.long (v0_19 q4)), .second, .val (.long (b0_22 q2 p5)), .second, .val (.ref b26), .val (.ref b46), .unset] [(.long (v0_19 q4)), (.long (v0_6 q1))])) t
        refine XT.lcmp X67.here hx rfl (hb hby at_142) rfl ?_
        show Steps p.tables e below (T67.setTop (mkF m 143 #[.val (.long q0), .second, .val (.long q1), .second, .val (.long q2), .second, .val (.long q3), .second, .val (.long q4), .second, .val (.int p5), .val (.long (v0_1 q0)), .second, .val (.long (v0_6 q1)), .second, .val (.long (v0_7 q2)), .second, .val (.long (b0_10 q0 q3 p5)), .second, .val (.long (v0_19 q4)), .second, .val (.long (b0_22 q2 p5)), .second, .val (.ref b26), .val (.ref b46), .unset] [(.int (XT.cmpL (v0_6 q1) (v0_19 q4)))])) t
        by_cases hc81 : (v0_6 q1) = (v0_19 q4)
        · refine XS.ifNo X67.here hx rfl (hb hby at_143) rfl (XT.ll_ne_f hc81) ?_
          show Steps p.tables e below (T67.setTop (mkF m 146 #[.val (.long q0), .second, .val (.long q1), .second, .val (.long q2), .second, .val (.long q3), .second, .val (.long q4), .second, .val (.int p5), .val (.long (v0_1 q0)), .second, .val (.long (v0_6 q1)), .second, .val (.long (v0_7 q2)), .second, .val (.long (b0_10 q0 q3 p5)), .second, .val (.long (v0_19 q4)), .second, .val (.long (b0_22 q2 p5)), .second, .val (.ref b26), .val (.ref b46), .unset] [])) t
          refine XS.lload X67.here hx rfl (hb hby at_146) rfl ?_
          show Steps p.tables e below (T67.setTop (mkF m 148 #[.val (.long q0), .second, .val (.long q1), .second, .val (.long q2), .second, .val (.long q3), .second, .val (.long q4), .second, .val (.int p5), .val (.long (v0_1 q0)), .second, .val (.long (v0_6 q1)), .second, .val (.long (v0_7 q2)), .second, .val (.long (b0_10 q0 q3 p5)), .second, .val (.long (v0_19 q4)), .second, .val (.long (b0_22 q2 p5)), .second, .val (.ref b26), .val (.ref b46), .unset] [(.long (v0_7 q2))])) t
          refine XS.lload X67.here hx rfl (hb hby at_148) rfl ?_
          show Steps p.tables e below (T67.setTop (mkF m 150 #[.val (.long q0), .second, .val (.long q1), .second, .val (.long q2), .second, .val (.long q3), .second, .val (.long q4), .second, .val (.int p5), .val (.long (v0_1 q0)), .second, .val (.long (v0_6 q1)), .second, .val (.long (v0_7 q2)), .second, .val (.long (b0_10 q0 q3 p5)), .second, .val (.long (v0_19 q4)), .second, .val (.long (b0_22 q2 p5)), .second, .val (.ref b26), .val (.ref b46), .unset] [(.long (b0_22 q2 p5)), (.long (v0_7 q2))])) t
          refine XT.lcmp X67.here hx rfl (hb hby at_150) rfl ?_
          show Steps p.tables e below (T67.setTop (mkF m 151 #[.val (.long q0), .second, .val (.long q1), .second, .val (.long q2), .second, .val (.long q3), .second, .val (.long q4), .second, .val (.int p5), .val (.long (v0_1 q0)), .second, .val (.long (v0_6 q1)), .second, .val (.long (v0_7 q2)), .second, .val (.long (b0_10 q0 q3 p5)), .second, .val (.long (v0_19 q4)), .second, .val (.long (b0_22 q2 p5)), .second, .val (.ref b26), .val (.ref b46), .unset] [(.int (XT.cmpL (v0_7 q2) (b0_22 q2 p5)))])) t
          by_cases hc82 : (v0_7 q2) = (b0_22 q2 p5)
          · refine XS.ifNo X67.here hx rfl (hb hby at_151) rfl (XT.ll_ne_f hc82) ?_
            show Steps p.tables e below (T67.setTop (mkF m 154 #[.val (.long q0), .second, .val (.long q1), .second, .val (.long q2), .second, .val (.long q3), .second, .val (.long q4), .second, .val (.int p5), .val (.long (v0_1 q0)), .second, .val (.long (v0_6 q1)), .second, .val (.long (v0_7 q2)), .second, .val (.long (b0_10 q0 q3 p5)), .second, .val (.long (v0_19 q4)), .second, .val (.long (b0_22 q2 p5)), .second, .val (.ref b26), .val (.ref b46), .unset] [])) t
            refine XS.iconst X67.here hx rfl (hb hby at_154) ?_
            show Steps p.tables e below (T67.setTop (mkF m 155 #[.val (.long q0), .second, .val (.long q1), .second, .val (.long q2), .second, .val (.long q3), .second, .val (.long q4), .second, .val (.int p5), .val (.long (v0_1 q0)), .second, .val (.long (v0_6 q1)), .second, .val (.long (v0_7 q2)), .second, .val (.long (b0_10 q0 q3 p5)), .second, .val (.long (v0_19 q4)), .second, .val (.long (b0_22 q2 p5)), .second, .val (.ref b26), .val (.ref b46), .unset] [(.int (1 : Int32))])) t
            refine XS.goto X67.here hx rfl (pc0 := 155) (pc' := 159) rfl (hb hby at_155) (by decide) (by decide) ?_
            show Steps p.tables e below (T67.setTop (mkF m 159 #[.val (.long q0), .second, .val (.long q1), .second, .val (.long q2), .second, .val (.long q3), .second, .val (.long q4), .second, .val (.int p5), .val (.long (v0_1 q0)), .second, .val (.long (v0_6 q1)), .second, .val (.long (v0_7 q2)), .second, .val (.long (b0_10 q0 q3 p5)), .second, .val (.long (v0_19 q4)), .second, .val (.long (b0_22 q2 p5)), .second, .val (.ref b26), .val (.ref b46), .unset] [(.int (1 : Int32))])) t
            have hq85 : (b0_84 q0 q1 q2 q3 q4 p5) = (1 : Int32) := by rw [b0_84, if_pos hc80, if_pos hc81, if_pos hc82]
            rw [hq85] at k
            exact k
          · refine XS.ifYes X67.here hx rfl (pc0 := 151) (pc' := 158) rfl (hb hby at_151) rfl (XT.ll_ne_t hc82) (by decide) (by decide) ?_
            show Steps p.tables e below (T67.setTop (mkF m 158 #[.val (.long q0), .second, .val (.long q1), .second, .val (.long q2), .second, .val (.long q3), .second, .val (.long q4), .second, .val (.int p5), .val (.long (v0_1 q0)), .second, .val (.long (v0_6 q1)), .second, .val (.long (v0_7 q2)), .second, .val (.long (b0_10 q0 q3 p5)), .second, .val (.long (v0_19 q4)), .second, .val (.long (b0_22 q2 p5)), .second, .val (.ref b26), .val (.ref b46), .unset] [])) t
            refine XS.iconst X67.here hx rfl (hb hby at_158) ?_
            show Steps p.tables e below (T67.setTop (mkF m 159 #[.val (.long q0), .second, .val (.long q1), .second, .val (.long q2), .second, .val (.long q3), .second, .val (.long q4), .second, .val (.int p5), .val (.long (v0_1 q0)), .second, .val (.long (v0_6 q1)), .second, .val (.long (v0_7 q2)), .second, .val (.long (b0_10 q0 q3 p5)), .second, .val (.long (v0_19 q4)), .second, .val (.long (b0_22 q2 p5)), .second, .val (.ref b26), .val (.ref b46), .unset] [(.int (0 : Int32))])) t
            have hq86 : (b0_84 q0 q1 q2 q3 q4 p5) = (0 : Int32) := by rw [b0_84, if_pos hc80, if_pos hc81, if_neg hc82]
            rw [hq86] at k
            exact k
        · refine XS.ifYes X67.here hx rfl (pc0 := 143) (pc' := 158) rfl (hb hby at_143) rfl (XT.ll_ne_t hc81) (by decide) (by decide) ?_
          show Steps p.tables e below (T67.setTop (mkF m 158 #[.val (.long q0), .second, .val (.long q1), .second, .val (.long q2), .second, .val (.long q3), .second, .val (.long q4), .second, .val (.int p5), .val (.long (v0_1 q0)), .second, .val (.long (v0_6 q1)), .second, .val (.long (v0_7 q2)), .second, .val (.long (b0_10 q0 q3 p5)), .second, .val (.long (v0_19 q4)), .second, .val (.long (b0_22 q2 p5)), .second, .val (.ref b26), .val (.ref b46), .unset] [])) t
          refine XS.iconst X67.here hx rfl (hb hby at_158) ?_
          show Steps p.tables e below (T67.setTop (mkF m 159 #[.val (.long q0), .second, .val (.long q1), .second, .val (.long q2), .second, .val (.long q3), .second, .val (.long q4), .second, .val (.int p5), .val (.long (v0_1 q0)), .second, .val (.long (v0_6 q1)), .second, .val (.long (v0_7 q2)), .second, .val (.long (b0_10 q0 q3 p5)), .second, .val (.long (v0_19 q4)), .second, .val (.long (b0_22 q2 p5)), .second, .val (.ref b26), .val (.ref b46), .unset] [(.int (0 : Int32))])) t
          have hq87 : (b0_84 q0 q1 q2 q3 q4 p5) = (0 : Int32) := by rw [b0_84, if_pos hc80, if_neg hc81]
          rw [hq87] at k
          exact k
      · refine XS.ifYes X67.here hx rfl (pc0 := 135) (pc' := 158) rfl (hb hby at_135) rfl (XT.ll_ne_t hc80) (by decide) (by decide) ?_
        show Steps p.tables e below (T67.setTop (mkF m 158 #[.val (.long q0), .second, .val (.long q1), .second, .val (.long q2), .second, .val (.long q3), .second, .val (.long q4), .second, .val (.int p5), .val (.long (v0_1 q0)), .second, .val (.long (v0_6 q1)), .second, .val (.long (v0_7 q2)), .second, .val (.long (b0_10 q0 q3 p5)), .second, .val (.long (v0_19 q4)), .second, .val (.long (b0_22 q2 p5)), .second, .val (.ref b26), .val (.ref b46), .unset] [])) t
        refine XS.iconst X67.here hx rfl (hb hby at_158) ?_
        show Steps p.tables e below (T67.setTop (mkF m 159 #[.val (.long q0), .second, .val (.long q1), .second, .val (.long q2), .second, .val (.long q3), .second, .val (.long q4), .second, .val (.int p5), .val (.long (v0_1 q0)), .second, .val (.long (v0_6 q1)), .second, .val (.long (v0_7 q2)), .second, .val (.long (b0_10 q0 q3 p5)), .second, .val (.long (v0_19 q4)), .second, .val (.long (b0_22 q2 p5)), .second, .val (.ref b26), .val (.ref b46), .unset] [(.int (0 : Int32))])) t
        have hq88 : (b0_84 q0 q1 q2 q3 q4 p5) = (0 : Int32) := by rw [b0_84, if_neg hc80]
        rw [hq88] at k
        exact k
    have go89 : ∀ t, Steps p.tables e below (T67.setTop (mkF m 165 #[.val (.long q0), .second, .val (.long q1), .second, .val (.long q2), .second, .val (.long q3), .second, .val (.long q4), .second, .val (.int p5), .val (.long (v0_1 q0)), .second, .val (.long (v0_6 q1)), .second, .val (.long (v0_7 q2)), .second, .val (.long (b0_10 q0 q3 p5)), .second, .val (.long (v0_19 q4)), .second, .val (.long (b0_22 q2 p5)), .second, .val (.ref b26), .val (.ref b46), .val (.int (b0_84 q0 q1 q2 q3 q4 p5))] [(.ref b46), (.ref b26)])) t → Steps p.tables e below (s₁.setTop (entryFrame m #[(.long q0), (.long q1), (.long q2), (.long q3), (.long q4), (.int p5)] maxLocals)) t := by
      intro t k
      refine go83 _ ?_
      refine XS.istore X67.here hx rfl (hb hby at_159) rfl (l' := #[.val (.long q0), .second, .val (.long q1), .second, .val (.long q2), .second, .val (.long q3), .second, .val (.long q4), .second, .val (.int p5), .val (.long (v0_1 q0)), .second, .val (.long (v0_6 q1)), .second, .val (.long (v0_7 q2)), .second, .val (.long (b0_10 q0 q3 p5)), .second, .val (.long (v0_19 q4)), .second, .val (.long (b0_22 q2 p5)), .second, .val (.ref b26), .val (.ref b46), .val (.int (b0_84 q0 q1 q2 q3 q4 p5))]) rfl ?_
      show Steps p.tables e below (T67.setTop (mkF m 161 #[.val (.long q0), .second, .val (.long q1), .second, .val (.long q2), .second, .val (.long q3), .second, .val (.long q4), .second, .val (.int p5), .val (.long (v0_1 q0)), .second, .val (.long (v0_6 q1)), .second, .val (.long (v0_7 q2)), .second, .val (.long (b0_10 q0 q3 p5)), .second, .val (.long (v0_19 q4)), .second, .val (.long (b0_22 q2 p5)), .second, .val (.ref b26), .val (.ref b46), .val (.int (b0_84 q0 q1 q2 q3 q4 p5))] [])) t
      refine XS.aload X67.here hx rfl (hb hby at_161) rfl rfl ?_
      show Steps p.tables e below (T67.setTop (mkF m 163 #[.val (.long q0), .second, .val (.long q1), .second, .val (.long q2), .second, .val (.long q3), .second, .val (.long q4), .second, .val (.int p5), .val (.long (v0_1 q0)), .second, .val (.long (v0_6 q1)), .second, .val (.long (v0_7 q2)), .second, .val (.long (b0_10 q0 q3 p5)), .second, .val (.long (v0_19 q4)), .second, .val (.long (b0_22 q2 p5)), .second, .val (.ref b26), .val (.ref b46), .val (.int (b0_84 q0 q1 q2 q3 q4 p5))] [(.ref b26)])) t
      refine XS.aload X67.here hx rfl (hb hby at_163) rfl rfl ?_
      show Steps p.tables e below (T67.setTop (mkF m 165 #[.val (.long q0), .second, .val (.long q1), .second, .val (.long q2), .second, .val (.long q3), .second, .val (.long q4), .second, .val (.int p5), .val (.long (v0_1 q0)), .second, .val (.long (v0_6 q1)), .second, .val (.long (v0_7 q2)), .second, .val (.long (b0_10 q0 q3 p5)), .second, .val (.long (v0_19 q4)), .second, .val (.long (b0_22 q2 p5)), .second, .val (.ref b26), .val (.ref b46), .val (.int (b0_84 q0 q1 q2 q3 q4 p5))] [(.ref b46), (.ref b26)])) t
      exact k
    obtain ⟨cq90, kq90, q90a, q90b, q90c⟩ := isOf hZ67 rfl F71
    obtain ⟨_, _, ⟨T90, L90, k90, n90⟩, -, X90, ⟨Lc90, hQ90, l90, y90, z90⟩, st90⟩ := X67.virtualBack hx (y := (⟨"com/example/weir/weir/TokenBucket", "equals", "(Ljava/lang/Object;)Z"⟩ : MethodName)) (z := (⟨"com/example/weir/weir/TokenBucket", "equals", "(Ljava/lang/Object;)Z"⟩ : MethodName)) hown67 (mvT hZ67 (hw _ (List.mem_of_getElem? (i := 45) rfl))) (mvT hZ67 (hw _ (List.mem_of_getElem? (i := 46) rfl))) (notFace_of_selects (args := #[]) (mvT hZ67 (hw _ (List.mem_of_getElem? (i := 48) rfl)))) (mvT hZ67 (hw _ (List.mem_of_getElem? (i := 48) rfl))) (mvT hZ67 (hw _ (List.mem_of_getElem? (i := 47) rfl))) (by decide) (backOf (W := 0) (rmeqW l Z aZ hw [] b26 b46 (v0_1 q0) (v0_6 q1) (v0_7 q2) (b0_10 q0 q3 p5) (v0_19 q4) (b0_22 q2 p5) T67.heap n0 Zs67 F72 F73 F74 G67_0 G67_1 G67_2 G67_3) hZ67 (hw _ (List.mem_of_getElem? (i := 49) rfl)) (hw _ (List.mem_of_getElem? (i := 9) rfl)) (by decide) (by decide)) q90a q90c (g := (mkF m 165 #[.val (.long q0), .second, .val (.long q1), .second, .val (.long q2), .second, .val (.long q3), .second, .val (.long q4), .second, .val (.int p5), .val (.long (v0_1 q0)), .second, .val (.long (v0_6 q1)), .second, .val (.long (v0_7 q2)), .second, .val (.long (b0_10 q0 q3 p5)), .second, .val (.long (v0_19 q4)), .second, .val (.long (b0_22 q2 p5)), .second, .val (.ref b26), .val (.ref b46), .val (.int (b0_84 q0 q1 q2 q3 q4 p5))] [(.ref b46), (.ref b26)])) rfl (by rw [hml]; rfl) (Steps.refl _) (argsL := [(.ref b46)]) (rest := []) (lenOf pd_159 rfl) rfl (by show 2 * 0 + _ ≤ _; exact Nat.le_of_eq rfl) (hb hby at_165) (fun _ _ => ⟨rfl, rfl, (by decide : 14 + 0 ≤ _), (by decide : 340 + 0 ≤ _)⟩)
    dsimp only [Pt.U, Pt.locs, Pt.cells, Pt.slots] at X90 l90 y90 z90 st90 hQ90
    subst l90 y90 z90
    obtain ⟨rfl, N90q, e90⟩ := hQ90
    have N90 := Fr.app N67 N90q
    have go91 : ∀ t, Steps p.tables e below (T90.setTop (mkF m 168 #[.val (.long q0), .second, .val (.long q1), .second, .val (.long q2), .second, .val (.long q3), .second, .val (.long q4), .second, .val (.int p5), .val (.long (v0_1 q0)), .second, .val (.long (v0_6 q1)), .second, .val (.long (v0_7 q2)), .second, .val (.long (b0_10 q0 q3 p5)), .second, .val (.long (v0_19 q4)), .second, .val (.long (b0_22 q2 p5)), .second, .val (.ref b26), .val (.ref b46), .val (.int (b0_84 q0 q1 q2 q3 q4 p5))] [(.int (feqW (v0_1 q0) (v0_6 q1) (v0_7 q2) (b0_10 q0 q3 p5) (v0_19 q4) (b0_22 q2 p5)))])) t → Steps p.tables e below (s₁.setTop (entryFrame m #[(.long q0), (.long q1), (.long q2), (.long q3), (.long q4), (.int p5)] maxLocals)) t := fun t k => go89 _ (st90.trans k)
    have go92 : ∀ t, Steps p.tables e below (T90.setTop (mkF m 170 #[.val (.long q0), .second, .val (.long q1), .second, .val (.long q2), .second, .val (.long q3), .second, .val (.long q4), .second, .val (.int p5), .val (.long (v0_1 q0)), .second, .val (.long (v0_6 q1)), .second, .val (.long (v0_7 q2)), .second, .val (.long (b0_10 q0 q3 p5)), .second, .val (.long (v0_19 q4)), .second, .val (.long (b0_22 q2 p5)), .second, .val (.ref b26), .val (.ref b46), .val (.int (b0_84 q0 q1 q2 q3 q4 p5))] [(.int (b0_84 q0 q1 q2 q3 q4 p5)), (.int (feqW (v0_1 q0) (v0_6 q1) (v0_7 q2) (b0_10 q0 q3 p5) (v0_19 q4) (b0_22 q2 p5)))])) t → Steps p.tables e below (s₁.setTop (entryFrame m #[(.long q0), (.long q1), (.long q2), (.long q3), (.long q4), (.int p5)] maxLocals)) t := by
      intro t k
      refine go91 _ ?_
      refine XS.iload X90.here hx rfl (hb hby at_168) rfl ?_
      show Steps p.tables e below (T90.setTop (mkF m 170 #[.val (.long q0), .second, .val (.long q1), .second, .val (.long q2), .second, .val (.long q3), .second, .val (.long q4), .second, .val (.int p5), .val (.long (v0_1 q0)), .second, .val (.long (v0_6 q1)), .second, .val (.long (v0_7 q2)), .second, .val (.long (b0_10 q0 q3 p5)), .second, .val (.long (v0_19 q4)), .second, .val (.long (b0_22 q2 p5)), .second, .val (.ref b26), .val (.ref b46), .val (.int (b0_84 q0 q1 q2 q3 q4 p5))] [(.int (b0_84 q0 q1 q2 q3 q4 p5)), (.int (feqW (v0_1 q0) (v0_6 q1) (v0_7 q2) (b0_10 q0 q3 p5) (v0_19 q4) (b0_22 q2 p5)))])) t
      exact k
    by_cases hs93 : (feqW (v0_1 q0) (v0_6 q1) (v0_7 q2) (b0_10 q0 q3 p5) (v0_19 q4) (b0_22 q2 p5)) = (b0_84 q0 q1 q2 q3 q4 p5)
    · have go94 : ∀ t, Steps p.tables e below (T90.setTop (mkF m 179 #[.val (.long q0), .second, .val (.long q1), .second, .val (.long q2), .second, .val (.long q3), .second, .val (.long q4), .second, .val (.int p5), .val (.long (v0_1 q0)), .second, .val (.long (v0_6 q1)), .second, .val (.long (v0_7 q2)), .second, .val (.long (b0_10 q0 q3 p5)), .second, .val (.long (v0_19 q4)), .second, .val (.long (b0_22 q2 p5)), .second, .val (.ref b26), .val (.ref b46), .val (.int (b0_84 q0 q1 q2 q3 q4 p5))] [(.ref b26), (.ref b46)])) t → Steps p.tables e below (s₁.setTop (entryFrame m #[(.long q0), (.long q1), (.long q2), (.long q3), (.long q4), (.int p5)] maxLocals)) t := by
        intro t k
        refine go92 _ ?_
        refine XS.icmpYes X90.here hx rfl (pc0 := 170) (pc' := 175) rfl (hb hby at_170) rfl (XT.ii_eq_t hs93) (by decide) (by decide) ?_
        show Steps p.tables e below (T90.setTop (mkF m 175 #[.val (.long q0), .second, .val (.long q1), .second, .val (.long q2), .second, .val (.long q3), .second, .val (.long q4), .second, .val (.int p5), .val (.long (v0_1 q0)), .second, .val (.long (v0_6 q1)), .second, .val (.long (v0_7 q2)), .second, .val (.long (b0_10 q0 q3 p5)), .second, .val (.long (v0_19 q4)), .second, .val (.long (b0_22 q2 p5)), .second, .val (.ref b26), .val (.ref b46), .val (.int (b0_84 q0 q1 q2 q3 q4 p5))] [])) t
        refine XS.aload X90.here hx rfl (hb hby at_175) rfl rfl ?_
        show Steps p.tables e below (T90.setTop (mkF m 177 #[.val (.long q0), .second, .val (.long q1), .second, .val (.long q2), .second, .val (.long q3), .second, .val (.long q4), .second, .val (.int p5), .val (.long (v0_1 q0)), .second, .val (.long (v0_6 q1)), .second, .val (.long (v0_7 q2)), .second, .val (.long (b0_10 q0 q3 p5)), .second, .val (.long (v0_19 q4)), .second, .val (.long (b0_22 q2 p5)), .second, .val (.ref b26), .val (.ref b46), .val (.int (b0_84 q0 q1 q2 q3 q4 p5))] [(.ref b46)])) t
        refine XS.aload X90.here hx rfl (hb hby at_177) rfl rfl ?_
        show Steps p.tables e below (T90.setTop (mkF m 179 #[.val (.long q0), .second, .val (.long q1), .second, .val (.long q2), .second, .val (.long q3), .second, .val (.long q4), .second, .val (.int p5), .val (.long (v0_1 q0)), .second, .val (.long (v0_6 q1)), .second, .val (.long (v0_7 q2)), .second, .val (.long (b0_10 q0 q3 p5)), .second, .val (.long (v0_19 q4)), .second, .val (.long (b0_22 q2 p5)), .second, .val (.ref b26), .val (.ref b46), .val (.int (b0_84 q0 q1 q2 q3 q4 p5))] [(.ref b26), (.ref b46)])) t
        exact k
      obtain ⟨cq95, kq95, q95a, q95b, q95c⟩ := isOf hZ67 e90 G67_0
      obtain ⟨_, _, ⟨T95, L95, k95, n95⟩, -, X95, ⟨Lc95, hQ95, l95, y95, z95⟩, st95⟩ := X90.virtualBack hx (y := (⟨"com/example/weir/weir/TokenBucket", "equals", "(Ljava/lang/Object;)Z"⟩ : MethodName)) (z := (⟨"com/example/weir/weir/TokenBucket", "equals", "(Ljava/lang/Object;)Z"⟩ : MethodName)) hown67 (mvT hZ67 (hw _ (List.mem_of_getElem? (i := 45) rfl))) (mvT hZ67 (hw _ (List.mem_of_getElem? (i := 46) rfl))) (notFace_of_selects (args := #[]) (mvT hZ67 (hw _ (List.mem_of_getElem? (i := 48) rfl)))) (mvT hZ67 (hw _ (List.mem_of_getElem? (i := 48) rfl))) (mvT hZ67 (hw _ (List.mem_of_getElem? (i := 47) rfl))) (by decide) (backOf (W := 0) (rmeqW l Z aZ hw [] b46 b26 (b0_10 q0 q3 p5) (v0_19 q4) (b0_22 q2 p5) (v0_1 q0) (v0_6 q1) (v0_7 q2) T67.heap n0 Zs67 G67_1 G67_2 G67_3 F71 F72 F73 F74) hZ67 (hw _ (List.mem_of_getElem? (i := 49) rfl)) (hw _ (List.mem_of_getElem? (i := 9) rfl)) (by decide) (by decide)) q95a q95c (g := (mkF m 179 #[.val (.long q0), .second, .val (.long q1), .second, .val (.long q2), .second, .val (.long q3), .second, .val (.long q4), .second, .val (.int p5), .val (.long (v0_1 q0)), .second, .val (.long (v0_6 q1)), .second, .val (.long (v0_7 q2)), .second, .val (.long (b0_10 q0 q3 p5)), .second, .val (.long (v0_19 q4)), .second, .val (.long (b0_22 q2 p5)), .second, .val (.ref b26), .val (.ref b46), .val (.int (b0_84 q0 q1 q2 q3 q4 p5))] [(.ref b26), (.ref b46)])) rfl (by rw [hml]; rfl) (Steps.refl _) (argsL := [(.ref b26)]) (rest := []) (lenOf pd_159 rfl) rfl (by show 2 * 0 + _ ≤ _; exact Nat.le_of_eq rfl) (hb hby at_179) (fun _ _ => ⟨rfl, e90, (by decide : 14 + 0 ≤ _), (by decide : 340 + 0 ≤ _)⟩)
      dsimp only [Pt.U, Pt.locs, Pt.cells, Pt.slots] at X95 l95 y95 z95 st95 hQ95
      subst l95 y95 z95
      obtain ⟨rfl, N95q, e95⟩ := hQ95
      have N95 := Fr.app N90 N95q
      have go96 : ∀ t, Steps p.tables e below (T95.setTop (mkF m 182 #[.val (.long q0), .second, .val (.long q1), .second, .val (.long q2), .second, .val (.long q3), .second, .val (.long q4), .second, .val (.int p5), .val (.long (v0_1 q0)), .second, .val (.long (v0_6 q1)), .second, .val (.long (v0_7 q2)), .second, .val (.long (b0_10 q0 q3 p5)), .second, .val (.long (v0_19 q4)), .second, .val (.long (b0_22 q2 p5)), .second, .val (.ref b26), .val (.ref b46), .val (.int (b0_84 q0 q1 q2 q3 q4 p5))] [(.int (feqW (b0_10 q0 q3 p5) (v0_19 q4) (b0_22 q2 p5) (v0_1 q0) (v0_6 q1) (v0_7 q2)))])) t → Steps p.tables e below (s₁.setTop (entryFrame m #[(.long q0), (.long q1), (.long q2), (.long q3), (.long q4), (.int p5)] maxLocals)) t := fun t k => go94 _ (st95.trans k)
      have go97 : ∀ t, Steps p.tables e below (T95.setTop (mkF m 184 #[.val (.long q0), .second, .val (.long q1), .second, .val (.long q2), .second, .val (.long q3), .second, .val (.long q4), .second, .val (.int p5), .val (.long (v0_1 q0)), .second, .val (.long (v0_6 q1)), .second, .val (.long (v0_7 q2)), .second, .val (.long (b0_10 q0 q3 p5)), .second, .val (.long (v0_19 q4)), .second, .val (.long (b0_22 q2 p5)), .second, .val (.ref b26), .val (.ref b46), .val (.int (b0_84 q0 q1 q2 q3 q4 p5))] [(.int (b0_84 q0 q1 q2 q3 q4 p5)), (.int (feqW (b0_10 q0 q3 p5) (v0_19 q4) (b0_22 q2 p5) (v0_1 q0) (v0_6 q1) (v0_7 q2)))])) t → Steps p.tables e below (s₁.setTop (entryFrame m #[(.long q0), (.long q1), (.long q2), (.long q3), (.long q4), (.int p5)] maxLocals)) t := by
        intro t k
        refine go96 _ ?_
        refine XS.iload X95.here hx rfl (hb hby at_182) rfl ?_
        show Steps p.tables e below (T95.setTop (mkF m 184 #[.val (.long q0), .second, .val (.long q1), .second, .val (.long q2), .second, .val (.long q3), .second, .val (.long q4), .second, .val (.int p5), .val (.long (v0_1 q0)), .second, .val (.long (v0_6 q1)), .second, .val (.long (v0_7 q2)), .second, .val (.long (b0_10 q0 q3 p5)), .second, .val (.long (v0_19 q4)), .second, .val (.long (b0_22 q2 p5)), .second, .val (.ref b26), .val (.ref b46), .val (.int (b0_84 q0 q1 q2 q3 q4 p5))] [(.int (b0_84 q0 q1 q2 q3 q4 p5)), (.int (feqW (b0_10 q0 q3 p5) (v0_19 q4) (b0_22 q2 p5) (v0_1 q0) (v0_6 q1) (v0_7 q2)))])) t
        exact k
      by_cases hs98 : (feqW (b0_10 q0 q3 p5) (v0_19 q4) (b0_22 q2 p5) (v0_1 q0) (v0_6 q1) (v0_7 q2)) = (b0_84 q0 q1 q2 q3 q4 p5)
      · have go99 : ∀ t, Steps p.tables e below (T95.setTop (mkF m 193 #[.val (.long q0), .second, .val (.long q1), .second, .val (.long q2), .second, .val (.long q3), .second, .val (.long q4), .second, .val (.int p5), .val (.long (v0_1 q0)), .second, .val (.long (v0_6 q1)), .second, .val (.long (v0_7 q2)), .second, .val (.long (b0_10 q0 q3 p5)), .second, .val (.long (v0_19 q4)), .second, .val (.long (b0_22 q2 p5)), .second, .val (.ref b26), .val (.ref b46), .val (.int (b0_84 q0 q1 q2 q3 q4 p5))] [(.ref b26), (.ref b26)])) t → Steps p.tables e below (s₁.setTop (entryFrame m #[(.long q0), (.long q1), (.long q2), (.long q3), (.long q4), (.int p5)] maxLocals)) t := by
          intro t k
          refine go97 _ ?_
          refine XS.icmpYes X95.here hx rfl (pc0 := 184) (pc' := 189) rfl (hb hby at_184) rfl (XT.ii_eq_t hs98) (by decide) (by decide) ?_
          show Steps p.tables e below (T95.setTop (mkF m 189 #[.val (.long q0), .second, .val (.long q1), .second, .val (.long q2), .second, .val (.long q3), .second, .val (.long q4), .second, .val (.int p5), .val (.long (v0_1 q0)), .second, .val (.long (v0_6 q1)), .second, .val (.long (v0_7 q2)), .second, .val (.long (b0_10 q0 q3 p5)), .second, .val (.long (v0_19 q4)), .second, .val (.long (b0_22 q2 p5)), .second, .val (.ref b26), .val (.ref b46), .val (.int (b0_84 q0 q1 q2 q3 q4 p5))] [])) t
          refine XS.aload X95.here hx rfl (hb hby at_189) rfl rfl ?_
          show Steps p.tables e below (T95.setTop (mkF m 191 #[.val (.long q0), .second, .val (.long q1), .second, .val (.long q2), .second, .val (.long q3), .second, .val (.long q4), .second, .val (.int p5), .val (.long (v0_1 q0)), .second, .val (.long (v0_6 q1)), .second, .val (.long (v0_7 q2)), .second, .val (.long (b0_10 q0 q3 p5)), .second, .val (.long (v0_19 q4)), .second, .val (.long (b0_22 q2 p5)), .second, .val (.ref b26), .val (.ref b46), .val (.int (b0_84 q0 q1 q2 q3 q4 p5))] [(.ref b26)])) t
          refine XS.aload X95.here hx rfl (hb hby at_191) rfl rfl ?_
          show Steps p.tables e below (T95.setTop (mkF m 193 #[.val (.long q0), .second, .val (.long q1), .second, .val (.long q2), .second, .val (.long q3), .second, .val (.long q4), .second, .val (.int p5), .val (.long (v0_1 q0)), .second, .val (.long (v0_6 q1)), .second, .val (.long (v0_7 q2)), .second, .val (.long (b0_10 q0 q3 p5)), .second, .val (.long (v0_19 q4)), .second, .val (.long (b0_22 q2 p5)), .second, .val (.ref b26), .val (.ref b46), .val (.int (b0_84 q0 q1 q2 q3 q4 p5))] [(.ref b26), (.ref b26)])) t
          exact k
        obtain ⟨cq100, kq100, q100a, q100b, q100c⟩ := isOf hZ67 e95 F71
        obtain ⟨_, _, ⟨T100, L100, k100, n100⟩, -, X100, ⟨Lc100, hQ100, l100, y100, z100⟩, st100⟩ := X95.virtualBack hx (y := (⟨"com/example/weir/weir/TokenBucket", "equals", "(Ljava/lang/Object;)Z"⟩ : MethodName)) (z := (⟨"com/example/weir/weir/TokenBucket", "equals", "(Ljava/lang/Object;)Z"⟩ : MethodName)) hown67 (mvT hZ67 (hw _ (List.mem_of_getElem? (i := 45) rfl))) (mvT hZ67 (hw _ (List.mem_of_getElem? (i := 46) rfl))) (notFace_of_selects (args := #[]) (mvT hZ67 (hw _ (List.mem_of_getElem? (i := 48) rfl)))) (mvT hZ67 (hw _ (List.mem_of_getElem? (i := 48) rfl))) (mvT hZ67 (hw _ (List.mem_of_getElem? (i := 47) rfl))) (by decide) (backOf (W := 0) (rmeqW l Z aZ hw [] b26 b26 (v0_1 q0) (v0_6 q1) (v0_7 q2) (v0_1 q0) (v0_6 q1) (v0_7 q2) T67.heap n0 Zs67 F72 F73 F74 F71 F72 F73 F74) hZ67 (hw _ (List.mem_of_getElem? (i := 49) rfl)) (hw _ (List.mem_of_getElem? (i := 9) rfl)) (by decide) (by decide)) q100a q100c (g := (mkF m 193 #[.val (.long q0), .second, .val (.long q1), .second, .val (.long q2), .second, .val (.long q3), .second, .val (.long q4), .second, .val (.int p5), .val (.long (v0_1 q0)), .second, .val (.long (v0_6 q1)), .second, .val (.long (v0_7 q2)), .second, .val (.long (b0_10 q0 q3 p5)), .second, .val (.long (v0_19 q4)), .second, .val (.long (b0_22 q2 p5)), .second, .val (.ref b26), .val (.ref b46), .val (.int (b0_84 q0 q1 q2 q3 q4 p5))] [(.ref b26), (.ref b26)])) rfl (by rw [hml]; rfl) (Steps.refl _) (argsL := [(.ref b26)]) (rest := []) (lenOf pd_159 rfl) rfl (by show 2 * 0 + _ ≤ _; exact Nat.le_of_eq rfl) (hb hby at_193) (fun _ _ => ⟨rfl, e95, (by decide : 14 + 0 ≤ _), (by decide : 340 + 0 ≤ _)⟩)
        dsimp only [Pt.U, Pt.locs, Pt.cells, Pt.slots] at X100 l100 y100 z100 st100 hQ100
        subst l100 y100 z100
        obtain ⟨rfl, N100q, e100⟩ := hQ100
        have N100 := Fr.app N95 N100q
        have go101 : ∀ t, Steps p.tables e below (T100.setTop (mkF m 196 #[.val (.long q0), .second, .val (.long q1), .second, .val (.long q2), .second, .val (.long q3), .second, .val (.long q4), .second, .val (.int p5), .val (.long (v0_1 q0)), .second, .val (.long (v0_6 q1)), .second, .val (.long (v0_7 q2)), .second, .val (.long (b0_10 q0 q3 p5)), .second, .val (.long (v0_19 q4)), .second, .val (.long (b0_22 q2 p5)), .second, .val (.ref b26), .val (.ref b46), .val (.int (b0_84 q0 q1 q2 q3 q4 p5))] [(.int (feqW (v0_1 q0) (v0_6 q1) (v0_7 q2) (v0_1 q0) (v0_6 q1) (v0_7 q2)))])) t → Steps p.tables e below (s₁.setTop (entryFrame m #[(.long q0), (.long q1), (.long q2), (.long q3), (.long q4), (.int p5)] maxLocals)) t := fun t k => go99 _ (st100.trans k)
        by_cases hs102 : (feqW (v0_1 q0) (v0_6 q1) (v0_7 q2) (v0_1 q0) (v0_6 q1) (v0_7 q2)) = (0 : Int32)
        · have go103 : ∀ t, Steps p.tables e below (T100.setTop (mkF m 200 #[.val (.long q0), .second, .val (.long q1), .second, .val (.long q2), .second, .val (.long q3), .second, .val (.long q4), .second, .val (.int p5), .val (.long (v0_1 q0)), .second, .val (.long (v0_6 q1)), .second, .val (.long (v0_7 q2)), .second, .val (.long (b0_10 q0 q3 p5)), .second, .val (.long (v0_19 q4)), .second, .val (.long (b0_22 q2 p5)), .second, .val (.ref b26), .val (.ref b46), .val (.int (b0_84 q0 q1 q2 q3 q4 p5))] [(.int (0 : Int32))])) t → Steps p.tables e below (s₁.setTop (entryFrame m #[(.long q0), (.long q1), (.long q2), (.long q3), (.long q4), (.int p5)] maxLocals)) t := by
            intro t k
            refine go101 _ ?_
            refine XS.ifNo X100.here hx rfl (hb hby at_196) rfl (XT.i0_ne_f hs102) ?_
            show Steps p.tables e below (T100.setTop (mkF m 199 #[.val (.long q0), .second, .val (.long q1), .second, .val (.long q2), .second, .val (.long q3), .second, .val (.long q4), .second, .val (.int p5), .val (.long (v0_1 q0)), .second, .val (.long (v0_6 q1)), .second, .val (.long (v0_7 q2)), .second, .val (.long (b0_10 q0 q3 p5)), .second, .val (.long (v0_19 q4)), .second, .val (.long (b0_22 q2 p5)), .second, .val (.ref b26), .val (.ref b46), .val (.int (b0_84 q0 q1 q2 q3 q4 p5))] [])) t
            refine XS.iconst X100.here hx rfl (hb hby at_199) ?_
            show Steps p.tables e below (T100.setTop (mkF m 200 #[.val (.long q0), .second, .val (.long q1), .second, .val (.long q2), .second, .val (.long q3), .second, .val (.long q4), .second, .val (.int p5), .val (.long (v0_1 q0)), .second, .val (.long (v0_6 q1)), .second, .val (.long (v0_7 q2)), .second, .val (.long (b0_10 q0 q3 p5)), .second, .val (.long (v0_19 q4)), .second, .val (.long (b0_22 q2 p5)), .second, .val (.ref b26), .val (.ref b46), .val (.int (b0_84 q0 q1 q2 q3 q4 p5))] [(.int (0 : Int32))])) t
            exact k
          obtain ⟨fs, hr, hrun, hended, hRW⟩ := X100.leaveW hS67 (by rw [e100]; exact hk67r) (v := some (.int (0 : Int32))) (fun h => by rw [Bd.returns] at h; cases h)
          refine ⟨_, _, go103 _ (Jvm.RoadKit.retOut X100 hx Bd.returns rfl (Or.inl ⟨rfl, Or.inr (Or.inl rfl), _, rfl⟩) (hb hby at_200) hr), hrun, hended, _, _, rfl, ?_, hRW.1, hRW.2.1, hRW.2.2.1, hRW.2.2.2.mono (by decide) (by decide)⟩
          show Q0 _ _ q0 q1 q2 q3 q4 p5 s_cache cc h0 _ (T100.setFrames fs).heap _
          have hE : (T100.setFrames fs).heap = T67.heap := e100
          rw [hE]
          exact ⟨congrArg (fun z => some (Value.int z)) ((by rw [f0, if_pos hs14, if_pos hs93, if_pos hs98, if_pos hs102] : (0 : Int32) = (f0 q0 q1 q2 q3 q4 p5)).trans (f0_one q0 q1 q2 q3 q4 p5)), N100⟩
        · have go104 : ∀ t, Steps p.tables e below (T100.setTop (mkF m 204 #[.val (.long q0), .second, .val (.long q1), .second, .val (.long q2), .second, .val (.long q3), .second, .val (.long q4), .second, .val (.int p5), .val (.long (v0_1 q0)), .second, .val (.long (v0_6 q1)), .second, .val (.long (v0_7 q2)), .second, .val (.long (b0_10 q0 q3 p5)), .second, .val (.long (v0_19 q4)), .second, .val (.long (b0_22 q2 p5)), .second, .val (.ref b26), .val (.ref b46), .val (.int (b0_84 q0 q1 q2 q3 q4 p5))] [.null, (.ref b26)])) t → Steps p.tables e below (s₁.setTop (entryFrame m #[(.long q0), (.long q1), (.long q2), (.long q3), (.long q4), (.int p5)] maxLocals)) t := by
            intro t k
            refine go101 _ ?_
            refine XS.ifYes X100.here hx rfl (pc0 := 196) (pc' := 201) rfl (hb hby at_196) rfl (XT.i0_ne_t hs102) (by decide) (by decide) ?_
            show Steps p.tables e below (T100.setTop (mkF m 201 #[.val (.long q0), .second, .val (.long q1), .second, .val (.long q2), .second, .val (.long q3), .second, .val (.long q4), .second, .val (.int p5), .val (.long (v0_1 q0)), .second, .val (.long (v0_6 q1)), .second, .val (.long (v0_7 q2)), .second, .val (.long (b0_10 q0 q3 p5)), .second, .val (.long (v0_19 q4)), .second, .val (.long (b0_22 q2 p5)), .second, .val (.ref b26), .val (.ref b46), .val (.int (b0_84 q0 q1 q2 q3 q4 p5))] [])) t
            refine XS.aload X100.here hx rfl (hb hby at_201) rfl rfl ?_
            show Steps p.tables e below (T100.setTop (mkF m 203 #[.val (.long q0), .second, .val (.long q1), .second, .val (.long q2), .second, .val (.long q3), .second, .val (.long q4), .second, .val (.int p5), .val (.long (v0_1 q0)), .second, .val (.long (v0_6 q1)), .second, .val (.long (v0_7 q2)), .second, .val (.long (b0_10 q0 q3 p5)), .second, .val (.long (v0_19 q4)), .second, .val (.long (b0_22 q2 p5)), .second, .val (.ref b26), .val (.ref b46), .val (.int (b0_84 q0 q1 q2 q3 q4 p5))] [(.ref b26)])) t
            refine XS.aconstNull X100.here hx rfl (hb hby at_203) ?_
            show Steps p.tables e below (T100.setTop (mkF m 204 #[.val (.long q0), .second, .val (.long q1), .second, .val (.long q2), .second, .val (.long q3), .second, .val (.long q4), .second, .val (.int p5), .val (.long (v0_1 q0)), .second, .val (.long (v0_6 q1)), .second, .val (.long (v0_7 q2)), .second, .val (.long (b0_10 q0 q3 p5)), .second, .val (.long (v0_19 q4)), .second, .val (.long (b0_22 q2 p5)), .second, .val (.ref b26), .val (.ref b46), .val (.int (b0_84 q0 q1 q2 q3 q4 p5))] [.null, (.ref b26)])) t
            exact k
          obtain ⟨cq105, kq105, q105a, q105b, q105c⟩ := isOf hZ67 e100 F71
          obtain ⟨_, _, ⟨T105, L105, k105, n105⟩, -, X105, ⟨Lc105, hQ105, l105, y105, z105⟩, st105⟩ := X100.virtualBack hx (y := (⟨"com/example/weir/weir/TokenBucket", "equals", "(Ljava/lang/Object;)Z"⟩ : MethodName)) (z := (⟨"com/example/weir/weir/TokenBucket", "equals", "(Ljava/lang/Object;)Z"⟩ : MethodName)) hown67 (mvT hZ67 (hw _ (List.mem_of_getElem? (i := 45) rfl))) (mvT hZ67 (hw _ (List.mem_of_getElem? (i := 46) rfl))) (notFace_of_selects (args := #[]) (mvT hZ67 (hw _ (List.mem_of_getElem? (i := 48) rfl)))) (mvT hZ67 (hw _ (List.mem_of_getElem? (i := 48) rfl))) (mvT hZ67 (hw _ (List.mem_of_getElem? (i := 47) rfl))) (by decide) (backOf (W := 0) (rmeqN l Z aZ hw [] b26 T67.heap n0 Zs67 ) hZ67 (hw _ (List.mem_of_getElem? (i := 49) rfl)) (hw _ (List.mem_of_getElem? (i := 9) rfl)) (by decide) (by decide)) q105a q105c (g := (mkF m 204 #[.val (.long q0), .second, .val (.long q1), .second, .val (.long q2), .second, .val (.long q3), .second, .val (.long q4), .second, .val (.int p5), .val (.long (v0_1 q0)), .second, .val (.long (v0_6 q1)), .second, .val (.long (v0_7 q2)), .second, .val (.long (b0_10 q0 q3 p5)), .second, .val (.long (v0_19 q4)), .second, .val (.long (b0_22 q2 p5)), .second, .val (.ref b26), .val (.ref b46), .val (.int (b0_84 q0 q1 q2 q3 q4 p5))] [.null, (.ref b26)])) rfl (by rw [hml]; rfl) (Steps.refl _) (argsL := [.null]) (rest := []) (lenOf pd_159 rfl) rfl (by show 2 * 0 + _ ≤ _; exact Nat.le_of_eq rfl) (hb hby at_204) (fun _ _ => ⟨rfl, e100, (by decide : 14 + 0 ≤ _), (by decide : 340 + 0 ≤ _)⟩)
          dsimp only [Pt.U, Pt.locs, Pt.cells, Pt.slots] at X105 l105 y105 z105 st105 hQ105
          subst l105 y105 z105
          obtain ⟨rfl, N105q, e105⟩ := hQ105
          have N105 := Fr.app N100 N105q
          have go106 : ∀ t, Steps p.tables e below (T105.setTop (mkF m 207 #[.val (.long q0), .second, .val (.long q1), .second, .val (.long q2), .second, .val (.long q3), .second, .val (.long q4), .second, .val (.int p5), .val (.long (v0_1 q0)), .second, .val (.long (v0_6 q1)), .second, .val (.long (v0_7 q2)), .second, .val (.long (b0_10 q0 q3 p5)), .second, .val (.long (v0_19 q4)), .second, .val (.long (b0_22 q2 p5)), .second, .val (.ref b26), .val (.ref b46), .val (.int (b0_84 q0 q1 q2 q3 q4 p5))] [(.int (0 : Int32))])) t → Steps p.tables e below (s₁.setTop (entryFrame m #[(.long q0), (.long q1), (.long q2), (.long q3), (.long q4), (.int p5)] maxLocals)) t := fun t k => go104 _ (st105.trans k)
          have go107 : ∀ t, Steps p.tables e below (T105.setTop (mkF m 216 #[.val (.long q0), .second, .val (.long q1), .second, .val (.long q2), .second, .val (.long q3), .second, .val (.long q4), .second, .val (.int p5), .val (.long (v0_1 q0)), .second, .val (.long (v0_6 q1)), .second, .val (.long (v0_7 q2)), .second, .val (.long (b0_10 q0 q3 p5)), .second, .val (.long (v0_19 q4)), .second, .val (.long (b0_22 q2 p5)), .second, .val (.ref b26), .val (.ref b46), .val (.int (b0_84 q0 q1 q2 q3 q4 p5))] [(.long (v0_1 q0)), (.ref b26)])) t → Steps p.tables e below (s₁.setTop (entryFrame m #[(.long q0), (.long q1), (.long q2), (.long q3), (.long q4), (.int p5)] maxLocals)) t := by
            intro t k
            refine go106 _ ?_
            refine XS.ifYes X105.here hx rfl (pc0 := 207) (pc' := 212) rfl (hb hby at_207) rfl (XT.i0_eq_t (by decide : ((0 : Int32) = (0 : Int32)))) (by decide) (by decide) ?_
            show Steps p.tables e below (T105.setTop (mkF m 212 #[.val (.long q0), .second, .val (.long q1), .second, .val (.long q2), .second, .val (.long q3), .second, .val (.long q4), .second, .val (.int p5), .val (.long (v0_1 q0)), .second, .val (.long (v0_6 q1)), .second, .val (.long (v0_7 q2)), .second, .val (.long (b0_10 q0 q3 p5)), .second, .val (.long (v0_19 q4)), .second, .val (.long (b0_22 q2 p5)), .second, .val (.ref b26), .val (.ref b46), .val (.int (b0_84 q0 q1 q2 q3 q4 p5))] [])) t
            refine XS.aload X105.here hx rfl (hb hby at_212) rfl rfl ?_
            show Steps p.tables e below (T105.setTop (mkF m 214 #[.val (.long q0), .second, .val (.long q1), .second, .val (.long q2), .second, .val (.long q3), .second, .val (.long q4), .second, .val (.int p5), .val (.long (v0_1 q0)), .second, .val (.long (v0_6 q1)), .second, .val (.long (v0_7 q2)), .second, .val (.long (b0_10 q0 q3 p5)), .second, .val (.long (v0_19 q4)), .second, .val (.long (b0_22 q2 p5)), .second, .val (.ref b26), .val (.ref b46), .val (.int (b0_84 q0 q1 q2 q3 q4 p5))] [(.ref b26)])) t
            refine XS.lload X105.here hx rfl (hb hby at_214) rfl ?_
            show Steps p.tables e below (T105.setTop (mkF m 216 #[.val (.long q0), .second, .val (.long q1), .second, .val (.long q2), .second, .val (.long q3), .second, .val (.long q4), .second, .val (.int p5), .val (.long (v0_1 q0)), .second, .val (.long (v0_6 q1)), .second, .val (.long (v0_7 q2)), .second, .val (.long (b0_10 q0 q3 p5)), .second, .val (.long (v0_19 q4)), .second, .val (.long (b0_22 q2 p5)), .second, .val (.ref b26), .val (.ref b46), .val (.int (b0_84 q0 q1 q2 q3 q4 p5))] [(.long (v0_1 q0)), (.ref b26)])) t
            exact k
          obtain ⟨_, _, ⟨T108, L108, k108, n108⟩, -, X108, ⟨Lc108, hQ108, l108, y108, z108⟩, st108⟩ := Jvm.LawKit.callS X105 hx (y := (⟨"java/lang/Long", "valueOf", "(J)Ljava/lang/Long;"⟩ : MethodName)) hown67 (mvT hZ67 (hw _ (List.mem_of_getElem? (i := 52) rfl))) (mvT hZ67 (hw _ (List.mem_of_getElem? (i := 53) rfl))) (mvT hZ67 (hw _ (List.mem_of_getElem? (i := 54) rfl))) (mvT hZ67 (hw _ (List.mem_of_getElem? (i := 55) rfl))) (by decide) (backOf (W := 1) (rm7 l Z aZ hw [] (v0_1 q0) s_cache cc T67.heap n0 Zs67 F68 F69 Sz_cache F70) hZ67 (hw _ (List.mem_of_getElem? (i := 55) rfl)) (hw _ (List.mem_of_getElem? (i := 54) rfl)) (by decide) (by decide)) (g := (mkF m 216 #[.val (.long q0), .second, .val (.long q1), .second, .val (.long q2), .second, .val (.long q3), .second, .val (.long q4), .second, .val (.int p5), .val (.long (v0_1 q0)), .second, .val (.long (v0_6 q1)), .second, .val (.long (v0_7 q2)), .second, .val (.long (b0_10 q0 q3 p5)), .second, .val (.long (v0_19 q4)), .second, .val (.long (b0_22 q2 p5)), .second, .val (.ref b26), .val (.ref b46), .val (.int (b0_84 q0 q1 q2 q3 q4 p5))] [(.long (v0_1 q0)), (.ref b26)])) rfl (by rw [hml]; rfl) (argsL := [(.long (v0_1 q0))]) (rest := [(.ref b26)]) (lenOf pd_160 rfl) rfl (by show 2 * 0 + _ ≤ _; exact Nat.le_of_eq rfl) (hb hby at_216) (fun _ _ => ⟨rfl, e105, (by decide : 14 + 1 ≤ _), (by decide : 340 + 1 ≤ _)⟩)
          dsimp only [Pt.U, Pt.locs, Pt.cells, Pt.slots] at X108 l108 y108 z108 st108 hQ108
          subst l108 y108 z108
          obtain ⟨b108, rfl, N108q, K108q, G108⟩ := hQ108
          have N108 := Fr.app N105 N108q
          have K108 : Keep h0 T108.heap [] := K67.trans K108q all0
          have Zs108 : n0 ≤ T108.heap.size := Nat.le_trans Zs67 K108q.1
          have hk108 : T67.heap.size ≤ T108.heap.size := Nat.le_trans hk67r K108q.1
          have F109 : Sta Z T108.heap "java/lang/Long$LongCache" "cache" "[Ljava/lang/Long;" (.ref s_cache) := own_sta_keep F68 K108q all0
          have F110 : Arr Z T108.heap s_cache cc (.object "java/lang/Long") := own_arr_keep F69 K108q nin0
          have F111 : LCache Z T108.heap cc := F70.keep K108q
          have F112 : Exa Z T108.heap b26 "com/example/weir/weir/TokenBucket" := F71.keep K108q
          have F113 : Fld Z T108.heap b26 "com/example/weir/weir/TokenBucket" "capacity" "J" (.long (v0_1 q0)) := F72.keep K108q nin0
          have F114 : Fld Z T108.heap b26 "com/example/weir/weir/TokenBucket" "refillTokens" "J" (.long (v0_6 q1)) := F73.keep K108q nin0
          have F115 : Fld Z T108.heap b26 "com/example/weir/weir/TokenBucket" "refillPeriodMillis" "J" (.long (v0_7 q2)) := F74.keep K108q nin0
          have F116 : Fld Z T108.heap b26 "com/example/weir/weir/TokenBucket" "partsPerToken" "J" (.long ((v0_7 q2) / (fgcd (v0_6 q1) (v0_7 q2)))) := F75.keep K108q nin0
          have F117 : Fld Z T108.heap b26 "com/example/weir/weir/TokenBucket" "partsPerMilli" "J" (.long ((v0_6 q1) / (fgcd (v0_6 q1) (v0_7 q2)))) := F76.keep K108q nin0
          have F118 : Fld Z T108.heap b26 "com/example/weir/weir/TokenBucket" "fullLevel" "J" (.long (v2_94 (v0_1 q0) (v0_6 q1) (v0_7 q2))) := F77.keep K108q nin0
          have F119 : Exa Z T108.heap b46 "com/example/weir/weir/TokenBucket" := G67_0.keep K108q
          have F120 : Fld Z T108.heap b46 "com/example/weir/weir/TokenBucket" "capacity" "J" (.long (b0_10 q0 q3 p5)) := G67_1.keep K108q nin0
          have F121 : Fld Z T108.heap b46 "com/example/weir/weir/TokenBucket" "refillTokens" "J" (.long (v0_19 q4)) := G67_2.keep K108q nin0
          have F122 : Fld Z T108.heap b46 "com/example/weir/weir/TokenBucket" "refillPeriodMillis" "J" (.long (b0_22 q2 p5)) := G67_3.keep K108q nin0
          have F123 : Fld Z T108.heap b46 "com/example/weir/weir/TokenBucket" "partsPerToken" "J" (.long ((b0_22 q2 p5) / (fgcd (v0_19 q4) (b0_22 q2 p5)))) := G67_4.keep K108q nin0
          have F124 : Fld Z T108.heap b46 "com/example/weir/weir/TokenBucket" "partsPerMilli" "J" (.long ((v0_19 q4) / (fgcd (v0_19 q4) (b0_22 q2 p5)))) := G67_5.keep K108q nin0
          have F125 : Fld Z T108.heap b46 "com/example/weir/weir/TokenBucket" "fullLevel" "J" (.long (v2_94 (b0_10 q0 q3 p5) (v0_19 q4) (b0_22 q2 p5))) := G67_6.keep K108q nin0
          have go126 : ∀ t, Steps p.tables e below (T108.setTop (mkF m 219 #[.val (.long q0), .second, .val (.long q1), .second, .val (.long q2), .second, .val (.long q3), .second, .val (.long q4), .second, .val (.int p5), .val (.long (v0_1 q0)), .second, .val (.long (v0_6 q1)), .second, .val (.long (v0_7 q2)), .second, .val (.long (b0_10 q0 q3 p5)), .second, .val (.long (v0_19 q4)), .second, .val (.long (b0_22 q2 p5)), .second, .val (.ref b26), .val (.ref b46), .val (.int (b0_84 q0 q1 q2 q3 q4 p5))] [(.ref b108), (.ref b26)])) t → Steps p.tables e below (s₁.setTop (entryFrame m #[(.long q0), (.long q1), (.long q2), (.long q3), (.long q4), (.int p5)] maxLocals)) t := fun t k => go107 _ (st108 _ k)
          obtain ⟨cq127, kq127, q127a, q127b, q127c⟩ := isOf hZ67 rfl F112
          obtain ⟨_, _, ⟨T127, L127, k127, n127⟩, -, X127, ⟨Lc127, hQ127, l127, y127, z127⟩, st127⟩ := X108.virtualBack hx (y := (⟨"com/example/weir/weir/TokenBucket", "equals", "(Ljava/lang/Object;)Z"⟩ : MethodName)) (z := (⟨"com/example/weir/weir/TokenBucket", "equals", "(Ljava/lang/Object;)Z"⟩ : MethodName)) hown67 (mvT hZ67 (hw _ (List.mem_of_getElem? (i := 45) rfl))) (mvT hZ67 (hw _ (List.mem_of_getElem? (i := 46) rfl))) (notFace_of_selects (args := #[]) (mvT hZ67 (hw _ (List.mem_of_getElem? (i := 48) rfl)))) (mvT hZ67 (hw _ (List.mem_of_getElem? (i := 48) rfl))) (mvT hZ67 (hw _ (List.mem_of_getElem? (i := 47) rfl))) (by decide) (backOf (W := 0) (rmeqL l Z aZ hw [] b26 b108 T108.heap n0 Zs108 G108 hno) hZ67 (hw _ (List.mem_of_getElem? (i := 49) rfl)) (hw _ (List.mem_of_getElem? (i := 9) rfl)) (by decide) (by decide)) q127a q127c (g := (mkF m 219 #[.val (.long q0), .second, .val (.long q1), .second, .val (.long q2), .second, .val (.long q3), .second, .val (.long q4), .second, .val (.int p5), .val (.long (v0_1 q0)), .second, .val (.long (v0_6 q1)), .second, .val (.long (v0_7 q2)), .second, .val (.long (b0_10 q0 q3 p5)), .second, .val (.long (v0_19 q4)), .second, .val (.long (b0_22 q2 p5)), .second, .val (.ref b26), .val (.ref b46), .val (.int (b0_84 q0 q1 q2 q3 q4 p5))] [(.ref b108), (.ref b26)])) rfl (by rw [hml]; rfl) (Steps.refl _) (argsL := [(.ref b108)]) (rest := []) (lenOf pd_159 rfl) rfl (by show 2 * 0 + _ ≤ _; exact Nat.le_of_eq rfl) (hb hby at_219) (fun _ _ => ⟨rfl, rfl, (by decide : 15 + 0 ≤ _), (by decide : 341 + 0 ≤ _)⟩)
          dsimp only [Pt.U, Pt.locs, Pt.cells, Pt.slots] at X127 l127 y127 z127 st127 hQ127
          subst l127 y127 z127
          obtain ⟨rfl, N127q, e127⟩ := hQ127
          have N127 := Fr.app N108 N127q
          have go128 : ∀ t, Steps p.tables e below (T127.setTop (mkF m 222 #[.val (.long q0), .second, .val (.long q1), .second, .val (.long q2), .second, .val (.long q3), .second, .val (.long q4), .second, .val (.int p5), .val (.long (v0_1 q0)), .second, .val (.long (v0_6 q1)), .second, .val (.long (v0_7 q2)), .second, .val (.long (b0_10 q0 q3 p5)), .second, .val (.long (v0_19 q4)), .second, .val (.long (b0_22 q2 p5)), .second, .val (.ref b26), .val (.ref b46), .val (.int (b0_84 q0 q1 q2 q3 q4 p5))] [(.int (0 : Int32))])) t → Steps p.tables e below (s₁.setTop (entryFrame m #[(.long q0), (.long q1), (.long q2), (.long q3), (.long q4), (.int p5)] maxLocals)) t := fun t k => go126 _ (st127.trans k)
          have go129 : ∀ t, Steps p.tables e below (T127.setTop (mkF m 228 #[.val (.long q0), .second, .val (.long q1), .second, .val (.long q2), .second, .val (.long q3), .second, .val (.long q4), .second, .val (.int p5), .val (.long (v0_1 q0)), .second, .val (.long (v0_6 q1)), .second, .val (.long (v0_7 q2)), .second, .val (.long (b0_10 q0 q3 p5)), .second, .val (.long (v0_19 q4)), .second, .val (.long (b0_22 q2 p5)), .second, .val (.ref b26), .val (.ref b46), .val (.int (b0_84 q0 q1 q2 q3 q4 p5))] [(.int (1 : Int32))])) t → Steps p.tables e below (s₁.setTop (entryFrame m #[(.long q0), (.long q1), (.long q2), (.long q3), (.long q4), (.int p5)] maxLocals)) t := by
            intro t k
            refine go128 _ ?_
            refine XS.ifYes X127.here hx rfl (pc0 := 222) (pc' := 227) rfl (hb hby at_222) rfl (XT.i0_eq_t (by decide : ((0 : Int32) = (0 : Int32)))) (by decide) (by decide) ?_
            show Steps p.tables e below (T127.setTop (mkF m 227 #[.val (.long q0), .second, .val (.long q1), .second, .val (.long q2), .second, .val (.long q3), .second, .val (.long q4), .second, .val (.int p5), .val (.long (v0_1 q0)), .second, .val (.long (v0_6 q1)), .second, .val (.long (v0_7 q2)), .second, .val (.long (b0_10 q0 q3 p5)), .second, .val (.long (v0_19 q4)), .second, .val (.long (b0_22 q2 p5)), .second, .val (.ref b26), .val (.ref b46), .val (.int (b0_84 q0 q1 q2 q3 q4 p5))] [])) t
            refine XS.iconst X127.here hx rfl (hb hby at_227) ?_
            show Steps p.tables e below (T127.setTop (mkF m 228 #[.val (.long q0), .second, .val (.long q1), .second, .val (.long q2), .second, .val (.long q3), .second, .val (.long q4), .second, .val (.int p5), .val (.long (v0_1 q0)), .second, .val (.long (v0_6 q1)), .second, .val (.long (v0_7 q2)), .second, .val (.long (b0_10 q0 q3 p5)), .second, .val (.long (v0_19 q4)), .second, .val (.long (b0_22 q2 p5)), .second, .val (.ref b26), .val (.ref b46), .val (.int (b0_84 q0 q1 q2 q3 q4 p5))] [(.int (1 : Int32))])) t
            exact k
          obtain ⟨fs, hr, hrun, hended, hRW⟩ := X127.leaveW hS67 (by rw [e127]; exact hk108) (v := some (.int (1 : Int32))) (fun h => by rw [Bd.returns] at h; cases h)
          refine ⟨_, _, go129 _ (Jvm.RoadKit.retOut X127 hx Bd.returns rfl (Or.inl ⟨rfl, Or.inr (Or.inl rfl), _, rfl⟩) (hb hby at_228) hr), hrun, hended, _, _, rfl, ?_, hRW.1, hRW.2.1, hRW.2.2.1, hRW.2.2.2.mono (by decide) (by decide)⟩
          show Q0 _ _ q0 q1 q2 q3 q4 p5 s_cache cc h0 _ (T127.setFrames fs).heap _
          have hE : (T127.setFrames fs).heap = T108.heap := e127
          rw [hE]
          exact ⟨congrArg (fun z => some (Value.int z)) ((by rw [f0, if_pos hs14, if_pos hs93, if_pos hs98, if_neg hs102] : (1 : Int32) = (f0 q0 q1 q2 q3 q4 p5)).trans (f0_one q0 q1 q2 q3 q4 p5)), N127⟩
      · have go130 : ∀ t, Steps p.tables e below (T95.setTop (mkF m 188 #[.val (.long q0), .second, .val (.long q1), .second, .val (.long q2), .second, .val (.long q3), .second, .val (.long q4), .second, .val (.int p5), .val (.long (v0_1 q0)), .second, .val (.long (v0_6 q1)), .second, .val (.long (v0_7 q2)), .second, .val (.long (b0_10 q0 q3 p5)), .second, .val (.long (v0_19 q4)), .second, .val (.long (b0_22 q2 p5)), .second, .val (.ref b26), .val (.ref b46), .val (.int (b0_84 q0 q1 q2 q3 q4 p5))] [(.int (0 : Int32))])) t → Steps p.tables e below (s₁.setTop (entryFrame m #[(.long q0), (.long q1), (.long q2), (.long q3), (.long q4), (.int p5)] maxLocals)) t := by
          intro t k
          refine go97 _ ?_
          refine XS.icmpNo X95.here hx rfl (hb hby at_184) rfl (XT.ii_eq_f hs98) ?_
          show Steps p.tables e below (T95.setTop (mkF m 187 #[.val (.long q0), .second, .val (.long q1), .second, .val (.long q2), .second, .val (.long q3), .second, .val (.long q4), .second, .val (.int p5), .val (.long (v0_1 q0)), .second, .val (.long (v0_6 q1)), .second, .val (.long (v0_7 q2)), .second, .val (.long (b0_10 q0 q3 p5)), .second, .val (.long (v0_19 q4)), .second, .val (.long (b0_22 q2 p5)), .second, .val (.ref b26), .val (.ref b46), .val (.int (b0_84 q0 q1 q2 q3 q4 p5))] [])) t
          refine XS.iconst X95.here hx rfl (hb hby at_187) ?_
          show Steps p.tables e below (T95.setTop (mkF m 188 #[.val (.long q0), .second, .val (.long q1), .second, .val (.long q2), .second, .val (.long q3), .second, .val (.long q4), .second, .val (.int p5), .val (.long (v0_1 q0)), .second, .val (.long (v0_6 q1)), .second, .val (.long (v0_7 q2)), .second, .val (.long (b0_10 q0 q3 p5)), .second, .val (.long (v0_19 q4)), .second, .val (.long (b0_22 q2 p5)), .second, .val (.ref b26), .val (.ref b46), .val (.int (b0_84 q0 q1 q2 q3 q4 p5))] [(.int (0 : Int32))])) t
          exact k
        obtain ⟨fs, hr, hrun, hended, hRW⟩ := X95.leaveW hS67 (by rw [e95]; exact hk67r) (v := some (.int (0 : Int32))) (fun h => by rw [Bd.returns] at h; cases h)
        refine ⟨_, _, go130 _ (Jvm.RoadKit.retOut X95 hx Bd.returns rfl (Or.inl ⟨rfl, Or.inr (Or.inl rfl), _, rfl⟩) (hb hby at_188) hr), hrun, hended, _, _, rfl, ?_, hRW.1, hRW.2.1, hRW.2.2.1, hRW.2.2.2.mono (by decide) (by decide)⟩
        show Q0 _ _ q0 q1 q2 q3 q4 p5 s_cache cc h0 _ (T95.setFrames fs).heap _
        have hE : (T95.setFrames fs).heap = T67.heap := e95
        rw [hE]
        exact ⟨congrArg (fun z => some (Value.int z)) ((by rw [f0, if_pos hs14, if_pos hs93, if_neg hs98] : (0 : Int32) = (f0 q0 q1 q2 q3 q4 p5)).trans (f0_one q0 q1 q2 q3 q4 p5)), N95⟩
    · have go131 : ∀ t, Steps p.tables e below (T90.setTop (mkF m 174 #[.val (.long q0), .second, .val (.long q1), .second, .val (.long q2), .second, .val (.long q3), .second, .val (.long q4), .second, .val (.int p5), .val (.long (v0_1 q0)), .second, .val (.long (v0_6 q1)), .second, .val (.long (v0_7 q2)), .second, .val (.long (b0_10 q0 q3 p5)), .second, .val (.long (v0_19 q4)), .second, .val (.long (b0_22 q2 p5)), .second, .val (.ref b26), .val (.ref b46), .val (.int (b0_84 q0 q1 q2 q3 q4 p5))] [(.int (0 : Int32))])) t → Steps p.tables e below (s₁.setTop (entryFrame m #[(.long q0), (.long q1), (.long q2), (.long q3), (.long q4), (.int p5)] maxLocals)) t := by
        intro t k
        refine go92 _ ?_
        refine XS.icmpNo X90.here hx rfl (hb hby at_170) rfl (XT.ii_eq_f hs93) ?_
        show Steps p.tables e below (T90.setTop (mkF m 173 #[.val (.long q0), .second, .val (.long q1), .second, .val (.long q2), .second, .val (.long q3), .second, .val (.long q4), .second, .val (.int p5), .val (.long (v0_1 q0)), .second, .val (.long (v0_6 q1)), .second, .val (.long (v0_7 q2)), .second, .val (.long (b0_10 q0 q3 p5)), .second, .val (.long (v0_19 q4)), .second, .val (.long (b0_22 q2 p5)), .second, .val (.ref b26), .val (.ref b46), .val (.int (b0_84 q0 q1 q2 q3 q4 p5))] [])) t
        refine XS.iconst X90.here hx rfl (hb hby at_173) ?_
        show Steps p.tables e below (T90.setTop (mkF m 174 #[.val (.long q0), .second, .val (.long q1), .second, .val (.long q2), .second, .val (.long q3), .second, .val (.long q4), .second, .val (.int p5), .val (.long (v0_1 q0)), .second, .val (.long (v0_6 q1)), .second, .val (.long (v0_7 q2)), .second, .val (.long (b0_10 q0 q3 p5)), .second, .val (.long (v0_19 q4)), .second, .val (.long (b0_22 q2 p5)), .second, .val (.ref b26), .val (.ref b46), .val (.int (b0_84 q0 q1 q2 q3 q4 p5))] [(.int (0 : Int32))])) t
        exact k
      obtain ⟨fs, hr, hrun, hended, hRW⟩ := X90.leaveW hS67 (by rw [e90]; exact hk67r) (v := some (.int (0 : Int32))) (fun h => by rw [Bd.returns] at h; cases h)
      refine ⟨_, _, go131 _ (Jvm.RoadKit.retOut X90 hx Bd.returns rfl (Or.inl ⟨rfl, Or.inr (Or.inl rfl), _, rfl⟩) (hb hby at_174) hr), hrun, hended, _, _, rfl, ?_, hRW.1, hRW.2.1, hRW.2.2.1, hRW.2.2.2.mono (by decide) (by decide)⟩
      show Q0 _ _ q0 q1 q2 q3 q4 p5 s_cache cc h0 _ (T90.setFrames fs).heap _
      have hE : (T90.setFrames fs).heap = T67.heap := e90
      rw [hE]
      exact ⟨congrArg (fun z => some (Value.int z)) ((by rw [f0, if_pos hs14, if_neg hs93] : (0 : Int32) = (f0 q0 q1 q2 q3 q4 p5)).trans (f0_one q0 q1 q2 q3 q4 p5)), N90⟩
  · have go133 : ∀ t, Steps p.tables e below (T4.setTop (mkF m 98 #[.val (.long q0), .second, .val (.long q1), .second, .val (.long q2), .second, .val (.long q3), .second, .val (.long q4), .second, .val (.int p5), .val (.long (v0_1 q0)), .second, .val (.long (v0_6 q1)), .second, .val (.long (v0_7 q2)), .second, .val (.long (b0_10 q0 q3 p5)), .second, .val (.long (v0_6 q1)), .second, .unset, .unset, .unset, .unset, .unset] [(.long (b0_22 q2 p5))])) t → Steps p.tables e below (s₁.setTop (entryFrame m #[(.long q0), (.long q1), (.long q2), (.long q3), (.long q4), (.int p5)] maxLocals)) t := by
      intro t k
      refine go13 _ ?_
      refine XS.ifNo X4.here hx rfl (hb hby at_56) rfl (XT.i0_eq_f hs14) ?_
      show Steps p.tables e below (T4.setTop (mkF m 59 #[.val (.long q0), .second, .val (.long q1), .second, .val (.long q2), .second, .val (.long q3), .second, .val (.long q4), .second, .val (.int p5), .val (.long (v0_1 q0)), .second, .val (.long (v0_6 q1)), .second, .val (.long (v0_7 q2)), .second, .val (.long (b0_10 q0 q3 p5)), .second, .unset, .unset, .unset, .unset, .unset, .unset, .unset] [])) t
      refine XS.lload X4.here hx rfl (hb hby at_59) rfl ?_
      show Steps p.tables e below (T4.setTop (mkF m 61 #[.val (.long q0), .second, .val (.long q1), .second, .val (.long q2), .second, .val (.long q3), .second, .val (.long q4), .second, .val (.int p5), .val (.long (v0_1 q0)), .second, .val (.long (v0_6 q1)), .second, .val (.long (v0_7 q2)), .second, .val (.long (b0_10 q0 q3 p5)), .second, .unset, .unset, .unset, .unset, .unset, .unset, .unset] [(.long (v0_6 q1))])) t
      refine XS.goto X4.here hx rfl (pc0 := 61) (pc' := 74) rfl (hb hby at_61) (by decide) (by decide) ?_
      show Steps p.tables e below (T4.setTop (mkF m 74 #[.val (.long q0), .second, .val (.long q1), .second, .val (.long q2), .second, .val (.long q3), .second, .val (.long q4), .second, .val (.int p5), .val (.long (v0_1 q0)), .second, .val (.long (v0_6 q1)), .second, .val (.long (v0_7 q2)), .second, .val (.long (b0_10 q0 q3 p5)), .second, .unset, .unset, .unset, .unset, .unset, .unset, .unset] [(.long (v0_6 q1))])) t
      refine XS.lstore X4.here hx rfl (hb hby at_74) rfl (l' := #[.val (.long q0), .second, .val (.long q1), .second, .val (.long q2), .second, .val (.long q3), .second, .val (.long q4), .second, .val (.int p5), .val (.long (v0_1 q0)), .second, .val (.long (v0_6 q1)), .second, .val (.long (v0_7 q2)), .second, .val (.long (b0_10 q0 q3 p5)), .second, .val (.long (v0_6 q1)), .second, .unset, .unset, .unset, .unset, .unset]) rfl ?_
      show Steps p.tables e below (T4.setTop (mkF m 76 #[.val (.long q0), .second, .val (.long q1), .second, .val (.long q2), .second, .val (.long q3), .second, .val (.long q4), .second, .val (.int p5), .val (.long (v0_1 q0)), .second, .val (.long (v0_6 q1)), .second, .val (.long (v0_7 q2)), .second, .val (.long (b0_10 q0 q3 p5)), .second, .val (.long (v0_6 q1)), .second, .unset, .unset, .unset, .unset, .unset] [])) t
      refine XS.iload X4.here hx rfl (hb hby at_76) rfl ?_
      show Steps p.tables e below (T4.setTop (mkF m 78 #[.val (.long q0), .second, .val (.long q1), .second, .val (.long q2), .second, .val (.long q3), .second, .val (.long q4), .second, .val (.int p5), .val (.long (v0_1 q0)), .second, .val (.long (v0_6 q1)), .second, .val (.long (v0_7 q2)), .second, .val (.long (b0_10 q0 q3 p5)), .second, .val (.long (v0_6 q1)), .second, .unset, .unset, .unset, .unset, .unset] [(.int p5)])) t
      refine XS.iconst X4.here hx rfl (hb hby at_78) ?_
      show Steps p.tables e below (T4.setTop (mkF m 79 #[.val (.long q0), .second, .val (.long q1), .second, .val (.long q2), .second, .val (.long q3), .second, .val (.long q4), .second, .val (.int p5), .val (.long (v0_1 q0)), .second, .val (.long (v0_6 q1)), .second, .val (.long (v0_7 q2)), .second, .val (.long (b0_10 q0 q3 p5)), .second, .val (.long (v0_6 q1)), .second, .unset, .unset, .unset, .unset, .unset] [(.int (4 : Int32)), (.int p5)])) t
      refine XS.iand X4.here hx rfl (hb hby at_79) rfl ?_
      show Steps p.tables e below (T4.setTop (mkF m 80 #[.val (.long q0), .second, .val (.long q1), .second, .val (.long q2), .second, .val (.long q3), .second, .val (.long q4), .second, .val (.int p5), .val (.long (v0_1 q0)), .second, .val (.long (v0_6 q1)), .second, .val (.long (v0_7 q2)), .second, .val (.long (b0_10 q0 q3 p5)), .second, .val (.long (v0_6 q1)), .second, .unset, .unset, .unset, .unset, .unset] [(.int (p5 &&& (4 : Int32)))])) t
      by_cases hc132 : (p5 &&& (4 : Int32)) = (0 : Int32)
      · refine XS.ifYes X4.here hx rfl (pc0 := 80) (pc' := 88) rfl (hb hby at_80) rfl (XT.i0_eq_t hc132) (by decide) (by decide) ?_
        show Steps p.tables e below (T4.setTop (mkF m 88 #[.val (.long q0), .second, .val (.long q1), .second, .val (.long q2), .second, .val (.long q3), .second, .val (.long q4), .second, .val (.int p5), .val (.long (v0_1 q0)), .second, .val (.long (v0_6 q1)), .second, .val (.long (v0_7 q2)), .second, .val (.long (b0_10 q0 q3 p5)), .second, .val (.long (v0_6 q1)), .second, .unset, .unset, .unset, .unset, .unset] [])) t
        refine XS.iload X4.here hx rfl (hb hby at_88) rfl ?_
        show Steps p.tables e below (T4.setTop (mkF m 90 #[.val (.long q0), .second, .val (.long q1), .second, .val (.long q2), .second, .val (.long q3), .second, .val (.long q4), .second, .val (.int p5), .val (.long (v0_1 q0)), .second, .val (.long (v0_6 q1)), .second, .val (.long (v0_7 q2)), .second, .val (.long (b0_10 q0 q3 p5)), .second, .val (.long (v0_6 q1)), .second, .unset, .unset, .unset, .unset, .unset] [(.int p5)])) t
        refine XS.iconst X4.here hx rfl (hb hby at_90) ?_
        show Steps p.tables e below (T4.setTop (mkF m 91 #[.val (.long q0), .second, .val (.long q1), .second, .val (.long q2), .second, .val (.long q3), .second, .val (.long q4), .second, .val (.int p5), .val (.long (v0_1 q0)), .second, .val (.long (v0_6 q1)), .second, .val (.long (v0_7 q2)), .second, .val (.long (b0_10 q0 q3 p5)), .second, .val (.long (v0_6 q1)), .second, .unset, .unset, .unset, .unset, .unset] [(.int (3 : Int32)), (.int p5)])) t
        refine XS.iushr X4.here hx rfl (hb hby at_91) rfl ?_
        show Steps p.tables e below (T4.setTop (mkF m 92 #[.val (.long q0), .second, .val (.long q1), .second, .val (.long q2), .second, .val (.long q3), .second, .val (.long q4), .second, .val (.int p5), .val (.long (v0_1 q0)), .second, .val (.long (v0_6 q1)), .second, .val (.long (v0_7 q2)), .second, .val (.long (b0_10 q0 q3 p5)), .second, .val (.long (v0_6 q1)), .second, .unset, .unset, .unset, .unset, .unset] [(.int ((p5.toUInt32 >>> ((3 : Int32) &&& 31).toUInt32).toInt32))])) t
        refine X4.ldcInt hx hown (mvT hZ (hw _ (List.mem_of_getElem? (i := 6) rfl))) (g := (mkF m 92 #[.val (.long q0), .second, .val (.long q1), .second, .val (.long q2), .second, .val (.long q3), .second, .val (.long q4), .second, .val (.int p5), .val (.long (v0_1 q0)), .second, .val (.long (v0_6 q1)), .second, .val (.long (v0_7 q2)), .second, .val (.long (b0_10 q0 q3 p5)), .second, .val (.long (v0_6 q1)), .second, .unset, .unset, .unset, .unset, .unset] [(.int ((p5.toUInt32 >>> ((3 : Int32) &&& 31).toUInt32).toInt32))])) rfl (hb hby at_92) _ ?_
        show Steps p.tables e below (T4.setTop (mkF m 94 #[.val (.long q0), .second, .val (.long q1), .second, .val (.long q2), .second, .val (.long q3), .second, .val (.long q4), .second, .val (.int p5), .val (.long (v0_1 q0)), .second, .val (.long (v0_6 q1)), .second, .val (.long (v0_7 q2)), .second, .val (.long (b0_10 q0 q3 p5)), .second, .val (.long (v0_6 q1)), .second, .unset, .unset, .unset, .unset, .unset] [(.int (67108863 : Int32)), (.int ((p5.toUInt32 >>> ((3 : Int32) &&& 31).toUInt32).toInt32))])) t
        refine XS.iand X4.here hx rfl (hb hby at_94) rfl ?_
        show Steps p.tables e below (T4.setTop (mkF m 95 #[.val (.long q0), .second, .val (.long q1), .second, .val (.long q2), .second, .val (.long q3), .second, .val (.long q4), .second, .val (.int p5), .val (.long (v0_1 q0)), .second, .val (.long (v0_6 q1)), .second, .val (.long (v0_7 q2)), .second, .val (.long (b0_10 q0 q3 p5)), .second, .val (.long (v0_6 q1)), .second, .unset, .unset, .unset, .unset, .unset] [(.int (((p5.toUInt32 >>> ((3 : Int32) &&& 31).toUInt32).toInt32) &&& (67108863 : Int32)))])) t
        refine XS.i2l X4.here hx rfl (hb hby at_95) rfl ?_
        show Steps p.tables e below (T4.setTop (mkF m 96 #[.val (.long q0), .second, .val (.long q1), .second, .val (.long q2), .second, .val (.long q3), .second, .val (.long q4), .second, .val (.int p5), .val (.long (v0_1 q0)), .second, .val (.long (v0_6 q1)), .second, .val (.long (v0_7 q2)), .second, .val (.long (b0_10 q0 q3 p5)), .second, .val (.long (v0_6 q1)), .second, .unset, .unset, .unset, .unset, .unset] [(.long (((p5.toUInt32 >>> ((3 : Int32) &&& 31).toUInt32).toInt32) &&& (67108863 : Int32)).toInt64)])) t
        refine XS.lconst X4.here hx rfl (hb hby at_96) ?_
        show Steps p.tables e below (T4.setTop (mkF m 97 #[.val (.long q0), .second, .val (.long q1), .second, .val (.long q2), .second, .val (.long q3), .second, .val (.long q4), .second, .val (.int p5), .val (.long (v0_1 q0)), .second, .val (.long (v0_6 q1)), .second, .val (.long (v0_7 q2)), .second, .val (.long (b0_10 q0 q3 p5)), .second, .val (.long (v0_6 q1)), .second, .unset, .unset, .unset, .unset, .unset] [(.long (1 : Int64)), (.long (((p5.toUInt32 >>> ((3 : Int32) &&& 31).toUInt32).toInt32) &&& (67108863 : Int32)).toInt64)])) t
        refine XS.ladd X4.here hx rfl (hb hby at_97) rfl ?_
        show Steps p.tables e below (T4.setTop (mkF m 98 #[.val (.long q0), .second, .val (.long q1), .second, .val (.long q2), .second, .val (.long q3), .second, .val (.long q4), .second, .val (.int p5), .val (.long (v0_1 q0)), .second, .val (.long (v0_6 q1)), .second, .val (.long (v0_7 q2)), .second, .val (.long (b0_10 q0 q3 p5)), .second, .val (.long (v0_6 q1)), .second, .unset, .unset, .unset, .unset, .unset] [(.long ((((p5.toUInt32 >>> ((3 : Int32) &&& 31).toUInt32).toInt32) &&& (67108863 : Int32)).toInt64 + (1 : Int64)))])) t
        have hq134 : (b0_22 q2 p5) = ((((p5.toUInt32 >>> ((3 : Int32) &&& 31).toUInt32).toInt32) &&& (67108863 : Int32)).toInt64 + (1 : Int64)) := by rw [b0_22, if_pos hc132]
        rw [hq134] at k
        exact k
      · refine XS.ifNo X4.here hx rfl (hb hby at_80) rfl (XT.i0_eq_f hc132) ?_
        show Steps p.tables e below (T4.setTop (mkF m 83 #[.val (.long q0), .second, .val (.long q1), .second, .val (.long q2), .second, .val (.long q3), .second, .val (.long q4), .second, .val (.int p5), .val (.long (v0_1 q0)), .second, .val (.long (v0_6 q1)), .second, .val (.long (v0_7 q2)), .second, .val (.long (b0_10 q0 q3 p5)), .second, .val (.long (v0_6 q1)), .second, .unset, .unset, .unset, .unset, .unset] [])) t
        refine XS.lload X4.here hx rfl (hb hby at_83) rfl ?_
        show Steps p.tables e below (T4.setTop (mkF m 85 #[.val (.long q0), .second, .val (.long q1), .second, .val (.long q2), .second, .val (.long q3), .second, .val (.long q4), .second, .val (.int p5), .val (.long (v0_1 q0)), .second, .val (.long (v0_6 q1)), .second, .val (.long (v0_7 q2)), .second, .val (.long (b0_10 q0 q3 p5)), .second, .val (.long (v0_6 q1)), .second, .unset, .unset, .unset, .unset, .unset] [(.long (v0_7 q2))])) t
        refine XS.goto X4.here hx rfl (pc0 := 85) (pc' := 98) rfl (hb hby at_85) (by decide) (by decide) ?_
        show Steps p.tables e below (T4.setTop (mkF m 98 #[.val (.long q0), .second, .val (.long q1), .second, .val (.long q2), .second, .val (.long q3), .second, .val (.long q4), .second, .val (.int p5), .val (.long (v0_1 q0)), .second, .val (.long (v0_6 q1)), .second, .val (.long (v0_7 q2)), .second, .val (.long (b0_10 q0 q3 p5)), .second, .val (.long (v0_6 q1)), .second, .unset, .unset, .unset, .unset, .unset] [(.long (v0_7 q2))])) t
        have hq135 : (b0_22 q2 p5) = (v0_7 q2) := by rw [b0_22, if_neg hc132]
        rw [hq135] at k
        exact k
    have go136 : ∀ t, Steps p.tables e below (T4.setTop (mkF m 100 #[.val (.long q0), .second, .val (.long q1), .second, .val (.long q2), .second, .val (.long q3), .second, .val (.long q4), .second, .val (.int p5), .val (.long (v0_1 q0)), .second, .val (.long (v0_6 q1)), .second, .val (.long (v0_7 q2)), .second, .val (.long (b0_10 q0 q3 p5)), .second, .val (.long (v0_6 q1)), .second, .val (.long (b0_22 q2 p5)), .second, .unset, .unset, .unset] [])) t → Steps p.tables e below (s₁.setTop (entryFrame m #[(.long q0), (.long q1), (.long q2), (.long q3), (.long q4), (.int p5)] maxLocals)) t := by
      intro t k
      refine go133 _ ?_
      refine XS.lstore X4.here hx rfl (hb hby at_98) rfl (l' := #[.val (.long q0), .second, .val (.long q1), .second, .val (.long q2), .second, .val (.long q3), .second, .val (.long q4), .second, .val (.int p5), .val (.long (v0_1 q0)), .second, .val (.long (v0_6 q1)), .second, .val (.long (v0_7 q2)), .second, .val (.long (b0_10 q0 q3 p5)), .second, .val (.long (v0_6 q1)), .second, .val (.long (b0_22 q2 p5)), .second, .unset, .unset, .unset]) rfl ?_
      show Steps p.tables e below (T4.setTop (mkF m 100 #[.val (.long q0), .second, .val (.long q1), .second, .val (.long q2), .second, .val (.long q3), .second, .val (.long q4), .second, .val (.int p5), .val (.long (v0_1 q0)), .second, .val (.long (v0_6 q1)), .second, .val (.long (v0_7 q2)), .second, .val (.long (b0_10 q0 q3 p5)), .second, .val (.long (v0_6 q1)), .second, .val (.long (b0_22 q2 p5)), .second, .unset, .unset, .unset] [])) t
      exact k
    obtain ⟨T137, h137, X137, e137, E137, A137, D137, -, st137⟩ := newO X4 hx hZ hown (hw _ (List.mem_of_getElem? (i := 7) rfl)) (hw _ (List.mem_of_getElem? (i := 8) rfl)) (hw _ (List.mem_of_getElem? (i := 9) rfl)) e4 (g := (mkF m 100 #[.val (.long q0), .second, .val (.long q1), .second, .val (.long q2), .second, .val (.long q3), .second, .val (.long q4), .second, .val (.int p5), .val (.long (v0_1 q0)), .second, .val (.long (v0_6 q1)), .second, .val (.long (v0_7 q2)), .second, .val (.long (b0_10 q0 q3 p5)), .second, .val (.long (v0_6 q1)), .second, .val (.long (b0_22 q2 p5)), .second, .unset, .unset, .unset] [])) rfl (hb hby at_100) (by decide) (by decide)
    obtain ⟨b137, g137⟩ : ∃ z, z = h0.size := ⟨_, rfl⟩
    rw [← g137] at A137 D137 st137
    have ne138 : s_cache ≠ b137 := Nat.ne_of_lt (Nat.lt_of_lt_of_le A_cache.lt (Nat.le_of_eq g137.symm))
    have low137 : n0 ≤ b137 := Nat.le_trans Z0 (Nat.le_of_eq g137.symm)
    have fsh137 : h0.size ≤ b137 := Nat.le_trans K0.1 (Nat.le_of_eq g137.symm)
    have K137 : Keep h0 h137 [] := K0.ext E137
    have Zs137 : n0 ≤ h137.size := Nat.le_trans Z0 E137.1
    have hk137 : s.heap.size ≤ h137.size := Nat.le_trans hk0 E137.1
    have go139 : ∀ t, Steps p.tables e below (T137.setTop (mkF m 103 #[.val (.long q0), .second, .val (.long q1), .second, .val (.long q2), .second, .val (.long q3), .second, .val (.long q4), .second, .val (.int p5), .val (.long (v0_1 q0)), .second, .val (.long (v0_6 q1)), .second, .val (.long (v0_7 q2)), .second, .val (.long (b0_10 q0 q3 p5)), .second, .val (.long (v0_6 q1)), .second, .val (.long (b0_22 q2 p5)), .second, .unset, .unset, .unset] [(.ref b137)])) t → Steps p.tables e below (s₁.setTop (entryFrame m #[(.long q0), (.long q1), (.long q2), (.long q3), (.long q4), (.int p5)] maxLocals)) t := fun t k => go136 _ (st137 _ k)
    have F140 : Sta Z h137 "java/lang/Long$LongCache" "cache" "[Ljava/lang/Long;" (.ref s_cache) := S_cache.ext E137
    have F141 : Arr Z h137 s_cache cc (.object "java/lang/Long") := A_cache.ext E137
    have F142 : LCache Z h137 cc := C_cache.ext E137
    have F143 : Fld Z h137 b137 "com/example/weir/weir/TokenBucket" "capacity" "J" (.long (0 : Int64)) := D137 (Or.inr (hw _ (List.mem_of_getElem? (i := 34) rfl))) (ty := .long) (by decide)
    have F144 : Fld Z h137 b137 "com/example/weir/weir/TokenBucket" "refillTokens" "J" (.long (0 : Int64)) := D137 (Or.inr (hw _ (List.mem_of_getElem? (i := 36) rfl))) (ty := .long) (by decide)
    have F145 : Fld Z h137 b137 "com/example/weir/weir/TokenBucket" "refillPeriodMillis" "J" (.long (0 : Int64)) := D137 (Or.inr (hw _ (List.mem_of_getElem? (i := 38) rfl))) (ty := .long) (by decide)
    have F146 : Fld Z h137 b137 "com/example/weir/weir/TokenBucket" "partsPerToken" "J" (.long (0 : Int64)) := D137 (Or.inr (hw _ (List.mem_of_getElem? (i := 40) rfl))) (ty := .long) (by decide)
    have F147 : Fld Z h137 b137 "com/example/weir/weir/TokenBucket" "partsPerMilli" "J" (.long (0 : Int64)) := D137 (Or.inr (hw _ (List.mem_of_getElem? (i := 42) rfl))) (ty := .long) (by decide)
    have F148 : Fld Z h137 b137 "com/example/weir/weir/TokenBucket" "fullLevel" "J" (.long (0 : Int64)) := D137 (Or.inr (hw _ (List.mem_of_getElem? (i := 44) rfl))) (ty := .long) (by decide)
    have go149 : ∀ t, Steps p.tables e below (T137.setTop (mkF m 110 #[.val (.long q0), .second, .val (.long q1), .second, .val (.long q2), .second, .val (.long q3), .second, .val (.long q4), .second, .val (.int p5), .val (.long (v0_1 q0)), .second, .val (.long (v0_6 q1)), .second, .val (.long (v0_7 q2)), .second, .val (.long (b0_10 q0 q3 p5)), .second, .val (.long (v0_6 q1)), .second, .val (.long (b0_22 q2 p5)), .second, .unset, .unset, .unset] [(.long (v0_7 q2)), (.long (v0_6 q1)), (.long (v0_1 q0)), (.ref b137), (.ref b137)])) t → Steps p.tables e below (s₁.setTop (entryFrame m #[(.long q0), (.long q1), (.long q2), (.long q3), (.long q4), (.int p5)] maxLocals)) t := by
      intro t k
      refine go139 _ ?_
      refine XS.dup X137.here hx rfl (hb hby at_103) rfl rfl ?_
      show Steps p.tables e below (T137.setTop (mkF m 104 #[.val (.long q0), .second, .val (.long q1), .second, .val (.long q2), .second, .val (.long q3), .second, .val (.long q4), .second, .val (.int p5), .val (.long (v0_1 q0)), .second, .val (.long (v0_6 q1)), .second, .val (.long (v0_7 q2)), .second, .val (.long (b0_10 q0 q3 p5)), .second, .val (.long (v0_6 q1)), .second, .val (.long (b0_22 q2 p5)), .second, .unset, .unset, .unset] [(.ref b137), (.ref b137)])) t
      refine XS.lload X137.here hx rfl (hb hby at_104) rfl ?_
      show Steps p.tables e below (T137.setTop (mkF m 106 #[.val (.long q0), .second, .val (.long q1), .second, .val (.long q2), .second, .val (.long q3), .second, .val (.long q4), .second, .val (.int p5), .val (.long (v0_1 q0)), .second, .val (.long (v0_6 q1)), .second, .val (.long (v0_7 q2)), .second, .val (.long (b0_10 q0 q3 p5)), .second, .val (.long (v0_6 q1)), .second, .val (.long (b0_22 q2 p5)), .second, .unset, .unset, .unset] [(.long (v0_1 q0)), (.ref b137), (.ref b137)])) t
      refine XS.lload X137.here hx rfl (hb hby at_106) rfl ?_
      show Steps p.tables e below (T137.setTop (mkF m 108 #[.val (.long q0), .second, .val (.long q1), .second, .val (.long q2), .second, .val (.long q3), .second, .val (.long q4), .second, .val (.int p5), .val (.long (v0_1 q0)), .second, .val (.long (v0_6 q1)), .second, .val (.long (v0_7 q2)), .second, .val (.long (b0_10 q0 q3 p5)), .second, .val (.long (v0_6 q1)), .second, .val (.long (b0_22 q2 p5)), .second, .unset, .unset, .unset] [(.long (v0_6 q1)), (.long (v0_1 q0)), (.ref b137), (.ref b137)])) t
      refine XS.lload X137.here hx rfl (hb hby at_108) rfl ?_
      show Steps p.tables e below (T137.setTop (mkF m 110 #[.val (.long q0), .second, .val (.long q1), .second, .val (.long q2), .second, .val (.long q3), .second, .val (.long q4), .second, .val (.int p5), .val (.long (v0_1 q0)), .second, .val (.long (v0_6 q1)), .second, .val (.long (v0_7 q2)), .second, .val (.long (b0_10 q0 q3 p5)), .second, .val (.long (v0_6 q1)), .second, .val (.long (b0_22 q2 p5)), .second, .unset, .unset, .unset] [(.long (v0_7 q2)), (.long (v0_6 q1)), (.long (v0_1 q0)), (.ref b137), (.ref b137)])) t
      exact k
    obtain ⟨_, _, ⟨T150, L150, k150, n150⟩, -, X150q, hS150q, hg150, ⟨Lc150, hQ150, l150, y150, z150⟩, st150⟩ := X137.specialBackS hx (y := (⟨"com/example/weir/weir/TokenBucket", "<init>", "(JJJ)V"⟩ : MethodName)) rfl hown (mvT hZ (hw _ (List.mem_of_getElem? (i := 10) rfl))) (mvT hZ (hw _ (List.mem_of_getElem? (i := 11) rfl))) (mvT hZ (hw _ (List.mem_of_getElem? (i := 12) rfl))) (by decide) (backOfS (W := 1) (rm2 l Z aZ hw [] b137 (v0_1 q0) (v0_6 q1) (v0_7 q2) (.long (0 : Int64)) (.long (0 : Int64)) (.long (0 : Int64)) (.long (0 : Int64)) (.long (0 : Int64)) (.long (0 : Int64)) h137 n0 Zs137 A137 F143 F144 F145 F146 F147 F148 low137 (own_c1 q0).1 (own_r1 q1) (own_c1 q2).1 (own_c1 q0).2 (own_c1 q2).2) hZ (hw _ (List.mem_of_getElem? (i := 12) rfl)) (hw _ (List.mem_of_getElem? (i := 9) rfl)) (by decide) (by decide)) (g := (mkF m 110 #[.val (.long q0), .second, .val (.long q1), .second, .val (.long q2), .second, .val (.long q3), .second, .val (.long q4), .second, .val (.int p5), .val (.long (v0_1 q0)), .second, .val (.long (v0_6 q1)), .second, .val (.long (v0_7 q2)), .second, .val (.long (b0_10 q0 q3 p5)), .second, .val (.long (v0_6 q1)), .second, .val (.long (b0_22 q2 p5)), .second, .unset, .unset, .unset] [(.long (v0_7 q2)), (.long (v0_6 q1)), (.long (v0_1 q0)), (.ref b137), (.ref b137)])) rfl (by rw [hml]; rfl) (Steps.refl _) (a := b137) (argsL := [(.long (v0_1 q0)), (.long (v0_6 q1)), (.long (v0_7 q2))]) (rest := [(.ref b137)]) (lenOf pd_157 rfl) rfl (by show 2 * 0 + _ ≤ _; exact Nat.le_of_eq rfl) (hb hby at_110) (fun _ _ => ⟨rfl, e137, (by decide : 1 + 6 ≤ _), (by decide : 6 + 164 ≤ _)⟩)
    dsimp only [Pt.U, Pt.locs, Pt.cells, Pt.slots] at X150q hS150q hg150 l150 y150 z150 st150 hQ150
    subst l150 y150 z150
    have hk150q : s.heap.size ≤ T137.heap.size := by rw [e137]; exact hk137
    obtain ⟨X150, hS150, hZ150, hown150⟩ := rebS hS0 hk150q X150q hS150q hg150 hZ hown
    have hk150r : T150.heap.size ≤ T150.heap.size := Nat.le_refl _
    obtain ⟨rfl, N150q, K150q, G150_0, G150_1, G150_2, G150_3, G150_4, G150_5, G150_6⟩ := hQ150
    have N150 := Fr.app N4 N150q
    have K150 : Keep h0 T150.heap [] := K137.trans K150q (allS (Or.inr fsh137) all0)
    have Zs150 : n0 ≤ T150.heap.size := Nat.le_trans Zs137 K150q.1
    have hk150 : s.heap.size ≤ T150.heap.size := Nat.le_trans hk137 K150q.1
    have F151 : Sta Z T150.heap "java/lang/Long$LongCache" "cache" "[Ljava/lang/Long;" (.ref s_cache) := own_sta_keep F140 K150q (allS (own_exa_ns A137) all0)
    have F152 : Arr Z T150.heap s_cache cc (.object "java/lang/Long") := own_arr_keep F141 K150q (ninS ne138 nin0)
    have F153 : LCache Z T150.heap cc := F142.keep K150q
    have F154 : Exa Z T150.heap b137 "com/example/weir/weir/TokenBucket" := A137.keep K150q
    have go155 : ∀ t, Steps p.tables e below (T150.setTop (mkF m 113 #[.val (.long q0), .second, .val (.long q1), .second, .val (.long q2), .second, .val (.long q3), .second, .val (.long q4), .second, .val (.int p5), .val (.long (v0_1 q0)), .second, .val (.long (v0_6 q1)), .second, .val (.long (v0_7 q2)), .second, .val (.long (b0_10 q0 q3 p5)), .second, .val (.long (v0_6 q1)), .second, .val (.long (b0_22 q2 p5)), .second, .unset, .unset, .unset] [(.ref b137)])) t → Steps p.tables e below (s₁.setTop (entryFrame m #[(.long q0), (.long q1), (.long q2), (.long q3), (.long q4), (.int p5)] maxLocals)) t := fun t k => go149 _ (st150.trans k)
    have go156 : ∀ t, Steps p.tables e below (T150.setTop (mkF m 115 #[.val (.long q0), .second, .val (.long q1), .second, .val (.long q2), .second, .val (.long q3), .second, .val (.long q4), .second, .val (.int p5), .val (.long (v0_1 q0)), .second, .val (.long (v0_6 q1)), .second, .val (.long (v0_7 q2)), .second, .val (.long (b0_10 q0 q3 p5)), .second, .val (.long (v0_6 q1)), .second, .val (.long (b0_22 q2 p5)), .second, .val (.ref b137), .unset, .unset] [])) t → Steps p.tables e below (s₁.setTop (entryFrame m #[(.long q0), (.long q1), (.long q2), (.long q3), (.long q4), (.int p5)] maxLocals)) t := by
      intro t k
      refine go155 _ ?_
      refine XS.astore X150.here hx rfl (hb hby at_113) rfl rfl (l' := #[.val (.long q0), .second, .val (.long q1), .second, .val (.long q2), .second, .val (.long q3), .second, .val (.long q4), .second, .val (.int p5), .val (.long (v0_1 q0)), .second, .val (.long (v0_6 q1)), .second, .val (.long (v0_7 q2)), .second, .val (.long (b0_10 q0 q3 p5)), .second, .val (.long (v0_6 q1)), .second, .val (.long (b0_22 q2 p5)), .second, .val (.ref b137), .unset, .unset]) rfl ?_
      show Steps p.tables e below (T150.setTop (mkF m 115 #[.val (.long q0), .second, .val (.long q1), .second, .val (.long q2), .second, .val (.long q3), .second, .val (.long q4), .second, .val (.int p5), .val (.long (v0_1 q0)), .second, .val (.long (v0_6 q1)), .second, .val (.long (v0_7 q2)), .second, .val (.long (b0_10 q0 q3 p5)), .second, .val (.long (v0_6 q1)), .second, .val (.long (b0_22 q2 p5)), .second, .val (.ref b137), .unset, .unset] [])) t
      exact k
    obtain ⟨T157, h157, X157, e157, E157, A157, D157, -, st157⟩ := newO X150 hx hZ150 hown150 (hw _ (List.mem_of_getElem? (i := 7) rfl)) (hw _ (List.mem_of_getElem? (i := 8) rfl)) (hw _ (List.mem_of_getElem? (i := 9) rfl)) rfl (g := (mkF m 115 #[.val (.long q0), .second, .val (.long q1), .second, .val (.long q2), .second, .val (.long q3), .second, .val (.long q4), .second, .val (.int p5), .val (.long (v0_1 q0)), .second, .val (.long (v0_6 q1)), .second, .val (.long (v0_7 q2)), .second, .val (.long (b0_10 q0 q3 p5)), .second, .val (.long (v0_6 q1)), .second, .val (.long (b0_22 q2 p5)), .second, .val (.ref b137), .unset, .unset] [])) rfl (hb hby at_115) (by decide) (by decide)
    obtain ⟨b157, g157⟩ : ∃ z, z = T150.heap.size := ⟨_, rfl⟩
    rw [← g157] at A157 D157 st157
    have ne158 : s_cache ≠ b157 := Nat.ne_of_lt (Nat.lt_of_lt_of_le F152.lt (Nat.le_of_eq g157.symm))
    have ne159 : b137 ≠ b157 := Nat.ne_of_lt (Nat.lt_of_lt_of_le G150_0.lt (Nat.le_of_eq g157.symm))
    have low157 : n0 ≤ b157 := Nat.le_trans Zs150 (Nat.le_of_eq g157.symm)
    have fsh157 : h0.size ≤ b157 := Nat.le_trans K150.1 (Nat.le_of_eq g157.symm)
    have K157 : Keep h0 h157 [] := K150.ext E157
    have Zs157 : n0 ≤ h157.size := Nat.le_trans Zs150 E157.1
    have hk157 : T150.heap.size ≤ h157.size := Nat.le_trans hk150r E157.1
    have go160 : ∀ t, Steps p.tables e below (T157.setTop (mkF m 118 #[.val (.long q0), .second, .val (.long q1), .second, .val (.long q2), .second, .val (.long q3), .second, .val (.long q4), .second, .val (.int p5), .val (.long (v0_1 q0)), .second, .val (.long (v0_6 q1)), .second, .val (.long (v0_7 q2)), .second, .val (.long (b0_10 q0 q3 p5)), .second, .val (.long (v0_6 q1)), .second, .val (.long (b0_22 q2 p5)), .second, .val (.ref b137), .unset, .unset] [(.ref b157)])) t → Steps p.tables e below (s₁.setTop (entryFrame m #[(.long q0), (.long q1), (.long q2), (.long q3), (.long q4), (.int p5)] maxLocals)) t := fun t k => go156 _ (st157 _ k)
    have F161 : Sta Z h157 "java/lang/Long$LongCache" "cache" "[Ljava/lang/Long;" (.ref s_cache) := F151.ext E157
    have F162 : Arr Z h157 s_cache cc (.object "java/lang/Long") := F152.ext E157
    have F163 : LCache Z h157 cc := F153.ext E157
    have F164 : Exa Z h157 b137 "com/example/weir/weir/TokenBucket" := G150_0.ext E157
    have F165 : Fld Z h157 b137 "com/example/weir/weir/TokenBucket" "capacity" "J" (.long (v0_1 q0)) := G150_1.ext E157
    have F166 : Fld Z h157 b137 "com/example/weir/weir/TokenBucket" "refillTokens" "J" (.long (v0_6 q1)) := G150_2.ext E157
    have F167 : Fld Z h157 b137 "com/example/weir/weir/TokenBucket" "refillPeriodMillis" "J" (.long (v0_7 q2)) := G150_3.ext E157
    have F168 : Fld Z h157 b137 "com/example/weir/weir/TokenBucket" "partsPerToken" "J" (.long ((v0_7 q2) / (fgcd (v0_6 q1) (v0_7 q2)))) := G150_4.ext E157
    have F169 : Fld Z h157 b137 "com/example/weir/weir/TokenBucket" "partsPerMilli" "J" (.long ((v0_6 q1) / (fgcd (v0_6 q1) (v0_7 q2)))) := G150_5.ext E157
    have F170 : Fld Z h157 b137 "com/example/weir/weir/TokenBucket" "fullLevel" "J" (.long (v2_94 (v0_1 q0) (v0_6 q1) (v0_7 q2))) := G150_6.ext E157
    have F171 : Fld Z h157 b157 "com/example/weir/weir/TokenBucket" "capacity" "J" (.long (0 : Int64)) := D157 (Or.inr (hw _ (List.mem_of_getElem? (i := 34) rfl))) (ty := .long) (by decide)
    have F172 : Fld Z h157 b157 "com/example/weir/weir/TokenBucket" "refillTokens" "J" (.long (0 : Int64)) := D157 (Or.inr (hw _ (List.mem_of_getElem? (i := 36) rfl))) (ty := .long) (by decide)
    have F173 : Fld Z h157 b157 "com/example/weir/weir/TokenBucket" "refillPeriodMillis" "J" (.long (0 : Int64)) := D157 (Or.inr (hw _ (List.mem_of_getElem? (i := 38) rfl))) (ty := .long) (by decide)
    have F174 : Fld Z h157 b157 "com/example/weir/weir/TokenBucket" "partsPerToken" "J" (.long (0 : Int64)) := D157 (Or.inr (hw _ (List.mem_of_getElem? (i := 40) rfl))) (ty := .long) (by decide)
    have F175 : Fld Z h157 b157 "com/example/weir/weir/TokenBucket" "partsPerMilli" "J" (.long (0 : Int64)) := D157 (Or.inr (hw _ (List.mem_of_getElem? (i := 42) rfl))) (ty := .long) (by decide)
    have F176 : Fld Z h157 b157 "com/example/weir/weir/TokenBucket" "fullLevel" "J" (.long (0 : Int64)) := D157 (Or.inr (hw _ (List.mem_of_getElem? (i := 44) rfl))) (ty := .long) (by decide)
    have go177 : ∀ t, Steps p.tables e below (T157.setTop (mkF m 125 #[.val (.long q0), .second, .val (.long q1), .second, .val (.long q2), .second, .val (.long q3), .second, .val (.long q4), .second, .val (.int p5), .val (.long (v0_1 q0)), .second, .val (.long (v0_6 q1)), .second, .val (.long (v0_7 q2)), .second, .val (.long (b0_10 q0 q3 p5)), .second, .val (.long (v0_6 q1)), .second, .val (.long (b0_22 q2 p5)), .second, .val (.ref b137), .unset, .unset] [(.long (b0_22 q2 p5)), (.long (v0_6 q1)), (.long (b0_10 q0 q3 p5)), (.ref b157), (.ref b157)])) t → Steps p.tables e below (s₁.setTop (entryFrame m #[(.long q0), (.long q1), (.long q2), (.long q3), (.long q4), (.int p5)] maxLocals)) t := by
      intro t k
      refine go160 _ ?_
      refine XS.dup X157.here hx rfl (hb hby at_118) rfl rfl ?_
      show Steps p.tables e below (T157.setTop (mkF m 119 #[.val (.long q0), .second, .val (.long q1), .second, .val (.long q2), .second, .val (.long q3), .second, .val (.long q4), .second, .val (.int p5), .val (.long (v0_1 q0)), .second, .val (.long (v0_6 q1)), .second, .val (.long (v0_7 q2)), .second, .val (.long (b0_10 q0 q3 p5)), .second, .val (.long (v0_6 q1)), .second, .val (.long (b0_22 q2 p5)), .second, .val (.ref b137), .unset, .unset] [(.ref b157), (.ref b157)])) t
      refine XS.lload X157.here hx rfl (hb hby at_119) rfl ?_
      show Steps p.tables e below (T157.setTop (mkF m 121 #[.val (.long q0), .second, .val (.long q1), .second, .val (.long q2), .second, .val (.long q3), .second, .val (.long q4), .second, .val (.int p5), .val (.long (v0_1 q0)), .second, .val (.long (v0_6 q1)), .second, .val (.long (v0_7 q2)), .second, .val (.long (b0_10 q0 q3 p5)), .second, .val (.long (v0_6 q1)), .second, .val (.long (b0_22 q2 p5)), .second, .val (.ref b137), .unset, .unset] [(.long (b0_10 q0 q3 p5)), (.ref b157), (.ref b157)])) t
      refine XS.lload X157.here hx rfl (hb hby at_121) rfl ?_
      show Steps p.tables e below (T157.setTop (mkF m 123 #[.val (.long q0), .second, .val (.long q1), .second, .val (.long q2), .second, .val (.long q3), .second, .val (.long q4), .second, .val (.int p5), .val (.long (v0_1 q0)), .second, .val (.long (v0_6 q1)), .second, .val (.long (v0_7 q2)), .second, .val (.long (b0_10 q0 q3 p5)), .second, .val (.long (v0_6 q1)), .second, .val (.long (b0_22 q2 p5)), .second, .val (.ref b137), .unset, .unset] [(.long (v0_6 q1)), (.long (b0_10 q0 q3 p5)), (.ref b157), (.ref b157)])) t
      refine XS.lload X157.here hx rfl (hb hby at_123) rfl ?_
      show Steps p.tables e below (T157.setTop (mkF m 125 #[.val (.long q0), .second, .val (.long q1), .second, .val (.long q2), .second, .val (.long q3), .second, .val (.long q4), .second, .val (.int p5), .val (.long (v0_1 q0)), .second, .val (.long (v0_6 q1)), .second, .val (.long (v0_7 q2)), .second, .val (.long (b0_10 q0 q3 p5)), .second, .val (.long (v0_6 q1)), .second, .val (.long (b0_22 q2 p5)), .second, .val (.ref b137), .unset, .unset] [(.long (b0_22 q2 p5)), (.long (v0_6 q1)), (.long (b0_10 q0 q3 p5)), (.ref b157), (.ref b157)])) t
      exact k
    obtain ⟨_, _, ⟨T178, L178, k178, n178⟩, -, X178q, hS178q, hg178, ⟨Lc178, hQ178, l178, y178, z178⟩, st178⟩ := X157.specialBackS hx (y := (⟨"com/example/weir/weir/TokenBucket", "<init>", "(JJJ)V"⟩ : MethodName)) rfl hown150 (mvT hZ150 (hw _ (List.mem_of_getElem? (i := 10) rfl))) (mvT hZ150 (hw _ (List.mem_of_getElem? (i := 11) rfl))) (mvT hZ150 (hw _ (List.mem_of_getElem? (i := 12) rfl))) (by decide) (backOfS (W := 1) (rm2 l Z aZ hw [] b157 (b0_10 q0 q3 p5) (v0_6 q1) (b0_22 q2 p5) (.long (0 : Int64)) (.long (0 : Int64)) (.long (0 : Int64)) (.long (0 : Int64)) (.long (0 : Int64)) (.long (0 : Int64)) h157 n0 Zs157 A157 F171 F172 F173 F174 F175 F176 low157 (by unfold b0_10; split; exact (own_c1 q3).1; exact (own_c1 q0).1) (own_r1 q1) (by unfold b0_22; split; exact (own_c2 ((p5.toUInt32 >>> ((3 : Int32) &&& 31).toUInt32).toInt32)).1; exact (own_c1 q2).1) (by unfold b0_10; split; exact (own_c1 q3).2; exact (own_c1 q0).2) (by unfold b0_22; split; exact (own_c2 ((p5.toUInt32 >>> ((3 : Int32) &&& 31).toUInt32).toInt32)).2; exact (own_c1 q2).2)) hZ150 (hw _ (List.mem_of_getElem? (i := 12) rfl)) (hw _ (List.mem_of_getElem? (i := 9) rfl)) (by decide) (by decide)) (g := (mkF m 125 #[.val (.long q0), .second, .val (.long q1), .second, .val (.long q2), .second, .val (.long q3), .second, .val (.long q4), .second, .val (.int p5), .val (.long (v0_1 q0)), .second, .val (.long (v0_6 q1)), .second, .val (.long (v0_7 q2)), .second, .val (.long (b0_10 q0 q3 p5)), .second, .val (.long (v0_6 q1)), .second, .val (.long (b0_22 q2 p5)), .second, .val (.ref b137), .unset, .unset] [(.long (b0_22 q2 p5)), (.long (v0_6 q1)), (.long (b0_10 q0 q3 p5)), (.ref b157), (.ref b157)])) rfl (by rw [hml]; rfl) (Steps.refl _) (a := b157) (argsL := [(.long (b0_10 q0 q3 p5)), (.long (v0_6 q1)), (.long (b0_22 q2 p5))]) (rest := [(.ref b157)]) (lenOf pd_157 rfl) rfl (by show 2 * 0 + _ ≤ _; exact Nat.le_of_eq rfl) (hb hby at_125) (fun _ _ => ⟨rfl, e157, (by decide : 8 + 6 ≤ _), (by decide : 176 + 164 ≤ _)⟩)
    dsimp only [Pt.U, Pt.locs, Pt.cells, Pt.slots] at X178q hS178q hg178 l178 y178 z178 st178 hQ178
    subst l178 y178 z178
    have hk178q : T150.heap.size ≤ T157.heap.size := by rw [e157]; exact hk157
    obtain ⟨X178, hS178, hZ178, hown178⟩ := rebS hS150 hk178q X178q hS178q hg178 hZ150 hown150
    have hk178r : T178.heap.size ≤ T178.heap.size := Nat.le_refl _
    obtain ⟨rfl, N178q, K178q, G178_0, G178_1, G178_2, G178_3, G178_4, G178_5, G178_6⟩ := hQ178
    have N178 := Fr.app N150 N178q
    have K178 : Keep h0 T178.heap [] := K157.trans K178q (allS (Or.inr fsh157) all0)
    have Zs178 : n0 ≤ T178.heap.size := Nat.le_trans Zs157 K178q.1
    have hk178 : T150.heap.size ≤ T178.heap.size := Nat.le_trans hk157 K178q.1
    have F179 : Sta Z T178.heap "java/lang/Long$LongCache" "cache" "[Ljava/lang/Long;" (.ref s_cache) := own_sta_keep F161 K178q (allS (own_exa_ns A157) all0)
    have F180 : Arr Z T178.heap s_cache cc (.object "java/lang/Long") := own_arr_keep F162 K178q (ninS ne158 nin0)
    have F181 : LCache Z T178.heap cc := F163.keep K178q
    have F182 : Exa Z T178.heap b137 "com/example/weir/weir/TokenBucket" := F164.keep K178q
    have F183 : Fld Z T178.heap b137 "com/example/weir/weir/TokenBucket" "capacity" "J" (.long (v0_1 q0)) := F165.keep K178q (ninS ne159 nin0)
    have F184 : Fld Z T178.heap b137 "com/example/weir/weir/TokenBucket" "refillTokens" "J" (.long (v0_6 q1)) := F166.keep K178q (ninS ne159 nin0)
    have F185 : Fld Z T178.heap b137 "com/example/weir/weir/TokenBucket" "refillPeriodMillis" "J" (.long (v0_7 q2)) := F167.keep K178q (ninS ne159 nin0)
    have F186 : Fld Z T178.heap b137 "com/example/weir/weir/TokenBucket" "partsPerToken" "J" (.long ((v0_7 q2) / (fgcd (v0_6 q1) (v0_7 q2)))) := F168.keep K178q (ninS ne159 nin0)
    have F187 : Fld Z T178.heap b137 "com/example/weir/weir/TokenBucket" "partsPerMilli" "J" (.long ((v0_6 q1) / (fgcd (v0_6 q1) (v0_7 q2)))) := F169.keep K178q (ninS ne159 nin0)
    have F188 : Fld Z T178.heap b137 "com/example/weir/weir/TokenBucket" "fullLevel" "J" (.long (v2_94 (v0_1 q0) (v0_6 q1) (v0_7 q2))) := F170.keep K178q (ninS ne159 nin0)
    have F189 : Exa Z T178.heap b157 "com/example/weir/weir/TokenBucket" := A157.keep K178q
    have go190 : ∀ t, Steps p.tables e below (T178.setTop (mkF m 128 #[.val (.long q0), .second, .val (.long q1), .second, .val (.long q2), .second, .val (.long q3), .second, .val (.long q4), .second, .val (.int p5), .val (.long (v0_1 q0)), .second, .val (.long (v0_6 q1)), .second, .val (.long (v0_7 q2)), .second, .val (.long (b0_10 q0 q3 p5)), .second, .val (.long (v0_6 q1)), .second, .val (.long (b0_22 q2 p5)), .second, .val (.ref b137), .unset, .unset] [(.ref b157)])) t → Steps p.tables e below (s₁.setTop (entryFrame m #[(.long q0), (.long q1), (.long q2), (.long q3), (.long q4), (.int p5)] maxLocals)) t := fun t k => go177 _ (st178.trans k)
    have go193 : ∀ t, Steps p.tables e below (T178.setTop (mkF m 159 #[.val (.long q0), .second, .val (.long q1), .second, .val (.long q2), .second, .val (.long q3), .second, .val (.long q4), .second, .val (.int p5), .val (.long (v0_1 q0)), .second, .val (.long (v0_6 q1)), .second, .val (.long (v0_7 q2)), .second, .val (.long (b0_10 q0 q3 p5)), .second, .val (.long (v0_6 q1)), .second, .val (.long (b0_22 q2 p5)), .second, .val (.ref b137), .val (.ref b157), .unset] [(.int (b0_194 q0 q2 q3 p5))])) t → Steps p.tables e below (s₁.setTop (entryFrame m #[(.long q0), (.long q1), (.long q2), (.long q3), (.long q4), (.int p5)] maxLocals)) t := by
      intro t k
      refine go190 _ ?_
      refine XS.astore X178.here hx rfl (hb hby at_128) rfl rfl (l' := #[.val (.long q0), .second, .val (.long q1), .second, .val (.long q2), .second, .val (.long q3), .second, .val (.long q4), .second, .val (.int p5), .val (.long (v0_1 q0)), .second, .val (.long (v0_6 q1)), .second, .val (.long (v0_7 q2)), .second, .val (.long (b0_10 q0 q3 p5)), .second, .val (.long (v0_6 q1)), .second, .val (.long (b0_22 q2 p5)), .second, .val (.ref b137), .val (.ref b157), .unset]) rfl ?_
      show Steps p.tables e below (T178.setTop (mkF m 130 #[.val (.long q0), .second, .val (.long q1), .second, .val (.long q2), .second, .val (.long q3), .second, .val (.long q4), .second, .val (.int p5), .val (.long (v0_1 q0)), .second, .val (.long (v0_6 q1)), .second, .val (.long (v0_7 q2)), .second, .val (.long (b0_10 q0 q3 p5)), .second, .val (.long (v0_6 q1)), .second, .val (.long (b0_22 q2 p5)), .second, .val (.ref b137), .val (.ref b157), .unset] [])) t
      refine XS.lload X178.here hx rfl (hb hby at_130) rfl ?_
      show Steps p.tables e below (T178.setTop (mkF m 132 #[.val (.long q0), .second, .val (.long q1), .second, .val (.long q2), .second, .val (.long q3), .second, .val (.long q4), .second, .val (.int p5), .val (.long (v0_1 q0)), .second, .val (.long (v0_6 q1)), .second, .val (.long (v0_7 q2)), .second, .val (.long (b0_10 q0 q3 p5)), .second, .val (.long (v0_6 q1)), .second, .val (.long (b0_22 q2 p5)), .second, .val (.ref b137), .val (.ref b157), .unset] [(.long (v0_1 q0))])) t
      refine XS.lload X178.here hx rfl (hb hby at_132) rfl ?_
      show Steps p.tables e below (T178.setTop (mkF m 134 #[.val (.long q0), .second, .val (.long q1), .second, .val (.long q2), .second, .val (.long q3), .second, .val (.long q4), .second, .val (.int p5), .val (.long (v0_1 q0)), .second, .val (.long (v0_6 q1)), .second, .val (.long (v0_7 q2)), .second, .val (.long (b0_10 q0 q3 p5)), .second, .val (.long (v0_6 q1)), .second, .val (.long (b0_22 q2 p5)), .second, .val (.ref b137), .val (.ref b157), .unset] [(.long (b0_10 q0 q3 p5)), (.long (v0_1 q0))])) t
      refine XT.lcmp X178.here hx rfl (hb hby at_134) rfl ?_
      show Steps p.tables e below (T178.setTop (mkF m 135 #[.val (.long q0), .second, .val (.long q1), .second, .val (.long q2), .second, .val (.long q3), .second, .val (.long q4), .second, .val (.int p5), .val (.long (v0_1 q0)), .second, .val (.long (v0_6 q1)), .second, .val (.long (v0_7 q2)), .second, .val (.long (b0_10 q0 q3 p5)), .second, .val (.long (v0_6 q1)), .second, .val (.long (b0_22 q2 p5)), .second, .val (.ref b137), .val (.ref b157), .unset] [(.int (XT.cmpL (v0_1 q0) (b0_10 q0 q3 p5)))])) t
      by_cases hc191 : (v0_1 q0) = (b0_10 q0 q3 p5)
      · refine XS.ifNo X178.here hx rfl (hb hby at_135) rfl (XT.ll_ne_f hc191) ?_
        show Steps p.tables e below (T178.setTop (mkF m 138 #[.val (.long q0), .second, .val (.long q1), .second, .val (.long q2), .second, .val (.long q3), .second, .val (.long q4), .second, .val (.int p5), .val (.long (v0_1 q0)), .second, .val (.long (v0_6 q1)), .second, .val (.long (v0_7 q2)), .second, .val (.long (b0_10 q0 q3 p5)), .second, .val (.long (v0_6 q1)), .second, .val (.long (b0_22 q2 p5)), .second, .val (.ref b137), .val (.ref b157), .unset] [])) t
        refine XS.lload X178.here hx rfl (hb hby at_138) rfl ?_
        show Steps p.tables e below (T178.setTop (mkF m 140 #[.val (.long q0), .second, .val (.long q1), .second, .val (.long q2), .second, .val (.long q3), .second, .val (.long q4), .second, .val (.int p5), .val (.long (v0_1 q0)), .second, .val (.long (v0_6 q1)), .second, .val (.long (v0_7 q2)), .second, .val (.long (b0_10 q0 q3 p5)), .second, .val (.long (v0_6 q1)), .second, .val (.long (b0_22 q2 p5)), .second, .val (.ref b137), .val (.ref b157), .unset] [(.long (v0_6 q1))])) t
        refine XS.lload X178.here hx rfl (hb hby at_140) rfl ?_
        show Steps p.tables e below (T178.setTop (mkF m 142 #[.val (.long q0), .second, .val (.long q1), .second, .val (.long q2), .second, .val (.long q3), .second, .val (.long q4), .second, .val (.int p5), .val (.long (v0_1 q0)), .second, .val (.long (v0_6 q1)), .second, .val (.long (v0_7 q2)), .second, .val (.long (b0_10 q0 q3 p5)), .second, .val (.long (v0_6 q1)), .second, .val (.long (b0_22 q2 p5)), .second, .val (.ref b137), .val (.ref b157), .unset] [(.long (v0_6 q1)), (.long (v0_6 q1))])) t
        refine XT.lcmp X178.here hx rfl (hb hby at_142) rfl ?_
        show Steps p.tables e below (T178.setTop (mkF m 143 #[.val (.long q0), .second, .val (.long q1), .second, .val (.long q2), .second, .val (.long q3), .second, .val (.long q4), .second, .val (.int p5), .val (.long (v0_1 q0)), .second, .val (.long (v0_6 q1)), .second, .val (.long (v0_7 q2)), .second, .val (.long (b0_10 q0 q3 p5)), .second, .val (.long (v0_6 q1)), .second, .val (.long (b0_22 q2 p5)), .second, .val (.ref b137), .val (.ref b157), .unset] [(.int (XT.cmpL (v0_6 q1) (v0_6 q1)))])) t
        refine XS.ifNo X178.here hx rfl (hb hby at_143) rfl (XT.ll_ne_f rfl) ?_
        show Steps p.tables e below (T178.setTop (mkF m 146 #[.val (.long q0), .second, .val (.long q1), .second, .val (.long q2), .second, .val (.long q3), .second, .val (.long q4), .second, .val (.int p5), .val (.long (v0_1 q0)), .second, .val (.long (v0_6 q1)), .second, .val (.long (v0_7 q2)), .second, .val (.long (b0_10 q0 q3 p5)), .second, .val (.long (v0_6 q1)), .second, .val (.long (b0_22 q2 p5)), .second, .val (.ref b137), .val (.ref b157), .unset] [])) t
        refine XS.lload X178.here hx rfl (hb hby at_146) rfl ?_
        show Steps p.tables e below (T178.setTop (mkF m 148 #[.val (.long q0), .second, .val (.long q1), .second, .val (.long q2), .second, .val (.long q3), .second, .val (.long q4), .second, .val (.int p5), .val (.long (v0_1 q0)), .second, .val (.long (v0_6 q1)), .second, .val (.long (v0_7 q2)), .second, .val (.long (b0_10 q0 q3 p5)), .second, .val (.long (v0_6 q1)), .second, .val (.long (b0_22 q2 p5)), .second, .val (.ref b137), .val (.ref b157), .unset] [(.long (v0_7 q2))])) t
        refine XS.lload X178.here hx rfl (hb hby at_148) rfl ?_
        show Steps p.tables e below (T178.setTop (mkF m 150 #[.val (.long q0), .second, .val (.long q1), .second, .val (.long q2), .second, .val (.long q3), .second, .val (.long q4), .second, .val (.int p5), .val (.long (v0_1 q0)), .second, .val (.long (v0_6 q1)), .second, .val (.long (v0_7 q2)), .second, .val (.long (b0_10 q0 q3 p5)), .second, .val (.long (v0_6 q1)), .second, .val (.long (b0_22 q2 p5)), .second, .val (.ref b137), .val (.ref b157), .unset] [(.long (b0_22 q2 p5)), (.long (v0_7 q2))])) t
        refine XT.lcmp X178.here hx rfl (hb hby at_150) rfl ?_
        show Steps p.tables e below (T178.setTop (mkF m 151 #[.val (.long q0), .second, .val (.long q1), .second, .val (.long q2), .second, .val (.long q3), .second, .val (.long q4), .second, .val (.int p5), .val (.long (v0_1 q0)), .second, .val (.long (v0_6 q1)), .second, .val (.long (v0_7 q2)), .second, .val (.long (b0_10 q0 q3 p5)), .second, .val (.long (v0_6 q1)), .second, .val (.long (b0_22 q2 p5)), .second, .val (.ref b137), .val (.ref b157), .unset] [(.int (XT.cmpL (v0_7 q2) (b0_22 q2 p5)))])) t
        by_cases hc192 : (v0_7 q2) = (b0_22 q2 p5)
        · refine XS.ifNo X178.here hx rfl (hb hby at_151) rfl (XT.ll_ne_f hc192) ?_
          show Steps p.tables e below (T178.setTop (mkF m 154 #[.val (.long q0), .second, .val (.long q1), .second, .val (.long q2), .second, .val (.long q3), .second, .val (.long q4), .second, .val (.int p5), .val (.long (v0_1 q0)), .second, .val (.long (v0_6 q1)), .second, .val (.long (v0_7 q2)), .second, .val (.long (b0_10 q0 q3 p5)), .second, .val (.long (v0_6 q1)), .second, .val (.long (b0_22 q2 p5)), .second, .val (.ref b137), .val (.ref b157), .unset] [])) t
          refine XS.iconst X178.here hx rfl (hb hby at_154) ?_
          show Steps p.tables e below (T178.setTop (mkF m 155 #[.val (.long q0), .second, .val (.long q1), .second, .val (.long q2), .second, .val (.long q3), .second, .val (.long q4), .second, .val (.int p5), .val (.long (v0_1 q0)), .second, .val (.long (v0_6 q1)), .second, .val (.long (v0_7 q2)), .second, .val (.long (b0_10 q0 q3 p5)), .second, .val (.long (v0_6 q1)), .second, .val (.long (b0_22 q2 p5)), .second, .val (.ref b137), .val (.ref b157), .unset] [(.int (1 : Int32))])) t
          refine XS.goto X178.here hx rfl (pc0 := 155) (pc' := 159) rfl (hb hby at_155) (by decide) (by decide) ?_
          show Steps p.tables e below (T178.setTop (mkF m 159 #[.val (.long q0), .second, .val (.long q1), .second, .val (.long q2), .second, .val (.long q3), .second, .val (.long q4), .second, .val (.int p5), .val (.long (v0_1 q0)), .second, .val (.long (v0_6 q1)), .second, .val (.long (v0_7 q2)), .second, .val (.long (b0_10 q0 q3 p5)), .second, .val (.long (v0_6 q1)), .second, .val (.long (b0_22 q2 p5)), .second, .val (.ref b137), .val (.ref b157), .unset] [(.int (1 : Int32))])) t
          have hq195 : (b0_194 q0 q2 q3 p5) = (1 : Int32) := by rw [b0_194, if_pos hc191, if_pos hc192]
          rw [hq195] at k
          exact k
        · refine XS.ifYes X178.here hx rfl (pc0 := 151) (pc' := 158) rfl (hb hby at_151) rfl (XT.ll_ne_t hc192) (by decide) (by decide) ?_
          show Steps p.tables e below (T178.setTop (mkF m 158 #[.val (.long q0), .second, .val (.long q1), .second, .val (.long q2), .second, .val (.long q3), .second, .val (.long q4), .second, .val (.int p5), .val (.long (v0_1 q0)), .second, .val (.long (v0_6 q1)), .second, .val (.long (v0_7 q2)), .second, .val (.long (b0_10 q0 q3 p5)), .second, .val (.long (v0_6 q1)), .second, .val (.long (b0_22 q2 p5)), .second, .val (.ref b137), .val (.ref b157), .unset] [])) t
          refine XS.iconst X178.here hx rfl (hb hby at_158) ?_
          show Steps p.tables e below (T178.setTop (mkF m 159 #[.val (.long q0), .second, .val (.long q1), .second, .val (.long q2), .second, .val (.long q3), .second, .val (.long q4), .second, .val (.int p5), .val (.long (v0_1 q0)), .second, .val (.long (v0_6 q1)), .second, .val (.long (v0_7 q2)), .second, .val (.long (b0_10 q0 q3 p5)), .second, .val (.long (v0_6 q1)), .second, .val (.long (b0_22 q2 p5)), .second, .val (.ref b137), .val (.ref b157), .unset] [(.int (0 : Int32))])) t
          have hq196 : (b0_194 q0 q2 q3 p5) = (0 : Int32) := by rw [b0_194, if_pos hc191, if_neg hc192]
          rw [hq196] at k
          exact k
      · refine XS.ifYes X178.here hx rfl (pc0 := 135) (pc' := 158) rfl (hb hby at_135) rfl (XT.ll_ne_t hc191) (by decide) (by decide) ?_
        show Steps p.tables e below (T178.setTop (mkF m 158 #[.val (.long q0), .second, .val (.long q1), .second, .val (.long q2), .second, .val (.long q3), .second, .val (.long q4), .second, .val (.int p5), .val (.long (v0_1 q0)), .second, .val (.long (v0_6 q1)), .second, .val (.long (v0_7 q2)), .second, .val (.long (b0_10 q0 q3 p5)), .second, .val (.long (v0_6 q1)), .second, .val (.long (b0_22 q2 p5)), .second, .val (.ref b137), .val (.ref b157), .unset] [])) t
        refine XS.iconst X178.here hx rfl (hb hby at_158) ?_
        show Steps p.tables e below (T178.setTop (mkF m 159 #[.val (.long q0), .second, .val (.long q1), .second, .val (.long q2), .second, .val (.long q3), .second, .val (.long q4), .second, .val (.int p5), .val (.long (v0_1 q0)), .second, .val (.long (v0_6 q1)), .second, .val (.long (v0_7 q2)), .second, .val (.long (b0_10 q0 q3 p5)), .second, .val (.long (v0_6 q1)), .second, .val (.long (b0_22 q2 p5)), .second, .val (.ref b137), .val (.ref b157), .unset] [(.int (0 : Int32))])) t
        have hq197 : (b0_194 q0 q2 q3 p5) = (0 : Int32) := by rw [b0_194, if_neg hc191]
        rw [hq197] at k
        exact k
    have go198 : ∀ t, Steps p.tables e below (T178.setTop (mkF m 165 #[.val (.long q0), .second, .val (.long q1), .second, .val (.long q2), .second, .val (.long q3), .second, .val (.long q4), .second, .val (.int p5), .val (.long (v0_1 q0)), .second, .val (.long (v0_6 q1)), .second, .val (.long (v0_7 q2)), .second, .val (.long (b0_10 q0 q3 p5)), .second, .val (.long (v0_6 q1)), .second, .val (.long (b0_22 q2 p5)), .second, .val (.ref b137), .val (.ref b157), .val (.int (b0_194 q0 q2 q3 p5))] [(.ref b157), (.ref b137)])) t → Steps p.tables e below (s₁.setTop (entryFrame m #[(.long q0), (.long q1), (.long q2), (.long q3), (.long q4), (.int p5)] maxLocals)) t := by
      intro t k
      refine go193 _ ?_
      refine XS.istore X178.here hx rfl (hb hby at_159) rfl (l' := #[.val (.long q0), .second, .val (.long q1), .second, .val (.long q2), .second, .val (.long q3), .second, .val (.long q4), .second, .val (.int p5), .val (.long (v0_1 q0)), .second, .val (.long (v0_6 q1)), .second, .val (.long (v0_7 q2)), .second, .val (.long (b0_10 q0 q3 p5)), .second, .val (.long (v0_6 q1)), .second, .val (.long (b0_22 q2 p5)), .second, .val (.ref b137), .val (.ref b157), .val (.int (b0_194 q0 q2 q3 p5))]) rfl ?_
      show Steps p.tables e below (T178.setTop (mkF m 161 #[.val (.long q0), .second, .val (.long q1), .second, .val (.long q2), .second, .val (.long q3), .second, .val (.long q4), .second, .val (.int p5), .val (.long (v0_1 q0)), .second, .val (.long (v0_6 q1)), .second, .val (.long (v0_7 q2)), .second, .val (.long (b0_10 q0 q3 p5)), .second, .val (.long (v0_6 q1)), .second, .val (.long (b0_22 q2 p5)), .second, .val (.ref b137), .val (.ref b157), .val (.int (b0_194 q0 q2 q3 p5))] [])) t
      refine XS.aload X178.here hx rfl (hb hby at_161) rfl rfl ?_
      show Steps p.tables e below (T178.setTop (mkF m 163 #[.val (.long q0), .second, .val (.long q1), .second, .val (.long q2), .second, .val (.long q3), .second, .val (.long q4), .second, .val (.int p5), .val (.long (v0_1 q0)), .second, .val (.long (v0_6 q1)), .second, .val (.long (v0_7 q2)), .second, .val (.long (b0_10 q0 q3 p5)), .second, .val (.long (v0_6 q1)), .second, .val (.long (b0_22 q2 p5)), .second, .val (.ref b137), .val (.ref b157), .val (.int (b0_194 q0 q2 q3 p5))] [(.ref b137)])) t
      refine XS.aload X178.here hx rfl (hb hby at_163) rfl rfl ?_
      show Steps p.tables e below (T178.setTop (mkF m 165 #[.val (.long q0), .second, .val (.long q1), .second, .val (.long q2), .second, .val (.long q3), .second, .val (.long q4), .second, .val (.int p5), .val (.long (v0_1 q0)), .second, .val (.long (v0_6 q1)), .second, .val (.long (v0_7 q2)), .second, .val (.long (b0_10 q0 q3 p5)), .second, .val (.long (v0_6 q1)), .second, .val (.long (b0_22 q2 p5)), .second, .val (.ref b137), .val (.ref b157), .val (.int (b0_194 q0 q2 q3 p5))] [(.ref b157), (.ref b137)])) t
      exact k
    obtain ⟨cq199, kq199, q199a, q199b, q199c⟩ := isOf hZ178 rfl F182
    obtain ⟨_, _, ⟨T199, L199, k199, n199⟩, -, X199, ⟨Lc199, hQ199, l199, y199, z199⟩, st199⟩ := X178.virtualBack hx (y := (⟨"com/example/weir/weir/TokenBucket", "equals", "(Ljava/lang/Object;)Z"⟩ : MethodName)) (z := (⟨"com/example/weir/weir/TokenBucket", "equals", "(Ljava/lang/Object;)Z"⟩ : MethodName)) hown178 (mvT hZ178 (hw _ (List.mem_of_getElem? (i := 45) rfl))) (mvT hZ178 (hw _ (List.mem_of_getElem? (i := 46) rfl))) (notFace_of_selects (args := #[]) (mvT hZ178 (hw _ (List.mem_of_getElem? (i := 48) rfl)))) (mvT hZ178 (hw _ (List.mem_of_getElem? (i := 48) rfl))) (mvT hZ178 (hw _ (List.mem_of_getElem? (i := 47) rfl))) (by decide) (backOf (W := 0) (rmeqW l Z aZ hw [] b137 b157 (v0_1 q0) (v0_6 q1) (v0_7 q2) (b0_10 q0 q3 p5) (v0_6 q1) (b0_22 q2 p5) T178.heap n0 Zs178 F183 F184 F185 G178_0 G178_1 G178_2 G178_3) hZ178 (hw _ (List.mem_of_getElem? (i := 49) rfl)) (hw _ (List.mem_of_getElem? (i := 9) rfl)) (by decide) (by decide)) q199a q199c (g := (mkF m 165 #[.val (.long q0), .second, .val (.long q1), .second, .val (.long q2), .second, .val (.long q3), .second, .val (.long q4), .second, .val (.int p5), .val (.long (v0_1 q0)), .second, .val (.long (v0_6 q1)), .second, .val (.long (v0_7 q2)), .second, .val (.long (b0_10 q0 q3 p5)), .second, .val (.long (v0_6 q1)), .second, .val (.long (b0_22 q2 p5)), .second, .val (.ref b137), .val (.ref b157), .val (.int (b0_194 q0 q2 q3 p5))] [(.ref b157), (.ref b137)])) rfl (by rw [hml]; rfl) (Steps.refl _) (argsL := [(.ref b157)]) (rest := []) (lenOf pd_159 rfl) rfl (by show 2 * 0 + _ ≤ _; exact Nat.le_of_eq rfl) (hb hby at_165) (fun _ _ => ⟨rfl, rfl, (by decide : 14 + 0 ≤ _), (by decide : 340 + 0 ≤ _)⟩)
    dsimp only [Pt.U, Pt.locs, Pt.cells, Pt.slots] at X199 l199 y199 z199 st199 hQ199
    subst l199 y199 z199
    obtain ⟨rfl, N199q, e199⟩ := hQ199
    have N199 := Fr.app N178 N199q
    have go200 : ∀ t, Steps p.tables e below (T199.setTop (mkF m 168 #[.val (.long q0), .second, .val (.long q1), .second, .val (.long q2), .second, .val (.long q3), .second, .val (.long q4), .second, .val (.int p5), .val (.long (v0_1 q0)), .second, .val (.long (v0_6 q1)), .second, .val (.long (v0_7 q2)), .second, .val (.long (b0_10 q0 q3 p5)), .second, .val (.long (v0_6 q1)), .second, .val (.long (b0_22 q2 p5)), .second, .val (.ref b137), .val (.ref b157), .val (.int (b0_194 q0 q2 q3 p5))] [(.int (feqW (v0_1 q0) (v0_6 q1) (v0_7 q2) (b0_10 q0 q3 p5) (v0_6 q1) (b0_22 q2 p5)))])) t → Steps p.tables e below (s₁.setTop (entryFrame m #[(.long q0), (.long q1), (.long q2), (.long q3), (.long q4), (.int p5)] maxLocals)) t := fun t k => go198 _ (st199.trans k)
    have go201 : ∀ t, Steps p.tables e below (T199.setTop (mkF m 170 #[.val (.long q0), .second, .val (.long q1), .second, .val (.long q2), .second, .val (.long q3), .second, .val (.long q4), .second, .val (.int p5), .val (.long (v0_1 q0)), .second, .val (.long (v0_6 q1)), .second, .val (.long (v0_7 q2)), .second, .val (.long (b0_10 q0 q3 p5)), .second, .val (.long (v0_6 q1)), .second, .val (.long (b0_22 q2 p5)), .second, .val (.ref b137), .val (.ref b157), .val (.int (b0_194 q0 q2 q3 p5))] [(.int (b0_194 q0 q2 q3 p5)), (.int (feqW (v0_1 q0) (v0_6 q1) (v0_7 q2) (b0_10 q0 q3 p5) (v0_6 q1) (b0_22 q2 p5)))])) t → Steps p.tables e below (s₁.setTop (entryFrame m #[(.long q0), (.long q1), (.long q2), (.long q3), (.long q4), (.int p5)] maxLocals)) t := by
      intro t k
      refine go200 _ ?_
      refine XS.iload X199.here hx rfl (hb hby at_168) rfl ?_
      show Steps p.tables e below (T199.setTop (mkF m 170 #[.val (.long q0), .second, .val (.long q1), .second, .val (.long q2), .second, .val (.long q3), .second, .val (.long q4), .second, .val (.int p5), .val (.long (v0_1 q0)), .second, .val (.long (v0_6 q1)), .second, .val (.long (v0_7 q2)), .second, .val (.long (b0_10 q0 q3 p5)), .second, .val (.long (v0_6 q1)), .second, .val (.long (b0_22 q2 p5)), .second, .val (.ref b137), .val (.ref b157), .val (.int (b0_194 q0 q2 q3 p5))] [(.int (b0_194 q0 q2 q3 p5)), (.int (feqW (v0_1 q0) (v0_6 q1) (v0_7 q2) (b0_10 q0 q3 p5) (v0_6 q1) (b0_22 q2 p5)))])) t
      exact k
    by_cases hs202 : (feqW (v0_1 q0) (v0_6 q1) (v0_7 q2) (b0_10 q0 q3 p5) (v0_6 q1) (b0_22 q2 p5)) = (b0_194 q0 q2 q3 p5)
    · have go203 : ∀ t, Steps p.tables e below (T199.setTop (mkF m 179 #[.val (.long q0), .second, .val (.long q1), .second, .val (.long q2), .second, .val (.long q3), .second, .val (.long q4), .second, .val (.int p5), .val (.long (v0_1 q0)), .second, .val (.long (v0_6 q1)), .second, .val (.long (v0_7 q2)), .second, .val (.long (b0_10 q0 q3 p5)), .second, .val (.long (v0_6 q1)), .second, .val (.long (b0_22 q2 p5)), .second, .val (.ref b137), .val (.ref b157), .val (.int (b0_194 q0 q2 q3 p5))] [(.ref b137), (.ref b157)])) t → Steps p.tables e below (s₁.setTop (entryFrame m #[(.long q0), (.long q1), (.long q2), (.long q3), (.long q4), (.int p5)] maxLocals)) t := by
        intro t k
        refine go201 _ ?_
        refine XS.icmpYes X199.here hx rfl (pc0 := 170) (pc' := 175) rfl (hb hby at_170) rfl (XT.ii_eq_t hs202) (by decide) (by decide) ?_
        show Steps p.tables e below (T199.setTop (mkF m 175 #[.val (.long q0), .second, .val (.long q1), .second, .val (.long q2), .second, .val (.long q3), .second, .val (.long q4), .second, .val (.int p5), .val (.long (v0_1 q0)), .second, .val (.long (v0_6 q1)), .second, .val (.long (v0_7 q2)), .second, .val (.long (b0_10 q0 q3 p5)), .second, .val (.long (v0_6 q1)), .second, .val (.long (b0_22 q2 p5)), .second, .val (.ref b137), .val (.ref b157), .val (.int (b0_194 q0 q2 q3 p5))] [])) t
        refine XS.aload X199.here hx rfl (hb hby at_175) rfl rfl ?_
        show Steps p.tables e below (T199.setTop (mkF m 177 #[.val (.long q0), .second, .val (.long q1), .second, .val (.long q2), .second, .val (.long q3), .second, .val (.long q4), .second, .val (.int p5), .val (.long (v0_1 q0)), .second, .val (.long (v0_6 q1)), .second, .val (.long (v0_7 q2)), .second, .val (.long (b0_10 q0 q3 p5)), .second, .val (.long (v0_6 q1)), .second, .val (.long (b0_22 q2 p5)), .second, .val (.ref b137), .val (.ref b157), .val (.int (b0_194 q0 q2 q3 p5))] [(.ref b157)])) t
        refine XS.aload X199.here hx rfl (hb hby at_177) rfl rfl ?_
        show Steps p.tables e below (T199.setTop (mkF m 179 #[.val (.long q0), .second, .val (.long q1), .second, .val (.long q2), .second, .val (.long q3), .second, .val (.long q4), .second, .val (.int p5), .val (.long (v0_1 q0)), .second, .val (.long (v0_6 q1)), .second, .val (.long (v0_7 q2)), .second, .val (.long (b0_10 q0 q3 p5)), .second, .val (.long (v0_6 q1)), .second, .val (.long (b0_22 q2 p5)), .second, .val (.ref b137), .val (.ref b157), .val (.int (b0_194 q0 q2 q3 p5))] [(.ref b137), (.ref b157)])) t
        exact k
      obtain ⟨cq204, kq204, q204a, q204b, q204c⟩ := isOf hZ178 e199 G178_0
      obtain ⟨_, _, ⟨T204, L204, k204, n204⟩, -, X204, ⟨Lc204, hQ204, l204, y204, z204⟩, st204⟩ := X199.virtualBack hx (y := (⟨"com/example/weir/weir/TokenBucket", "equals", "(Ljava/lang/Object;)Z"⟩ : MethodName)) (z := (⟨"com/example/weir/weir/TokenBucket", "equals", "(Ljava/lang/Object;)Z"⟩ : MethodName)) hown178 (mvT hZ178 (hw _ (List.mem_of_getElem? (i := 45) rfl))) (mvT hZ178 (hw _ (List.mem_of_getElem? (i := 46) rfl))) (notFace_of_selects (args := #[]) (mvT hZ178 (hw _ (List.mem_of_getElem? (i := 48) rfl)))) (mvT hZ178 (hw _ (List.mem_of_getElem? (i := 48) rfl))) (mvT hZ178 (hw _ (List.mem_of_getElem? (i := 47) rfl))) (by decide) (backOf (W := 0) (rmeqW l Z aZ hw [] b157 b137 (b0_10 q0 q3 p5) (v0_6 q1) (b0_22 q2 p5) (v0_1 q0) (v0_6 q1) (v0_7 q2) T178.heap n0 Zs178 G178_1 G178_2 G178_3 F182 F183 F184 F185) hZ178 (hw _ (List.mem_of_getElem? (i := 49) rfl)) (hw _ (List.mem_of_getElem? (i := 9) rfl)) (by decide) (by decide)) q204a q204c (g := (mkF m 179 #[.val (.long q0), .second, .val (.long q1), .second, .val (.long q2), .second, .val (.long q3), .second, .val (.long q4), .second, .val (.int p5), .val (.long (v0_1 q0)), .second, .val (.long (v0_6 q1)), .second, .val (.long (v0_7 q2)), .second, .val (.long (b0_10 q0 q3 p5)), .second, .val (.long (v0_6 q1)), .second, .val (.long (b0_22 q2 p5)), .second, .val (.ref b137), .val (.ref b157), .val (.int (b0_194 q0 q2 q3 p5))] [(.ref b137), (.ref b157)])) rfl (by rw [hml]; rfl) (Steps.refl _) (argsL := [(.ref b137)]) (rest := []) (lenOf pd_159 rfl) rfl (by show 2 * 0 + _ ≤ _; exact Nat.le_of_eq rfl) (hb hby at_179) (fun _ _ => ⟨rfl, e199, (by decide : 14 + 0 ≤ _), (by decide : 340 + 0 ≤ _)⟩)
      dsimp only [Pt.U, Pt.locs, Pt.cells, Pt.slots] at X204 l204 y204 z204 st204 hQ204
      subst l204 y204 z204
      obtain ⟨rfl, N204q, e204⟩ := hQ204
      have N204 := Fr.app N199 N204q
      have go205 : ∀ t, Steps p.tables e below (T204.setTop (mkF m 182 #[.val (.long q0), .second, .val (.long q1), .second, .val (.long q2), .second, .val (.long q3), .second, .val (.long q4), .second, .val (.int p5), .val (.long (v0_1 q0)), .second, .val (.long (v0_6 q1)), .second, .val (.long (v0_7 q2)), .second, .val (.long (b0_10 q0 q3 p5)), .second, .val (.long (v0_6 q1)), .second, .val (.long (b0_22 q2 p5)), .second, .val (.ref b137), .val (.ref b157), .val (.int (b0_194 q0 q2 q3 p5))] [(.int (feqW (b0_10 q0 q3 p5) (v0_6 q1) (b0_22 q2 p5) (v0_1 q0) (v0_6 q1) (v0_7 q2)))])) t → Steps p.tables e below (s₁.setTop (entryFrame m #[(.long q0), (.long q1), (.long q2), (.long q3), (.long q4), (.int p5)] maxLocals)) t := fun t k => go203 _ (st204.trans k)
      have go206 : ∀ t, Steps p.tables e below (T204.setTop (mkF m 184 #[.val (.long q0), .second, .val (.long q1), .second, .val (.long q2), .second, .val (.long q3), .second, .val (.long q4), .second, .val (.int p5), .val (.long (v0_1 q0)), .second, .val (.long (v0_6 q1)), .second, .val (.long (v0_7 q2)), .second, .val (.long (b0_10 q0 q3 p5)), .second, .val (.long (v0_6 q1)), .second, .val (.long (b0_22 q2 p5)), .second, .val (.ref b137), .val (.ref b157), .val (.int (b0_194 q0 q2 q3 p5))] [(.int (b0_194 q0 q2 q3 p5)), (.int (feqW (b0_10 q0 q3 p5) (v0_6 q1) (b0_22 q2 p5) (v0_1 q0) (v0_6 q1) (v0_7 q2)))])) t → Steps p.tables e below (s₁.setTop (entryFrame m #[(.long q0), (.long q1), (.long q2), (.long q3), (.long q4), (.int p5)] maxLocals)) t := by
        intro t k
        refine go205 _ ?_
        refine XS.iload X204.here hx rfl (hb hby at_182) rfl ?_
        show Steps p.tables e below (T204.setTop (mkF m 184 #[.val (.long q0), .second, .val (.long q1), .second, .val (.long q2), .second, .val (.long q3), .second, .val (.long q4), .second, .val (.int p5), .val (.long (v0_1 q0)), .second, .val (.long (v0_6 q1)), .second, .val (.long (v0_7 q2)), .second, .val (.long (b0_10 q0 q3 p5)), .second, .val (.long (v0_6 q1)), .second, .val (.long (b0_22 q2 p5)), .second, .val (.ref b137), .val (.ref b157), .val (.int (b0_194 q0 q2 q3 p5))] [(.int (b0_194 q0 q2 q3 p5)), (.int (feqW (b0_10 q0 q3 p5) (v0_6 q1) (b0_22 q2 p5) (v0_1 q0) (v0_6 q1) (v0_7 q2)))])) t
        exact k
      by_cases hs207 : (feqW (b0_10 q0 q3 p5) (v0_6 q1) (b0_22 q2 p5) (v0_1 q0) (v0_6 q1) (v0_7 q2)) = (b0_194 q0 q2 q3 p5)
      · have go208 : ∀ t, Steps p.tables e below (T204.setTop (mkF m 193 #[.val (.long q0), .second, .val (.long q1), .second, .val (.long q2), .second, .val (.long q3), .second, .val (.long q4), .second, .val (.int p5), .val (.long (v0_1 q0)), .second, .val (.long (v0_6 q1)), .second, .val (.long (v0_7 q2)), .second, .val (.long (b0_10 q0 q3 p5)), .second, .val (.long (v0_6 q1)), .second, .val (.long (b0_22 q2 p5)), .second, .val (.ref b137), .val (.ref b157), .val (.int (b0_194 q0 q2 q3 p5))] [(.ref b137), (.ref b137)])) t → Steps p.tables e below (s₁.setTop (entryFrame m #[(.long q0), (.long q1), (.long q2), (.long q3), (.long q4), (.int p5)] maxLocals)) t := by
          intro t k
          refine go206 _ ?_
          refine XS.icmpYes X204.here hx rfl (pc0 := 184) (pc' := 189) rfl (hb hby at_184) rfl (XT.ii_eq_t hs207) (by decide) (by decide) ?_
          show Steps p.tables e below (T204.setTop (mkF m 189 #[.val (.long q0), .second, .val (.long q1), .second, .val (.long q2), .second, .val (.long q3), .second, .val (.long q4), .second, .val (.int p5), .val (.long (v0_1 q0)), .second, .val (.long (v0_6 q1)), .second, .val (.long (v0_7 q2)), .second, .val (.long (b0_10 q0 q3 p5)), .second, .val (.long (v0_6 q1)), .second, .val (.long (b0_22 q2 p5)), .second, .val (.ref b137), .val (.ref b157), .val (.int (b0_194 q0 q2 q3 p5))] [])) t
          refine XS.aload X204.here hx rfl (hb hby at_189) rfl rfl ?_
          show Steps p.tables e below (T204.setTop (mkF m 191 #[.val (.long q0), .second, .val (.long q1), .second, .val (.long q2), .second, .val (.long q3), .second, .val (.long q4), .second, .val (.int p5), .val (.long (v0_1 q0)), .second, .val (.long (v0_6 q1)), .second, .val (.long (v0_7 q2)), .second, .val (.long (b0_10 q0 q3 p5)), .second, .val (.long (v0_6 q1)), .second, .val (.long (b0_22 q2 p5)), .second, .val (.ref b137), .val (.ref b157), .val (.int (b0_194 q0 q2 q3 p5))] [(.ref b137)])) t
          refine XS.aload X204.here hx rfl (hb hby at_191) rfl rfl ?_
          show Steps p.tables e below (T204.setTop (mkF m 193 #[.val (.long q0), .second, .val (.long q1), .second, .val (.long q2), .second, .val (.long q3), .second, .val (.long q4), .second, .val (.int p5), .val (.long (v0_1 q0)), .second, .val (.long (v0_6 q1)), .second, .val (.long (v0_7 q2)), .second, .val (.long (b0_10 q0 q3 p5)), .second, .val (.long (v0_6 q1)), .second, .val (.long (b0_22 q2 p5)), .second, .val (.ref b137), .val (.ref b157), .val (.int (b0_194 q0 q2 q3 p5))] [(.ref b137), (.ref b137)])) t
          exact k
        obtain ⟨cq209, kq209, q209a, q209b, q209c⟩ := isOf hZ178 e204 F182
        obtain ⟨_, _, ⟨T209, L209, k209, n209⟩, -, X209, ⟨Lc209, hQ209, l209, y209, z209⟩, st209⟩ := X204.virtualBack hx (y := (⟨"com/example/weir/weir/TokenBucket", "equals", "(Ljava/lang/Object;)Z"⟩ : MethodName)) (z := (⟨"com/example/weir/weir/TokenBucket", "equals", "(Ljava/lang/Object;)Z"⟩ : MethodName)) hown178 (mvT hZ178 (hw _ (List.mem_of_getElem? (i := 45) rfl))) (mvT hZ178 (hw _ (List.mem_of_getElem? (i := 46) rfl))) (notFace_of_selects (args := #[]) (mvT hZ178 (hw _ (List.mem_of_getElem? (i := 48) rfl)))) (mvT hZ178 (hw _ (List.mem_of_getElem? (i := 48) rfl))) (mvT hZ178 (hw _ (List.mem_of_getElem? (i := 47) rfl))) (by decide) (backOf (W := 0) (rmeqW l Z aZ hw [] b137 b137 (v0_1 q0) (v0_6 q1) (v0_7 q2) (v0_1 q0) (v0_6 q1) (v0_7 q2) T178.heap n0 Zs178 F183 F184 F185 F182 F183 F184 F185) hZ178 (hw _ (List.mem_of_getElem? (i := 49) rfl)) (hw _ (List.mem_of_getElem? (i := 9) rfl)) (by decide) (by decide)) q209a q209c (g := (mkF m 193 #[.val (.long q0), .second, .val (.long q1), .second, .val (.long q2), .second, .val (.long q3), .second, .val (.long q4), .second, .val (.int p5), .val (.long (v0_1 q0)), .second, .val (.long (v0_6 q1)), .second, .val (.long (v0_7 q2)), .second, .val (.long (b0_10 q0 q3 p5)), .second, .val (.long (v0_6 q1)), .second, .val (.long (b0_22 q2 p5)), .second, .val (.ref b137), .val (.ref b157), .val (.int (b0_194 q0 q2 q3 p5))] [(.ref b137), (.ref b137)])) rfl (by rw [hml]; rfl) (Steps.refl _) (argsL := [(.ref b137)]) (rest := []) (lenOf pd_159 rfl) rfl (by show 2 * 0 + _ ≤ _; exact Nat.le_of_eq rfl) (hb hby at_193) (fun _ _ => ⟨rfl, e204, (by decide : 14 + 0 ≤ _), (by decide : 340 + 0 ≤ _)⟩)
        dsimp only [Pt.U, Pt.locs, Pt.cells, Pt.slots] at X209 l209 y209 z209 st209 hQ209
        subst l209 y209 z209
        obtain ⟨rfl, N209q, e209⟩ := hQ209
        have N209 := Fr.app N204 N209q
        have go210 : ∀ t, Steps p.tables e below (T209.setTop (mkF m 196 #[.val (.long q0), .second, .val (.long q1), .second, .val (.long q2), .second, .val (.long q3), .second, .val (.long q4), .second, .val (.int p5), .val (.long (v0_1 q0)), .second, .val (.long (v0_6 q1)), .second, .val (.long (v0_7 q2)), .second, .val (.long (b0_10 q0 q3 p5)), .second, .val (.long (v0_6 q1)), .second, .val (.long (b0_22 q2 p5)), .second, .val (.ref b137), .val (.ref b157), .val (.int (b0_194 q0 q2 q3 p5))] [(.int (feqW (v0_1 q0) (v0_6 q1) (v0_7 q2) (v0_1 q0) (v0_6 q1) (v0_7 q2)))])) t → Steps p.tables e below (s₁.setTop (entryFrame m #[(.long q0), (.long q1), (.long q2), (.long q3), (.long q4), (.int p5)] maxLocals)) t := fun t k => go208 _ (st209.trans k)
        by_cases hs211 : (feqW (v0_1 q0) (v0_6 q1) (v0_7 q2) (v0_1 q0) (v0_6 q1) (v0_7 q2)) = (0 : Int32)
        · have go212 : ∀ t, Steps p.tables e below (T209.setTop (mkF m 200 #[.val (.long q0), .second, .val (.long q1), .second, .val (.long q2), .second, .val (.long q3), .second, .val (.long q4), .second, .val (.int p5), .val (.long (v0_1 q0)), .second, .val (.long (v0_6 q1)), .second, .val (.long (v0_7 q2)), .second, .val (.long (b0_10 q0 q3 p5)), .second, .val (.long (v0_6 q1)), .second, .val (.long (b0_22 q2 p5)), .second, .val (.ref b137), .val (.ref b157), .val (.int (b0_194 q0 q2 q3 p5))] [(.int (0 : Int32))])) t → Steps p.tables e below (s₁.setTop (entryFrame m #[(.long q0), (.long q1), (.long q2), (.long q3), (.long q4), (.int p5)] maxLocals)) t := by
            intro t k
            refine go210 _ ?_
            refine XS.ifNo X209.here hx rfl (hb hby at_196) rfl (XT.i0_ne_f hs211) ?_
            show Steps p.tables e below (T209.setTop (mkF m 199 #[.val (.long q0), .second, .val (.long q1), .second, .val (.long q2), .second, .val (.long q3), .second, .val (.long q4), .second, .val (.int p5), .val (.long (v0_1 q0)), .second, .val (.long (v0_6 q1)), .second, .val (.long (v0_7 q2)), .second, .val (.long (b0_10 q0 q3 p5)), .second, .val (.long (v0_6 q1)), .second, .val (.long (b0_22 q2 p5)), .second, .val (.ref b137), .val (.ref b157), .val (.int (b0_194 q0 q2 q3 p5))] [])) t
            refine XS.iconst X209.here hx rfl (hb hby at_199) ?_
            show Steps p.tables e below (T209.setTop (mkF m 200 #[.val (.long q0), .second, .val (.long q1), .second, .val (.long q2), .second, .val (.long q3), .second, .val (.long q4), .second, .val (.int p5), .val (.long (v0_1 q0)), .second, .val (.long (v0_6 q1)), .second, .val (.long (v0_7 q2)), .second, .val (.long (b0_10 q0 q3 p5)), .second, .val (.long (v0_6 q1)), .second, .val (.long (b0_22 q2 p5)), .second, .val (.ref b137), .val (.ref b157), .val (.int (b0_194 q0 q2 q3 p5))] [(.int (0 : Int32))])) t
            exact k
          obtain ⟨fs, hr, hrun, hended, hRW⟩ := X209.leaveW hS178 (by rw [e209]; exact hk178r) (v := some (.int (0 : Int32))) (fun h => by rw [Bd.returns] at h; cases h)
          refine ⟨_, _, go212 _ (Jvm.RoadKit.retOut X209 hx Bd.returns rfl (Or.inl ⟨rfl, Or.inr (Or.inl rfl), _, rfl⟩) (hb hby at_200) hr), hrun, hended, _, _, rfl, ?_, hRW.1, hRW.2.1, hRW.2.2.1, hRW.2.2.2.mono (by decide) (by decide)⟩
          show Q0 _ _ q0 q1 q2 q3 q4 p5 s_cache cc h0 _ (T209.setFrames fs).heap _
          have hE : (T209.setFrames fs).heap = T178.heap := e209
          rw [hE]
          exact ⟨congrArg (fun z => some (Value.int z)) ((by rw [f0, if_neg hs14, if_pos hs202, if_pos hs207, if_pos hs211] : (0 : Int32) = (f0 q0 q1 q2 q3 q4 p5)).trans (f0_one q0 q1 q2 q3 q4 p5)), N209⟩
        · have go213 : ∀ t, Steps p.tables e below (T209.setTop (mkF m 204 #[.val (.long q0), .second, .val (.long q1), .second, .val (.long q2), .second, .val (.long q3), .second, .val (.long q4), .second, .val (.int p5), .val (.long (v0_1 q0)), .second, .val (.long (v0_6 q1)), .second, .val (.long (v0_7 q2)), .second, .val (.long (b0_10 q0 q3 p5)), .second, .val (.long (v0_6 q1)), .second, .val (.long (b0_22 q2 p5)), .second, .val (.ref b137), .val (.ref b157), .val (.int (b0_194 q0 q2 q3 p5))] [.null, (.ref b137)])) t → Steps p.tables e below (s₁.setTop (entryFrame m #[(.long q0), (.long q1), (.long q2), (.long q3), (.long q4), (.int p5)] maxLocals)) t := by
            intro t k
            refine go210 _ ?_
            refine XS.ifYes X209.here hx rfl (pc0 := 196) (pc' := 201) rfl (hb hby at_196) rfl (XT.i0_ne_t hs211) (by decide) (by decide) ?_
            show Steps p.tables e below (T209.setTop (mkF m 201 #[.val (.long q0), .second, .val (.long q1), .second, .val (.long q2), .second, .val (.long q3), .second, .val (.long q4), .second, .val (.int p5), .val (.long (v0_1 q0)), .second, .val (.long (v0_6 q1)), .second, .val (.long (v0_7 q2)), .second, .val (.long (b0_10 q0 q3 p5)), .second, .val (.long (v0_6 q1)), .second, .val (.long (b0_22 q2 p5)), .second, .val (.ref b137), .val (.ref b157), .val (.int (b0_194 q0 q2 q3 p5))] [])) t
            refine XS.aload X209.here hx rfl (hb hby at_201) rfl rfl ?_
            show Steps p.tables e below (T209.setTop (mkF m 203 #[.val (.long q0), .second, .val (.long q1), .second, .val (.long q2), .second, .val (.long q3), .second, .val (.long q4), .second, .val (.int p5), .val (.long (v0_1 q0)), .second, .val (.long (v0_6 q1)), .second, .val (.long (v0_7 q2)), .second, .val (.long (b0_10 q0 q3 p5)), .second, .val (.long (v0_6 q1)), .second, .val (.long (b0_22 q2 p5)), .second, .val (.ref b137), .val (.ref b157), .val (.int (b0_194 q0 q2 q3 p5))] [(.ref b137)])) t
            refine XS.aconstNull X209.here hx rfl (hb hby at_203) ?_
            show Steps p.tables e below (T209.setTop (mkF m 204 #[.val (.long q0), .second, .val (.long q1), .second, .val (.long q2), .second, .val (.long q3), .second, .val (.long q4), .second, .val (.int p5), .val (.long (v0_1 q0)), .second, .val (.long (v0_6 q1)), .second, .val (.long (v0_7 q2)), .second, .val (.long (b0_10 q0 q3 p5)), .second, .val (.long (v0_6 q1)), .second, .val (.long (b0_22 q2 p5)), .second, .val (.ref b137), .val (.ref b157), .val (.int (b0_194 q0 q2 q3 p5))] [.null, (.ref b137)])) t
            exact k
          obtain ⟨cq214, kq214, q214a, q214b, q214c⟩ := isOf hZ178 e209 F182
          obtain ⟨_, _, ⟨T214, L214, k214, n214⟩, -, X214, ⟨Lc214, hQ214, l214, y214, z214⟩, st214⟩ := X209.virtualBack hx (y := (⟨"com/example/weir/weir/TokenBucket", "equals", "(Ljava/lang/Object;)Z"⟩ : MethodName)) (z := (⟨"com/example/weir/weir/TokenBucket", "equals", "(Ljava/lang/Object;)Z"⟩ : MethodName)) hown178 (mvT hZ178 (hw _ (List.mem_of_getElem? (i := 45) rfl))) (mvT hZ178 (hw _ (List.mem_of_getElem? (i := 46) rfl))) (notFace_of_selects (args := #[]) (mvT hZ178 (hw _ (List.mem_of_getElem? (i := 48) rfl)))) (mvT hZ178 (hw _ (List.mem_of_getElem? (i := 48) rfl))) (mvT hZ178 (hw _ (List.mem_of_getElem? (i := 47) rfl))) (by decide) (backOf (W := 0) (rmeqN l Z aZ hw [] b137 T178.heap n0 Zs178 ) hZ178 (hw _ (List.mem_of_getElem? (i := 49) rfl)) (hw _ (List.mem_of_getElem? (i := 9) rfl)) (by decide) (by decide)) q214a q214c (g := (mkF m 204 #[.val (.long q0), .second, .val (.long q1), .second, .val (.long q2), .second, .val (.long q3), .second, .val (.long q4), .second, .val (.int p5), .val (.long (v0_1 q0)), .second, .val (.long (v0_6 q1)), .second, .val (.long (v0_7 q2)), .second, .val (.long (b0_10 q0 q3 p5)), .second, .val (.long (v0_6 q1)), .second, .val (.long (b0_22 q2 p5)), .second, .val (.ref b137), .val (.ref b157), .val (.int (b0_194 q0 q2 q3 p5))] [.null, (.ref b137)])) rfl (by rw [hml]; rfl) (Steps.refl _) (argsL := [.null]) (rest := []) (lenOf pd_159 rfl) rfl (by show 2 * 0 + _ ≤ _; exact Nat.le_of_eq rfl) (hb hby at_204) (fun _ _ => ⟨rfl, e209, (by decide : 14 + 0 ≤ _), (by decide : 340 + 0 ≤ _)⟩)
          dsimp only [Pt.U, Pt.locs, Pt.cells, Pt.slots] at X214 l214 y214 z214 st214 hQ214
          subst l214 y214 z214
          obtain ⟨rfl, N214q, e214⟩ := hQ214
          have N214 := Fr.app N209 N214q
          have go215 : ∀ t, Steps p.tables e below (T214.setTop (mkF m 207 #[.val (.long q0), .second, .val (.long q1), .second, .val (.long q2), .second, .val (.long q3), .second, .val (.long q4), .second, .val (.int p5), .val (.long (v0_1 q0)), .second, .val (.long (v0_6 q1)), .second, .val (.long (v0_7 q2)), .second, .val (.long (b0_10 q0 q3 p5)), .second, .val (.long (v0_6 q1)), .second, .val (.long (b0_22 q2 p5)), .second, .val (.ref b137), .val (.ref b157), .val (.int (b0_194 q0 q2 q3 p5))] [(.int (0 : Int32))])) t → Steps p.tables e below (s₁.setTop (entryFrame m #[(.long q0), (.long q1), (.long q2), (.long q3), (.long q4), (.int p5)] maxLocals)) t := fun t k => go213 _ (st214.trans k)
          have go216 : ∀ t, Steps p.tables e below (T214.setTop (mkF m 216 #[.val (.long q0), .second, .val (.long q1), .second, .val (.long q2), .second, .val (.long q3), .second, .val (.long q4), .second, .val (.int p5), .val (.long (v0_1 q0)), .second, .val (.long (v0_6 q1)), .second, .val (.long (v0_7 q2)), .second, .val (.long (b0_10 q0 q3 p5)), .second, .val (.long (v0_6 q1)), .second, .val (.long (b0_22 q2 p5)), .second, .val (.ref b137), .val (.ref b157), .val (.int (b0_194 q0 q2 q3 p5))] [(.long (v0_1 q0)), (.ref b137)])) t → Steps p.tables e below (s₁.setTop (entryFrame m #[(.long q0), (.long q1), (.long q2), (.long q3), (.long q4), (.int p5)] maxLocals)) t := by
            intro t k
            refine go215 _ ?_
            refine XS.ifYes X214.here hx rfl (pc0 := 207) (pc' := 212) rfl (hb hby at_207) rfl (XT.i0_eq_t (by decide : ((0 : Int32) = (0 : Int32)))) (by decide) (by decide) ?_
            show Steps p.tables e below (T214.setTop (mkF m 212 #[.val (.long q0), .second, .val (.long q1), .second, .val (.long q2), .second, .val (.long q3), .second, .val (.long q4), .second, .val (.int p5), .val (.long (v0_1 q0)), .second, .val (.long (v0_6 q1)), .second, .val (.long (v0_7 q2)), .second, .val (.long (b0_10 q0 q3 p5)), .second, .val (.long (v0_6 q1)), .second, .val (.long (b0_22 q2 p5)), .second, .val (.ref b137), .val (.ref b157), .val (.int (b0_194 q0 q2 q3 p5))] [])) t
            refine XS.aload X214.here hx rfl (hb hby at_212) rfl rfl ?_
            show Steps p.tables e below (T214.setTop (mkF m 214 #[.val (.long q0), .second, .val (.long q1), .second, .val (.long q2), .second, .val (.long q3), .second, .val (.long q4), .second, .val (.int p5), .val (.long (v0_1 q0)), .second, .val (.long (v0_6 q1)), .second, .val (.long (v0_7 q2)), .second, .val (.long (b0_10 q0 q3 p5)), .second, .val (.long (v0_6 q1)), .second, .val (.long (b0_22 q2 p5)), .second, .val (.ref b137), .val (.ref b157), .val (.int (b0_194 q0 q2 q3 p5))] [(.ref b137)])) t
            refine XS.lload X214.here hx rfl (hb hby at_214) rfl ?_
            show Steps p.tables e below (T214.setTop (mkF m 216 #[.val (.long q0), .second, .val (.long q1), .second, .val (.long q2), .second, .val (.long q3), .second, .val (.long q4), .second, .val (.int p5), .val (.long (v0_1 q0)), .second, .val (.long (v0_6 q1)), .second, .val (.long (v0_7 q2)), .second, .val (.long (b0_10 q0 q3 p5)), .second, .val (.long (v0_6 q1)), .second, .val (.long (b0_22 q2 p5)), .second, .val (.ref b137), .val (.ref b157), .val (.int (b0_194 q0 q2 q3 p5))] [(.long (v0_1 q0)), (.ref b137)])) t
            exact k
          obtain ⟨_, _, ⟨T217, L217, k217, n217⟩, -, X217, ⟨Lc217, hQ217, l217, y217, z217⟩, st217⟩ := Jvm.LawKit.callS X214 hx (y := (⟨"java/lang/Long", "valueOf", "(J)Ljava/lang/Long;"⟩ : MethodName)) hown178 (mvT hZ178 (hw _ (List.mem_of_getElem? (i := 52) rfl))) (mvT hZ178 (hw _ (List.mem_of_getElem? (i := 53) rfl))) (mvT hZ178 (hw _ (List.mem_of_getElem? (i := 54) rfl))) (mvT hZ178 (hw _ (List.mem_of_getElem? (i := 55) rfl))) (by decide) (backOf (W := 1) (rm7 l Z aZ hw [] (v0_1 q0) s_cache cc T178.heap n0 Zs178 F179 F180 Sz_cache F181) hZ178 (hw _ (List.mem_of_getElem? (i := 55) rfl)) (hw _ (List.mem_of_getElem? (i := 54) rfl)) (by decide) (by decide)) (g := (mkF m 216 #[.val (.long q0), .second, .val (.long q1), .second, .val (.long q2), .second, .val (.long q3), .second, .val (.long q4), .second, .val (.int p5), .val (.long (v0_1 q0)), .second, .val (.long (v0_6 q1)), .second, .val (.long (v0_7 q2)), .second, .val (.long (b0_10 q0 q3 p5)), .second, .val (.long (v0_6 q1)), .second, .val (.long (b0_22 q2 p5)), .second, .val (.ref b137), .val (.ref b157), .val (.int (b0_194 q0 q2 q3 p5))] [(.long (v0_1 q0)), (.ref b137)])) rfl (by rw [hml]; rfl) (argsL := [(.long (v0_1 q0))]) (rest := [(.ref b137)]) (lenOf pd_160 rfl) rfl (by show 2 * 0 + _ ≤ _; exact Nat.le_of_eq rfl) (hb hby at_216) (fun _ _ => ⟨rfl, e214, (by decide : 14 + 1 ≤ _), (by decide : 340 + 1 ≤ _)⟩)
          dsimp only [Pt.U, Pt.locs, Pt.cells, Pt.slots] at X217 l217 y217 z217 st217 hQ217
          subst l217 y217 z217
          obtain ⟨b217, rfl, N217q, K217q, G217⟩ := hQ217
          have N217 := Fr.app N214 N217q
          have K217 : Keep h0 T217.heap [] := K178.trans K217q all0
          have Zs217 : n0 ≤ T217.heap.size := Nat.le_trans Zs178 K217q.1
          have hk217 : T178.heap.size ≤ T217.heap.size := Nat.le_trans hk178r K217q.1
          have F218 : Sta Z T217.heap "java/lang/Long$LongCache" "cache" "[Ljava/lang/Long;" (.ref s_cache) := own_sta_keep F179 K217q all0
          have F219 : Arr Z T217.heap s_cache cc (.object "java/lang/Long") := own_arr_keep F180 K217q nin0
          have F220 : LCache Z T217.heap cc := F181.keep K217q
          have F221 : Exa Z T217.heap b137 "com/example/weir/weir/TokenBucket" := F182.keep K217q
          have F222 : Fld Z T217.heap b137 "com/example/weir/weir/TokenBucket" "capacity" "J" (.long (v0_1 q0)) := F183.keep K217q nin0
          have F223 : Fld Z T217.heap b137 "com/example/weir/weir/TokenBucket" "refillTokens" "J" (.long (v0_6 q1)) := F184.keep K217q nin0
          have F224 : Fld Z T217.heap b137 "com/example/weir/weir/TokenBucket" "refillPeriodMillis" "J" (.long (v0_7 q2)) := F185.keep K217q nin0
          have F225 : Fld Z T217.heap b137 "com/example/weir/weir/TokenBucket" "partsPerToken" "J" (.long ((v0_7 q2) / (fgcd (v0_6 q1) (v0_7 q2)))) := F186.keep K217q nin0
          have F226 : Fld Z T217.heap b137 "com/example/weir/weir/TokenBucket" "partsPerMilli" "J" (.long ((v0_6 q1) / (fgcd (v0_6 q1) (v0_7 q2)))) := F187.keep K217q nin0
          have F227 : Fld Z T217.heap b137 "com/example/weir/weir/TokenBucket" "fullLevel" "J" (.long (v2_94 (v0_1 q0) (v0_6 q1) (v0_7 q2))) := F188.keep K217q nin0
          have F228 : Exa Z T217.heap b157 "com/example/weir/weir/TokenBucket" := G178_0.keep K217q
          have F229 : Fld Z T217.heap b157 "com/example/weir/weir/TokenBucket" "capacity" "J" (.long (b0_10 q0 q3 p5)) := G178_1.keep K217q nin0
          have F230 : Fld Z T217.heap b157 "com/example/weir/weir/TokenBucket" "refillTokens" "J" (.long (v0_6 q1)) := G178_2.keep K217q nin0
          have F231 : Fld Z T217.heap b157 "com/example/weir/weir/TokenBucket" "refillPeriodMillis" "J" (.long (b0_22 q2 p5)) := G178_3.keep K217q nin0
          have F232 : Fld Z T217.heap b157 "com/example/weir/weir/TokenBucket" "partsPerToken" "J" (.long ((b0_22 q2 p5) / (fgcd (v0_6 q1) (b0_22 q2 p5)))) := G178_4.keep K217q nin0
          have F233 : Fld Z T217.heap b157 "com/example/weir/weir/TokenBucket" "partsPerMilli" "J" (.long ((v0_6 q1) / (fgcd (v0_6 q1) (b0_22 q2 p5)))) := G178_5.keep K217q nin0
          have F234 : Fld Z T217.heap b157 "com/example/weir/weir/TokenBucket" "fullLevel" "J" (.long (v2_94 (b0_10 q0 q3 p5) (v0_6 q1) (b0_22 q2 p5))) := G178_6.keep K217q nin0
          have go235 : ∀ t, Steps p.tables e below (T217.setTop (mkF m 219 #[.val (.long q0), .second, .val (.long q1), .second, .val (.long q2), .second, .val (.long q3), .second, .val (.long q4), .second, .val (.int p5), .val (.long (v0_1 q0)), .second, .val (.long (v0_6 q1)), .second, .val (.long (v0_7 q2)), .second, .val (.long (b0_10 q0 q3 p5)), .second, .val (.long (v0_6 q1)), .second, .val (.long (b0_22 q2 p5)), .second, .val (.ref b137), .val (.ref b157), .val (.int (b0_194 q0 q2 q3 p5))] [(.ref b217), (.ref b137)])) t → Steps p.tables e below (s₁.setTop (entryFrame m #[(.long q0), (.long q1), (.long q2), (.long q3), (.long q4), (.int p5)] maxLocals)) t := fun t k => go216 _ (st217 _ k)
          obtain ⟨cq236, kq236, q236a, q236b, q236c⟩ := isOf hZ178 rfl F221
          obtain ⟨_, _, ⟨T236, L236, k236, n236⟩, -, X236, ⟨Lc236, hQ236, l236, y236, z236⟩, st236⟩ := X217.virtualBack hx (y := (⟨"com/example/weir/weir/TokenBucket", "equals", "(Ljava/lang/Object;)Z"⟩ : MethodName)) (z := (⟨"com/example/weir/weir/TokenBucket", "equals", "(Ljava/lang/Object;)Z"⟩ : MethodName)) hown178 (mvT hZ178 (hw _ (List.mem_of_getElem? (i := 45) rfl))) (mvT hZ178 (hw _ (List.mem_of_getElem? (i := 46) rfl))) (notFace_of_selects (args := #[]) (mvT hZ178 (hw _ (List.mem_of_getElem? (i := 48) rfl)))) (mvT hZ178 (hw _ (List.mem_of_getElem? (i := 48) rfl))) (mvT hZ178 (hw _ (List.mem_of_getElem? (i := 47) rfl))) (by decide) (backOf (W := 0) (rmeqL l Z aZ hw [] b137 b217 T217.heap n0 Zs217 G217 hno) hZ178 (hw _ (List.mem_of_getElem? (i := 49) rfl)) (hw _ (List.mem_of_getElem? (i := 9) rfl)) (by decide) (by decide)) q236a q236c (g := (mkF m 219 #[.val (.long q0), .second, .val (.long q1), .second, .val (.long q2), .second, .val (.long q3), .second, .val (.long q4), .second, .val (.int p5), .val (.long (v0_1 q0)), .second, .val (.long (v0_6 q1)), .second, .val (.long (v0_7 q2)), .second, .val (.long (b0_10 q0 q3 p5)), .second, .val (.long (v0_6 q1)), .second, .val (.long (b0_22 q2 p5)), .second, .val (.ref b137), .val (.ref b157), .val (.int (b0_194 q0 q2 q3 p5))] [(.ref b217), (.ref b137)])) rfl (by rw [hml]; rfl) (Steps.refl _) (argsL := [(.ref b217)]) (rest := []) (lenOf pd_159 rfl) rfl (by show 2 * 0 + _ ≤ _; exact Nat.le_of_eq rfl) (hb hby at_219) (fun _ _ => ⟨rfl, rfl, (by decide : 15 + 0 ≤ _), (by decide : 341 + 0 ≤ _)⟩)
          dsimp only [Pt.U, Pt.locs, Pt.cells, Pt.slots] at X236 l236 y236 z236 st236 hQ236
          subst l236 y236 z236
          obtain ⟨rfl, N236q, e236⟩ := hQ236
          have N236 := Fr.app N217 N236q
          have go237 : ∀ t, Steps p.tables e below (T236.setTop (mkF m 222 #[.val (.long q0), .second, .val (.long q1), .second, .val (.long q2), .second, .val (.long q3), .second, .val (.long q4), .second, .val (.int p5), .val (.long (v0_1 q0)), .second, .val (.long (v0_6 q1)), .second, .val (.long (v0_7 q2)), .second, .val (.long (b0_10 q0 q3 p5)), .second, .val (.long (v0_6 q1)), .second, .val (.long (b0_22 q2 p5)), .second, .val (.ref b137), .val (.ref b157), .val (.int (b0_194 q0 q2 q3 p5))] [(.int (0 : Int32))])) t → Steps p.tables e below (s₁.setTop (entryFrame m #[(.long q0), (.long q1), (.long q2), (.long q3), (.long q4), (.int p5)] maxLocals)) t := fun t k => go235 _ (st236.trans k)
          have go238 : ∀ t, Steps p.tables e below (T236.setTop (mkF m 228 #[.val (.long q0), .second, .val (.long q1), .second, .val (.long q2), .second, .val (.long q3), .second, .val (.long q4), .second, .val (.int p5), .val (.long (v0_1 q0)), .second, .val (.long (v0_6 q1)), .second, .val (.long (v0_7 q2)), .second, .val (.long (b0_10 q0 q3 p5)), .second, .val (.long (v0_6 q1)), .second, .val (.long (b0_22 q2 p5)), .second, .val (.ref b137), .val (.ref b157), .val (.int (b0_194 q0 q2 q3 p5))] [(.int (1 : Int32))])) t → Steps p.tables e below (s₁.setTop (entryFrame m #[(.long q0), (.long q1), (.long q2), (.long q3), (.long q4), (.int p5)] maxLocals)) t := by
            intro t k
            refine go237 _ ?_
            refine XS.ifYes X236.here hx rfl (pc0 := 222) (pc' := 227) rfl (hb hby at_222) rfl (XT.i0_eq_t (by decide : ((0 : Int32) = (0 : Int32)))) (by decide) (by decide) ?_
            show Steps p.tables e below (T236.setTop (mkF m 227 #[.val (.long q0), .second, .val (.long q1), .second, .val (.long q2), .second, .val (.long q3), .second, .val (.long q4), .second, .val (.int p5), .val (.long (v0_1 q0)), .second, .val (.long (v0_6 q1)), .second, .val (.long (v0_7 q2)), .second, .val (.long (b0_10 q0 q3 p5)), .second, .val (.long (v0_6 q1)), .second, .val (.long (b0_22 q2 p5)), .second, .val (.ref b137), .val (.ref b157), .val (.int (b0_194 q0 q2 q3 p5))] [])) t
            refine XS.iconst X236.here hx rfl (hb hby at_227) ?_
            show Steps p.tables e below (T236.setTop (mkF m 228 #[.val (.long q0), .second, .val (.long q1), .second, .val (.long q2), .second, .val (.long q3), .second, .val (.long q4), .second, .val (.int p5), .val (.long (v0_1 q0)), .second, .val (.long (v0_6 q1)), .second, .val (.long (v0_7 q2)), .second, .val (.long (b0_10 q0 q3 p5)), .second, .val (.long (v0_6 q1)), .second, .val (.long (b0_22 q2 p5)), .second, .val (.ref b137), .val (.ref b157), .val (.int (b0_194 q0 q2 q3 p5))] [(.int (1 : Int32))])) t
            exact k
          obtain ⟨fs, hr, hrun, hended, hRW⟩ := X236.leaveW hS178 (by rw [e236]; exact hk217) (v := some (.int (1 : Int32))) (fun h => by rw [Bd.returns] at h; cases h)
          refine ⟨_, _, go238 _ (Jvm.RoadKit.retOut X236 hx Bd.returns rfl (Or.inl ⟨rfl, Or.inr (Or.inl rfl), _, rfl⟩) (hb hby at_228) hr), hrun, hended, _, _, rfl, ?_, hRW.1, hRW.2.1, hRW.2.2.1, hRW.2.2.2.mono (by decide) (by decide)⟩
          show Q0 _ _ q0 q1 q2 q3 q4 p5 s_cache cc h0 _ (T236.setFrames fs).heap _
          have hE : (T236.setFrames fs).heap = T217.heap := e236
          rw [hE]
          exact ⟨congrArg (fun z => some (Value.int z)) ((by rw [f0, if_neg hs14, if_pos hs202, if_pos hs207, if_neg hs211] : (1 : Int32) = (f0 q0 q1 q2 q3 q4 p5)).trans (f0_one q0 q1 q2 q3 q4 p5)), N236⟩
      · have go239 : ∀ t, Steps p.tables e below (T204.setTop (mkF m 188 #[.val (.long q0), .second, .val (.long q1), .second, .val (.long q2), .second, .val (.long q3), .second, .val (.long q4), .second, .val (.int p5), .val (.long (v0_1 q0)), .second, .val (.long (v0_6 q1)), .second, .val (.long (v0_7 q2)), .second, .val (.long (b0_10 q0 q3 p5)), .second, .val (.long (v0_6 q1)), .second, .val (.long (b0_22 q2 p5)), .second, .val (.ref b137), .val (.ref b157), .val (.int (b0_194 q0 q2 q3 p5))] [(.int (0 : Int32))])) t → Steps p.tables e below (s₁.setTop (entryFrame m #[(.long q0), (.long q1), (.long q2), (.long q3), (.long q4), (.int p5)] maxLocals)) t := by
          intro t k
          refine go206 _ ?_
          refine XS.icmpNo X204.here hx rfl (hb hby at_184) rfl (XT.ii_eq_f hs207) ?_
          show Steps p.tables e below (T204.setTop (mkF m 187 #[.val (.long q0), .second, .val (.long q1), .second, .val (.long q2), .second, .val (.long q3), .second, .val (.long q4), .second, .val (.int p5), .val (.long (v0_1 q0)), .second, .val (.long (v0_6 q1)), .second, .val (.long (v0_7 q2)), .second, .val (.long (b0_10 q0 q3 p5)), .second, .val (.long (v0_6 q1)), .second, .val (.long (b0_22 q2 p5)), .second, .val (.ref b137), .val (.ref b157), .val (.int (b0_194 q0 q2 q3 p5))] [])) t
          refine XS.iconst X204.here hx rfl (hb hby at_187) ?_
          show Steps p.tables e below (T204.setTop (mkF m 188 #[.val (.long q0), .second, .val (.long q1), .second, .val (.long q2), .second, .val (.long q3), .second, .val (.long q4), .second, .val (.int p5), .val (.long (v0_1 q0)), .second, .val (.long (v0_6 q1)), .second, .val (.long (v0_7 q2)), .second, .val (.long (b0_10 q0 q3 p5)), .second, .val (.long (v0_6 q1)), .second, .val (.long (b0_22 q2 p5)), .second, .val (.ref b137), .val (.ref b157), .val (.int (b0_194 q0 q2 q3 p5))] [(.int (0 : Int32))])) t
          exact k
        obtain ⟨fs, hr, hrun, hended, hRW⟩ := X204.leaveW hS178 (by rw [e204]; exact hk178r) (v := some (.int (0 : Int32))) (fun h => by rw [Bd.returns] at h; cases h)
        refine ⟨_, _, go239 _ (Jvm.RoadKit.retOut X204 hx Bd.returns rfl (Or.inl ⟨rfl, Or.inr (Or.inl rfl), _, rfl⟩) (hb hby at_188) hr), hrun, hended, _, _, rfl, ?_, hRW.1, hRW.2.1, hRW.2.2.1, hRW.2.2.2.mono (by decide) (by decide)⟩
        show Q0 _ _ q0 q1 q2 q3 q4 p5 s_cache cc h0 _ (T204.setFrames fs).heap _
        have hE : (T204.setFrames fs).heap = T178.heap := e204
        rw [hE]
        exact ⟨congrArg (fun z => some (Value.int z)) ((by rw [f0, if_neg hs14, if_pos hs202, if_neg hs207] : (0 : Int32) = (f0 q0 q1 q2 q3 q4 p5)).trans (f0_one q0 q1 q2 q3 q4 p5)), N204⟩
    · have go240 : ∀ t, Steps p.tables e below (T199.setTop (mkF m 174 #[.val (.long q0), .second, .val (.long q1), .second, .val (.long q2), .second, .val (.long q3), .second, .val (.long q4), .second, .val (.int p5), .val (.long (v0_1 q0)), .second, .val (.long (v0_6 q1)), .second, .val (.long (v0_7 q2)), .second, .val (.long (b0_10 q0 q3 p5)), .second, .val (.long (v0_6 q1)), .second, .val (.long (b0_22 q2 p5)), .second, .val (.ref b137), .val (.ref b157), .val (.int (b0_194 q0 q2 q3 p5))] [(.int (0 : Int32))])) t → Steps p.tables e below (s₁.setTop (entryFrame m #[(.long q0), (.long q1), (.long q2), (.long q3), (.long q4), (.int p5)] maxLocals)) t := by
        intro t k
        refine go201 _ ?_
        refine XS.icmpNo X199.here hx rfl (hb hby at_170) rfl (XT.ii_eq_f hs202) ?_
        show Steps p.tables e below (T199.setTop (mkF m 173 #[.val (.long q0), .second, .val (.long q1), .second, .val (.long q2), .second, .val (.long q3), .second, .val (.long q4), .second, .val (.int p5), .val (.long (v0_1 q0)), .second, .val (.long (v0_6 q1)), .second, .val (.long (v0_7 q2)), .second, .val (.long (b0_10 q0 q3 p5)), .second, .val (.long (v0_6 q1)), .second, .val (.long (b0_22 q2 p5)), .second, .val (.ref b137), .val (.ref b157), .val (.int (b0_194 q0 q2 q3 p5))] [])) t
        refine XS.iconst X199.here hx rfl (hb hby at_173) ?_
        show Steps p.tables e below (T199.setTop (mkF m 174 #[.val (.long q0), .second, .val (.long q1), .second, .val (.long q2), .second, .val (.long q3), .second, .val (.long q4), .second, .val (.int p5), .val (.long (v0_1 q0)), .second, .val (.long (v0_6 q1)), .second, .val (.long (v0_7 q2)), .second, .val (.long (b0_10 q0 q3 p5)), .second, .val (.long (v0_6 q1)), .second, .val (.long (b0_22 q2 p5)), .second, .val (.ref b137), .val (.ref b157), .val (.int (b0_194 q0 q2 q3 p5))] [(.int (0 : Int32))])) t
        exact k
      obtain ⟨fs, hr, hrun, hended, hRW⟩ := X199.leaveW hS178 (by rw [e199]; exact hk178r) (v := some (.int (0 : Int32))) (fun h => by rw [Bd.returns] at h; cases h)
      refine ⟨_, _, go240 _ (Jvm.RoadKit.retOut X199 hx Bd.returns rfl (Or.inl ⟨rfl, Or.inr (Or.inl rfl), _, rfl⟩) (hb hby at_174) hr), hrun, hended, _, _, rfl, ?_, hRW.1, hRW.2.1, hRW.2.2.1, hRW.2.2.2.mono (by decide) (by decide)⟩
      show Q0 _ _ q0 q1 q2 q3 q4 p5 s_cache cc h0 _ (T199.setFrames fs).heap _
      have hE : (T199.setFrames fs).heap = T178.heap := e199
      rw [hE]
      exact ⟨congrArg (fun z => some (Value.int z)) ((by rw [f0, if_neg hs14, if_neg hs202] : (0 : Int32) = (f0 q0 q1 q2 q3 q4 p5)).trans (f0_one q0 q1 q2 q3 q4 p5)), N199⟩
set_option maxRecDepth 65536 in
set_option maxHeartbeats 40000000 in
theorem comes_1 {Post : Tables → Env → Array Value → State → Outcome → State → Prop} (hpost : ∀ tb e args s v u, (limb_1_1.after args s (.returned v) u = true ∧ limb_1_2.after args s (.returned v) u = true ∧ True) → ReturnedEndW s (.returned v) u (Jvm.fieldLocs frame_1_writes args s ++ Jvm.arrayLocs frame_1_arrays args s ++ Jvm.staticLocs frame_1_statics s) 24 3200 → Post tb e args s (.returned v) u) :
    ArmFor flags0 classFile x code maxLocals ret World_1 tables_1 room_1 Calls_1 rest_1 Pre_1 Post := by
  intro l hfl _ _ p e ha hc hk s m args below hf hA hF happ hP
  obtain ⟨hcalls, hrest, hpre⟩ := hP
  obtain ⟨-, -, -, hnamed, -, -, -, hat⟩ := (Spec.applies_iff hf).mp happ
  obtain ⟨hg, hn⟩ := and_e (Cond.before_iff.mp (show (Jvm.Cond.and given_1 narrow_1).before args s = true from hpre))
  obtain ⟨hcount, hg1⟩ := and_e hg
  obtain ⟨ha0, hb0⟩ := and_e hg1
  obtain ⟨ha1, hb1⟩ := and_e hb0
  obtain ⟨ha2, hb2⟩ := and_e hb1
  obtain ⟨ha3, hb3⟩ := and_e hb2
  obtain ⟨ha4, hb4⟩ := and_e hb3
  obtain ⟨w0, w1, w2, w3, w4, w5, rfl⟩ : ∃ w0 w1 w2 w3 w4 w5 : Value, args = #[w0, w1, w2, w3, w4, w5] := by
    have hs : args.size = 6 := by simpa [Cond.value, given_1] using hcount
    obtain ⟨L⟩ := args
    match L, hs with
    | [w0, w1, w2, w3, w4, w5], _ => exact ⟨w0, w1, w2, w3, w4, w5, rfl⟩
  have hw := fun d (hd : d ∈ tables_1) => atoms_spec (ws := Jvm.Cond.code x code maxLocals ret :: tables_1) hat d (List.mem_cons_of_mem _ hd)
  have hfit : Fit s := fun {y c} hc i hi => by
    obtain ⟨ha, rfl⟩ := Array.getElem?_eq_some_iff.mp hc
    have q := List.all_eq_true.mp ((Array.all_eq_true_iff_forall_mem.mp hF) _ (Array.getElem_mem ha)) i (List.mem_range.mpr hi)
    simpa [Array.getElem?_eq_getElem hi] using q
  obtain ⟨hsets, hown0⟩ := atoms_of _ (rest_1_c_eq ▸ (show rest_1_c.before _ s = true from hrest))
  have hr0 := Cond.before_iff.mp hown0
  obtain ⟨i0, ei0⟩ := isL_v ha0
  obtain rfl : w0 = (.long i0) := Option.some.inj ei0
  obtain ⟨i1, ei1⟩ := isL_v ha1
  obtain rfl : w1 = (.long i1) := Option.some.inj ei1
  obtain ⟨i2, ei2⟩ := isL_v ha2
  obtain rfl : w2 = (.long i2) := Option.some.inj ei2
  obtain ⟨i3, ei3⟩ := isL_v ha3
  obtain rfl : w3 = (.long i3) := Option.some.inj ei3
  obtain ⟨i4, ei4⟩ := isL_v ha4
  obtain rfl : w4 = (.long i4) := Option.some.inj ei4
  obtain ⟨i5, ei5⟩ := is_v hb4
  obtain rfl : w5 = (.int i5) := Option.some.inj ei5
  obtain ⟨xc, evc⟩ := arr_v (Cond.before_iff.mp (hsets _ (List.mem_of_getElem? (i := 2) rfl)))
  obtain ⟨cc, A_cache⟩ := Arr.start evc (Cond.before_iff.mp (hsets _ (List.mem_of_getElem? (i := 2) rfl)))
  obtain ⟨ltc, lec⟩ := own_len (own_eqi (Cond.before_iff.mp (hsets _ (List.mem_of_getElem? (i := 4) rfl)))) evc A_cache
  have Sz_cache : cc.slots.size = 256 := by
    have q := congrArg Int32.toInt lec
    rw [len_toInt ltc] at q
    have q2 : (256 : Int32).toInt = 256 := rfl
    omega
  have S_cache : Sta s s.heap "java/lang/Long$LongCache" "cache" "[Ljava/lang/Long;" (.ref xc) := Sta.start evc (Or.inl (hsets _ (List.mem_of_getElem? (i := 1) rfl)))
  have C_cache : LCache s s.heap cc := own_cache evc A_cache (fun _ => rfl) ltc (Cond.before_iff.mp (hsets _ (List.mem_of_getElem? (i := 5) rfl)))
  have hno : ∃ c t, s.vm.findClass "java/lang/Long" = some c ∧ s.vm.findClass "com/example/weir/weir/TokenBucket" = some t ∧ s.vm.assignable c t = false := own_ns_no (hw _ (List.mem_of_getElem? (i := 60) rfl)) (hw _ (List.mem_of_getElem? (i := 8) rfl)) (NS.step (hw _ (List.mem_of_getElem? (i := 60) rfl)) (NS.step (hw _ (List.mem_of_getElem? (i := 61) rfl)) (own_ns_root (hw _ (List.mem_of_getElem? (i := 62) rfl)) (hw _ (List.mem_of_getElem? (i := 8) rfl)) (by decide)) (by decide)) (by decide)) (by decide)
  obtain ⟨n, o, h1, h2, h3, _, L, rfl, ⟨rfl, N⟩, hq⟩ := rm0 l s _ hw tables_1 i0 i1 i2 i3 i4 i5 xc cc s.heap s.heap.size (Nat.le_refl _) S_cache A_cache Sz_cache C_cache hno p e ha hc hk s m _ below hf ((Spec.applies_iff_loose hf).mp happ).1 ⟨rfl, State.Warmed39.refl s, rfl⟩ trivial
  refine ⟨n, _, h1, h2, h3, hpost _ _ _ _ _ _ ⟨Cond.after_iff.mpr rfl, Cond.after_iff.mpr (eq_i res_at (Term.int_eval (1)) rfl), trivial⟩ ⟨hq.1, hq.2.1, hq.2.2.1, (hq.2.2.2.sift fun y hy => Or.inr (N y hy)).mono (by decide) (by decide)⟩⟩
theorem main_1_1 : Claimed_1_1 := comes_1 fun _ _ _ _ _ _ h hF => ⟨h.1, hF⟩
theorem main_1_2 : Claimed_1_2 := comes_1 fun _ _ _ _ _ _ h hF => ⟨h.2.1, hF⟩
end Jvm.Pilot.@@N@@
namespace Jvm.Pilot.@@N@@
open Jvm Jvm.ClassFile Sem Op Lib Jvm.Free Jvm.Stand Jvm.Pilot.@@N@@.Jvm.D
/-! MADE BY PROGRAM (witnessworld.py) out of the Statement's table words and the real class files: 19 classes; the members and pool entries that the words name. The judged class is class 1, her method 1. -/
namespace start1
open Jvm.ClassFile
def u (s : String) : CpInfo := .utf8 (stringToUtf16 s)
/-- a pool by its gaps: so many unusable entries, then the entry; so many at the end -/
def gap : Nat → List CpInfo → List CpInfo
  | 0, r => r
  | n + 1, r => .unusable :: gap n r
def poolList (es : List (Nat × CpInfo)) (last : Nat) : List CpInfo := es.foldr (fun e r => gap e.1 (e.2 :: r)) (gap last [])
def pool (es : List (Nat × CpInfo)) (last : Nat) : Array CpInfo := ⟨poolList es last⟩
def fileOf (pool : Array CpInfo) (this : Nat) (attrs : Array Attribute := #[]) (ms : Array MethodInfo := #[]) (fl : Nat := 33) (sup : Nat := 0) (ifs : Array Nat := #[]) (fds : Array FieldInfo := #[]) : ClassFile where
  minorVersion := 0
  majorVersion := 65
  constantPool := pool
  accessFlags := fl
  thisClass := this
  superClass := sup
  interfaces := ifs
  fields := fds
  methods := ms
  attributes := attrs
def plain (name : String) (sup : Option ClassId) : Class where
  name := name
  kind := .ordinary
  loader := none
  accessFlags := 33
  super := sup
  interfaces := #[]
  cf := none
  fields := #[]
  methods := #[]
  instanceTypes := #[]
  staticTypes := #[]
  resolved := #[]
  callSites := []
  init := .initialized
  statics := none
  mirror := none

def pool0 : Array CpInfo := pool [(5, u "<init>"), (0, u "()V"), (1, .class_ 10), (1, u "java/lang/Object")] 113

def k0c0 : Code := { maxStack := 0, maxLocals := 1, code := object_method_1_code, exceptionTable := #[], attributes := #[] }
def k0m0 : Method := { name := "<init>", desc := "()V", sig := { parameters := [], returnType := none }, accessFlags := 1, code := some k0c0 }
/-- java/lang/Object -/
def k0 : Class := { plain "java/lang/Object" none with
  accessFlags := 33
  interfaces := #[]
  cf := some (fileOf pool0 8 #[] #[{ accessFlags := 1, nameIndex := 5, descriptorIndex := 6, attributes := #[] }] 33 0 #[] #[])
  fields := #[]
  methods := #[k0m0]
  instanceTypes := #[]
  staticTypes := #[]
  resolved := Array.replicate 124 none
  statics := none }

def pool1 : Array CpInfo := pool [(2, .class_ 4), (1, u "java/lang/Object"), (0, u "<init>"), (0, u "()V"), (0, .long 67108863), (1, .class_ 10), (0, u "java/lang/Long"), (0, .long 9223372036854775807), (1, .methodref 14 15), (0, .class_ 16), (0, .nameAndType 17 18), (0, u "java/lang/Math"), (0, u "max"), (0, u "(JJ)J"), (0, .integer 67108863), (0, .class_ 21), (0, u "com/example/weir/weir/TokenBucket"), (0, .methodref 20 23), (0, .nameAndType 5 24), (0, u "(JJJ)V"), (0, .methodref 20 26), (0, .nameAndType 27 28), (0, u "equals"), (0, u "(Ljava/lang/Object;)Z"), (0, .methodref 9 30), (0, .nameAndType 31 32), (0, u "valueOf"), (0, u "(J)Ljava/lang/Long;"), (0, .class_ 34), (0, u "com/example/weir/weir/TokenBucketEqualsPinLaw"), (2, u "law"), (0, u "(JJJJJI)Z")] 3

def k1m0 : Method := { name := "<init>", desc := "()V", sig := { parameters := [], returnType := none }, accessFlags := 1, code := none }
def k1c1 : Code := { maxStack := 8, maxLocals := 26, code := code, exceptionTable := #[], attributes := #[] }
def k1m1 : Method := { name := "law", desc := "(JJJJJI)Z", sig := { parameters := [.long, .long, .long, .long, .long, .int], returnType := some .boolean }, accessFlags := 9, code := some k1c1 }
/-- com/example/weir/weir/TokenBucketEqualsPinLaw -/
def k1 : Class := { plain "com/example/weir/weir/TokenBucketEqualsPinLaw" (some 0) with
  accessFlags := 49
  interfaces := #[]
  cf := some (fileOf pool1 33 #[] #[{ accessFlags := 1, nameIndex := 5, descriptorIndex := 6, attributes := #[] }, { accessFlags := 9, nameIndex := 37, descriptorIndex := 38, attributes := #[] }] 49 2 #[] #[])
  fields := #[]
  methods := #[k1m0, k1m1]
  instanceTypes := #[]
  staticTypes := #[]
  resolved := Array.replicate 42 none
  statics := none }

def pool2 : Array CpInfo := pool [(1, .class_ 2), (0, u "java/lang/Math"), (1, .class_ 6), (1, u "java/lang/Object"), (0, u "<init>"), (0, u "()V"), (89, .class_ 100), (1, u "java/lang/Math$RandomNumberGeneratorHolder"), (20, u "(JJ)J"), (50, u "negativeZeroFloatBits"), (0, u "J"), (2, u "negativeZeroDoubleBits"), (21, u "max"), (46, u "$assertionsDisabled"), (0, u "Z"), (91, u "twoToTheDoubleScaleDown"), (0, u "D"), (4, u "twoToTheDoubleScaleUp"), (9, u "E"), (3, u "PI"), (2, u "TAU"), (2, u "DEGREES_TO_RADIANS"), (0, u "RADIANS_TO_DEGREES")] 94

def k2m0 : Method := { name := "<init>", desc := "()V", sig := { parameters := [], returnType := none }, accessFlags := 2, code := none }
def k2c1 : Code := { maxStack := 4, maxLocals := 4, code := jdk_29_method_66_code, exceptionTable := #[], attributes := #[] }
def k2m1 : Method := { name := "max", desc := "(JJ)J", sig := { parameters := [.long, .long], returnType := some .long }, accessFlags := 9, code := some k2c1 }
/-- java/lang/Math -/
def k2 : Class := { plain "java/lang/Math" (some 0) with
  accessFlags := 49
  interfaces := #[]
  cf := some (fileOf pool2 1 #[.nestMembers #[98]] #[{ accessFlags := 2, nameIndex := 7, descriptorIndex := 8, attributes := #[] }, { accessFlags := 9, nameIndex := 198, descriptorIndex := 121, attributes := #[] }] 49 4 #[] #[{ accessFlags := 25, nameIndex := 354, descriptorIndex := 339, attributes := #[] }, { accessFlags := 25, nameIndex := 358, descriptorIndex := 339, attributes := #[] }, { accessFlags := 25, nameIndex := 361, descriptorIndex := 339, attributes := #[] }, { accessFlags := 26, nameIndex := 364, descriptorIndex := 339, attributes := #[] }, { accessFlags := 26, nameIndex := 365, descriptorIndex := 339, attributes := #[] }, { accessFlags := 26, nameIndex := 172, descriptorIndex := 173, attributes := #[] }, { accessFlags := 26, nameIndex := 176, descriptorIndex := 173, attributes := #[] }, { accessFlags := 8, nameIndex := 344, descriptorIndex := 339, attributes := #[] }, { accessFlags := 8, nameIndex := 338, descriptorIndex := 339, attributes := #[] }, { accessFlags := 4120, nameIndex := 245, descriptorIndex := 246, attributes := #[] }])
  fields := #[{ name := "E", type := .double, accessFlags := 25, slot := 0, constantValue := 0 }, { name := "PI", type := .double, accessFlags := 25, slot := 1, constantValue := 0 }, { name := "TAU", type := .double, accessFlags := 25, slot := 2, constantValue := 0 }, { name := "DEGREES_TO_RADIANS", type := .double, accessFlags := 26, slot := 3, constantValue := 0 }, { name := "RADIANS_TO_DEGREES", type := .double, accessFlags := 26, slot := 4, constantValue := 0 }, { name := "negativeZeroFloatBits", type := .long, accessFlags := 26, slot := 5, constantValue := 0 }, { name := "negativeZeroDoubleBits", type := .long, accessFlags := 26, slot := 6, constantValue := 0 }, { name := "twoToTheDoubleScaleUp", type := .double, accessFlags := 8, slot := 7, constantValue := 0 }, { name := "twoToTheDoubleScaleDown", type := .double, accessFlags := 8, slot := 8, constantValue := 0 }, { name := "$assertionsDisabled", type := .boolean, accessFlags := 4120, slot := 9, constantValue := 0 }]
  methods := #[k2m0, k2m1]
  instanceTypes := #[]
  staticTypes := #[.double, .double, .double, .double, .double, .long, .long, .double, .double, .boolean]
  resolved := Array.replicate 460 none
  statics := none }

def pool3 : Array CpInfo := pool [(1, .methodref 2 3), (0, .class_ 4), (0, .nameAndType 5 6), (0, u "java/lang/Object"), (0, u "<init>"), (0, u "()V"), (0, .string 8), (0, u "capacity"), (0, .methodref 10 11), (0, .class_ 12), (0, .nameAndType 13 14), (0, u "com/example/weir/weir/TokenBucket"), (0, u "requireAtLeastOne"), (0, u "(Ljava/lang/String;J)V"), (0, .string 16), (0, u "refillTokens"), (0, .string 18), (0, u "refillPeriodMillis"), (0, .methodref 10 20), (0, .nameAndType 21 22), (0, u "greatestCommonDivisor"), (0, u "(JJ)J"), (0, .long 9007199254740991), (10, .fieldref 10 35), (0, .nameAndType 8 36), (0, u "J"), (0, .fieldref 10 38), (0, .nameAndType 16 36), (0, .fieldref 10 40), (0, .nameAndType 18 36), (0, .fieldref 10 42), (0, .nameAndType 43 36), (0, u "partsPerToken"), (0, .fieldref 10 45), (0, .nameAndType 46 36), (0, u "partsPerMilli"), (0, .fieldref 10 48), (0, .nameAndType 49 36), (0, u "fullLevel"), (60, u "(JJJ)V"), (37, u "MAX_LEVEL"), (11, u "equals"), (0, u "(Ljava/lang/Object;)Z")] 26

def k3c0 : Code := { maxStack := 8, maxLocals := 11, code := prog_17_method_1_code, exceptionTable := #[], attributes := #[] }
def k3m0 : Method := { name := "<init>", desc := "(JJJ)V", sig := { parameters := [.long, .long, .long], returnType := none }, accessFlags := 1, code := some k3c0 }
def k3c1 : Code := { maxStack := 4, maxLocals := 3, code := prog_17_method_14_code, exceptionTable := #[], attributes := #[] }
def k3m1 : Method := { name := "equals", desc := "(Ljava/lang/Object;)Z", sig := { parameters := [(.object "java/lang/Object")], returnType := some .boolean }, accessFlags := 1, code := some k3c1 }
def k3c2 : Code := { maxStack := 5, maxLocals := 3, code := prog_17_method_17_code, exceptionTable := #[], attributes := #[] }
def k3m2 : Method := { name := "requireAtLeastOne", desc := "(Ljava/lang/String;J)V", sig := { parameters := [(.object "java/lang/String"), .long], returnType := none }, accessFlags := 10, code := some k3c2 }
def k3c3 : Code := { maxStack := 4, maxLocals := 6, code := prog_17_method_18_code, exceptionTable := #[], attributes := #[] }
def k3m3 : Method := { name := "greatestCommonDivisor", desc := "(JJ)J", sig := { parameters := [.long, .long], returnType := some .long }, accessFlags := 10, code := some k3c3 }
/-- com/example/weir/weir/TokenBucket -/
def k3 : Class := { plain "com/example/weir/weir/TokenBucket" (some 0) with
  accessFlags := 49
  interfaces := #[]
  cf := some (fileOf pool3 10 #[] #[{ accessFlags := 1, nameIndex := 5, descriptorIndex := 110, attributes := #[] }, { accessFlags := 1, nameIndex := 160, descriptorIndex := 161, attributes := #[] }, { accessFlags := 10, nameIndex := 13, descriptorIndex := 14, attributes := #[] }, { accessFlags := 10, nameIndex := 21, descriptorIndex := 22, attributes := #[] }] 49 2 #[] #[{ accessFlags := 26, nameIndex := 148, descriptorIndex := 36, attributes := #[] }, { accessFlags := 18, nameIndex := 8, descriptorIndex := 36, attributes := #[] }, { accessFlags := 18, nameIndex := 16, descriptorIndex := 36, attributes := #[] }, { accessFlags := 18, nameIndex := 18, descriptorIndex := 36, attributes := #[] }, { accessFlags := 18, nameIndex := 43, descriptorIndex := 36, attributes := #[] }, { accessFlags := 18, nameIndex := 46, descriptorIndex := 36, attributes := #[] }, { accessFlags := 18, nameIndex := 49, descriptorIndex := 36, attributes := #[] }])
  fields := #[{ name := "MAX_LEVEL", type := .long, accessFlags := 26, slot := 0, constantValue := 0 }, { name := "capacity", type := .long, accessFlags := 18, slot := 0, constantValue := 0 }, { name := "refillTokens", type := .long, accessFlags := 18, slot := 1, constantValue := 0 }, { name := "refillPeriodMillis", type := .long, accessFlags := 18, slot := 2, constantValue := 0 }, { name := "partsPerToken", type := .long, accessFlags := 18, slot := 3, constantValue := 0 }, { name := "partsPerMilli", type := .long, accessFlags := 18, slot := 4, constantValue := 0 }, { name := "fullLevel", type := .long, accessFlags := 18, slot := 5, constantValue := 0 }]
  methods := #[k3m0, k3m1, k3m2, k3m3]
  instanceTypes := #[.long, .long, .long, .long, .long, .long]
  staticTypes := #[.long]
  resolved := Array.replicate 188 none
  statics := none }

def pool4 : Array CpInfo := pool [(1, .class_ 2), (0, u "java/io/Serializable"), (0, .class_ 4), (0, u "java/lang/Object")] 2

/-- java/io/Serializable -/
def k4 : Class := { plain "java/io/Serializable" (some 0) with
  accessFlags := 1537
  interfaces := #[]
  cf := some (fileOf pool4 1 #[] #[] 1537 3 #[] #[])
  fields := #[]
  methods := #[]
  instanceTypes := #[]
  staticTypes := #[]
  resolved := Array.replicate 7 none
  statics := none }

def pool5 : Array CpInfo := pool [(1, .class_ 2), (0, u "java/lang/Comparable"), (0, .class_ 4), (0, u "java/lang/Object")] 7

/-- java/lang/Comparable -/
def k5 : Class := { plain "java/lang/Comparable" (some 0) with
  accessFlags := 1537
  interfaces := #[]
  cf := some (fileOf pool5 1 #[] #[] 1537 3 #[] #[])
  fields := #[]
  methods := #[]
  instanceTypes := #[]
  staticTypes := #[]
  resolved := Array.replicate 12 none
  statics := none }

def pool6 : Array CpInfo := pool [(2, .class_ 4), (1, u "java/lang/CharSequence"), (42, .class_ 48), (0, u "java/lang/CharSequence$1CodePointIterator"), (10, .class_ 60), (0, u "java/lang/CharSequence$1CharIterator"), (5, .class_ 67), (0, u "java/lang/Object")] 63

/-- java/lang/CharSequence -/
def k6 : Class := { plain "java/lang/CharSequence" (some 0) with
  accessFlags := 1537
  interfaces := #[]
  cf := some (fileOf pool6 2 #[.nestMembers #[47, 59]] #[] 1537 66 #[] #[])
  fields := #[]
  methods := #[]
  instanceTypes := #[]
  staticTypes := #[]
  resolved := Array.replicate 131 none
  statics := none }

def pool7 : Array CpInfo := pool [(1, .class_ 2), (0, u "java/lang/constant/Constable"), (0, .class_ 4), (0, u "java/lang/Object")] 6

/-- java/lang/constant/Constable -/
def k7 : Class := { plain "java/lang/constant/Constable" (some 0) with
  accessFlags := 1537
  interfaces := #[]
  cf := some (fileOf pool7 1 #[] #[] 1537 3 #[] #[])
  fields := #[]
  methods := #[]
  instanceTypes := #[]
  staticTypes := #[]
  resolved := Array.replicate 11 none
  statics := none }

def pool8 : Array CpInfo := pool [(1, .class_ 2), (0, u "java/lang/constant/ConstantDesc"), (0, .class_ 4), (0, u "java/lang/Object")] 32

/-- java/lang/constant/ConstantDesc -/
def k8 : Class := { plain "java/lang/constant/ConstantDesc" (some 0) with
  accessFlags := 1537
  interfaces := #[]
  cf := some (fileOf pool8 1 #[] #[] 1537 3 #[] #[])
  fields := #[]
  methods := #[]
  instanceTypes := #[]
  staticTypes := #[]
  resolved := Array.replicate 37 none
  statics := none }

def pool9 : Array CpInfo := pool [(2, .class_ 4), (1, u "java/lang/Object"), (0, u "<init>"), (0, u "()V"), (3, .class_ 12), (1, u "java/lang/String"), (0, u "value"), (0, u "[B"), (2, u "coder"), (0, u "B"), (2, u "hash"), (0, u "I"), (2, u "hashIsZero"), (0, u "Z"), (13, u "COMPACT_STRINGS"), (534, .class_ 576), (0, u "java/lang/CharSequence"), (22, u "CASE_INSENSITIVE_ORDER"), (0, u "Ljava/util/Comparator;"), (500, u "serialPersistentFields"), (0, u "[Ljava/io/ObjectStreamField;"), (0, .class_ 1104), (0, u "java/lang/String$CaseInsensitiveComparator"), (1, .class_ 1107), (0, u "java/io/Serializable"), (0, .class_ 1109), (0, u "java/lang/Comparable"), (0, .class_ 1111), (0, u "java/lang/constant/Constable"), (0, .class_ 1113), (0, u "java/lang/constant/ConstantDesc"), (2, u "serialVersionUID"), (0, u "J"), (3, u "REPL"), (0, u "C"), (2, u "LATIN1"), (1, u "UTF16")] 323

def k9m0 : Method := { name := "<init>", desc := "()V", sig := { parameters := [], returnType := none }, accessFlags := 1, code := none }
/-- java/lang/String -/
def k9 : Class := { plain "java/lang/String" (some 0) with
  accessFlags := 49
  interfaces := #[4, 5, 6, 7, 8]
  cf := some (fileOf pool9 10 #[.nestMembers #[1103]] #[{ accessFlags := 1, nameIndex := 5, descriptorIndex := 6, attributes := #[] }] 49 2 #[1106, 1108, 575, 1110, 1112] #[{ accessFlags := 18, nameIndex := 13, descriptorIndex := 14, attributes := #[] }, { accessFlags := 18, nameIndex := 17, descriptorIndex := 18, attributes := #[] }, { accessFlags := 2, nameIndex := 21, descriptorIndex := 22, attributes := #[] }, { accessFlags := 2, nameIndex := 25, descriptorIndex := 26, attributes := #[] }, { accessFlags := 26, nameIndex := 1116, descriptorIndex := 1117, attributes := #[] }, { accessFlags := 24, nameIndex := 40, descriptorIndex := 26, attributes := #[] }, { accessFlags := 26, nameIndex := 1101, descriptorIndex := 1102, attributes := #[] }, { accessFlags := 26, nameIndex := 1121, descriptorIndex := 1122, attributes := #[] }, { accessFlags := 25, nameIndex := 599, descriptorIndex := 600, attributes := #[] }, { accessFlags := 24, nameIndex := 1125, descriptorIndex := 18, attributes := #[] }, { accessFlags := 24, nameIndex := 1127, descriptorIndex := 18, attributes := #[] }])
  fields := #[{ name := "value", type := (.array .byte), accessFlags := 18, slot := 0, constantValue := 0 }, { name := "coder", type := .byte, accessFlags := 18, slot := 1, constantValue := 0 }, { name := "hash", type := .int, accessFlags := 2, slot := 2, constantValue := 0 }, { name := "hashIsZero", type := .boolean, accessFlags := 2, slot := 3, constantValue := 0 }, { name := "serialVersionUID", type := .long, accessFlags := 26, slot := 0, constantValue := 0 }, { name := "COMPACT_STRINGS", type := .boolean, accessFlags := 24, slot := 1, constantValue := 0 }, { name := "serialPersistentFields", type := (.array (.object "java/io/ObjectStreamField")), accessFlags := 26, slot := 2, constantValue := 0 }, { name := "REPL", type := .char, accessFlags := 26, slot := 3, constantValue := 0 }, { name := "CASE_INSENSITIVE_ORDER", type := (.object "java/util/Comparator"), accessFlags := 25, slot := 4, constantValue := 0 }, { name := "LATIN1", type := .byte, accessFlags := 24, slot := 5, constantValue := 0 }, { name := "UTF16", type := .byte, accessFlags := 24, slot := 6, constantValue := 0 }]
  methods := #[k9m0]
  instanceTypes := #[(.array .byte), .byte, .int, .boolean]
  staticTypes := #[.long, .boolean, (.array (.object "java/io/ObjectStreamField")), .char, (.object "java/util/Comparator"), .byte, .byte]
  resolved := Array.replicate 1451 none
  statics := none }

def pool10 : Array CpInfo := pool [(1, .methodref 2 3), (0, .class_ 4), (0, .nameAndType 5 6), (0, u "java/lang/Object"), (0, u "<init>"), (0, u "()V"), (1, .class_ 10), (1, u "java/lang/Number"), (2, .class_ 14), (0, u "java/io/Serializable"), (0, u "serialVersionUID"), (0, u "J")] 20

def k10c0 : Code := { maxStack := 1, maxLocals := 1, code := jdk_18_method_1_code, exceptionTable := #[], attributes := #[] }
def k10m0 : Method := { name := "<init>", desc := "()V", sig := { parameters := [], returnType := none }, accessFlags := 1, code := some k10c0 }
/-- java/lang/Number -/
def k10 : Class := { plain "java/lang/Number" (some 0) with
  accessFlags := 1057
  interfaces := #[4]
  cf := some (fileOf pool10 8 #[] #[{ accessFlags := 1, nameIndex := 5, descriptorIndex := 6, attributes := #[] }] 1057 2 #[13] #[{ accessFlags := 26, nameIndex := 15, descriptorIndex := 16, attributes := #[] }])
  fields := #[{ name := "serialVersionUID", type := .long, accessFlags := 26, slot := 0, constantValue := 0 }]
  methods := #[k10m0]
  instanceTypes := #[]
  staticTypes := #[.long]
  resolved := Array.replicate 37 none
  statics := none }

def pool11 : Array CpInfo := pool [(1, .class_ 2), (0, u "java/lang/Long"), (55, .nameAndType 59 60), (0, u "<init>"), (0, u "()V"), (24, u "valueOf"), (143, u "(J)Ljava/lang/Long;"), (0, .long 18446744073709551488), (1, .long 127), (1, .fieldref 235 236), (0, .class_ 237), (0, .nameAndType 238 239), (0, u "java/lang/Long$LongCache"), (0, u "cache"), (0, u "[Ljava/lang/Long;"), (0, .methodref 1 241), (0, .nameAndType 59 242), (0, u "(J)V"), (27, .methodref 271 58), (0, .class_ 272), (0, u "java/lang/Number"), (0, .fieldref 1 274), (0, .nameAndType 275 276), (0, u "value"), (0, u "J"), (84, u "TYPE"), (0, u "Ljava/lang/Class;"), (0, .class_ 364), (0, u "java/lang/Comparable"), (0, .class_ 366), (0, u "java/lang/constant/Constable"), (0, .class_ 368), (0, u "java/lang/constant/ConstantDesc"), (0, u "MIN_VALUE"), (1, u "MAX_VALUE"), (4, u "SIZE"), (0, u "I"), (1, u "BYTES"), (1, u "serialVersionUID")] 142

def k11c0 : Code := { maxStack := 4, maxLocals := 3, code := jdk_35_method_24_code, exceptionTable := #[], attributes := #[] }
def k11m0 : Method := { name := "valueOf", desc := "(J)Ljava/lang/Long;", sig := { parameters := [.long], returnType := some (.object "java/lang/Long") }, accessFlags := 9, code := some k11c0 }
def k11c1 : Code := { maxStack := 3, maxLocals := 3, code := jdk_35_method_26_code, exceptionTable := #[], attributes := #[] }
def k11m1 : Method := { name := "<init>", desc := "(J)V", sig := { parameters := [.long], returnType := none }, accessFlags := 1, code := some k11c1 }
/-- java/lang/Long -/
def k11 : Class := { plain "java/lang/Long" (some 10) with
  accessFlags := 49
  interfaces := #[5, 7, 8]
  cf := some (fileOf pool11 1 #[.nestMembers #[235]] #[{ accessFlags := 9, nameIndex := 85, descriptorIndex := 229, attributes := #[] }, { accessFlags := 1, nameIndex := 59, descriptorIndex := 242, attributes := #[] }] 49 271 #[363, 365, 367] #[{ accessFlags := 25, nameIndex := 369, descriptorIndex := 276, attributes := #[] }, { accessFlags := 25, nameIndex := 371, descriptorIndex := 276, attributes := #[] }, { accessFlags := 25, nameIndex := 361, descriptorIndex := 362, attributes := #[] }, { accessFlags := 18, nameIndex := 275, descriptorIndex := 276, attributes := #[] }, { accessFlags := 25, nameIndex := 376, descriptorIndex := 377, attributes := #[] }, { accessFlags := 25, nameIndex := 379, descriptorIndex := 377, attributes := #[] }, { accessFlags := 26, nameIndex := 381, descriptorIndex := 276, attributes := #[] }])
  fields := #[{ name := "MIN_VALUE", type := .long, accessFlags := 25, slot := 0, constantValue := 0 }, { name := "MAX_VALUE", type := .long, accessFlags := 25, slot := 1, constantValue := 0 }, { name := "TYPE", type := (.object "java/lang/Class"), accessFlags := 25, slot := 2, constantValue := 0 }, { name := "value", type := .long, accessFlags := 18, slot := 0, constantValue := 0 }, { name := "SIZE", type := .int, accessFlags := 25, slot := 3, constantValue := 0 }, { name := "BYTES", type := .int, accessFlags := 25, slot := 4, constantValue := 0 }, { name := "serialVersionUID", type := .long, accessFlags := 26, slot := 5, constantValue := 0 }]
  methods := #[k11m0, k11m1]
  instanceTypes := #[.long]
  staticTypes := #[.long, .long, (.object "java/lang/Class"), .int, .int, .long]
  resolved := Array.replicate 524 none
  statics := none }

def pool12 : Array CpInfo := pool [(2, .class_ 4), (1, u "java/lang/Object"), (0, u "<init>"), (0, u "()V"), (0, .class_ 8), (0, u "java/lang/Long"), (7, .class_ 18), (1, u "java/lang/Long$LongCache"), (0, u "$assertionsDisabled"), (0, u "Z"), (8, u "archivedCache"), (0, u "[Ljava/lang/Long;"), (7, u "cache")] 24

def k12m0 : Method := { name := "<init>", desc := "()V", sig := { parameters := [], returnType := none }, accessFlags := 2, code := none }
/-- java/lang/Long$LongCache -/
def k12 : Class := { plain "java/lang/Long$LongCache" (some 0) with
  accessFlags := 48
  interfaces := #[]
  cf := some (fileOf pool12 16 #[.nestHost 7] #[{ accessFlags := 2, nameIndex := 5, descriptorIndex := 6, attributes := #[] }] 48 2 #[] #[{ accessFlags := 24, nameIndex := 38, descriptorIndex := 30, attributes := #[] }, { accessFlags := 8, nameIndex := 29, descriptorIndex := 30, attributes := #[] }, { accessFlags := 4120, nameIndex := 19, descriptorIndex := 20, attributes := #[] }])
  fields := #[{ name := "cache", type := (.array (.object "java/lang/Long")), accessFlags := 24, slot := 0, constantValue := 0 }, { name := "archivedCache", type := (.array (.object "java/lang/Long")), accessFlags := 8, slot := 1, constantValue := 0 }, { name := "$assertionsDisabled", type := .boolean, accessFlags := 4120, slot := 2, constantValue := 0 }]
  methods := #[k12m0]
  instanceTypes := #[]
  staticTypes := #[(.array (.object "java/lang/Long")), (.array (.object "java/lang/Long")), .boolean]
  resolved := Array.replicate 63 none
  statics := some 0 }

def pool13 : Array CpInfo := pool [(1, u "java/lang/Cloneable"), (0, .class_ 1), (0, u "java/lang/Object"), (0, .class_ 3)] 3

/-- java/lang/Cloneable -/
def k13 : Class := { plain "java/lang/Cloneable" (some 0) with
  accessFlags := 1537
  interfaces := #[]
  cf := some (fileOf pool13 2 #[] #[] 1537 4 #[] #[])
  fields := #[]
  methods := #[]
  instanceTypes := #[]
  staticTypes := #[]
  resolved := Array.replicate 8 none
  statics := none }

/-- the primitive byte -/
def k14 : Class := { plain "byte" none with kind := .primitive 'B', accessFlags := 0x411 }
/-- [B -/
def k15 : Class := { plain "[B" (some 0) with kind := .array 14 .byte, interfaces := #[13, 4], accessFlags := 1041 }

/-- the primitive int -/
def k16 : Class := { plain "int" none with kind := .primitive 'I', accessFlags := 0x411 }
/-- [I -/
def k17 : Class := { plain "[I" (some 0) with kind := .array 16 .int, interfaces := #[13, 4], accessFlags := 1041 }

/-- [Ljava/lang/Long; -/
def k18 : Class := { plain "[Ljava/lang/Long;" (some 0) with kind := .array 11 (.object "java/lang/Long"), interfaces := #[13, 4], accessFlags := 1041 }

def heap : Heap := #[{ cls := 12, slots := #[.ref 1, .null, .int 0], vm := .statics 12 },
  { cls := 18, slots := #[.ref 2, .ref 3, .ref 4, .ref 5, .ref 6, .ref 7, .ref 8, .ref 9, .ref 10, .ref 11, .ref 12, .ref 13, .ref 14, .ref 15, .ref 16, .ref 17, .ref 18, .ref 19, .ref 20, .ref 21, .ref 22, .ref 23, .ref 24, .ref 25, .ref 26, .ref 27, .ref 28, .ref 29, .ref 30, .ref 31, .ref 32, .ref 33, .ref 34, .ref 35, .ref 36, .ref 37, .ref 38, .ref 39, .ref 40, .ref 41, .ref 42, .ref 43, .ref 44, .ref 45, .ref 46, .ref 47, .ref 48, .ref 49, .ref 50, .ref 51, .ref 52, .ref 53, .ref 54, .ref 55, .ref 56, .ref 57, .ref 58, .ref 59, .ref 60, .ref 61, .ref 62, .ref 63, .ref 64, .ref 65, .ref 66, .ref 67, .ref 68, .ref 69, .ref 70, .ref 71, .ref 72, .ref 73, .ref 74, .ref 75, .ref 76, .ref 77, .ref 78, .ref 79, .ref 80, .ref 81, .ref 82, .ref 83, .ref 84, .ref 85, .ref 86, .ref 87, .ref 88, .ref 89, .ref 90, .ref 91, .ref 92, .ref 93, .ref 94, .ref 95, .ref 96, .ref 97, .ref 98, .ref 99, .ref 100, .ref 101, .ref 102, .ref 103, .ref 104, .ref 105, .ref 106, .ref 107, .ref 108, .ref 109, .ref 110, .ref 111, .ref 112, .ref 113, .ref 114, .ref 115, .ref 116, .ref 117, .ref 118, .ref 119, .ref 120, .ref 121, .ref 122, .ref 123, .ref 124, .ref 125, .ref 126, .ref 127, .ref 128, .ref 129, .ref 130, .ref 131, .ref 132, .ref 133, .ref 134, .ref 135, .ref 136, .ref 137, .ref 138, .ref 139, .ref 140, .ref 141, .ref 142, .ref 143, .ref 144, .ref 145, .ref 146, .ref 147, .ref 148, .ref 149, .ref 150, .ref 151, .ref 152, .ref 153, .ref 154, .ref 155, .ref 156, .ref 157, .ref 158, .ref 159, .ref 160, .ref 161, .ref 162, .ref 163, .ref 164, .ref 165, .ref 166, .ref 167, .ref 168, .ref 169, .ref 170, .ref 171, .ref 172, .ref 173, .ref 174, .ref 175, .ref 176, .ref 177, .ref 178, .ref 179, .ref 180, .ref 181, .ref 182, .ref 183, .ref 184, .ref 185, .ref 186, .ref 187, .ref 188, .ref 189, .ref 190, .ref 191, .ref 192, .ref 193, .ref 194, .ref 195, .ref 196, .ref 197, .ref 198, .ref 199, .ref 200, .ref 201, .ref 202, .ref 203, .ref 204, .ref 205, .ref 206, .ref 207, .ref 208, .ref 209, .ref 210, .ref 211, .ref 212, .ref 213, .ref 214, .ref 215, .ref 216, .ref 217, .ref 218, .ref 219, .ref 220, .ref 221, .ref 222, .ref 223, .ref 224, .ref 225, .ref 226, .ref 227, .ref 228, .ref 229, .ref 230, .ref 231, .ref 232, .ref 233, .ref 234, .ref 235, .ref 236, .ref 237, .ref 238, .ref 239, .ref 240, .ref 241, .ref 242, .ref 243, .ref 244, .ref 245, .ref 246, .ref 247, .ref 248, .ref 249, .ref 250, .ref 251, .ref 252, .ref 253, .ref 254, .ref 255, .ref 256, .ref 257], vm := .none },
  { cls := 11, slots := #[.long (-128)], vm := .none },
  { cls := 11, slots := #[.long (-127)], vm := .none },
  { cls := 11, slots := #[.long (-126)], vm := .none },
  { cls := 11, slots := #[.long (-125)], vm := .none },
  { cls := 11, slots := #[.long (-124)], vm := .none },
  { cls := 11, slots := #[.long (-123)], vm := .none },
  { cls := 11, slots := #[.long (-122)], vm := .none },
  { cls := 11, slots := #[.long (-121)], vm := .none },
  { cls := 11, slots := #[.long (-120)], vm := .none },
  { cls := 11, slots := #[.long (-119)], vm := .none },
  { cls := 11, slots := #[.long (-118)], vm := .none },
  { cls := 11, slots := #[.long (-117)], vm := .none },
  { cls := 11, slots := #[.long (-116)], vm := .none },
  { cls := 11, slots := #[.long (-115)], vm := .none },
  { cls := 11, slots := #[.long (-114)], vm := .none },
  { cls := 11, slots := #[.long (-113)], vm := .none },
  { cls := 11, slots := #[.long (-112)], vm := .none },
  { cls := 11, slots := #[.long (-111)], vm := .none },
  { cls := 11, slots := #[.long (-110)], vm := .none },
  { cls := 11, slots := #[.long (-109)], vm := .none },
  { cls := 11, slots := #[.long (-108)], vm := .none },
  { cls := 11, slots := #[.long (-107)], vm := .none },
  { cls := 11, slots := #[.long (-106)], vm := .none },
  { cls := 11, slots := #[.long (-105)], vm := .none },
  { cls := 11, slots := #[.long (-104)], vm := .none },
  { cls := 11, slots := #[.long (-103)], vm := .none },
  { cls := 11, slots := #[.long (-102)], vm := .none },
  { cls := 11, slots := #[.long (-101)], vm := .none },
  { cls := 11, slots := #[.long (-100)], vm := .none },
  { cls := 11, slots := #[.long (-99)], vm := .none },
  { cls := 11, slots := #[.long (-98)], vm := .none },
  { cls := 11, slots := #[.long (-97)], vm := .none },
  { cls := 11, slots := #[.long (-96)], vm := .none },
  { cls := 11, slots := #[.long (-95)], vm := .none },
  { cls := 11, slots := #[.long (-94)], vm := .none },
  { cls := 11, slots := #[.long (-93)], vm := .none },
  { cls := 11, slots := #[.long (-92)], vm := .none },
  { cls := 11, slots := #[.long (-91)], vm := .none },
  { cls := 11, slots := #[.long (-90)], vm := .none },
  { cls := 11, slots := #[.long (-89)], vm := .none },
  { cls := 11, slots := #[.long (-88)], vm := .none },
  { cls := 11, slots := #[.long (-87)], vm := .none },
  { cls := 11, slots := #[.long (-86)], vm := .none },
  { cls := 11, slots := #[.long (-85)], vm := .none },
  { cls := 11, slots := #[.long (-84)], vm := .none },
  { cls := 11, slots := #[.long (-83)], vm := .none },
  { cls := 11, slots := #[.long (-82)], vm := .none },
  { cls := 11, slots := #[.long (-81)], vm := .none },
  { cls := 11, slots := #[.long (-80)], vm := .none },
  { cls := 11, slots := #[.long (-79)], vm := .none },
  { cls := 11, slots := #[.long (-78)], vm := .none },
  { cls := 11, slots := #[.long (-77)], vm := .none },
  { cls := 11, slots := #[.long (-76)], vm := .none },
  { cls := 11, slots := #[.long (-75)], vm := .none },
  { cls := 11, slots := #[.long (-74)], vm := .none },
  { cls := 11, slots := #[.long (-73)], vm := .none },
  { cls := 11, slots := #[.long (-72)], vm := .none },
  { cls := 11, slots := #[.long (-71)], vm := .none },
  { cls := 11, slots := #[.long (-70)], vm := .none },
  { cls := 11, slots := #[.long (-69)], vm := .none },
  { cls := 11, slots := #[.long (-68)], vm := .none },
  { cls := 11, slots := #[.long (-67)], vm := .none },
  { cls := 11, slots := #[.long (-66)], vm := .none },
  { cls := 11, slots := #[.long (-65)], vm := .none },
  { cls := 11, slots := #[.long (-64)], vm := .none },
  { cls := 11, slots := #[.long (-63)], vm := .none },
  { cls := 11, slots := #[.long (-62)], vm := .none },
  { cls := 11, slots := #[.long (-61)], vm := .none },
  { cls := 11, slots := #[.long (-60)], vm := .none },
  { cls := 11, slots := #[.long (-59)], vm := .none },
  { cls := 11, slots := #[.long (-58)], vm := .none },
  { cls := 11, slots := #[.long (-57)], vm := .none },
  { cls := 11, slots := #[.long (-56)], vm := .none },
  { cls := 11, slots := #[.long (-55)], vm := .none },
  { cls := 11, slots := #[.long (-54)], vm := .none },
  { cls := 11, slots := #[.long (-53)], vm := .none },
  { cls := 11, slots := #[.long (-52)], vm := .none },
  { cls := 11, slots := #[.long (-51)], vm := .none },
  { cls := 11, slots := #[.long (-50)], vm := .none },
  { cls := 11, slots := #[.long (-49)], vm := .none },
  { cls := 11, slots := #[.long (-48)], vm := .none },
  { cls := 11, slots := #[.long (-47)], vm := .none },
  { cls := 11, slots := #[.long (-46)], vm := .none },
  { cls := 11, slots := #[.long (-45)], vm := .none },
  { cls := 11, slots := #[.long (-44)], vm := .none },
  { cls := 11, slots := #[.long (-43)], vm := .none },
  { cls := 11, slots := #[.long (-42)], vm := .none },
  { cls := 11, slots := #[.long (-41)], vm := .none },
  { cls := 11, slots := #[.long (-40)], vm := .none },
  { cls := 11, slots := #[.long (-39)], vm := .none },
  { cls := 11, slots := #[.long (-38)], vm := .none },
  { cls := 11, slots := #[.long (-37)], vm := .none },
  { cls := 11, slots := #[.long (-36)], vm := .none },
  { cls := 11, slots := #[.long (-35)], vm := .none },
  { cls := 11, slots := #[.long (-34)], vm := .none },
  { cls := 11, slots := #[.long (-33)], vm := .none },
  { cls := 11, slots := #[.long (-32)], vm := .none },
  { cls := 11, slots := #[.long (-31)], vm := .none },
  { cls := 11, slots := #[.long (-30)], vm := .none },
  { cls := 11, slots := #[.long (-29)], vm := .none },
  { cls := 11, slots := #[.long (-28)], vm := .none },
  { cls := 11, slots := #[.long (-27)], vm := .none },
  { cls := 11, slots := #[.long (-26)], vm := .none },
  { cls := 11, slots := #[.long (-25)], vm := .none },
  { cls := 11, slots := #[.long (-24)], vm := .none },
  { cls := 11, slots := #[.long (-23)], vm := .none },
  { cls := 11, slots := #[.long (-22)], vm := .none },
  { cls := 11, slots := #[.long (-21)], vm := .none },
  { cls := 11, slots := #[.long (-20)], vm := .none },
  { cls := 11, slots := #[.long (-19)], vm := .none },
  { cls := 11, slots := #[.long (-18)], vm := .none },
  { cls := 11, slots := #[.long (-17)], vm := .none },
  { cls := 11, slots := #[.long (-16)], vm := .none },
  { cls := 11, slots := #[.long (-15)], vm := .none },
  { cls := 11, slots := #[.long (-14)], vm := .none },
  { cls := 11, slots := #[.long (-13)], vm := .none },
  { cls := 11, slots := #[.long (-12)], vm := .none },
  { cls := 11, slots := #[.long (-11)], vm := .none },
  { cls := 11, slots := #[.long (-10)], vm := .none },
  { cls := 11, slots := #[.long (-9)], vm := .none },
  { cls := 11, slots := #[.long (-8)], vm := .none },
  { cls := 11, slots := #[.long (-7)], vm := .none },
  { cls := 11, slots := #[.long (-6)], vm := .none },
  { cls := 11, slots := #[.long (-5)], vm := .none },
  { cls := 11, slots := #[.long (-4)], vm := .none },
  { cls := 11, slots := #[.long (-3)], vm := .none },
  { cls := 11, slots := #[.long (-2)], vm := .none },
  { cls := 11, slots := #[.long (-1)], vm := .none },
  { cls := 11, slots := #[.long (0)], vm := .none },
  { cls := 11, slots := #[.long (1)], vm := .none },
  { cls := 11, slots := #[.long (2)], vm := .none },
  { cls := 11, slots := #[.long (3)], vm := .none },
  { cls := 11, slots := #[.long (4)], vm := .none },
  { cls := 11, slots := #[.long (5)], vm := .none },
  { cls := 11, slots := #[.long (6)], vm := .none },
  { cls := 11, slots := #[.long (7)], vm := .none },
  { cls := 11, slots := #[.long (8)], vm := .none },
  { cls := 11, slots := #[.long (9)], vm := .none },
  { cls := 11, slots := #[.long (10)], vm := .none },
  { cls := 11, slots := #[.long (11)], vm := .none },
  { cls := 11, slots := #[.long (12)], vm := .none },
  { cls := 11, slots := #[.long (13)], vm := .none },
  { cls := 11, slots := #[.long (14)], vm := .none },
  { cls := 11, slots := #[.long (15)], vm := .none },
  { cls := 11, slots := #[.long (16)], vm := .none },
  { cls := 11, slots := #[.long (17)], vm := .none },
  { cls := 11, slots := #[.long (18)], vm := .none },
  { cls := 11, slots := #[.long (19)], vm := .none },
  { cls := 11, slots := #[.long (20)], vm := .none },
  { cls := 11, slots := #[.long (21)], vm := .none },
  { cls := 11, slots := #[.long (22)], vm := .none },
  { cls := 11, slots := #[.long (23)], vm := .none },
  { cls := 11, slots := #[.long (24)], vm := .none },
  { cls := 11, slots := #[.long (25)], vm := .none },
  { cls := 11, slots := #[.long (26)], vm := .none },
  { cls := 11, slots := #[.long (27)], vm := .none },
  { cls := 11, slots := #[.long (28)], vm := .none },
  { cls := 11, slots := #[.long (29)], vm := .none },
  { cls := 11, slots := #[.long (30)], vm := .none },
  { cls := 11, slots := #[.long (31)], vm := .none },
  { cls := 11, slots := #[.long (32)], vm := .none },
  { cls := 11, slots := #[.long (33)], vm := .none },
  { cls := 11, slots := #[.long (34)], vm := .none },
  { cls := 11, slots := #[.long (35)], vm := .none },
  { cls := 11, slots := #[.long (36)], vm := .none },
  { cls := 11, slots := #[.long (37)], vm := .none },
  { cls := 11, slots := #[.long (38)], vm := .none },
  { cls := 11, slots := #[.long (39)], vm := .none },
  { cls := 11, slots := #[.long (40)], vm := .none },
  { cls := 11, slots := #[.long (41)], vm := .none },
  { cls := 11, slots := #[.long (42)], vm := .none },
  { cls := 11, slots := #[.long (43)], vm := .none },
  { cls := 11, slots := #[.long (44)], vm := .none },
  { cls := 11, slots := #[.long (45)], vm := .none },
  { cls := 11, slots := #[.long (46)], vm := .none },
  { cls := 11, slots := #[.long (47)], vm := .none },
  { cls := 11, slots := #[.long (48)], vm := .none },
  { cls := 11, slots := #[.long (49)], vm := .none },
  { cls := 11, slots := #[.long (50)], vm := .none },
  { cls := 11, slots := #[.long (51)], vm := .none },
  { cls := 11, slots := #[.long (52)], vm := .none },
  { cls := 11, slots := #[.long (53)], vm := .none },
  { cls := 11, slots := #[.long (54)], vm := .none },
  { cls := 11, slots := #[.long (55)], vm := .none },
  { cls := 11, slots := #[.long (56)], vm := .none },
  { cls := 11, slots := #[.long (57)], vm := .none },
  { cls := 11, slots := #[.long (58)], vm := .none },
  { cls := 11, slots := #[.long (59)], vm := .none },
  { cls := 11, slots := #[.long (60)], vm := .none },
  { cls := 11, slots := #[.long (61)], vm := .none },
  { cls := 11, slots := #[.long (62)], vm := .none },
  { cls := 11, slots := #[.long (63)], vm := .none },
  { cls := 11, slots := #[.long (64)], vm := .none },
  { cls := 11, slots := #[.long (65)], vm := .none },
  { cls := 11, slots := #[.long (66)], vm := .none },
  { cls := 11, slots := #[.long (67)], vm := .none },
  { cls := 11, slots := #[.long (68)], vm := .none },
  { cls := 11, slots := #[.long (69)], vm := .none },
  { cls := 11, slots := #[.long (70)], vm := .none },
  { cls := 11, slots := #[.long (71)], vm := .none },
  { cls := 11, slots := #[.long (72)], vm := .none },
  { cls := 11, slots := #[.long (73)], vm := .none },
  { cls := 11, slots := #[.long (74)], vm := .none },
  { cls := 11, slots := #[.long (75)], vm := .none },
  { cls := 11, slots := #[.long (76)], vm := .none },
  { cls := 11, slots := #[.long (77)], vm := .none },
  { cls := 11, slots := #[.long (78)], vm := .none },
  { cls := 11, slots := #[.long (79)], vm := .none },
  { cls := 11, slots := #[.long (80)], vm := .none },
  { cls := 11, slots := #[.long (81)], vm := .none },
  { cls := 11, slots := #[.long (82)], vm := .none },
  { cls := 11, slots := #[.long (83)], vm := .none },
  { cls := 11, slots := #[.long (84)], vm := .none },
  { cls := 11, slots := #[.long (85)], vm := .none },
  { cls := 11, slots := #[.long (86)], vm := .none },
  { cls := 11, slots := #[.long (87)], vm := .none },
  { cls := 11, slots := #[.long (88)], vm := .none },
  { cls := 11, slots := #[.long (89)], vm := .none },
  { cls := 11, slots := #[.long (90)], vm := .none },
  { cls := 11, slots := #[.long (91)], vm := .none },
  { cls := 11, slots := #[.long (92)], vm := .none },
  { cls := 11, slots := #[.long (93)], vm := .none },
  { cls := 11, slots := #[.long (94)], vm := .none },
  { cls := 11, slots := #[.long (95)], vm := .none },
  { cls := 11, slots := #[.long (96)], vm := .none },
  { cls := 11, slots := #[.long (97)], vm := .none },
  { cls := 11, slots := #[.long (98)], vm := .none },
  { cls := 11, slots := #[.long (99)], vm := .none },
  { cls := 11, slots := #[.long (100)], vm := .none },
  { cls := 11, slots := #[.long (101)], vm := .none },
  { cls := 11, slots := #[.long (102)], vm := .none },
  { cls := 11, slots := #[.long (103)], vm := .none },
  { cls := 11, slots := #[.long (104)], vm := .none },
  { cls := 11, slots := #[.long (105)], vm := .none },
  { cls := 11, slots := #[.long (106)], vm := .none },
  { cls := 11, slots := #[.long (107)], vm := .none },
  { cls := 11, slots := #[.long (108)], vm := .none },
  { cls := 11, slots := #[.long (109)], vm := .none },
  { cls := 11, slots := #[.long (110)], vm := .none },
  { cls := 11, slots := #[.long (111)], vm := .none },
  { cls := 11, slots := #[.long (112)], vm := .none },
  { cls := 11, slots := #[.long (113)], vm := .none },
  { cls := 11, slots := #[.long (114)], vm := .none },
  { cls := 11, slots := #[.long (115)], vm := .none },
  { cls := 11, slots := #[.long (116)], vm := .none },
  { cls := 11, slots := #[.long (117)], vm := .none },
  { cls := 11, slots := #[.long (118)], vm := .none },
  { cls := 11, slots := #[.long (119)], vm := .none },
  { cls := 11, slots := #[.long (120)], vm := .none },
  { cls := 11, slots := #[.long (121)], vm := .none },
  { cls := 11, slots := #[.long (122)], vm := .none },
  { cls := 11, slots := #[.long (123)], vm := .none },
  { cls := 11, slots := #[.long (124)], vm := .none },
  { cls := 11, slots := #[.long (125)], vm := .none },
  { cls := 11, slots := #[.long (126)], vm := .none },
  { cls := 11, slots := #[.long (127)], vm := .none }]
def classes : Array Class := #[k0, k1, k2, k3, k4, k5, k6, k7, k8, k9, k10, k11, k12, k13, k14, k15, k16, k17, k18]
def interned : List (Array UInt16 × Addr) := []
def slotsUsed : Nat := 515
def theMethod : MethodId := ⟨1, 1⟩
def args0 : Array Value := #[.long 5, .long 3, .long 4, .long 7, .long 9, .int 3]
def aboutOver (below : List Frame) : State where
  vm := { classes := classes, interned := interned.toArray }
  heap := heap
  slotsUsed := slotsUsed
  threads := #[{ frames := .invoking theMethod args0 :: below }]
def below0 : List Frame := [.native { method := ⟨0, 0⟩, args := #[] }]
def about1 : State := aboutOver below0
def p0 : Program := .bare "" "" ""
def e0 : Env := launch0.env 0 0 0
theorem w_frames : about1.frames = Frame.invoking theMethod args0 :: below0 := rfl
set_option maxRecDepth 65536 in
theorem w_args : argsFit about1.vm theMethod args0 = true := by decide +kernel
set_option maxRecDepth 65536 in
theorem w_heap : heapFits about1 = true := by decide +kernel
set_option maxRecDepth 65536 in
theorem w_runnable : about1.curStatus? = some .runnable := by decide +kernel
set_option maxRecDepth 65536 in
theorem w_alone : about1.alone = true := by decide +kernel
set_option maxRecDepth 65536 in
theorem w_named : about1.methodNamed? x = some theMethod := by decide +kernel
set_option maxRecDepth 65536 in
theorem w_hears : about1.hears theMethod below0 = true := by decide +kernel
set_option maxRecDepth 65536 in
theorem w_ripe : about1.ripe theMethod args0 below0 = true := by decide +kernel
theorem w_running : about1.status = .running := rfl
set_option maxRecDepth 65536 in
theorem w_room : about1.hasRoom e0.platform room_1 = true :=
  launch0.hasRoom_least _ room_1 (by decide +kernel) (by decide +kernel) (by decide +kernel) (by decide +kernel) (by decide +kernel) (by decide +kernel)
theorem allAtoms_all (ts : List Jvm.Cond) (a : Array Jvm.Value) (st : Jvm.State) : (allAtoms ts).before a st = ts.all (fun c => c.before a st) := by
  induction ts with
  | nil => rfl
  | cons c t ih =>
    show (Jvm.Cond.and c (allAtoms t)).before a st = _
    rw [Jvm.Cond.before_and, ih, List.all_cons]
def words1 : List Jvm.Cond := Jvm.Cond.code x code maxLocals ret :: tables_1
/-- a 'code' word, met by the world's own term for the bytes: nothing is compared byte by byte -/
theorem code_word {y : MethodName} {bytes : ByteArray} {mx : Nat} {rt : Option FieldType} {a : Array Value} {s : State} {m : MethodId} {meth : Method} {c : Code} (h1 : s.methodNamed? y = some m) (h2 : s.vm.method? m = some meth) (h3 : meth.code = some c) (h4 : c.code = bytes)
    (h5 : (c.maxLocals == mx && c.exceptionTable.isEmpty && decide (c.maxStack ≤ mostOperands) && decide (meth.sig.returnType = rt) && !meth.locks && decide (parseMethodDescriptor y.desc = some meth.sig)) = true) : (Jvm.Cond.code y bytes mx rt).before a s = true := by
  simp only [Bool.and_eq_true, beq_iff_eq, Bool.not_eq_true', decide_eq_true_eq] at h5
  obtain ⟨⟨⟨⟨⟨g1, g2⟩, g3⟩, g4⟩, g5⟩, g6⟩ := h5
  simp [Cond.before, Cond.holds, Cond.value, h1, h2, h3, h4, g1, g2, g3, g4, g5, g6]
def isCode : Jvm.Cond → Bool
  | .code _ _ _ _ => true
  | _ => false
theorem all_split {L : List Jvm.Cond} {P : Jvm.Cond → Bool} (h1 : L.all (fun c => isCode c || P c) = true) (h2 : ∀ c ∈ L.filter isCode, P c = true) : L.all P = true := by
  refine List.all_eq_true.mpr fun c hc => ?_
  have h := List.all_eq_true.mp h1 c hc
  rcases Bool.eq_false_or_eq_true (isCode c) with hi | hi
  · exact h2 c (List.mem_filter.mpr ⟨hc, hi⟩)
  · simpa [hi] using h
set_option maxRecDepth 65536 in
theorem w_c0 : (Jvm.Cond.code x code maxLocals ret).before args0 about1 = true := code_word (m := ⟨1, 1⟩) (meth := k1m1) (c := k1c1) (by decide +kernel) rfl rfl rfl (by decide +kernel)
set_option maxRecDepth 65536 in
theorem w_c1 : (Jvm.Cond.code ({ cls := "java/lang/Math", name := "max", desc := "(JJ)J" } : Jvm.MethodName) jdk_29_method_66_code (4 : Nat) (Option.some Jvm.ClassFile.FieldType.long)).before args0 about1 = true := code_word (m := ⟨2, 1⟩) (meth := k2m1) (c := k2c1) (by decide +kernel) rfl rfl rfl (by decide +kernel)
set_option maxRecDepth 65536 in
theorem w_c2 : (Jvm.Cond.code ({ cls := "com/example/weir/weir/TokenBucket", name := "<init>", desc := "(JJJ)V" } : Jvm.MethodName) prog_17_method_1_code (11 : Nat) (Option.none : Option Jvm.ClassFile.FieldType)).before args0 about1 = true := code_word (m := ⟨3, 0⟩) (meth := k3m0) (c := k3c0) (by decide +kernel) rfl rfl rfl (by decide +kernel)
set_option maxRecDepth 65536 in
theorem w_c3 : (Jvm.Cond.code ({ cls := "java/lang/Object", name := "<init>", desc := "()V" } : Jvm.MethodName) object_method_1_code (1 : Nat) (Option.none : Option Jvm.ClassFile.FieldType)).before args0 about1 = true := code_word (m := ⟨0, 0⟩) (meth := k0m0) (c := k0c0) (by decide +kernel) rfl rfl rfl (by decide +kernel)
set_option maxRecDepth 65536 in
theorem w_c4 : (Jvm.Cond.code ({ cls := "com/example/weir/weir/TokenBucket", name := "requireAtLeastOne", desc := "(Ljava/lang/String;J)V" } : Jvm.MethodName) prog_17_method_17_code (3 : Nat) (Option.none : Option Jvm.ClassFile.FieldType)).before args0 about1 = true := code_word (m := ⟨3, 2⟩) (meth := k3m2) (c := k3c2) (by decide +kernel) rfl rfl rfl (by decide +kernel)
set_option maxRecDepth 65536 in
theorem w_c5 : (Jvm.Cond.code ({ cls := "com/example/weir/weir/TokenBucket", name := "greatestCommonDivisor", desc := "(JJ)J" } : Jvm.MethodName) prog_17_method_18_code (6 : Nat) (Option.some Jvm.ClassFile.FieldType.long)).before args0 about1 = true := code_word (m := ⟨3, 3⟩) (meth := k3m3) (c := k3c3) (by decide +kernel) rfl rfl rfl (by decide +kernel)
set_option maxRecDepth 65536 in
theorem w_c6 : (Jvm.Cond.code ({ cls := "com/example/weir/weir/TokenBucket", name := "equals", desc := "(Ljava/lang/Object;)Z" } : Jvm.MethodName) prog_17_method_14_code (3 : Nat) (Option.some Jvm.ClassFile.FieldType.boolean)).before args0 about1 = true := code_word (m := ⟨3, 1⟩) (meth := k3m1) (c := k3c1) (by decide +kernel) rfl rfl rfl (by decide +kernel)
set_option maxRecDepth 65536 in
theorem w_c7 : (Jvm.Cond.code ({ cls := "java/lang/Long", name := "valueOf", desc := "(J)Ljava/lang/Long;" } : Jvm.MethodName) jdk_35_method_24_code (3 : Nat) (Option.some (Jvm.ClassFile.FieldType.object "java/lang/Long"))).before args0 about1 = true := code_word (m := ⟨11, 0⟩) (meth := k11m0) (c := k11c0) (by decide +kernel) rfl rfl rfl (by decide +kernel)
set_option maxRecDepth 65536 in
theorem w_c8 : (Jvm.Cond.code ({ cls := "java/lang/Long", name := "<init>", desc := "(J)V" } : Jvm.MethodName) jdk_35_method_26_code (3 : Nat) (Option.none : Option Jvm.ClassFile.FieldType)).before args0 about1 = true := code_word (m := ⟨11, 1⟩) (meth := k11m1) (c := k11c1) (by decide +kernel) rfl rfl rfl (by decide +kernel)
set_option maxRecDepth 65536 in
theorem w_c9 : (Jvm.Cond.code ({ cls := "java/lang/Number", name := "<init>", desc := "()V" } : Jvm.MethodName) jdk_18_method_1_code (1 : Nat) (Option.none : Option Jvm.ClassFile.FieldType)).before args0 about1 = true := code_word (m := ⟨10, 0⟩) (meth := k10m0) (c := k10c0) (by decide +kernel) rfl rfl rfl (by decide +kernel)
def codes1 : List Jvm.Cond := [Jvm.Cond.code x code maxLocals ret, Jvm.Cond.code ({ cls := "java/lang/Math", name := "max", desc := "(JJ)J" } : Jvm.MethodName) jdk_29_method_66_code (4 : Nat) (Option.some Jvm.ClassFile.FieldType.long), Jvm.Cond.code ({ cls := "com/example/weir/weir/TokenBucket", name := "<init>", desc := "(JJJ)V" } : Jvm.MethodName) prog_17_method_1_code (11 : Nat) (Option.none : Option Jvm.ClassFile.FieldType), Jvm.Cond.code ({ cls := "java/lang/Object", name := "<init>", desc := "()V" } : Jvm.MethodName) object_method_1_code (1 : Nat) (Option.none : Option Jvm.ClassFile.FieldType), Jvm.Cond.code ({ cls := "com/example/weir/weir/TokenBucket", name := "requireAtLeastOne", desc := "(Ljava/lang/String;J)V" } : Jvm.MethodName) prog_17_method_17_code (3 : Nat) (Option.none : Option Jvm.ClassFile.FieldType), Jvm.Cond.code ({ cls := "com/example/weir/weir/TokenBucket", name := "greatestCommonDivisor", desc := "(JJ)J" } : Jvm.MethodName) prog_17_method_18_code (6 : Nat) (Option.some Jvm.ClassFile.FieldType.long), Jvm.Cond.code ({ cls := "com/example/weir/weir/TokenBucket", name := "equals", desc := "(Ljava/lang/Object;)Z" } : Jvm.MethodName) prog_17_method_14_code (3 : Nat) (Option.some Jvm.ClassFile.FieldType.boolean), Jvm.Cond.code ({ cls := "java/lang/Long", name := "valueOf", desc := "(J)Ljava/lang/Long;" } : Jvm.MethodName) jdk_35_method_24_code (3 : Nat) (Option.some (Jvm.ClassFile.FieldType.object "java/lang/Long")), Jvm.Cond.code ({ cls := "java/lang/Long", name := "<init>", desc := "(J)V" } : Jvm.MethodName) jdk_35_method_26_code (3 : Nat) (Option.none : Option Jvm.ClassFile.FieldType), Jvm.Cond.code ({ cls := "java/lang/Number", name := "<init>", desc := "()V" } : Jvm.MethodName) jdk_18_method_1_code (1 : Nat) (Option.none : Option Jvm.ClassFile.FieldType)]
set_option maxRecDepth 65536 in
theorem codes_eq : words1.filter isCode = codes1 := rfl
theorem w_codes : ∀ c ∈ words1.filter isCode, c.before args0 about1 = true := by
  rw [codes_eq]
  intro c hc
  simp only [codes1, List.mem_cons, List.not_mem_nil, or_false] at hc
  rcases hc with rfl | rfl | rfl | rfl | rfl | rfl | rfl | rfl | rfl | rfl
  · exact w_c0
  · exact w_c1
  · exact w_c2
  · exact w_c3
  · exact w_c4
  · exact w_c5
  · exact w_c6
  · exact w_c7
  · exact w_c8
  · exact w_c9
set_option maxRecDepth 65536 in
theorem w_t1 : (words1.take 24).all (fun c => isCode c || c.before args0 about1) = true := by decide +kernel
set_option maxRecDepth 65536 in
theorem w_t2 : ((words1.drop 24).take 24).all (fun c => isCode c || c.before args0 about1) = true := by decide +kernel
set_option maxRecDepth 65536 in
theorem w_t3 : (((words1.drop 24).drop 24).take 24).all (fun c => isCode c || c.before args0 about1) = true := by decide +kernel
set_option maxRecDepth 65536 in
theorem w_t4 : (((words1.drop 24).drop 24).drop 24).all (fun c => isCode c || c.before args0 about1) = true := by decide +kernel
theorem w_tables : (allAtoms (Jvm.Cond.code x code maxLocals ret :: tables_1)).before args0 about1 = true := by
  rw [allAtoms_all]
  show words1.all (fun c => c.before args0 about1) = true
  refine all_split ?_ w_codes
  rw [← List.take_append_drop 24 words1, List.all_append, w_t1, ← List.take_append_drop 24 (words1.drop 24), List.all_append, w_t2, ← List.take_append_drop 24 ((words1.drop 24).drop 24), List.all_append, w_t3, w_t4]
  rfl
set_option maxRecDepth 65536 in
theorem w_rest : rest_1_c.before args0 about1 = true := by decide +kernel
set_option maxRecDepth 65536 in
theorem w_case : (Jvm.Cond.and given_1 narrow_1).before args0 about1 = true := by decide +kernel
theorem w_applies : (headSpec (Jvm.Cond.code x code maxLocals ret :: tables_1) room_1).applies x e0.platform about1 = true :=
  (Spec.applies_iff w_frames).mpr ⟨w_running, w_runnable, w_alone, w_named, w_hears, w_ripe, w_room, w_tables⟩
theorem atStart : AtStart classFile x code maxLocals ret World_1 tables_1 room_1 Calls_1 rest_1 Pre_1 launch0 p0 e0 about1 theMethod args0 below0 :=
  ⟨lists_1, trivial, launch0.admits_env _ _ _, launch0.least_env, fairChoices_fair.cas, fairChoices_fair.clock, w_frames, w_args, w_heap, w_applies, trivial, w_rest, w_case⟩
end start1
theorem witness_1 : WitnessClaimed_1 := ⟨start1.p0, start1.e0, start1.about1, start1.theMethod, start1.args0, start1.below0, start1.atStart⟩
end Jvm.Pilot.@@N@@
