import JvmDerived
import JvmDerived.Pilot.@@N@@Statement
import JvmDerived.Pilot.@@N@@Code
set_option linter.unusedVariables false
set_option linter.unusedSimpArgs false
namespace Jvm.Pilot.@@N@@
open Jvm Jvm.ClassFile Sem Op Lib Jvm.Free Jvm.Stand Jvm.LawKit Jvm.RoadKit Bundle Jvm.Pilot.@@N@@.Jvm.D
theorem own_exa_ns {Z : State} {h : Heap} {a : Addr} {C : String} (E : Exa Z h a C) : ∀ c : Cell, h[a]? = some c → c.vm.isStatics = false := fun c hc => by
  obtain ⟨cell, k, h1, -, -, h4, -⟩ := E
  rw [h1] at hc; cases hc; exact h4
theorem own_sta_keep {Z : State} {h h' : Heap} {C n d : String} {v : Value} {ws : List Addr} (F : Sta Z h C n d v) (K : Keep h h' ws) (q : ∀ x ∈ ws, ∀ c : Cell, h[x]? = some c → c.vm.isStatics = false) : Sta Z h' C n d v := by
  obtain ⟨cf, i, k, f, st, cell, h1, h2, h3, h4, h5, h6, h7⟩ := F
  exact ⟨cf, i, k, f, st, cell, h1, h2, h3, h4, K.2.1 st cell h5 (fun hm => by have := q st hm cell h5; rw [h6] at this; cases this), h6, h7⟩
theorem own_ins_keep {Z : State} {h h' : Heap} {a : Addr} {C : String} {b : Bool} {ws : List Addr} (F : Ins Z h a C b) (K : Keep h h' ws) : Ins Z h' a C b := by
  obtain ⟨cell, cT, h1, h2, h3⟩ := F
  obtain ⟨c', q1, q2, q3, -⟩ := K.2.2 a cell h1
  exact ⟨c', cT, q1, h2, by rw [q3, q2]; exact h3⟩
theorem own_ne {r c : Int32} (k : Int) (hc : c.toInt = k) (h : ¬ r = c) : ¬ r.toInt = k := fun e => h (Int32.toInt_inj.mp (e.trans hc.symm))
theorem own_nz {z : Int32} (h : z = 0 ∨ z = 1) : narrow .boolean (.int z) = .int z := by rcases h with rfl | rfl <;> rfl
theorem d1_0 : decode prog_3_method_7_code 0 = .ok (.aload_n 0, 1) := by decide +kernel
theorem d1_1 : decode prog_3_method_7_code 1 = .ok (.getfield 66, 3) := by decide +kernel
theorem d1_4 : decode prog_3_method_7_code 4 = .ok (.ifnull 11, 3) := by decide +kernel
theorem d1_15 : decode prog_3_method_7_code 15 = .ok (.iconst 1, 1) := by decide +kernel
theorem d1_16 : decode prog_3_method_7_code 16 = .ok (.goto 4, 3) := by decide +kernel
theorem d1_20 : decode prog_3_method_7_code 20 = .ok (.ireturn, 1) := by decide +kernel
theorem pn_6 : plainName "com/example/hauora_id/hauoraid/model/Claim" = true := by first | (simp [plainName, overriddenIn]; done) | decide +kernel
def Q1n (Z : State) (n0 : Nat) (a0 : Addr) (a1 : Addr) (h0 : Heap) (v : Option Value) (h : Heap) (L : List Loc) : Prop := v = some (.int (1 : Int32)) ∧ Fr n0 L ∧ h = h0
theorem ef1n (m : MethodId) (a0 : Addr) (a1 : Addr) : entryFrame m #[(.ref a0), (.ref a1)] 2 = mkF m 0 #[.val (.ref a0), .val (.ref a1)] [] := by first | (simp [entryFrame, mkF, argsToLocals, Value.category]; done) | rfl
set_option maxRecDepth 65536 in
set_option maxHeartbeats 40000000 in
theorem rm1n (l : Launch) (Z : State) (aZ : Array Value) (hw : ∀ d ∈ tables_1, d.before aZ Z = true) (ws : List Jvm.Cond) (a0 : Addr) (a1 : Addr) (h0 : Heap) (n0 : Nat) (Z0 : n0 ≤ h0.size) (F_a0_only : Fld Z h0 a0 "com/example/hauora_id/hauoraid/model/Claim" "only" "Lcom/example/hauora_id/hauoraid/model/Realm;" .null) :
    MetFree l (⟨"com/example/hauora_id/hauoraid/model/Claim", "heldIn", "(Lcom/example/hauora_id/hauoraid/model/Realm;)Z"⟩ : MethodName) (head1 (Jvm.Cond.code (⟨"com/example/hauora_id/hauoraid/model/Claim", "heldIn", "(Lcom/example/hauora_id/hauoraid/model/Realm;)Z"⟩ : MethodName) prog_3_method_7_code 2 (some .boolean) :: ws) ({ frames := 0, cells := 0, slots := 0, locals := 0 } : Room)) (fun a U => a = #[(.ref a0), (.ref a1)] ∧ Z.Warmed39 U.vm ∧ U.heap = h0) (fun _ _ _ _ _ => True) (fun _ U o U' => ∃ v L, o = .returned v ∧ Q1n Z n0 a0 a1 h0 v U'.heap L ∧ FrameEnd U o U' L ({ frames := 0, cells := 0, slots := 0, locals := 0 } : Room).cells ({ frames := 0, cells := 0, slots := 0, locals := 0 } : Room).slots) := by
  refine MetFree.of_bodySF (plainFor_of_name pn_6) hisR ?_
  intro p e s m args below meth c s₁ Bd hml0 hP hK
  obtain ⟨rfl, hZ, hh⟩ := hP
  have hx := Bd.exec
  have hby := Bd.bytes
  have hml : c.maxLocals = 2 := hml0
  have hown : s.vm.findClass "com/example/hauora_id/hauoraid/model/Claim" = some m.cls := findClass_of_methodNamed Bd.named
  have hnm := (name_of_methodNamed Bd.named Bd.method).1
  have X0 : Stand p l e ({ frames := 0, cells := 0, slots := 0, locals := 0 } : Room) s m #[(.ref a0), (.ref a1)] below meth c s₁ [] 0 0 := Stand.of_body Bd
  have e0 : s₁.heap = h0 := by rw [← hh, Bd.state]; rfl
  have N0 := Fr.nil n0
  have K0 : Keep h0 h0 [] := Keep.refl _ _
  have go0 : ∀ t, Steps p.tables e below (s₁.setTop (mkF m 0 #[.val (.ref a0), .val (.ref a1)] [])) t → Steps p.tables e below (s₁.setTop (entryFrame m #[(.ref a0), (.ref a1)] 2)) t := fun t k => castTop (ef1n m a0 a1) k
  have go1 : ∀ t, Steps p.tables e below (s₁.setTop (mkF m 1 #[.val (.ref a0), .val (.ref a1)] [(.ref a0)])) t → Steps p.tables e below (s₁.setTop (entryFrame m #[(.ref a0), (.ref a1)] 2)) t := by
    intro t k
    refine go0 _ ?_
    refine XS.aloadN X0.here hx rfl (hb hby d1_0) rfl rfl ?_
    show Steps p.tables e below (s₁.setTop (mkF m 1 #[.val (.ref a0), .val (.ref a1)] [(.ref a0)])) t
    exact k
  obtain ⟨T2, X2, e2, st2⟩ := getF X0 hx hZ hown (host := "") (Or.inl (hw _ (List.mem_of_getElem? (i := 37) rfl))) Via.refl e0 F_a0_only (g := (mkF m 1 #[.val (.ref a0), .val (.ref a1)] [(.ref a0)])) rfl rfl (hb hby d1_1)
  have go3 : ∀ t, Steps p.tables e below (T2.setTop (mkF m 4 #[.val (.ref a0), .val (.ref a1)] [.null])) t → Steps p.tables e below (s₁.setTop (entryFrame m #[(.ref a0), (.ref a1)] 2)) t := fun t k => go1 _ (st2 _ k)
  have go4 : ∀ t, Steps p.tables e below (T2.setTop (mkF m 20 #[.val (.ref a0), .val (.ref a1)] [(.int (1 : Int32))])) t → Steps p.tables e below (s₁.setTop (entryFrame m #[(.ref a0), (.ref a1)] 2)) t := by
    intro t k
    refine go3 _ ?_
    refine XT.nullYes X2.here hx rfl (pc0 := 4) (pc' := 15) rfl (hb hby d1_4) rfl rfl (by decide) (by decide) ?_
    show Steps p.tables e below (T2.setTop (mkF m 15 #[.val (.ref a0), .val (.ref a1)] [])) t
    refine XS.iconst X2.here hx rfl (hb hby d1_15) ?_
    show Steps p.tables e below (T2.setTop (mkF m 16 #[.val (.ref a0), .val (.ref a1)] [(.int (1 : Int32))])) t
    refine XS.goto X2.here hx rfl (pc0 := 16) (pc' := 20) rfl (hb hby d1_16) (by decide) (by decide) ?_
    show Steps p.tables e below (T2.setTop (mkF m 20 #[.val (.ref a0), .val (.ref a1)] [(.int (1 : Int32))])) t
    exact k
  obtain ⟨fs, hr, hrun, hended, hW, hsame⟩ := X2.leave (v := some (.int (1 : Int32))) (fun h => by rw [Bd.returns] at h; cases h)
  refine ⟨_, _, go4 _ (Jvm.RoadKit.retOut X2 hx Bd.returns rfl (Or.inl ⟨rfl, Or.inr (Or.inl rfl), _, rfl⟩) (hb hby d1_20) hr), hrun, hended, _, _, rfl, ?_, ⟨_, rfl⟩, hW, hsame.mono (by decide) (by decide)⟩
  show Q1n _ _ a0 a1 h0 _ (T2.setFrames fs).heap _
  have hE : (T2.setFrames fs).heap = h0 := e2
  rw [hE]
  exact ⟨rfl, N0, rfl⟩
theorem d1_7 : decode prog_3_method_7_code 7 = .ok (.aload_n 0, 1) := by decide +kernel
theorem d1_8 : decode prog_3_method_7_code 8 = .ok (.getfield 66, 3) := by decide +kernel
theorem d1_11 : decode prog_3_method_7_code 11 = .ok (.aload_n 1, 1) := by decide +kernel
theorem d1_12 : decode prog_3_method_7_code 12 = .ok (.if_acmp .ne 7, 3) := by decide +kernel
theorem d1_19 : decode prog_3_method_7_code 19 = .ok (.iconst 0, 1) := by decide +kernel
def b1r_9 (a1 : Addr) (w_a0_only : Addr) : Int32 := (if w_a0_only = a1 then (1 : Int32) else (0 : Int32))
def f1r (a1 : Addr) (w_a0_only : Addr) : Int32 := (b1r_9 a1 w_a0_only)
def Q1r (Z : State) (n0 : Nat) (a0 : Addr) (a1 : Addr) (w_a0_only : Addr) (h0 : Heap) (v : Option Value) (h : Heap) (L : List Loc) : Prop := v = some (.int (f1r a1 w_a0_only)) ∧ Fr n0 L ∧ h = h0
theorem ef1r (m : MethodId) (a0 : Addr) (a1 : Addr) : entryFrame m #[(.ref a0), (.ref a1)] 2 = mkF m 0 #[.val (.ref a0), .val (.ref a1)] [] := by first | (simp [entryFrame, mkF, argsToLocals, Value.category]; done) | rfl
set_option maxRecDepth 65536 in
set_option maxHeartbeats 40000000 in
theorem rm1r (l : Launch) (Z : State) (aZ : Array Value) (hw : ∀ d ∈ tables_1, d.before aZ Z = true) (ws : List Jvm.Cond) (a0 : Addr) (a1 : Addr) (w_a0_only : Addr) (h0 : Heap) (n0 : Nat) (Z0 : n0 ≤ h0.size) (F_a0_only : Fld Z h0 a0 "com/example/hauora_id/hauoraid/model/Claim" "only" "Lcom/example/hauora_id/hauoraid/model/Realm;" (.ref w_a0_only)) :
    MetFree l (⟨"com/example/hauora_id/hauoraid/model/Claim", "heldIn", "(Lcom/example/hauora_id/hauoraid/model/Realm;)Z"⟩ : MethodName) (head1 (Jvm.Cond.code (⟨"com/example/hauora_id/hauoraid/model/Claim", "heldIn", "(Lcom/example/hauora_id/hauoraid/model/Realm;)Z"⟩ : MethodName) prog_3_method_7_code 2 (some .boolean) :: ws) ({ frames := 0, cells := 0, slots := 0, locals := 0 } : Room)) (fun a U => a = #[(.ref a0), (.ref a1)] ∧ Z.Warmed39 U.vm ∧ U.heap = h0) (fun _ _ _ _ _ => True) (fun _ U o U' => ∃ v L, o = .returned v ∧ Q1r Z n0 a0 a1 w_a0_only h0 v U'.heap L ∧ FrameEnd U o U' L ({ frames := 0, cells := 0, slots := 0, locals := 0 } : Room).cells ({ frames := 0, cells := 0, slots := 0, locals := 0 } : Room).slots) := by
  refine MetFree.of_bodySF (plainFor_of_name pn_6) hisR ?_
  intro p e s m args below meth c s₁ Bd hml0 hP hK
  obtain ⟨rfl, hZ, hh⟩ := hP
  have hx := Bd.exec
  have hby := Bd.bytes
  have hml : c.maxLocals = 2 := hml0
  have hown : s.vm.findClass "com/example/hauora_id/hauoraid/model/Claim" = some m.cls := findClass_of_methodNamed Bd.named
  have hnm := (name_of_methodNamed Bd.named Bd.method).1
  have X0 : Stand p l e ({ frames := 0, cells := 0, slots := 0, locals := 0 } : Room) s m #[(.ref a0), (.ref a1)] below meth c s₁ [] 0 0 := Stand.of_body Bd
  have e0 : s₁.heap = h0 := by rw [← hh, Bd.state]; rfl
  have N0 := Fr.nil n0
  have K0 : Keep h0 h0 [] := Keep.refl _ _
  have go0 : ∀ t, Steps p.tables e below (s₁.setTop (mkF m 0 #[.val (.ref a0), .val (.ref a1)] [])) t → Steps p.tables e below (s₁.setTop (entryFrame m #[(.ref a0), (.ref a1)] 2)) t := fun t k => castTop (ef1r m a0 a1) k
  have go1 : ∀ t, Steps p.tables e below (s₁.setTop (mkF m 1 #[.val (.ref a0), .val (.ref a1)] [(.ref a0)])) t → Steps p.tables e below (s₁.setTop (entryFrame m #[(.ref a0), (.ref a1)] 2)) t := by
    intro t k
    refine go0 _ ?_
    refine XS.aloadN X0.here hx rfl (hb hby d1_0) rfl rfl ?_
    show Steps p.tables e below (s₁.setTop (mkF m 1 #[.val (.ref a0), .val (.ref a1)] [(.ref a0)])) t
    exact k
  obtain ⟨T2, X2, e2, st2⟩ := getF X0 hx hZ hown (host := "") (Or.inl (hw _ (List.mem_of_getElem? (i := 37) rfl))) Via.refl e0 F_a0_only (g := (mkF m 1 #[.val (.ref a0), .val (.ref a1)] [(.ref a0)])) rfl rfl (hb hby d1_1)
  have go3 : ∀ t, Steps p.tables e below (T2.setTop (mkF m 4 #[.val (.ref a0), .val (.ref a1)] [(.ref w_a0_only)])) t → Steps p.tables e below (s₁.setTop (entryFrame m #[(.ref a0), (.ref a1)] 2)) t := fun t k => go1 _ (st2 _ k)
  have go4 : ∀ t, Steps p.tables e below (T2.setTop (mkF m 8 #[.val (.ref a0), .val (.ref a1)] [(.ref a0)])) t → Steps p.tables e below (s₁.setTop (entryFrame m #[(.ref a0), (.ref a1)] 2)) t := by
    intro t k
    refine go3 _ ?_
    refine XT.nullNo X2.here hx rfl (hb hby d1_4) rfl rfl (fun q => nomatch q) ?_
    show Steps p.tables e below (T2.setTop (mkF m 7 #[.val (.ref a0), .val (.ref a1)] [])) t
    refine XS.aloadN X2.here hx rfl (hb hby d1_7) rfl rfl ?_
    show Steps p.tables e below (T2.setTop (mkF m 8 #[.val (.ref a0), .val (.ref a1)] [(.ref a0)])) t
    exact k
  obtain ⟨T5, X5, e5, st5⟩ := getF X2 hx hZ hown (host := "") (Or.inl (hw _ (List.mem_of_getElem? (i := 37) rfl))) Via.refl e2 F_a0_only (g := (mkF m 8 #[.val (.ref a0), .val (.ref a1)] [(.ref a0)])) rfl rfl (hb hby d1_8)
  have go6 : ∀ t, Steps p.tables e below (T5.setTop (mkF m 11 #[.val (.ref a0), .val (.ref a1)] [(.ref w_a0_only)])) t → Steps p.tables e below (s₁.setTop (entryFrame m #[(.ref a0), (.ref a1)] 2)) t := fun t k => go4 _ (st5 _ k)
  have go8 : ∀ t, Steps p.tables e below (T5.setTop (mkF m 20 #[.val (.ref a0), .val (.ref a1)] [(.int (b1r_9 a1 w_a0_only))])) t → Steps p.tables e below (s₁.setTop (entryFrame m #[(.ref a0), (.ref a1)] 2)) t := by
    intro t k
    refine go6 _ ?_
    refine XS.aloadN X5.here hx rfl (hb hby d1_11) rfl rfl ?_
    show Steps p.tables e below (T5.setTop (mkF m 12 #[.val (.ref a0), .val (.ref a1)] [(.ref a1), (.ref w_a0_only)])) t
    by_cases hc7 : w_a0_only = a1
    · refine Jvm.RoadKit.acmp (g := (mkF m 12 #[.val (.ref a0), .val (.ref a1)] [(.ref a1), (.ref w_a0_only)])) X5 hx rfl rfl rfl (pc0 := 12) (pc' := 15) (same := true) rfl (hb hby d1_12) rfl (decide_eq_true (congrArg Value.ref hc7)) (by decide) (by decide) ?_
      show Steps p.tables e below (T5.setTop (mkF m 15 #[.val (.ref a0), .val (.ref a1)] [])) t
      refine XS.iconst X5.here hx rfl (hb hby d1_15) ?_
      show Steps p.tables e below (T5.setTop (mkF m 16 #[.val (.ref a0), .val (.ref a1)] [(.int (1 : Int32))])) t
      refine XS.goto X5.here hx rfl (pc0 := 16) (pc' := 20) rfl (hb hby d1_16) (by decide) (by decide) ?_
      show Steps p.tables e below (T5.setTop (mkF m 20 #[.val (.ref a0), .val (.ref a1)] [(.int (1 : Int32))])) t
      have hq10 : (b1r_9 a1 w_a0_only) = (1 : Int32) := by rw [b1r_9, if_pos hc7]
      rw [hq10] at k
      exact k
    · refine Jvm.RoadKit.acmp (g := (mkF m 12 #[.val (.ref a0), .val (.ref a1)] [(.ref a1), (.ref w_a0_only)])) X5 hx rfl rfl rfl (pc0 := 12) (pc' := 19) (same := false) rfl (hb hby d1_12) rfl (decide_eq_false fun q => hc7 (Value.ref.inj q)) (by decide) (by decide) ?_
      show Steps p.tables e below (T5.setTop (mkF m 19 #[.val (.ref a0), .val (.ref a1)] [])) t
      refine XS.iconst X5.here hx rfl (hb hby d1_19) ?_
      show Steps p.tables e below (T5.setTop (mkF m 20 #[.val (.ref a0), .val (.ref a1)] [(.int (0 : Int32))])) t
      have hq11 : (b1r_9 a1 w_a0_only) = (0 : Int32) := by rw [b1r_9, if_neg hc7]
      rw [hq11] at k
      exact k
  obtain ⟨fs, hr, hrun, hended, hW, hsame⟩ := X5.leave (v := some (.int (b1r_9 a1 w_a0_only))) (fun h => by rw [Bd.returns] at h; cases h)
  refine ⟨_, _, go8 _ (Jvm.RoadKit.retOut X5 hx Bd.returns (own_nz (by unfold b1r_9; (repeat' split) <;> first | exact Or.inl rfl | exact Or.inr rfl)) (Or.inl ⟨rfl, Or.inr (Or.inl rfl), _, rfl⟩) (hb hby d1_20) hr), hrun, hended, _, _, rfl, ?_, ⟨_, rfl⟩, hW, hsame.mono (by decide) (by decide)⟩
  show Q1r _ _ a0 a1 w_a0_only h0 _ (T5.setFrames fs).heap _
  have hE : (T5.setFrames fs).heap = h0 := e5
  rw [hE]
  exact ⟨by rw [f1r], N0, rfl⟩
theorem own_eqi {a : Term} {args : Array Value} {s : State} {k : Int32} (h : (Jvm.Cond.eq a (Term.int k)).value args s none s [] = some true) : a.eval args s none [] s = some (.int k) := by
  cases ha : a.eval args s none [] s with
  | none => simp [Cond.value, ha] at h
  | some x => cases x <;> simp [Cond.value, ha, Term.eval] at h ⊢; exact h
theorem own_eqr {a b : Term} {args : Array Value} {s : State} {y : Addr} (hb : b.eval args s none [] s = some (.ref y)) (h : (Jvm.Cond.eq a b).value args s none s [] = some true) : a.eval args s none [] s = some (.ref y) := by
  cases ha : a.eval args s none [] s with
  | none => simp [Cond.value, ha] at h
  | some x => cases x <;> simp [Cond.value, ha, hb] at h ⊢; exact h
theorem own_len {t : Term} {args : Array Value} {s : State} {n : Int32} {x : Addr} {c : Cell} {ty : FieldType} (h : (Term.length t).eval args s none [] s = some (.int n)) (ht : t.eval args s none [] s = some (.ref x)) (A : Arr s s.heap x c ty) : c.slots.size < 2 ^ 31 ∧ c.slots.size.toInt32 = n := by
  have ha : s.arrayAt? x = some c := Arr.fin (Vm.Alike.refl _) A
  simp only [Term.eval, ht, ha, Option.bind_eq_bind, Option.bind_some] at h
  split at h
  · rename_i hl; simp at h; exact ⟨hl, h⟩
  · cases h
theorem own_dead12 (x : Int32) (h0 : ¬ (x &&& 2147483647) % 12 = 0) (h1 : ¬ (x &&& 2147483647) % 12 = 1) (h2 : ¬ (x &&& 2147483647) % 12 = 2) (h3 : ¬ (x &&& 2147483647) % 12 = 3) (h4 : ¬ (x &&& 2147483647) % 12 = 4) (h5 : ¬ (x &&& 2147483647) % 12 = 5) (h6 : ¬ (x &&& 2147483647) % 12 = 6) (h7 : ¬ (x &&& 2147483647) % 12 = 7) (h8 : ¬ (x &&& 2147483647) % 12 = 8) (h9 : ¬ (x &&& 2147483647) % 12 = 9) (h10 : ¬ (x &&& 2147483647) % 12 = 10) (h11 : ¬ (x &&& 2147483647) % 12 = 11) : False := by
  have hm := c_mask x 2147483647 31 (by decide) (by decide)
  have hr := (c_irem (x &&& 2147483647) 12 12 (by decide)).1 (by omega)
  have g0 := own_ne 0 rfl h0
  have g1 := own_ne 1 rfl h1
  have g2 := own_ne 2 rfl h2
  have g3 := own_ne 3 rfl h3
  have g4 := own_ne 4 rfl h4
  have g5 := own_ne 5 rfl h5
  have g6 := own_ne 6 rfl h6
  have g7 := own_ne 7 rfl h7
  have g8 := own_ne 8 rfl h8
  have g9 := own_ne 9 rfl h9
  have g10 := own_ne 10 rfl h10
  have g11 := own_ne 11 rfl h11
  omega
theorem pd_15 : parseMethodDescriptor "(Lcom/example/hauora_id/hauoraid/model/Realm;)Z" = some ⟨[(.object "com/example/hauora_id/hauoraid/model/Realm")], some .boolean⟩ := by decide +kernel
def v0_1 (p0 : Int32) : Int32 := ((p0 &&& (2147483647 : Int32)) % (12 : Int32))
def b0_4 (p1 : Int32) : Int32 := (if (p1 &&& (1 : Int32)) = (0 : Int32) then (1 : Int32) else (0 : Int32))
def b0_821 (p1 : Int32) (s_WORKFORCE : Addr) (s_CONSUMER : Addr) : Int32 := (if (f1r s_WORKFORCE s_CONSUMER) = (b0_4 p1) then (1 : Int32) else (0 : Int32))
def b0_832 (p1 : Int32) (s_CONSUMER : Addr) : Int32 := (if (f1r s_CONSUMER s_CONSUMER) = (b0_4 p1) then (1 : Int32) else (0 : Int32))
def b0_848 (s_WORKFORCE : Addr) : Int32 := (if (f1r s_WORKFORCE s_WORKFORCE) = (1 : Int32) then (1 : Int32) else (0 : Int32))
def b0_859 (s_WORKFORCE : Addr) (s_CONSUMER : Addr) : Int32 := (if (f1r s_CONSUMER s_WORKFORCE) = (0 : Int32) then (1 : Int32) else (0 : Int32))
def f0 (p0 : Int32) (p1 : Int32) (s_WORKFORCE : Addr) (s_CONSUMER : Addr) : Int32 := (if (v0_1 p0) = (0 : Int32) then (if (b0_4 p1) = (0 : Int32) then (1 : Int32) else (1 : Int32)) else (if (v0_1 p0) = (1 : Int32) then (if (b0_4 p1) = (0 : Int32) then (1 : Int32) else (1 : Int32)) else (if (v0_1 p0) = (2 : Int32) then (if (b0_4 p1) = (0 : Int32) then (1 : Int32) else (1 : Int32)) else (if (v0_1 p0) = (3 : Int32) then (if (b0_4 p1) = (0 : Int32) then (1 : Int32) else (1 : Int32)) else (if (v0_1 p0) = (4 : Int32) then (if (b0_4 p1) = (0 : Int32) then (1 : Int32) else (1 : Int32)) else (if (v0_1 p0) = (5 : Int32) then (if (b0_4 p1) = (0 : Int32) then (1 : Int32) else (1 : Int32)) else (if (v0_1 p0) = (6 : Int32) then (if (b0_4 p1) = (0 : Int32) then (1 : Int32) else (1 : Int32)) else (if (v0_1 p0) = (7 : Int32) then (if (b0_4 p1) = (0 : Int32) then (1 : Int32) else (1 : Int32)) else (if (v0_1 p0) = (8 : Int32) then (if (b0_4 p1) = (0 : Int32) then (b0_821 p1 s_WORKFORCE s_CONSUMER) else (b0_832 p1 s_CONSUMER)) else (if (v0_1 p0) = (9 : Int32) then (if (b0_4 p1) = (0 : Int32) then (b0_848 s_WORKFORCE) else (b0_859 s_WORKFORCE s_CONSUMER)) else (if (v0_1 p0) = (10 : Int32) then (if (b0_4 p1) = (0 : Int32) then (b0_821 p1 s_WORKFORCE s_CONSUMER) else (b0_832 p1 s_CONSUMER)) else (if (v0_1 p0) = (11 : Int32) then (if (b0_4 p1) = (0 : Int32) then (1 : Int32) else (1 : Int32)) else (1 : Int32)))))))))))))
theorem f0_one (p0 : Int32) (p1 : Int32) (s_WORKFORCE : Addr) (s_CONSUMER : Addr) (ne : s_CONSUMER ≠ s_WORKFORCE) : f0 p0 p1 s_WORKFORCE s_CONSUMER = 1 := by
  unfold f0; (repeat' split) <;> first | rfl | (simp_all [b1r_9, b0_4, b0_821, b0_832, b0_848, b0_859, f1r, Ne.symm])
theorem pn_20 : plainName "com/example/hauora_id/hauoraid/model/ClaimHeldInPinLaw" = true := by first | (simp [plainName, overriddenIn]; done) | decide +kernel
def Q0 (Z : State) (n0 : Nat) (p0 : Int32) (p1 : Int32) (s_SUB : Addr) (s_EMAIL : Addr) (s_GIVEN_NAME : Addr) (s_MIDDLE_NAME : Addr) (s_FAMILY_NAME : Addr) (s_NICKNAME : Addr) (s_BIRTHDATE : Addr) (s_MOBILE_NUMBER : Addr) (s_NHI : Addr) (s_CPN : Addr) (s_RELATIONSHIPS : Addr) (s_CONFIDENCE_LEVEL : Addr) (s_WORKFORCE : Addr) (s_CONSUMER : Addr) (h0 : Heap) (v : Option Value) (h : Heap) (L : List Loc) : Prop := v = some (.int 1) ∧ Fr n0 L
theorem ef0 (m : MethodId) (p0 : Int32) (p1 : Int32) : entryFrame m #[(.int p0), (.int p1)] maxLocals = mkF m 0 #[.val (.int p0), .val (.int p1), .unset, .unset, .unset, .unset, .unset, .unset] [] := by first | (simp [entryFrame, mkF, argsToLocals, Value.category, maxLocals]; done) | rfl
set_option maxRecDepth 65536 in
set_option maxHeartbeats 40000000 in
theorem rm0 (l : Launch) (Z : State) (aZ : Array Value) (hw : ∀ d ∈ tables_1, d.before aZ Z = true) (ws : List Jvm.Cond) (p0 : Int32) (p1 : Int32) (s_SUB : Addr) (s_EMAIL : Addr) (s_GIVEN_NAME : Addr) (s_MIDDLE_NAME : Addr) (s_FAMILY_NAME : Addr) (s_NICKNAME : Addr) (s_BIRTHDATE : Addr) (s_MOBILE_NUMBER : Addr) (s_NHI : Addr) (s_CPN : Addr) (s_RELATIONSHIPS : Addr) (s_CONFIDENCE_LEVEL : Addr) (s_WORKFORCE : Addr) (s_CONSUMER : Addr) (h0 : Heap) (n0 : Nat) (Z0 : n0 ≤ h0.size) (S_SUB : Sta Z h0 "com/example/hauora_id/hauoraid/model/Claim" "SUB" "Lcom/example/hauora_id/hauoraid/model/Claim;" (.ref s_SUB)) (E_SUB : Exa Z h0 s_SUB "com/example/hauora_id/hauoraid/model/Claim") (S_EMAIL : Sta Z h0 "com/example/hauora_id/hauoraid/model/Claim" "EMAIL" "Lcom/example/hauora_id/hauoraid/model/Claim;" (.ref s_EMAIL)) (E_EMAIL : Exa Z h0 s_EMAIL "com/example/hauora_id/hauoraid/model/Claim") (S_GIVEN_NAME : Sta Z h0 "com/example/hauora_id/hauoraid/model/Claim" "GIVEN_NAME" "Lcom/example/hauora_id/hauoraid/model/Claim;" (.ref s_GIVEN_NAME)) (E_GIVEN_NAME : Exa Z h0 s_GIVEN_NAME "com/example/hauora_id/hauoraid/model/Claim") (S_MIDDLE_NAME : Sta Z h0 "com/example/hauora_id/hauoraid/model/Claim" "MIDDLE_NAME" "Lcom/example/hauora_id/hauoraid/model/Claim;" (.ref s_MIDDLE_NAME)) (E_MIDDLE_NAME : Exa Z h0 s_MIDDLE_NAME "com/example/hauora_id/hauoraid/model/Claim") (S_FAMILY_NAME : Sta Z h0 "com/example/hauora_id/hauoraid/model/Claim" "FAMILY_NAME" "Lcom/example/hauora_id/hauoraid/model/Claim;" (.ref s_FAMILY_NAME)) (E_FAMILY_NAME : Exa Z h0 s_FAMILY_NAME "com/example/hauora_id/hauoraid/model/Claim") (S_NICKNAME : Sta Z h0 "com/example/hauora_id/hauoraid/model/Claim" "NICKNAME" "Lcom/example/hauora_id/hauoraid/model/Claim;" (.ref s_NICKNAME)) (E_NICKNAME : Exa Z h0 s_NICKNAME "com/example/hauora_id/hauoraid/model/Claim") (S_BIRTHDATE : Sta Z h0 "com/example/hauora_id/hauoraid/model/Claim" "BIRTHDATE" "Lcom/example/hauora_id/hauoraid/model/Claim;" (.ref s_BIRTHDATE)) (E_BIRTHDATE : Exa Z h0 s_BIRTHDATE "com/example/hauora_id/hauoraid/model/Claim") (S_MOBILE_NUMBER : Sta Z h0 "com/example/hauora_id/hauoraid/model/Claim" "MOBILE_NUMBER" "Lcom/example/hauora_id/hauoraid/model/Claim;" (.ref s_MOBILE_NUMBER)) (E_MOBILE_NUMBER : Exa Z h0 s_MOBILE_NUMBER "com/example/hauora_id/hauoraid/model/Claim") (S_NHI : Sta Z h0 "com/example/hauora_id/hauoraid/model/Claim" "NHI" "Lcom/example/hauora_id/hauoraid/model/Claim;" (.ref s_NHI)) (E_NHI : Exa Z h0 s_NHI "com/example/hauora_id/hauoraid/model/Claim") (S_CPN : Sta Z h0 "com/example/hauora_id/hauoraid/model/Claim" "CPN" "Lcom/example/hauora_id/hauoraid/model/Claim;" (.ref s_CPN)) (E_CPN : Exa Z h0 s_CPN "com/example/hauora_id/hauoraid/model/Claim") (S_RELATIONSHIPS : Sta Z h0 "com/example/hauora_id/hauoraid/model/Claim" "RELATIONSHIPS" "Lcom/example/hauora_id/hauoraid/model/Claim;" (.ref s_RELATIONSHIPS)) (E_RELATIONSHIPS : Exa Z h0 s_RELATIONSHIPS "com/example/hauora_id/hauoraid/model/Claim") (S_CONFIDENCE_LEVEL : Sta Z h0 "com/example/hauora_id/hauoraid/model/Claim" "CONFIDENCE_LEVEL" "Lcom/example/hauora_id/hauoraid/model/Claim;" (.ref s_CONFIDENCE_LEVEL)) (E_CONFIDENCE_LEVEL : Exa Z h0 s_CONFIDENCE_LEVEL "com/example/hauora_id/hauoraid/model/Claim") (S_WORKFORCE : Sta Z h0 "com/example/hauora_id/hauoraid/model/Realm" "WORKFORCE" "Lcom/example/hauora_id/hauoraid/model/Realm;" (.ref s_WORKFORCE)) (E_WORKFORCE : Exa Z h0 s_WORKFORCE "com/example/hauora_id/hauoraid/model/Realm") (F_SUB_only : Fld Z h0 s_SUB "com/example/hauora_id/hauoraid/model/Claim" "only" "Lcom/example/hauora_id/hauoraid/model/Realm;" .null) (F_GIVEN_NAME_only : Fld Z h0 s_GIVEN_NAME "com/example/hauora_id/hauoraid/model/Claim" "only" "Lcom/example/hauora_id/hauoraid/model/Realm;" .null) (S_CONSUMER : Sta Z h0 "com/example/hauora_id/hauoraid/model/Realm" "CONSUMER" "Lcom/example/hauora_id/hauoraid/model/Realm;" (.ref s_CONSUMER)) (E_CONSUMER : Exa Z h0 s_CONSUMER "com/example/hauora_id/hauoraid/model/Realm") (F_NHI_only : Fld Z h0 s_NHI "com/example/hauora_id/hauoraid/model/Claim" "only" "Lcom/example/hauora_id/hauoraid/model/Realm;" (.ref s_CONSUMER)) (F_FAMILY_NAME_only : Fld Z h0 s_FAMILY_NAME "com/example/hauora_id/hauoraid/model/Claim" "only" "Lcom/example/hauora_id/hauoraid/model/Realm;" .null) (F_EMAIL_only : Fld Z h0 s_EMAIL "com/example/hauora_id/hauoraid/model/Claim" "only" "Lcom/example/hauora_id/hauoraid/model/Realm;" .null) (F_BIRTHDATE_only : Fld Z h0 s_BIRTHDATE "com/example/hauora_id/hauoraid/model/Claim" "only" "Lcom/example/hauora_id/hauoraid/model/Realm;" .null) (F_CONSUMER_ordinal : Fld Z h0 s_CONSUMER "java/lang/Enum" "ordinal" "I" (.int (0 : Int32))) (F_WORKFORCE_ordinal : Fld Z h0 s_WORKFORCE "java/lang/Enum" "ordinal" "I" (.int (1 : Int32))) (F_CONFIDENCE_LEVEL_only : Fld Z h0 s_CONFIDENCE_LEVEL "com/example/hauora_id/hauoraid/model/Claim" "only" "Lcom/example/hauora_id/hauoraid/model/Realm;" .null) (F_MIDDLE_NAME_only : Fld Z h0 s_MIDDLE_NAME "com/example/hauora_id/hauoraid/model/Claim" "only" "Lcom/example/hauora_id/hauoraid/model/Realm;" .null) (F_CPN_only : Fld Z h0 s_CPN "com/example/hauora_id/hauoraid/model/Claim" "only" "Lcom/example/hauora_id/hauoraid/model/Realm;" (.ref s_WORKFORCE)) (F_MOBILE_NUMBER_only : Fld Z h0 s_MOBILE_NUMBER "com/example/hauora_id/hauoraid/model/Claim" "only" "Lcom/example/hauora_id/hauoraid/model/Realm;" .null) (F_RELATIONSHIPS_only : Fld Z h0 s_RELATIONSHIPS "com/example/hauora_id/hauoraid/model/Claim" "only" "Lcom/example/hauora_id/hauoraid/model/Realm;" (.ref s_CONSUMER)) (F_NICKNAME_only : Fld Z h0 s_NICKNAME "com/example/hauora_id/hauoraid/model/Claim" "only" "Lcom/example/hauora_id/hauoraid/model/Realm;" .null) :
    MetFree l x (head1 (Jvm.Cond.code x code maxLocals ret :: ws) room_1) (fun a U => a = #[(.int p0), (.int p1)] ∧ Z.Warmed39 U.vm ∧ U.heap = h0) (fun _ _ _ _ _ => True) (fun _ U o U' => ∃ v L, o = .returned v ∧ Q0 Z n0 p0 p1 s_SUB s_EMAIL s_GIVEN_NAME s_MIDDLE_NAME s_FAMILY_NAME s_NICKNAME s_BIRTHDATE s_MOBILE_NUMBER s_NHI s_CPN s_RELATIONSHIPS s_CONFIDENCE_LEVEL s_WORKFORCE s_CONSUMER h0 v U'.heap L ∧ FrameEnd U o U' L room_1.cells room_1.slots) := by
  refine MetFree.of_bodySF (plainFor_of_name pn_20) hisR ?_
  intro p e s m args below meth c s₁ Bd hml0 hP hK
  obtain ⟨rfl, hZ, hh⟩ := hP
  have hx := Bd.exec
  have hby := Bd.bytes
  have hml : c.maxLocals = 8 := hml0
  have hown : s.vm.findClass "com/example/hauora_id/hauoraid/model/ClaimHeldInPinLaw" = some m.cls := findClass_of_methodNamed Bd.named
  have hnm := (name_of_methodNamed Bd.named Bd.method).1
  have X0 : Stand p l e room_1 s m #[(.int p0), (.int p1)] below meth c s₁ [] 0 0 := Stand.of_body Bd
  have e0 : s₁.heap = h0 := by rw [← hh, Bd.state]; rfl
  have N0 := Fr.nil n0
  have K0 : Keep h0 h0 [] := Keep.refl _ _
  have go0 : ∀ t, Steps p.tables e below (s₁.setTop (mkF m 0 #[.val (.int p0), .val (.int p1), .unset, .unset, .unset, .unset, .unset, .unset] [])) t → Steps p.tables e below (s₁.setTop (entryFrame m #[(.int p0), (.int p1)] maxLocals)) t := fun t k => castTop (ef0 m p0 p1) k
  have ne_CW : s_CONSUMER ≠ s_WORKFORCE := Fld.ne F_CONSUMER_ordinal F_WORKFORCE_ordinal (by decide)
  have go3 : ∀ t, Steps p.tables e below (s₁.setTop (mkF m 19 #[.val (.int p0), .val (.int p1), .val (.int (v0_1 p0)), .unset, .unset, .unset, .unset, .unset] [(.int (b0_4 p1))])) t → Steps p.tables e below (s₁.setTop (entryFrame m #[(.int p0), (.int p1)] maxLocals)) t := by
    intro t k
    refine go0 _ ?_
    refine XS.iloadN X0.here hx rfl (hb hby at_0) rfl ?_
    show Steps p.tables e below (s₁.setTop (mkF m 1 #[.val (.int p0), .val (.int p1), .unset, .unset, .unset, .unset, .unset, .unset] [(.int p0)])) t
    refine X0.ldcInt hx hown (mvT hZ (hw _ (List.mem_of_getElem? (i := 0) rfl))) (g := (mkF m 1 #[.val (.int p0), .val (.int p1), .unset, .unset, .unset, .unset, .unset, .unset] [(.int p0)])) rfl (hb hby at_1) _ ?_
    show Steps p.tables e below (s₁.setTop (mkF m 3 #[.val (.int p0), .val (.int p1), .unset, .unset, .unset, .unset, .unset, .unset] [(.int (2147483647 : Int32)), (.int p0)])) t
    refine XS.iand X0.here hx rfl (hb hby at_3) rfl ?_
    show Steps p.tables e below (s₁.setTop (mkF m 4 #[.val (.int p0), .val (.int p1), .unset, .unset, .unset, .unset, .unset, .unset] [(.int (p0 &&& (2147483647 : Int32)))])) t
    refine XS.bipush X0.here hx rfl (hb hby at_4) ?_
    show Steps p.tables e below (s₁.setTop (mkF m 6 #[.val (.int p0), .val (.int p1), .unset, .unset, .unset, .unset, .unset, .unset] [(.int (12 : Int32)), (.int (p0 &&& (2147483647 : Int32)))])) t
    refine iremM X0 hx rfl (hb hby at_6) rfl (by decide) ?_
    show Steps p.tables e below (s₁.setTop (mkF m 7 #[.val (.int p0), .val (.int p1), .unset, .unset, .unset, .unset, .unset, .unset] [(.int ((p0 &&& (2147483647 : Int32)) % (12 : Int32)))])) t
    show Steps p.tables e below (s₁.setTop (mkF m 7 #[.val (.int p0), .val (.int p1), .unset, .unset, .unset, .unset, .unset, .unset] [(.int (v0_1 p0))])) t
    refine XS.istoreN X0.here hx rfl (hb hby at_7) rfl (l' := #[.val (.int p0), .val (.int p1), .val (.int (v0_1 p0)), .unset, .unset, .unset, .unset, .unset]) rfl ?_
    show Steps p.tables e below (s₁.setTop (mkF m 8 #[.val (.int p0), .val (.int p1), .val (.int (v0_1 p0)), .unset, .unset, .unset, .unset, .unset] [])) t
    refine XS.iloadN X0.here hx rfl (hb hby at_8) rfl ?_
    show Steps p.tables e below (s₁.setTop (mkF m 9 #[.val (.int p0), .val (.int p1), .val (.int (v0_1 p0)), .unset, .unset, .unset, .unset, .unset] [(.int p1)])) t
    refine XS.iconst X0.here hx rfl (hb hby at_9) ?_
    show Steps p.tables e below (s₁.setTop (mkF m 10 #[.val (.int p0), .val (.int p1), .val (.int (v0_1 p0)), .unset, .unset, .unset, .unset, .unset] [(.int (1 : Int32)), (.int p1)])) t
    refine XS.iand X0.here hx rfl (hb hby at_10) rfl ?_
    show Steps p.tables e below (s₁.setTop (mkF m 11 #[.val (.int p0), .val (.int p1), .val (.int (v0_1 p0)), .unset, .unset, .unset, .unset, .unset] [(.int (p1 &&& (1 : Int32)))])) t
    by_cases hc2 : (p1 &&& (1 : Int32)) = (0 : Int32)
    · refine XS.ifNo X0.here hx rfl (hb hby at_11) rfl (XT.i0_ne_f hc2) ?_
      show Steps p.tables e below (s₁.setTop (mkF m 14 #[.val (.int p0), .val (.int p1), .val (.int (v0_1 p0)), .unset, .unset, .unset, .unset, .unset] [])) t
      refine XS.iconst X0.here hx rfl (hb hby at_14) ?_
      show Steps p.tables e below (s₁.setTop (mkF m 15 #[.val (.int p0), .val (.int p1), .val (.int (v0_1 p0)), .unset, .unset, .unset, .unset, .unset] [(.int (1 : Int32))])) t
      refine XS.goto X0.here hx rfl (pc0 := 15) (pc' := 19) rfl (hb hby at_15) (by decide) (by decide) ?_
      show Steps p.tables e below (s₁.setTop (mkF m 19 #[.val (.int p0), .val (.int p1), .val (.int (v0_1 p0)), .unset, .unset, .unset, .unset, .unset] [(.int (1 : Int32))])) t
      have hq5 : (b0_4 p1) = (1 : Int32) := by rw [b0_4, if_pos hc2]
      rw [hq5] at k
      exact k
    · refine XS.ifYes X0.here hx rfl (pc0 := 11) (pc' := 18) rfl (hb hby at_11) rfl (XT.i0_ne_t hc2) (by decide) (by decide) ?_
      show Steps p.tables e below (s₁.setTop (mkF m 18 #[.val (.int p0), .val (.int p1), .val (.int (v0_1 p0)), .unset, .unset, .unset, .unset, .unset] [])) t
      refine XS.iconst X0.here hx rfl (hb hby at_18) ?_
      show Steps p.tables e below (s₁.setTop (mkF m 19 #[.val (.int p0), .val (.int p1), .val (.int (v0_1 p0)), .unset, .unset, .unset, .unset, .unset] [(.int (0 : Int32))])) t
      have hq6 : (b0_4 p1) = (0 : Int32) := by rw [b0_4, if_neg hc2]
      rw [hq6] at k
      exact k
  have go7 : ∀ t, Steps p.tables e below (s₁.setTop (mkF m 22 #[.val (.int p0), .val (.int p1), .val (.int (v0_1 p0)), .val (.int (b0_4 p1)), .unset, .unset, .unset, .unset] [(.int (12 : Int32))])) t → Steps p.tables e below (s₁.setTop (entryFrame m #[(.int p0), (.int p1)] maxLocals)) t := by
    intro t k
    refine go3 _ ?_
    refine XS.istoreN X0.here hx rfl (hb hby at_19) rfl (l' := #[.val (.int p0), .val (.int p1), .val (.int (v0_1 p0)), .val (.int (b0_4 p1)), .unset, .unset, .unset, .unset]) rfl ?_
    show Steps p.tables e below (s₁.setTop (mkF m 20 #[.val (.int p0), .val (.int p1), .val (.int (v0_1 p0)), .val (.int (b0_4 p1)), .unset, .unset, .unset, .unset] [])) t
    refine XS.bipush X0.here hx rfl (hb hby at_20) ?_
    show Steps p.tables e below (s₁.setTop (mkF m 22 #[.val (.int p0), .val (.int p1), .val (.int (v0_1 p0)), .val (.int (b0_4 p1)), .unset, .unset, .unset, .unset] [(.int (12 : Int32))])) t
    exact k
  obtain ⟨T8, h8, k8, X8, e8, E8, A8, O8, st8⟩ := newR X0 hx hZ hown (hw _ (List.mem_of_getElem? (i := 1) rfl)) (hw _ (List.mem_of_getElem? (i := 2) rfl)) e0 (g := (mkF m 22 #[.val (.int p0), .val (.int p1), .val (.int (v0_1 p0)), .val (.int (b0_4 p1)), .unset, .unset, .unset, .unset] [(.int (12 : Int32))])) rfl (hb hby at_22) rfl (by decide) (cap := 12) (by decide) (by decide) (by decide) (by decide)
  obtain ⟨b8, g8⟩ : ∃ z, z = h0.size := ⟨_, rfl⟩
  rw [← g8] at A8 st8
  have ne9 : s_SUB ≠ b8 := Nat.ne_of_lt (Nat.lt_of_lt_of_le E_SUB.lt (Nat.le_of_eq g8.symm))
  have ne10 : s_EMAIL ≠ b8 := Nat.ne_of_lt (Nat.lt_of_lt_of_le E_EMAIL.lt (Nat.le_of_eq g8.symm))
  have ne11 : s_GIVEN_NAME ≠ b8 := Nat.ne_of_lt (Nat.lt_of_lt_of_le E_GIVEN_NAME.lt (Nat.le_of_eq g8.symm))
  have ne12 : s_MIDDLE_NAME ≠ b8 := Nat.ne_of_lt (Nat.lt_of_lt_of_le E_MIDDLE_NAME.lt (Nat.le_of_eq g8.symm))
  have ne13 : s_FAMILY_NAME ≠ b8 := Nat.ne_of_lt (Nat.lt_of_lt_of_le E_FAMILY_NAME.lt (Nat.le_of_eq g8.symm))
  have ne14 : s_NICKNAME ≠ b8 := Nat.ne_of_lt (Nat.lt_of_lt_of_le E_NICKNAME.lt (Nat.le_of_eq g8.symm))
  have ne15 : s_BIRTHDATE ≠ b8 := Nat.ne_of_lt (Nat.lt_of_lt_of_le E_BIRTHDATE.lt (Nat.le_of_eq g8.symm))
  have ne16 : s_MOBILE_NUMBER ≠ b8 := Nat.ne_of_lt (Nat.lt_of_lt_of_le E_MOBILE_NUMBER.lt (Nat.le_of_eq g8.symm))
  have ne17 : s_NHI ≠ b8 := Nat.ne_of_lt (Nat.lt_of_lt_of_le E_NHI.lt (Nat.le_of_eq g8.symm))
  have ne18 : s_CPN ≠ b8 := Nat.ne_of_lt (Nat.lt_of_lt_of_le E_CPN.lt (Nat.le_of_eq g8.symm))
  have ne19 : s_RELATIONSHIPS ≠ b8 := Nat.ne_of_lt (Nat.lt_of_lt_of_le E_RELATIONSHIPS.lt (Nat.le_of_eq g8.symm))
  have ne20 : s_CONFIDENCE_LEVEL ≠ b8 := Nat.ne_of_lt (Nat.lt_of_lt_of_le E_CONFIDENCE_LEVEL.lt (Nat.le_of_eq g8.symm))
  have ne21 : s_WORKFORCE ≠ b8 := Nat.ne_of_lt (Nat.lt_of_lt_of_le E_WORKFORCE.lt (Nat.le_of_eq g8.symm))
  have ne22 : s_CONSUMER ≠ b8 := Nat.ne_of_lt (Nat.lt_of_lt_of_le E_CONSUMER.lt (Nat.le_of_eq g8.symm))
  have low8 : n0 ≤ b8 := Nat.le_trans Z0 (Nat.le_of_eq g8.symm)
  have fsh8 : h0.size ≤ b8 := Nat.le_trans K0.1 (Nat.le_of_eq g8.symm)
  have K8 : Keep h0 h8 [] := K0.ext E8
  have Zs8 : n0 ≤ h8.size := Nat.le_trans Z0 E8.1
  have go23 : ∀ t, Steps p.tables e below (T8.setTop (mkF m 25 #[.val (.int p0), .val (.int p1), .val (.int (v0_1 p0)), .val (.int (b0_4 p1)), .unset, .unset, .unset, .unset] [(.ref b8)])) t → Steps p.tables e below (s₁.setTop (entryFrame m #[(.int p0), (.int p1)] maxLocals)) t := fun t k => go7 _ (st8 _ k)
  have F24 : Sta Z h8 "com/example/hauora_id/hauoraid/model/Claim" "SUB" "Lcom/example/hauora_id/hauoraid/model/Claim;" (.ref s_SUB) := S_SUB.ext E8
  have F25 : Exa Z h8 s_SUB "com/example/hauora_id/hauoraid/model/Claim" := E_SUB.ext E8
  have F26 : Sta Z h8 "com/example/hauora_id/hauoraid/model/Claim" "EMAIL" "Lcom/example/hauora_id/hauoraid/model/Claim;" (.ref s_EMAIL) := S_EMAIL.ext E8
  have F27 : Exa Z h8 s_EMAIL "com/example/hauora_id/hauoraid/model/Claim" := E_EMAIL.ext E8
  have F28 : Sta Z h8 "com/example/hauora_id/hauoraid/model/Claim" "GIVEN_NAME" "Lcom/example/hauora_id/hauoraid/model/Claim;" (.ref s_GIVEN_NAME) := S_GIVEN_NAME.ext E8
  have F29 : Exa Z h8 s_GIVEN_NAME "com/example/hauora_id/hauoraid/model/Claim" := E_GIVEN_NAME.ext E8
  have F30 : Sta Z h8 "com/example/hauora_id/hauoraid/model/Claim" "MIDDLE_NAME" "Lcom/example/hauora_id/hauoraid/model/Claim;" (.ref s_MIDDLE_NAME) := S_MIDDLE_NAME.ext E8
  have F31 : Exa Z h8 s_MIDDLE_NAME "com/example/hauora_id/hauoraid/model/Claim" := E_MIDDLE_NAME.ext E8
  have F32 : Sta Z h8 "com/example/hauora_id/hauoraid/model/Claim" "FAMILY_NAME" "Lcom/example/hauora_id/hauoraid/model/Claim;" (.ref s_FAMILY_NAME) := S_FAMILY_NAME.ext E8
  have F33 : Exa Z h8 s_FAMILY_NAME "com/example/hauora_id/hauoraid/model/Claim" := E_FAMILY_NAME.ext E8
  have F34 : Sta Z h8 "com/example/hauora_id/hauoraid/model/Claim" "NICKNAME" "Lcom/example/hauora_id/hauoraid/model/Claim;" (.ref s_NICKNAME) := S_NICKNAME.ext E8
  have F35 : Exa Z h8 s_NICKNAME "com/example/hauora_id/hauoraid/model/Claim" := E_NICKNAME.ext E8
  have F36 : Sta Z h8 "com/example/hauora_id/hauoraid/model/Claim" "BIRTHDATE" "Lcom/example/hauora_id/hauoraid/model/Claim;" (.ref s_BIRTHDATE) := S_BIRTHDATE.ext E8
  have F37 : Exa Z h8 s_BIRTHDATE "com/example/hauora_id/hauoraid/model/Claim" := E_BIRTHDATE.ext E8
  have F38 : Sta Z h8 "com/example/hauora_id/hauoraid/model/Claim" "MOBILE_NUMBER" "Lcom/example/hauora_id/hauoraid/model/Claim;" (.ref s_MOBILE_NUMBER) := S_MOBILE_NUMBER.ext E8
  have F39 : Exa Z h8 s_MOBILE_NUMBER "com/example/hauora_id/hauoraid/model/Claim" := E_MOBILE_NUMBER.ext E8
  have F40 : Sta Z h8 "com/example/hauora_id/hauoraid/model/Claim" "NHI" "Lcom/example/hauora_id/hauoraid/model/Claim;" (.ref s_NHI) := S_NHI.ext E8
  have F41 : Exa Z h8 s_NHI "com/example/hauora_id/hauoraid/model/Claim" := E_NHI.ext E8
  have F42 : Sta Z h8 "com/example/hauora_id/hauoraid/model/Claim" "CPN" "Lcom/example/hauora_id/hauoraid/model/Claim;" (.ref s_CPN) := S_CPN.ext E8
  have F43 : Exa Z h8 s_CPN "com/example/hauora_id/hauoraid/model/Claim" := E_CPN.ext E8
  have F44 : Sta Z h8 "com/example/hauora_id/hauoraid/model/Claim" "RELATIONSHIPS" "Lcom/example/hauora_id/hauoraid/model/Claim;" (.ref s_RELATIONSHIPS) := S_RELATIONSHIPS.ext E8
  have F45 : Exa Z h8 s_RELATIONSHIPS "com/example/hauora_id/hauoraid/model/Claim" := E_RELATIONSHIPS.ext E8
  have F46 : Sta Z h8 "com/example/hauora_id/hauoraid/model/Claim" "CONFIDENCE_LEVEL" "Lcom/example/hauora_id/hauoraid/model/Claim;" (.ref s_CONFIDENCE_LEVEL) := S_CONFIDENCE_LEVEL.ext E8
  have F47 : Exa Z h8 s_CONFIDENCE_LEVEL "com/example/hauora_id/hauoraid/model/Claim" := E_CONFIDENCE_LEVEL.ext E8
  have F48 : Sta Z h8 "com/example/hauora_id/hauoraid/model/Realm" "WORKFORCE" "Lcom/example/hauora_id/hauoraid/model/Realm;" (.ref s_WORKFORCE) := S_WORKFORCE.ext E8
  have F49 : Exa Z h8 s_WORKFORCE "com/example/hauora_id/hauoraid/model/Realm" := E_WORKFORCE.ext E8
  have F50 : Fld Z h8 s_SUB "com/example/hauora_id/hauoraid/model/Claim" "only" "Lcom/example/hauora_id/hauoraid/model/Realm;" .null := F_SUB_only.ext E8
  have F51 : Fld Z h8 s_GIVEN_NAME "com/example/hauora_id/hauoraid/model/Claim" "only" "Lcom/example/hauora_id/hauoraid/model/Realm;" .null := F_GIVEN_NAME_only.ext E8
  have F52 : Sta Z h8 "com/example/hauora_id/hauoraid/model/Realm" "CONSUMER" "Lcom/example/hauora_id/hauoraid/model/Realm;" (.ref s_CONSUMER) := S_CONSUMER.ext E8
  have F53 : Exa Z h8 s_CONSUMER "com/example/hauora_id/hauoraid/model/Realm" := E_CONSUMER.ext E8
  have F54 : Fld Z h8 s_NHI "com/example/hauora_id/hauoraid/model/Claim" "only" "Lcom/example/hauora_id/hauoraid/model/Realm;" (.ref s_CONSUMER) := F_NHI_only.ext E8
  have F55 : Fld Z h8 s_FAMILY_NAME "com/example/hauora_id/hauoraid/model/Claim" "only" "Lcom/example/hauora_id/hauoraid/model/Realm;" .null := F_FAMILY_NAME_only.ext E8
  have F56 : Fld Z h8 s_EMAIL "com/example/hauora_id/hauoraid/model/Claim" "only" "Lcom/example/hauora_id/hauoraid/model/Realm;" .null := F_EMAIL_only.ext E8
  have F57 : Fld Z h8 s_BIRTHDATE "com/example/hauora_id/hauoraid/model/Claim" "only" "Lcom/example/hauora_id/hauoraid/model/Realm;" .null := F_BIRTHDATE_only.ext E8
  have F58 : Fld Z h8 s_CONSUMER "java/lang/Enum" "ordinal" "I" (.int (0 : Int32)) := F_CONSUMER_ordinal.ext E8
  have F59 : Fld Z h8 s_WORKFORCE "java/lang/Enum" "ordinal" "I" (.int (1 : Int32)) := F_WORKFORCE_ordinal.ext E8
  have F60 : Fld Z h8 s_CONFIDENCE_LEVEL "com/example/hauora_id/hauoraid/model/Claim" "only" "Lcom/example/hauora_id/hauoraid/model/Realm;" .null := F_CONFIDENCE_LEVEL_only.ext E8
  have F61 : Fld Z h8 s_MIDDLE_NAME "com/example/hauora_id/hauoraid/model/Claim" "only" "Lcom/example/hauora_id/hauoraid/model/Realm;" .null := F_MIDDLE_NAME_only.ext E8
  have F62 : Fld Z h8 s_CPN "com/example/hauora_id/hauoraid/model/Claim" "only" "Lcom/example/hauora_id/hauoraid/model/Realm;" (.ref s_WORKFORCE) := F_CPN_only.ext E8
  have F63 : Fld Z h8 s_MOBILE_NUMBER "com/example/hauora_id/hauoraid/model/Claim" "only" "Lcom/example/hauora_id/hauoraid/model/Realm;" .null := F_MOBILE_NUMBER_only.ext E8
  have F64 : Fld Z h8 s_RELATIONSHIPS "com/example/hauora_id/hauoraid/model/Claim" "only" "Lcom/example/hauora_id/hauoraid/model/Realm;" (.ref s_CONSUMER) := F_RELATIONSHIPS_only.ext E8
  have F65 : Fld Z h8 s_NICKNAME "com/example/hauora_id/hauoraid/model/Claim" "only" "Lcom/example/hauora_id/hauoraid/model/Realm;" .null := F_NICKNAME_only.ext E8
  have F66 : Arv Z h8 b8 k8 (.object "com/example/hauora_id/hauoraid/model/Claim") (12 : Int32) [.null, .null, .null, .null, .null, .null, .null, .null, .null, .null, .null, .null] .null := (Arv.new A8 (by decide)).pad (pad_rep [] .null 12)
  have go67 : ∀ t, Steps p.tables e below (T8.setTop (mkF m 27 #[.val (.int p0), .val (.int p1), .val (.int (v0_1 p0)), .val (.int (b0_4 p1)), .unset, .unset, .unset, .unset] [(.int (0 : Int32)), (.ref b8), (.ref b8)])) t → Steps p.tables e below (s₁.setTop (entryFrame m #[(.int p0), (.int p1)] maxLocals)) t := by
    intro t k
    refine go23 _ ?_
    refine XS.dup X8.here hx rfl (hb hby at_25) rfl rfl ?_
    show Steps p.tables e below (T8.setTop (mkF m 26 #[.val (.int p0), .val (.int p1), .val (.int (v0_1 p0)), .val (.int (b0_4 p1)), .unset, .unset, .unset, .unset] [(.ref b8), (.ref b8)])) t
    refine XS.iconst X8.here hx rfl (hb hby at_26) ?_
    show Steps p.tables e below (T8.setTop (mkF m 27 #[.val (.int p0), .val (.int p1), .val (.int (v0_1 p0)), .val (.int (b0_4 p1)), .unset, .unset, .unset, .unset] [(.int (0 : Int32)), (.ref b8), (.ref b8)])) t
    exact k
  obtain ⟨T68, X68, e68, st68⟩ := getS2 X8 hx hZ hown (host := "") (Or.inl (hw _ (List.mem_of_getElem? (i := 3) rfl))) Via.refl e8 F24 (g := (mkF m 27 #[.val (.int p0), .val (.int p1), .val (.int (v0_1 p0)), .val (.int (b0_4 p1)), .unset, .unset, .unset, .unset] [(.int (0 : Int32)), (.ref b8), (.ref b8)])) rfl (hb hby at_27)
  have go69 : ∀ t, Steps p.tables e below (T68.setTop (mkF m 30 #[.val (.int p0), .val (.int p1), .val (.int (v0_1 p0)), .val (.int (b0_4 p1)), .unset, .unset, .unset, .unset] [(.ref s_SUB), (.int (0 : Int32)), (.ref b8), (.ref b8)])) t → Steps p.tables e below (s₁.setTop (entryFrame m #[(.int p0), (.int p1)] maxLocals)) t := fun t k => go67 _ (st68 _ k)
  obtain ⟨cl71, Ar71, q71, S71, N71, H71, G71⟩ := id F66
  obtain ⟨T70, h70, X70, e70, W70, st70⟩ := stR X68 hx hZ e68 Ar71 (j := (0 : Int32)) (inb_of S71 ⟨by decide, by decide⟩) rfl (Sto.ofV Ar71 q71 O8 (Ins.self F25)) (g := (mkF m 30 #[.val (.int p0), .val (.int p1), .val (.int (v0_1 p0)), .val (.int (b0_4 p1)), .unset, .unset, .unset, .unset] [(.ref s_SUB), (.int (0 : Int32)), (.ref b8), (.ref b8)])) rfl rfl (hb hby at_30)
  have go72 : ∀ t, Steps p.tables e below (T70.setTop (mkF m 31 #[.val (.int p0), .val (.int p1), .val (.int (v0_1 p0)), .val (.int (b0_4 p1)), .unset, .unset, .unset, .unset] [(.ref b8)])) t → Steps p.tables e below (s₁.setTop (entryFrame m #[(.int p0), (.int p1)] maxLocals)) t := fun t k => go69 _ (st70 _ k)
  have N70 := Fr.snoc X70 N0 low8
  have K70 : Keep h0 h70 [] := K8.wr W70 (Or.inr fsh8)
  have Zs70 : n0 ≤ h70.size := Nat.le_trans Zs8 (Keep.of_wr W70).1
  have F73 : Sta Z h70 "com/example/hauora_id/hauoraid/model/Claim" "SUB" "Lcom/example/hauora_id/hauoraid/model/Claim;" (.ref s_SUB) := F24.wr W70
  have F74 : Exa Z h70 s_SUB "com/example/hauora_id/hauoraid/model/Claim" := F25.wr W70
  have F75 : Sta Z h70 "com/example/hauora_id/hauoraid/model/Claim" "EMAIL" "Lcom/example/hauora_id/hauoraid/model/Claim;" (.ref s_EMAIL) := F26.wr W70
  have F76 : Exa Z h70 s_EMAIL "com/example/hauora_id/hauoraid/model/Claim" := F27.wr W70
  have F77 : Sta Z h70 "com/example/hauora_id/hauoraid/model/Claim" "GIVEN_NAME" "Lcom/example/hauora_id/hauoraid/model/Claim;" (.ref s_GIVEN_NAME) := F28.wr W70
  have F78 : Exa Z h70 s_GIVEN_NAME "com/example/hauora_id/hauoraid/model/Claim" := F29.wr W70
  have F79 : Sta Z h70 "com/example/hauora_id/hauoraid/model/Claim" "MIDDLE_NAME" "Lcom/example/hauora_id/hauoraid/model/Claim;" (.ref s_MIDDLE_NAME) := F30.wr W70
  have F80 : Exa Z h70 s_MIDDLE_NAME "com/example/hauora_id/hauoraid/model/Claim" := F31.wr W70
  have F81 : Sta Z h70 "com/example/hauora_id/hauoraid/model/Claim" "FAMILY_NAME" "Lcom/example/hauora_id/hauoraid/model/Claim;" (.ref s_FAMILY_NAME) := F32.wr W70
  have F82 : Exa Z h70 s_FAMILY_NAME "com/example/hauora_id/hauoraid/model/Claim" := F33.wr W70
  have F83 : Sta Z h70 "com/example/hauora_id/hauoraid/model/Claim" "NICKNAME" "Lcom/example/hauora_id/hauoraid/model/Claim;" (.ref s_NICKNAME) := F34.wr W70
  have F84 : Exa Z h70 s_NICKNAME "com/example/hauora_id/hauoraid/model/Claim" := F35.wr W70
  have F85 : Sta Z h70 "com/example/hauora_id/hauoraid/model/Claim" "BIRTHDATE" "Lcom/example/hauora_id/hauoraid/model/Claim;" (.ref s_BIRTHDATE) := F36.wr W70
  have F86 : Exa Z h70 s_BIRTHDATE "com/example/hauora_id/hauoraid/model/Claim" := F37.wr W70
  have F87 : Sta Z h70 "com/example/hauora_id/hauoraid/model/Claim" "MOBILE_NUMBER" "Lcom/example/hauora_id/hauoraid/model/Claim;" (.ref s_MOBILE_NUMBER) := F38.wr W70
  have F88 : Exa Z h70 s_MOBILE_NUMBER "com/example/hauora_id/hauoraid/model/Claim" := F39.wr W70
  have F89 : Sta Z h70 "com/example/hauora_id/hauoraid/model/Claim" "NHI" "Lcom/example/hauora_id/hauoraid/model/Claim;" (.ref s_NHI) := F40.wr W70
  have F90 : Exa Z h70 s_NHI "com/example/hauora_id/hauoraid/model/Claim" := F41.wr W70
  have F91 : Sta Z h70 "com/example/hauora_id/hauoraid/model/Claim" "CPN" "Lcom/example/hauora_id/hauoraid/model/Claim;" (.ref s_CPN) := F42.wr W70
  have F92 : Exa Z h70 s_CPN "com/example/hauora_id/hauoraid/model/Claim" := F43.wr W70
  have F93 : Sta Z h70 "com/example/hauora_id/hauoraid/model/Claim" "RELATIONSHIPS" "Lcom/example/hauora_id/hauoraid/model/Claim;" (.ref s_RELATIONSHIPS) := F44.wr W70
  have F94 : Exa Z h70 s_RELATIONSHIPS "com/example/hauora_id/hauoraid/model/Claim" := F45.wr W70
  have F95 : Sta Z h70 "com/example/hauora_id/hauoraid/model/Claim" "CONFIDENCE_LEVEL" "Lcom/example/hauora_id/hauoraid/model/Claim;" (.ref s_CONFIDENCE_LEVEL) := F46.wr W70
  have F96 : Exa Z h70 s_CONFIDENCE_LEVEL "com/example/hauora_id/hauoraid/model/Claim" := F47.wr W70
  have F97 : Sta Z h70 "com/example/hauora_id/hauoraid/model/Realm" "WORKFORCE" "Lcom/example/hauora_id/hauoraid/model/Realm;" (.ref s_WORKFORCE) := F48.wr W70
  have F98 : Exa Z h70 s_WORKFORCE "com/example/hauora_id/hauoraid/model/Realm" := F49.wr W70
  have F99 : Fld Z h70 s_SUB "com/example/hauora_id/hauoraid/model/Claim" "only" "Lcom/example/hauora_id/hauoraid/model/Realm;" .null := F50.other W70 (Or.inl ne9)
  have F100 : Fld Z h70 s_GIVEN_NAME "com/example/hauora_id/hauoraid/model/Claim" "only" "Lcom/example/hauora_id/hauoraid/model/Realm;" .null := F51.other W70 (Or.inl ne11)
  have F101 : Sta Z h70 "com/example/hauora_id/hauoraid/model/Realm" "CONSUMER" "Lcom/example/hauora_id/hauoraid/model/Realm;" (.ref s_CONSUMER) := F52.wr W70
  have F102 : Exa Z h70 s_CONSUMER "com/example/hauora_id/hauoraid/model/Realm" := F53.wr W70
  have F103 : Fld Z h70 s_NHI "com/example/hauora_id/hauoraid/model/Claim" "only" "Lcom/example/hauora_id/hauoraid/model/Realm;" (.ref s_CONSUMER) := F54.other W70 (Or.inl ne17)
  have F104 : Fld Z h70 s_FAMILY_NAME "com/example/hauora_id/hauoraid/model/Claim" "only" "Lcom/example/hauora_id/hauoraid/model/Realm;" .null := F55.other W70 (Or.inl ne13)
  have F105 : Fld Z h70 s_EMAIL "com/example/hauora_id/hauoraid/model/Claim" "only" "Lcom/example/hauora_id/hauoraid/model/Realm;" .null := F56.other W70 (Or.inl ne10)
  have F106 : Fld Z h70 s_BIRTHDATE "com/example/hauora_id/hauoraid/model/Claim" "only" "Lcom/example/hauora_id/hauoraid/model/Realm;" .null := F57.other W70 (Or.inl ne15)
  have F107 : Fld Z h70 s_CONSUMER "java/lang/Enum" "ordinal" "I" (.int (0 : Int32)) := F58.other W70 (Or.inl ne22)
  have F108 : Fld Z h70 s_WORKFORCE "java/lang/Enum" "ordinal" "I" (.int (1 : Int32)) := F59.other W70 (Or.inl ne21)
  have F109 : Fld Z h70 s_CONFIDENCE_LEVEL "com/example/hauora_id/hauoraid/model/Claim" "only" "Lcom/example/hauora_id/hauoraid/model/Realm;" .null := F60.other W70 (Or.inl ne20)
  have F110 : Fld Z h70 s_MIDDLE_NAME "com/example/hauora_id/hauoraid/model/Claim" "only" "Lcom/example/hauora_id/hauoraid/model/Realm;" .null := F61.other W70 (Or.inl ne12)
  have F111 : Fld Z h70 s_CPN "com/example/hauora_id/hauoraid/model/Claim" "only" "Lcom/example/hauora_id/hauoraid/model/Realm;" (.ref s_WORKFORCE) := F62.other W70 (Or.inl ne18)
  have F112 : Fld Z h70 s_MOBILE_NUMBER "com/example/hauora_id/hauoraid/model/Claim" "only" "Lcom/example/hauora_id/hauoraid/model/Realm;" .null := F63.other W70 (Or.inl ne16)
  have F113 : Fld Z h70 s_RELATIONSHIPS "com/example/hauora_id/hauoraid/model/Claim" "only" "Lcom/example/hauora_id/hauoraid/model/Realm;" (.ref s_CONSUMER) := F64.other W70 (Or.inl ne19)
  have F114 : Fld Z h70 s_NICKNAME "com/example/hauora_id/hauoraid/model/Claim" "only" "Lcom/example/hauora_id/hauoraid/model/Realm;" .null := F65.other W70 (Or.inl ne14)
  have F115 : Arv Z h70 b8 k8 (.object "com/example/hauora_id/hauoraid/model/Claim") (12 : Int32) [(.ref s_SUB), .null, .null, .null, .null, .null, .null, .null, .null, .null, .null, .null] .null := Arv.set Ar71 q71 S71 N71 H71 G71 rfl W70 0 rfl (Nat.le_of_ble_eq_true rfl)
  have go116 : ∀ t, Steps p.tables e below (T70.setTop (mkF m 33 #[.val (.int p0), .val (.int p1), .val (.int (v0_1 p0)), .val (.int (b0_4 p1)), .unset, .unset, .unset, .unset] [(.int (1 : Int32)), (.ref b8), (.ref b8)])) t → Steps p.tables e below (s₁.setTop (entryFrame m #[(.int p0), (.int p1)] maxLocals)) t := by
    intro t k
    refine go72 _ ?_
    refine XS.dup X70.here hx rfl (hb hby at_31) rfl rfl ?_
    show Steps p.tables e below (T70.setTop (mkF m 32 #[.val (.int p0), .val (.int p1), .val (.int (v0_1 p0)), .val (.int (b0_4 p1)), .unset, .unset, .unset, .unset] [(.ref b8), (.ref b8)])) t
    refine XS.iconst X70.here hx rfl (hb hby at_32) ?_
    show Steps p.tables e below (T70.setTop (mkF m 33 #[.val (.int p0), .val (.int p1), .val (.int (v0_1 p0)), .val (.int (b0_4 p1)), .unset, .unset, .unset, .unset] [(.int (1 : Int32)), (.ref b8), (.ref b8)])) t
    exact k
  obtain ⟨T117, X117, e117, st117⟩ := getS2 X70 hx hZ hown (host := "") (Or.inl (hw _ (List.mem_of_getElem? (i := 7) rfl))) Via.refl e70 F75 (g := (mkF m 33 #[.val (.int p0), .val (.int p1), .val (.int (v0_1 p0)), .val (.int (b0_4 p1)), .unset, .unset, .unset, .unset] [(.int (1 : Int32)), (.ref b8), (.ref b8)])) rfl (hb hby at_33)
  have go118 : ∀ t, Steps p.tables e below (T117.setTop (mkF m 36 #[.val (.int p0), .val (.int p1), .val (.int (v0_1 p0)), .val (.int (b0_4 p1)), .unset, .unset, .unset, .unset] [(.ref s_EMAIL), (.int (1 : Int32)), (.ref b8), (.ref b8)])) t → Steps p.tables e below (s₁.setTop (entryFrame m #[(.int p0), (.int p1)] maxLocals)) t := fun t k => go116 _ (st117 _ k)
  obtain ⟨cl120, Ar120, q120, S120, N120, H120, G120⟩ := id F115
  obtain ⟨T119, h119, X119, e119, W119, st119⟩ := stR X117 hx hZ e117 Ar120 (j := (1 : Int32)) (inb_of S120 ⟨by decide, by decide⟩) rfl (Sto.ofV Ar120 q120 O8 (Ins.self F76)) (g := (mkF m 36 #[.val (.int p0), .val (.int p1), .val (.int (v0_1 p0)), .val (.int (b0_4 p1)), .unset, .unset, .unset, .unset] [(.ref s_EMAIL), (.int (1 : Int32)), (.ref b8), (.ref b8)])) rfl rfl (hb hby at_36)
  have go121 : ∀ t, Steps p.tables e below (T119.setTop (mkF m 37 #[.val (.int p0), .val (.int p1), .val (.int (v0_1 p0)), .val (.int (b0_4 p1)), .unset, .unset, .unset, .unset] [(.ref b8)])) t → Steps p.tables e below (s₁.setTop (entryFrame m #[(.int p0), (.int p1)] maxLocals)) t := fun t k => go118 _ (st119 _ k)
  have N119 := Fr.snoc X119 N70 low8
  have K119 : Keep h0 h119 [] := K70.wr W119 (Or.inr fsh8)
  have Zs119 : n0 ≤ h119.size := Nat.le_trans Zs70 (Keep.of_wr W119).1
  have F122 : Sta Z h119 "com/example/hauora_id/hauoraid/model/Claim" "SUB" "Lcom/example/hauora_id/hauoraid/model/Claim;" (.ref s_SUB) := F73.wr W119
  have F123 : Exa Z h119 s_SUB "com/example/hauora_id/hauoraid/model/Claim" := F74.wr W119
  have F124 : Sta Z h119 "com/example/hauora_id/hauoraid/model/Claim" "EMAIL" "Lcom/example/hauora_id/hauoraid/model/Claim;" (.ref s_EMAIL) := F75.wr W119
  have F125 : Exa Z h119 s_EMAIL "com/example/hauora_id/hauoraid/model/Claim" := F76.wr W119
  have F126 : Sta Z h119 "com/example/hauora_id/hauoraid/model/Claim" "GIVEN_NAME" "Lcom/example/hauora_id/hauoraid/model/Claim;" (.ref s_GIVEN_NAME) := F77.wr W119
  have F127 : Exa Z h119 s_GIVEN_NAME "com/example/hauora_id/hauoraid/model/Claim" := F78.wr W119
  have F128 : Sta Z h119 "com/example/hauora_id/hauoraid/model/Claim" "MIDDLE_NAME" "Lcom/example/hauora_id/hauoraid/model/Claim;" (.ref s_MIDDLE_NAME) := F79.wr W119
  have F129 : Exa Z h119 s_MIDDLE_NAME "com/example/hauora_id/hauoraid/model/Claim" := F80.wr W119
  have F130 : Sta Z h119 "com/example/hauora_id/hauoraid/model/Claim" "FAMILY_NAME" "Lcom/example/hauora_id/hauoraid/model/Claim;" (.ref s_FAMILY_NAME) := F81.wr W119
  have F131 : Exa Z h119 s_FAMILY_NAME "com/example/hauora_id/hauoraid/model/Claim" := F82.wr W119
  have F132 : Sta Z h119 "com/example/hauora_id/hauoraid/model/Claim" "NICKNAME" "Lcom/example/hauora_id/hauoraid/model/Claim;" (.ref s_NICKNAME) := F83.wr W119
  have F133 : Exa Z h119 s_NICKNAME "com/example/hauora_id/hauoraid/model/Claim" := F84.wr W119
  have F134 : Sta Z h119 "com/example/hauora_id/hauoraid/model/Claim" "BIRTHDATE" "Lcom/example/hauora_id/hauoraid/model/Claim;" (.ref s_BIRTHDATE) := F85.wr W119
  have F135 : Exa Z h119 s_BIRTHDATE "com/example/hauora_id/hauoraid/model/Claim" := F86.wr W119
  have F136 : Sta Z h119 "com/example/hauora_id/hauoraid/model/Claim" "MOBILE_NUMBER" "Lcom/example/hauora_id/hauoraid/model/Claim;" (.ref s_MOBILE_NUMBER) := F87.wr W119
  have F137 : Exa Z h119 s_MOBILE_NUMBER "com/example/hauora_id/hauoraid/model/Claim" := F88.wr W119
  have F138 : Sta Z h119 "com/example/hauora_id/hauoraid/model/Claim" "NHI" "Lcom/example/hauora_id/hauoraid/model/Claim;" (.ref s_NHI) := F89.wr W119
  have F139 : Exa Z h119 s_NHI "com/example/hauora_id/hauoraid/model/Claim" := F90.wr W119
  have F140 : Sta Z h119 "com/example/hauora_id/hauoraid/model/Claim" "CPN" "Lcom/example/hauora_id/hauoraid/model/Claim;" (.ref s_CPN) := F91.wr W119
  have F141 : Exa Z h119 s_CPN "com/example/hauora_id/hauoraid/model/Claim" := F92.wr W119
  have F142 : Sta Z h119 "com/example/hauora_id/hauoraid/model/Claim" "RELATIONSHIPS" "Lcom/example/hauora_id/hauoraid/model/Claim;" (.ref s_RELATIONSHIPS) := F93.wr W119
  have F143 : Exa Z h119 s_RELATIONSHIPS "com/example/hauora_id/hauoraid/model/Claim" := F94.wr W119
  have F144 : Sta Z h119 "com/example/hauora_id/hauoraid/model/Claim" "CONFIDENCE_LEVEL" "Lcom/example/hauora_id/hauoraid/model/Claim;" (.ref s_CONFIDENCE_LEVEL) := F95.wr W119
  have F145 : Exa Z h119 s_CONFIDENCE_LEVEL "com/example/hauora_id/hauoraid/model/Claim" := F96.wr W119
  have F146 : Sta Z h119 "com/example/hauora_id/hauoraid/model/Realm" "WORKFORCE" "Lcom/example/hauora_id/hauoraid/model/Realm;" (.ref s_WORKFORCE) := F97.wr W119
  have F147 : Exa Z h119 s_WORKFORCE "com/example/hauora_id/hauoraid/model/Realm" := F98.wr W119
  have F148 : Fld Z h119 s_SUB "com/example/hauora_id/hauoraid/model/Claim" "only" "Lcom/example/hauora_id/hauoraid/model/Realm;" .null := F99.other W119 (Or.inl ne9)
  have F149 : Fld Z h119 s_GIVEN_NAME "com/example/hauora_id/hauoraid/model/Claim" "only" "Lcom/example/hauora_id/hauoraid/model/Realm;" .null := F100.other W119 (Or.inl ne11)
  have F150 : Sta Z h119 "com/example/hauora_id/hauoraid/model/Realm" "CONSUMER" "Lcom/example/hauora_id/hauoraid/model/Realm;" (.ref s_CONSUMER) := F101.wr W119
  have F151 : Exa Z h119 s_CONSUMER "com/example/hauora_id/hauoraid/model/Realm" := F102.wr W119
  have F152 : Fld Z h119 s_NHI "com/example/hauora_id/hauoraid/model/Claim" "only" "Lcom/example/hauora_id/hauoraid/model/Realm;" (.ref s_CONSUMER) := F103.other W119 (Or.inl ne17)
  have F153 : Fld Z h119 s_FAMILY_NAME "com/example/hauora_id/hauoraid/model/Claim" "only" "Lcom/example/hauora_id/hauoraid/model/Realm;" .null := F104.other W119 (Or.inl ne13)
  have F154 : Fld Z h119 s_EMAIL "com/example/hauora_id/hauoraid/model/Claim" "only" "Lcom/example/hauora_id/hauoraid/model/Realm;" .null := F105.other W119 (Or.inl ne10)
  have F155 : Fld Z h119 s_BIRTHDATE "com/example/hauora_id/hauoraid/model/Claim" "only" "Lcom/example/hauora_id/hauoraid/model/Realm;" .null := F106.other W119 (Or.inl ne15)
  have F156 : Fld Z h119 s_CONSUMER "java/lang/Enum" "ordinal" "I" (.int (0 : Int32)) := F107.other W119 (Or.inl ne22)
  have F157 : Fld Z h119 s_WORKFORCE "java/lang/Enum" "ordinal" "I" (.int (1 : Int32)) := F108.other W119 (Or.inl ne21)
  have F158 : Fld Z h119 s_CONFIDENCE_LEVEL "com/example/hauora_id/hauoraid/model/Claim" "only" "Lcom/example/hauora_id/hauoraid/model/Realm;" .null := F109.other W119 (Or.inl ne20)
  have F159 : Fld Z h119 s_MIDDLE_NAME "com/example/hauora_id/hauoraid/model/Claim" "only" "Lcom/example/hauora_id/hauoraid/model/Realm;" .null := F110.other W119 (Or.inl ne12)
  have F160 : Fld Z h119 s_CPN "com/example/hauora_id/hauoraid/model/Claim" "only" "Lcom/example/hauora_id/hauoraid/model/Realm;" (.ref s_WORKFORCE) := F111.other W119 (Or.inl ne18)
  have F161 : Fld Z h119 s_MOBILE_NUMBER "com/example/hauora_id/hauoraid/model/Claim" "only" "Lcom/example/hauora_id/hauoraid/model/Realm;" .null := F112.other W119 (Or.inl ne16)
  have F162 : Fld Z h119 s_RELATIONSHIPS "com/example/hauora_id/hauoraid/model/Claim" "only" "Lcom/example/hauora_id/hauoraid/model/Realm;" (.ref s_CONSUMER) := F113.other W119 (Or.inl ne19)
  have F163 : Fld Z h119 s_NICKNAME "com/example/hauora_id/hauoraid/model/Claim" "only" "Lcom/example/hauora_id/hauoraid/model/Realm;" .null := F114.other W119 (Or.inl ne14)
  have F164 : Arv Z h119 b8 k8 (.object "com/example/hauora_id/hauoraid/model/Claim") (12 : Int32) [(.ref s_SUB), (.ref s_EMAIL), .null, .null, .null, .null, .null, .null, .null, .null, .null, .null] .null := Arv.set Ar120 q120 S120 N120 H120 G120 rfl W119 1 rfl (Nat.le_of_ble_eq_true rfl)
  have go165 : ∀ t, Steps p.tables e below (T119.setTop (mkF m 39 #[.val (.int p0), .val (.int p1), .val (.int (v0_1 p0)), .val (.int (b0_4 p1)), .unset, .unset, .unset, .unset] [(.int (2 : Int32)), (.ref b8), (.ref b8)])) t → Steps p.tables e below (s₁.setTop (entryFrame m #[(.int p0), (.int p1)] maxLocals)) t := by
    intro t k
    refine go121 _ ?_
    refine XS.dup X119.here hx rfl (hb hby at_37) rfl rfl ?_
    show Steps p.tables e below (T119.setTop (mkF m 38 #[.val (.int p0), .val (.int p1), .val (.int (v0_1 p0)), .val (.int (b0_4 p1)), .unset, .unset, .unset, .unset] [(.ref b8), (.ref b8)])) t
    refine XS.iconst X119.here hx rfl (hb hby at_38) ?_
    show Steps p.tables e below (T119.setTop (mkF m 39 #[.val (.int p0), .val (.int p1), .val (.int (v0_1 p0)), .val (.int (b0_4 p1)), .unset, .unset, .unset, .unset] [(.int (2 : Int32)), (.ref b8), (.ref b8)])) t
    exact k
  obtain ⟨T166, X166, e166, st166⟩ := getS2 X119 hx hZ hown (host := "") (Or.inl (hw _ (List.mem_of_getElem? (i := 9) rfl))) Via.refl e119 F126 (g := (mkF m 39 #[.val (.int p0), .val (.int p1), .val (.int (v0_1 p0)), .val (.int (b0_4 p1)), .unset, .unset, .unset, .unset] [(.int (2 : Int32)), (.ref b8), (.ref b8)])) rfl (hb hby at_39)
  have go167 : ∀ t, Steps p.tables e below (T166.setTop (mkF m 42 #[.val (.int p0), .val (.int p1), .val (.int (v0_1 p0)), .val (.int (b0_4 p1)), .unset, .unset, .unset, .unset] [(.ref s_GIVEN_NAME), (.int (2 : Int32)), (.ref b8), (.ref b8)])) t → Steps p.tables e below (s₁.setTop (entryFrame m #[(.int p0), (.int p1)] maxLocals)) t := fun t k => go165 _ (st166 _ k)
  obtain ⟨cl169, Ar169, q169, S169, N169, H169, G169⟩ := id F164
  obtain ⟨T168, h168, X168, e168, W168, st168⟩ := stR X166 hx hZ e166 Ar169 (j := (2 : Int32)) (inb_of S169 ⟨by decide, by decide⟩) rfl (Sto.ofV Ar169 q169 O8 (Ins.self F127)) (g := (mkF m 42 #[.val (.int p0), .val (.int p1), .val (.int (v0_1 p0)), .val (.int (b0_4 p1)), .unset, .unset, .unset, .unset] [(.ref s_GIVEN_NAME), (.int (2 : Int32)), (.ref b8), (.ref b8)])) rfl rfl (hb hby at_42)
  have go170 : ∀ t, Steps p.tables e below (T168.setTop (mkF m 43 #[.val (.int p0), .val (.int p1), .val (.int (v0_1 p0)), .val (.int (b0_4 p1)), .unset, .unset, .unset, .unset] [(.ref b8)])) t → Steps p.tables e below (s₁.setTop (entryFrame m #[(.int p0), (.int p1)] maxLocals)) t := fun t k => go167 _ (st168 _ k)
  have N168 := Fr.snoc X168 N119 low8
  have K168 : Keep h0 h168 [] := K119.wr W168 (Or.inr fsh8)
  have Zs168 : n0 ≤ h168.size := Nat.le_trans Zs119 (Keep.of_wr W168).1
  have F171 : Sta Z h168 "com/example/hauora_id/hauoraid/model/Claim" "SUB" "Lcom/example/hauora_id/hauoraid/model/Claim;" (.ref s_SUB) := F122.wr W168
  have F172 : Exa Z h168 s_SUB "com/example/hauora_id/hauoraid/model/Claim" := F123.wr W168
  have F173 : Sta Z h168 "com/example/hauora_id/hauoraid/model/Claim" "EMAIL" "Lcom/example/hauora_id/hauoraid/model/Claim;" (.ref s_EMAIL) := F124.wr W168
  have F174 : Exa Z h168 s_EMAIL "com/example/hauora_id/hauoraid/model/Claim" := F125.wr W168
  have F175 : Sta Z h168 "com/example/hauora_id/hauoraid/model/Claim" "GIVEN_NAME" "Lcom/example/hauora_id/hauoraid/model/Claim;" (.ref s_GIVEN_NAME) := F126.wr W168
  have F176 : Exa Z h168 s_GIVEN_NAME "com/example/hauora_id/hauoraid/model/Claim" := F127.wr W168
  have F177 : Sta Z h168 "com/example/hauora_id/hauoraid/model/Claim" "MIDDLE_NAME" "Lcom/example/hauora_id/hauoraid/model/Claim;" (.ref s_MIDDLE_NAME) := F128.wr W168
  have F178 : Exa Z h168 s_MIDDLE_NAME "com/example/hauora_id/hauoraid/model/Claim" := F129.wr W168
  have F179 : Sta Z h168 "com/example/hauora_id/hauoraid/model/Claim" "FAMILY_NAME" "Lcom/example/hauora_id/hauoraid/model/Claim;" (.ref s_FAMILY_NAME) := F130.wr W168
  have F180 : Exa Z h168 s_FAMILY_NAME "com/example/hauora_id/hauoraid/model/Claim" := F131.wr W168
  have F181 : Sta Z h168 "com/example/hauora_id/hauoraid/model/Claim" "NICKNAME" "Lcom/example/hauora_id/hauoraid/model/Claim;" (.ref s_NICKNAME) := F132.wr W168
  have F182 : Exa Z h168 s_NICKNAME "com/example/hauora_id/hauoraid/model/Claim" := F133.wr W168
  have F183 : Sta Z h168 "com/example/hauora_id/hauoraid/model/Claim" "BIRTHDATE" "Lcom/example/hauora_id/hauoraid/model/Claim;" (.ref s_BIRTHDATE) := F134.wr W168
  have F184 : Exa Z h168 s_BIRTHDATE "com/example/hauora_id/hauoraid/model/Claim" := F135.wr W168
  have F185 : Sta Z h168 "com/example/hauora_id/hauoraid/model/Claim" "MOBILE_NUMBER" "Lcom/example/hauora_id/hauoraid/model/Claim;" (.ref s_MOBILE_NUMBER) := F136.wr W168
  have F186 : Exa Z h168 s_MOBILE_NUMBER "com/example/hauora_id/hauoraid/model/Claim" := F137.wr W168
  have F187 : Sta Z h168 "com/example/hauora_id/hauoraid/model/Claim" "NHI" "Lcom/example/hauora_id/hauoraid/model/Claim;" (.ref s_NHI) := F138.wr W168
  have F188 : Exa Z h168 s_NHI "com/example/hauora_id/hauoraid/model/Claim" := F139.wr W168
  have F189 : Sta Z h168 "com/example/hauora_id/hauoraid/model/Claim" "CPN" "Lcom/example/hauora_id/hauoraid/model/Claim;" (.ref s_CPN) := F140.wr W168
  have F190 : Exa Z h168 s_CPN "com/example/hauora_id/hauoraid/model/Claim" := F141.wr W168
  have F191 : Sta Z h168 "com/example/hauora_id/hauoraid/model/Claim" "RELATIONSHIPS" "Lcom/example/hauora_id/hauoraid/model/Claim;" (.ref s_RELATIONSHIPS) := F142.wr W168
  have F192 : Exa Z h168 s_RELATIONSHIPS "com/example/hauora_id/hauoraid/model/Claim" := F143.wr W168
  have F193 : Sta Z h168 "com/example/hauora_id/hauoraid/model/Claim" "CONFIDENCE_LEVEL" "Lcom/example/hauora_id/hauoraid/model/Claim;" (.ref s_CONFIDENCE_LEVEL) := F144.wr W168
  have F194 : Exa Z h168 s_CONFIDENCE_LEVEL "com/example/hauora_id/hauoraid/model/Claim" := F145.wr W168
  have F195 : Sta Z h168 "com/example/hauora_id/hauoraid/model/Realm" "WORKFORCE" "Lcom/example/hauora_id/hauoraid/model/Realm;" (.ref s_WORKFORCE) := F146.wr W168
  have F196 : Exa Z h168 s_WORKFORCE "com/example/hauora_id/hauoraid/model/Realm" := F147.wr W168
  have F197 : Fld Z h168 s_SUB "com/example/hauora_id/hauoraid/model/Claim" "only" "Lcom/example/hauora_id/hauoraid/model/Realm;" .null := F148.other W168 (Or.inl ne9)
  have F198 : Fld Z h168 s_GIVEN_NAME "com/example/hauora_id/hauoraid/model/Claim" "only" "Lcom/example/hauora_id/hauoraid/model/Realm;" .null := F149.other W168 (Or.inl ne11)
  have F199 : Sta Z h168 "com/example/hauora_id/hauoraid/model/Realm" "CONSUMER" "Lcom/example/hauora_id/hauoraid/model/Realm;" (.ref s_CONSUMER) := F150.wr W168
  have F200 : Exa Z h168 s_CONSUMER "com/example/hauora_id/hauoraid/model/Realm" := F151.wr W168
  have F201 : Fld Z h168 s_NHI "com/example/hauora_id/hauoraid/model/Claim" "only" "Lcom/example/hauora_id/hauoraid/model/Realm;" (.ref s_CONSUMER) := F152.other W168 (Or.inl ne17)
  have F202 : Fld Z h168 s_FAMILY_NAME "com/example/hauora_id/hauoraid/model/Claim" "only" "Lcom/example/hauora_id/hauoraid/model/Realm;" .null := F153.other W168 (Or.inl ne13)
  have F203 : Fld Z h168 s_EMAIL "com/example/hauora_id/hauoraid/model/Claim" "only" "Lcom/example/hauora_id/hauoraid/model/Realm;" .null := F154.other W168 (Or.inl ne10)
  have F204 : Fld Z h168 s_BIRTHDATE "com/example/hauora_id/hauoraid/model/Claim" "only" "Lcom/example/hauora_id/hauoraid/model/Realm;" .null := F155.other W168 (Or.inl ne15)
  have F205 : Fld Z h168 s_CONSUMER "java/lang/Enum" "ordinal" "I" (.int (0 : Int32)) := F156.other W168 (Or.inl ne22)
  have F206 : Fld Z h168 s_WORKFORCE "java/lang/Enum" "ordinal" "I" (.int (1 : Int32)) := F157.other W168 (Or.inl ne21)
  have F207 : Fld Z h168 s_CONFIDENCE_LEVEL "com/example/hauora_id/hauoraid/model/Claim" "only" "Lcom/example/hauora_id/hauoraid/model/Realm;" .null := F158.other W168 (Or.inl ne20)
  have F208 : Fld Z h168 s_MIDDLE_NAME "com/example/hauora_id/hauoraid/model/Claim" "only" "Lcom/example/hauora_id/hauoraid/model/Realm;" .null := F159.other W168 (Or.inl ne12)
  have F209 : Fld Z h168 s_CPN "com/example/hauora_id/hauoraid/model/Claim" "only" "Lcom/example/hauora_id/hauoraid/model/Realm;" (.ref s_WORKFORCE) := F160.other W168 (Or.inl ne18)
  have F210 : Fld Z h168 s_MOBILE_NUMBER "com/example/hauora_id/hauoraid/model/Claim" "only" "Lcom/example/hauora_id/hauoraid/model/Realm;" .null := F161.other W168 (Or.inl ne16)
  have F211 : Fld Z h168 s_RELATIONSHIPS "com/example/hauora_id/hauoraid/model/Claim" "only" "Lcom/example/hauora_id/hauoraid/model/Realm;" (.ref s_CONSUMER) := F162.other W168 (Or.inl ne19)
  have F212 : Fld Z h168 s_NICKNAME "com/example/hauora_id/hauoraid/model/Claim" "only" "Lcom/example/hauora_id/hauoraid/model/Realm;" .null := F163.other W168 (Or.inl ne14)
  have F213 : Arv Z h168 b8 k8 (.object "com/example/hauora_id/hauoraid/model/Claim") (12 : Int32) [(.ref s_SUB), (.ref s_EMAIL), (.ref s_GIVEN_NAME), .null, .null, .null, .null, .null, .null, .null, .null, .null] .null := Arv.set Ar169 q169 S169 N169 H169 G169 rfl W168 2 rfl (Nat.le_of_ble_eq_true rfl)
  have go214 : ∀ t, Steps p.tables e below (T168.setTop (mkF m 45 #[.val (.int p0), .val (.int p1), .val (.int (v0_1 p0)), .val (.int (b0_4 p1)), .unset, .unset, .unset, .unset] [(.int (3 : Int32)), (.ref b8), (.ref b8)])) t → Steps p.tables e below (s₁.setTop (entryFrame m #[(.int p0), (.int p1)] maxLocals)) t := by
    intro t k
    refine go170 _ ?_
    refine XS.dup X168.here hx rfl (hb hby at_43) rfl rfl ?_
    show Steps p.tables e below (T168.setTop (mkF m 44 #[.val (.int p0), .val (.int p1), .val (.int (v0_1 p0)), .val (.int (b0_4 p1)), .unset, .unset, .unset, .unset] [(.ref b8), (.ref b8)])) t
    refine XS.iconst X168.here hx rfl (hb hby at_44) ?_
    show Steps p.tables e below (T168.setTop (mkF m 45 #[.val (.int p0), .val (.int p1), .val (.int (v0_1 p0)), .val (.int (b0_4 p1)), .unset, .unset, .unset, .unset] [(.int (3 : Int32)), (.ref b8), (.ref b8)])) t
    exact k
  obtain ⟨T215, X215, e215, st215⟩ := getS2 X168 hx hZ hown (host := "") (Or.inl (hw _ (List.mem_of_getElem? (i := 11) rfl))) Via.refl e168 F177 (g := (mkF m 45 #[.val (.int p0), .val (.int p1), .val (.int (v0_1 p0)), .val (.int (b0_4 p1)), .unset, .unset, .unset, .unset] [(.int (3 : Int32)), (.ref b8), (.ref b8)])) rfl (hb hby at_45)
  have go216 : ∀ t, Steps p.tables e below (T215.setTop (mkF m 48 #[.val (.int p0), .val (.int p1), .val (.int (v0_1 p0)), .val (.int (b0_4 p1)), .unset, .unset, .unset, .unset] [(.ref s_MIDDLE_NAME), (.int (3 : Int32)), (.ref b8), (.ref b8)])) t → Steps p.tables e below (s₁.setTop (entryFrame m #[(.int p0), (.int p1)] maxLocals)) t := fun t k => go214 _ (st215 _ k)
  obtain ⟨cl218, Ar218, q218, S218, N218, H218, G218⟩ := id F213
  obtain ⟨T217, h217, X217, e217, W217, st217⟩ := stR X215 hx hZ e215 Ar218 (j := (3 : Int32)) (inb_of S218 ⟨by decide, by decide⟩) rfl (Sto.ofV Ar218 q218 O8 (Ins.self F178)) (g := (mkF m 48 #[.val (.int p0), .val (.int p1), .val (.int (v0_1 p0)), .val (.int (b0_4 p1)), .unset, .unset, .unset, .unset] [(.ref s_MIDDLE_NAME), (.int (3 : Int32)), (.ref b8), (.ref b8)])) rfl rfl (hb hby at_48)
  have go219 : ∀ t, Steps p.tables e below (T217.setTop (mkF m 49 #[.val (.int p0), .val (.int p1), .val (.int (v0_1 p0)), .val (.int (b0_4 p1)), .unset, .unset, .unset, .unset] [(.ref b8)])) t → Steps p.tables e below (s₁.setTop (entryFrame m #[(.int p0), (.int p1)] maxLocals)) t := fun t k => go216 _ (st217 _ k)
  have N217 := Fr.snoc X217 N168 low8
  have K217 : Keep h0 h217 [] := K168.wr W217 (Or.inr fsh8)
  have Zs217 : n0 ≤ h217.size := Nat.le_trans Zs168 (Keep.of_wr W217).1
  have F220 : Sta Z h217 "com/example/hauora_id/hauoraid/model/Claim" "SUB" "Lcom/example/hauora_id/hauoraid/model/Claim;" (.ref s_SUB) := F171.wr W217
  have F221 : Exa Z h217 s_SUB "com/example/hauora_id/hauoraid/model/Claim" := F172.wr W217
  have F222 : Sta Z h217 "com/example/hauora_id/hauoraid/model/Claim" "EMAIL" "Lcom/example/hauora_id/hauoraid/model/Claim;" (.ref s_EMAIL) := F173.wr W217
  have F223 : Exa Z h217 s_EMAIL "com/example/hauora_id/hauoraid/model/Claim" := F174.wr W217
  have F224 : Sta Z h217 "com/example/hauora_id/hauoraid/model/Claim" "GIVEN_NAME" "Lcom/example/hauora_id/hauoraid/model/Claim;" (.ref s_GIVEN_NAME) := F175.wr W217
  have F225 : Exa Z h217 s_GIVEN_NAME "com/example/hauora_id/hauoraid/model/Claim" := F176.wr W217
  have F226 : Sta Z h217 "com/example/hauora_id/hauoraid/model/Claim" "MIDDLE_NAME" "Lcom/example/hauora_id/hauoraid/model/Claim;" (.ref s_MIDDLE_NAME) := F177.wr W217
  have F227 : Exa Z h217 s_MIDDLE_NAME "com/example/hauora_id/hauoraid/model/Claim" := F178.wr W217
  have F228 : Sta Z h217 "com/example/hauora_id/hauoraid/model/Claim" "FAMILY_NAME" "Lcom/example/hauora_id/hauoraid/model/Claim;" (.ref s_FAMILY_NAME) := F179.wr W217
  have F229 : Exa Z h217 s_FAMILY_NAME "com/example/hauora_id/hauoraid/model/Claim" := F180.wr W217
  have F230 : Sta Z h217 "com/example/hauora_id/hauoraid/model/Claim" "NICKNAME" "Lcom/example/hauora_id/hauoraid/model/Claim;" (.ref s_NICKNAME) := F181.wr W217
  have F231 : Exa Z h217 s_NICKNAME "com/example/hauora_id/hauoraid/model/Claim" := F182.wr W217
  have F232 : Sta Z h217 "com/example/hauora_id/hauoraid/model/Claim" "BIRTHDATE" "Lcom/example/hauora_id/hauoraid/model/Claim;" (.ref s_BIRTHDATE) := F183.wr W217
  have F233 : Exa Z h217 s_BIRTHDATE "com/example/hauora_id/hauoraid/model/Claim" := F184.wr W217
  have F234 : Sta Z h217 "com/example/hauora_id/hauoraid/model/Claim" "MOBILE_NUMBER" "Lcom/example/hauora_id/hauoraid/model/Claim;" (.ref s_MOBILE_NUMBER) := F185.wr W217
  have F235 : Exa Z h217 s_MOBILE_NUMBER "com/example/hauora_id/hauoraid/model/Claim" := F186.wr W217
  have F236 : Sta Z h217 "com/example/hauora_id/hauoraid/model/Claim" "NHI" "Lcom/example/hauora_id/hauoraid/model/Claim;" (.ref s_NHI) := F187.wr W217
  have F237 : Exa Z h217 s_NHI "com/example/hauora_id/hauoraid/model/Claim" := F188.wr W217
  have F238 : Sta Z h217 "com/example/hauora_id/hauoraid/model/Claim" "CPN" "Lcom/example/hauora_id/hauoraid/model/Claim;" (.ref s_CPN) := F189.wr W217
  have F239 : Exa Z h217 s_CPN "com/example/hauora_id/hauoraid/model/Claim" := F190.wr W217
  have F240 : Sta Z h217 "com/example/hauora_id/hauoraid/model/Claim" "RELATIONSHIPS" "Lcom/example/hauora_id/hauoraid/model/Claim;" (.ref s_RELATIONSHIPS) := F191.wr W217
  have F241 : Exa Z h217 s_RELATIONSHIPS "com/example/hauora_id/hauoraid/model/Claim" := F192.wr W217
  have F242 : Sta Z h217 "com/example/hauora_id/hauoraid/model/Claim" "CONFIDENCE_LEVEL" "Lcom/example/hauora_id/hauoraid/model/Claim;" (.ref s_CONFIDENCE_LEVEL) := F193.wr W217
  have F243 : Exa Z h217 s_CONFIDENCE_LEVEL "com/example/hauora_id/hauoraid/model/Claim" := F194.wr W217
  have F244 : Sta Z h217 "com/example/hauora_id/hauoraid/model/Realm" "WORKFORCE" "Lcom/example/hauora_id/hauoraid/model/Realm;" (.ref s_WORKFORCE) := F195.wr W217
  have F245 : Exa Z h217 s_WORKFORCE "com/example/hauora_id/hauoraid/model/Realm" := F196.wr W217
  have F246 : Fld Z h217 s_SUB "com/example/hauora_id/hauoraid/model/Claim" "only" "Lcom/example/hauora_id/hauoraid/model/Realm;" .null := F197.other W217 (Or.inl ne9)
  have F247 : Fld Z h217 s_GIVEN_NAME "com/example/hauora_id/hauoraid/model/Claim" "only" "Lcom/example/hauora_id/hauoraid/model/Realm;" .null := F198.other W217 (Or.inl ne11)
  have F248 : Sta Z h217 "com/example/hauora_id/hauoraid/model/Realm" "CONSUMER" "Lcom/example/hauora_id/hauoraid/model/Realm;" (.ref s_CONSUMER) := F199.wr W217
  have F249 : Exa Z h217 s_CONSUMER "com/example/hauora_id/hauoraid/model/Realm" := F200.wr W217
  have F250 : Fld Z h217 s_NHI "com/example/hauora_id/hauoraid/model/Claim" "only" "Lcom/example/hauora_id/hauoraid/model/Realm;" (.ref s_CONSUMER) := F201.other W217 (Or.inl ne17)
  have F251 : Fld Z h217 s_FAMILY_NAME "com/example/hauora_id/hauoraid/model/Claim" "only" "Lcom/example/hauora_id/hauoraid/model/Realm;" .null := F202.other W217 (Or.inl ne13)
  have F252 : Fld Z h217 s_EMAIL "com/example/hauora_id/hauoraid/model/Claim" "only" "Lcom/example/hauora_id/hauoraid/model/Realm;" .null := F203.other W217 (Or.inl ne10)
  have F253 : Fld Z h217 s_BIRTHDATE "com/example/hauora_id/hauoraid/model/Claim" "only" "Lcom/example/hauora_id/hauoraid/model/Realm;" .null := F204.other W217 (Or.inl ne15)
  have F254 : Fld Z h217 s_CONSUMER "java/lang/Enum" "ordinal" "I" (.int (0 : Int32)) := F205.other W217 (Or.inl ne22)
  have F255 : Fld Z h217 s_WORKFORCE "java/lang/Enum" "ordinal" "I" (.int (1 : Int32)) := F206.other W217 (Or.inl ne21)
  have F256 : Fld Z h217 s_CONFIDENCE_LEVEL "com/example/hauora_id/hauoraid/model/Claim" "only" "Lcom/example/hauora_id/hauoraid/model/Realm;" .null := F207.other W217 (Or.inl ne20)
  have F257 : Fld Z h217 s_MIDDLE_NAME "com/example/hauora_id/hauoraid/model/Claim" "only" "Lcom/example/hauora_id/hauoraid/model/Realm;" .null := F208.other W217 (Or.inl ne12)
  have F258 : Fld Z h217 s_CPN "com/example/hauora_id/hauoraid/model/Claim" "only" "Lcom/example/hauora_id/hauoraid/model/Realm;" (.ref s_WORKFORCE) := F209.other W217 (Or.inl ne18)
  have F259 : Fld Z h217 s_MOBILE_NUMBER "com/example/hauora_id/hauoraid/model/Claim" "only" "Lcom/example/hauora_id/hauoraid/model/Realm;" .null := F210.other W217 (Or.inl ne16)
  have F260 : Fld Z h217 s_RELATIONSHIPS "com/example/hauora_id/hauoraid/model/Claim" "only" "Lcom/example/hauora_id/hauoraid/model/Realm;" (.ref s_CONSUMER) := F211.other W217 (Or.inl ne19)
  have F261 : Fld Z h217 s_NICKNAME "com/example/hauora_id/hauoraid/model/Claim" "only" "Lcom/example/hauora_id/hauoraid/model/Realm;" .null := F212.other W217 (Or.inl ne14)
  have F262 : Arv Z h217 b8 k8 (.object "com/example/hauora_id/hauoraid/model/Claim") (12 : Int32) [(.ref s_SUB), (.ref s_EMAIL), (.ref s_GIVEN_NAME), (.ref s_MIDDLE_NAME), .null, .null, .null, .null, .null, .null, .null, .null] .null := Arv.set Ar218 q218 S218 N218 H218 G218 rfl W217 3 rfl (Nat.le_of_ble_eq_true rfl)
  have go263 : ∀ t, Steps p.tables e below (T217.setTop (mkF m 51 #[.val (.int p0), .val (.int p1), .val (.int (v0_1 p0)), .val (.int (b0_4 p1)), .unset, .unset, .unset, .unset] [(.int (4 : Int32)), (.ref b8), (.ref b8)])) t → Steps p.tables e below (s₁.setTop (entryFrame m #[(.int p0), (.int p1)] maxLocals)) t := by
    intro t k
    refine go219 _ ?_
    refine XS.dup X217.here hx rfl (hb hby at_49) rfl rfl ?_
    show Steps p.tables e below (T217.setTop (mkF m 50 #[.val (.int p0), .val (.int p1), .val (.int (v0_1 p0)), .val (.int (b0_4 p1)), .unset, .unset, .unset, .unset] [(.ref b8), (.ref b8)])) t
    refine XS.iconst X217.here hx rfl (hb hby at_50) ?_
    show Steps p.tables e below (T217.setTop (mkF m 51 #[.val (.int p0), .val (.int p1), .val (.int (v0_1 p0)), .val (.int (b0_4 p1)), .unset, .unset, .unset, .unset] [(.int (4 : Int32)), (.ref b8), (.ref b8)])) t
    exact k
  obtain ⟨T264, X264, e264, st264⟩ := getS2 X217 hx hZ hown (host := "") (Or.inl (hw _ (List.mem_of_getElem? (i := 13) rfl))) Via.refl e217 F228 (g := (mkF m 51 #[.val (.int p0), .val (.int p1), .val (.int (v0_1 p0)), .val (.int (b0_4 p1)), .unset, .unset, .unset, .unset] [(.int (4 : Int32)), (.ref b8), (.ref b8)])) rfl (hb hby at_51)
  have go265 : ∀ t, Steps p.tables e below (T264.setTop (mkF m 54 #[.val (.int p0), .val (.int p1), .val (.int (v0_1 p0)), .val (.int (b0_4 p1)), .unset, .unset, .unset, .unset] [(.ref s_FAMILY_NAME), (.int (4 : Int32)), (.ref b8), (.ref b8)])) t → Steps p.tables e below (s₁.setTop (entryFrame m #[(.int p0), (.int p1)] maxLocals)) t := fun t k => go263 _ (st264 _ k)
  obtain ⟨cl267, Ar267, q267, S267, N267, H267, G267⟩ := id F262
  obtain ⟨T266, h266, X266, e266, W266, st266⟩ := stR X264 hx hZ e264 Ar267 (j := (4 : Int32)) (inb_of S267 ⟨by decide, by decide⟩) rfl (Sto.ofV Ar267 q267 O8 (Ins.self F229)) (g := (mkF m 54 #[.val (.int p0), .val (.int p1), .val (.int (v0_1 p0)), .val (.int (b0_4 p1)), .unset, .unset, .unset, .unset] [(.ref s_FAMILY_NAME), (.int (4 : Int32)), (.ref b8), (.ref b8)])) rfl rfl (hb hby at_54)
  have go268 : ∀ t, Steps p.tables e below (T266.setTop (mkF m 55 #[.val (.int p0), .val (.int p1), .val (.int (v0_1 p0)), .val (.int (b0_4 p1)), .unset, .unset, .unset, .unset] [(.ref b8)])) t → Steps p.tables e below (s₁.setTop (entryFrame m #[(.int p0), (.int p1)] maxLocals)) t := fun t k => go265 _ (st266 _ k)
  have N266 := Fr.snoc X266 N217 low8
  have K266 : Keep h0 h266 [] := K217.wr W266 (Or.inr fsh8)
  have Zs266 : n0 ≤ h266.size := Nat.le_trans Zs217 (Keep.of_wr W266).1
  have F269 : Sta Z h266 "com/example/hauora_id/hauoraid/model/Claim" "SUB" "Lcom/example/hauora_id/hauoraid/model/Claim;" (.ref s_SUB) := F220.wr W266
  have F270 : Exa Z h266 s_SUB "com/example/hauora_id/hauoraid/model/Claim" := F221.wr W266
  have F271 : Sta Z h266 "com/example/hauora_id/hauoraid/model/Claim" "EMAIL" "Lcom/example/hauora_id/hauoraid/model/Claim;" (.ref s_EMAIL) := F222.wr W266
  have F272 : Exa Z h266 s_EMAIL "com/example/hauora_id/hauoraid/model/Claim" := F223.wr W266
  have F273 : Sta Z h266 "com/example/hauora_id/hauoraid/model/Claim" "GIVEN_NAME" "Lcom/example/hauora_id/hauoraid/model/Claim;" (.ref s_GIVEN_NAME) := F224.wr W266
  have F274 : Exa Z h266 s_GIVEN_NAME "com/example/hauora_id/hauoraid/model/Claim" := F225.wr W266
  have F275 : Sta Z h266 "com/example/hauora_id/hauoraid/model/Claim" "MIDDLE_NAME" "Lcom/example/hauora_id/hauoraid/model/Claim;" (.ref s_MIDDLE_NAME) := F226.wr W266
  have F276 : Exa Z h266 s_MIDDLE_NAME "com/example/hauora_id/hauoraid/model/Claim" := F227.wr W266
  have F277 : Sta Z h266 "com/example/hauora_id/hauoraid/model/Claim" "FAMILY_NAME" "Lcom/example/hauora_id/hauoraid/model/Claim;" (.ref s_FAMILY_NAME) := F228.wr W266
  have F278 : Exa Z h266 s_FAMILY_NAME "com/example/hauora_id/hauoraid/model/Claim" := F229.wr W266
  have F279 : Sta Z h266 "com/example/hauora_id/hauoraid/model/Claim" "NICKNAME" "Lcom/example/hauora_id/hauoraid/model/Claim;" (.ref s_NICKNAME) := F230.wr W266
  have F280 : Exa Z h266 s_NICKNAME "com/example/hauora_id/hauoraid/model/Claim" := F231.wr W266
  have F281 : Sta Z h266 "com/example/hauora_id/hauoraid/model/Claim" "BIRTHDATE" "Lcom/example/hauora_id/hauoraid/model/Claim;" (.ref s_BIRTHDATE) := F232.wr W266
  have F282 : Exa Z h266 s_BIRTHDATE "com/example/hauora_id/hauoraid/model/Claim" := F233.wr W266
  have F283 : Sta Z h266 "com/example/hauora_id/hauoraid/model/Claim" "MOBILE_NUMBER" "Lcom/example/hauora_id/hauoraid/model/Claim;" (.ref s_MOBILE_NUMBER) := F234.wr W266
  have F284 : Exa Z h266 s_MOBILE_NUMBER "com/example/hauora_id/hauoraid/model/Claim" := F235.wr W266
  have F285 : Sta Z h266 "com/example/hauora_id/hauoraid/model/Claim" "NHI" "Lcom/example/hauora_id/hauoraid/model/Claim;" (.ref s_NHI) := F236.wr W266
  have F286 : Exa Z h266 s_NHI "com/example/hauora_id/hauoraid/model/Claim" := F237.wr W266
  have F287 : Sta Z h266 "com/example/hauora_id/hauoraid/model/Claim" "CPN" "Lcom/example/hauora_id/hauoraid/model/Claim;" (.ref s_CPN) := F238.wr W266
  have F288 : Exa Z h266 s_CPN "com/example/hauora_id/hauoraid/model/Claim" := F239.wr W266
  have F289 : Sta Z h266 "com/example/hauora_id/hauoraid/model/Claim" "RELATIONSHIPS" "Lcom/example/hauora_id/hauoraid/model/Claim;" (.ref s_RELATIONSHIPS) := F240.wr W266
  have F290 : Exa Z h266 s_RELATIONSHIPS "com/example/hauora_id/hauoraid/model/Claim" := F241.wr W266
  have F291 : Sta Z h266 "com/example/hauora_id/hauoraid/model/Claim" "CONFIDENCE_LEVEL" "Lcom/example/hauora_id/hauoraid/model/Claim;" (.ref s_CONFIDENCE_LEVEL) := F242.wr W266
  have F292 : Exa Z h266 s_CONFIDENCE_LEVEL "com/example/hauora_id/hauoraid/model/Claim" := F243.wr W266
  have F293 : Sta Z h266 "com/example/hauora_id/hauoraid/model/Realm" "WORKFORCE" "Lcom/example/hauora_id/hauoraid/model/Realm;" (.ref s_WORKFORCE) := F244.wr W266
  have F294 : Exa Z h266 s_WORKFORCE "com/example/hauora_id/hauoraid/model/Realm" := F245.wr W266
  have F295 : Fld Z h266 s_SUB "com/example/hauora_id/hauoraid/model/Claim" "only" "Lcom/example/hauora_id/hauoraid/model/Realm;" .null := F246.other W266 (Or.inl ne9)
  have F296 : Fld Z h266 s_GIVEN_NAME "com/example/hauora_id/hauoraid/model/Claim" "only" "Lcom/example/hauora_id/hauoraid/model/Realm;" .null := F247.other W266 (Or.inl ne11)
  have F297 : Sta Z h266 "com/example/hauora_id/hauoraid/model/Realm" "CONSUMER" "Lcom/example/hauora_id/hauoraid/model/Realm;" (.ref s_CONSUMER) := F248.wr W266
  have F298 : Exa Z h266 s_CONSUMER "com/example/hauora_id/hauoraid/model/Realm" := F249.wr W266
  have F299 : Fld Z h266 s_NHI "com/example/hauora_id/hauoraid/model/Claim" "only" "Lcom/example/hauora_id/hauoraid/model/Realm;" (.ref s_CONSUMER) := F250.other W266 (Or.inl ne17)
  have F300 : Fld Z h266 s_FAMILY_NAME "com/example/hauora_id/hauoraid/model/Claim" "only" "Lcom/example/hauora_id/hauoraid/model/Realm;" .null := F251.other W266 (Or.inl ne13)
  have F301 : Fld Z h266 s_EMAIL "com/example/hauora_id/hauoraid/model/Claim" "only" "Lcom/example/hauora_id/hauoraid/model/Realm;" .null := F252.other W266 (Or.inl ne10)
  have F302 : Fld Z h266 s_BIRTHDATE "com/example/hauora_id/hauoraid/model/Claim" "only" "Lcom/example/hauora_id/hauoraid/model/Realm;" .null := F253.other W266 (Or.inl ne15)
  have F303 : Fld Z h266 s_CONSUMER "java/lang/Enum" "ordinal" "I" (.int (0 : Int32)) := F254.other W266 (Or.inl ne22)
  have F304 : Fld Z h266 s_WORKFORCE "java/lang/Enum" "ordinal" "I" (.int (1 : Int32)) := F255.other W266 (Or.inl ne21)
  have F305 : Fld Z h266 s_CONFIDENCE_LEVEL "com/example/hauora_id/hauoraid/model/Claim" "only" "Lcom/example/hauora_id/hauoraid/model/Realm;" .null := F256.other W266 (Or.inl ne20)
  have F306 : Fld Z h266 s_MIDDLE_NAME "com/example/hauora_id/hauoraid/model/Claim" "only" "Lcom/example/hauora_id/hauoraid/model/Realm;" .null := F257.other W266 (Or.inl ne12)
  have F307 : Fld Z h266 s_CPN "com/example/hauora_id/hauoraid/model/Claim" "only" "Lcom/example/hauora_id/hauoraid/model/Realm;" (.ref s_WORKFORCE) := F258.other W266 (Or.inl ne18)
  have F308 : Fld Z h266 s_MOBILE_NUMBER "com/example/hauora_id/hauoraid/model/Claim" "only" "Lcom/example/hauora_id/hauoraid/model/Realm;" .null := F259.other W266 (Or.inl ne16)
  have F309 : Fld Z h266 s_RELATIONSHIPS "com/example/hauora_id/hauoraid/model/Claim" "only" "Lcom/example/hauora_id/hauoraid/model/Realm;" (.ref s_CONSUMER) := F260.other W266 (Or.inl ne19)
  have F310 : Fld Z h266 s_NICKNAME "com/example/hauora_id/hauoraid/model/Claim" "only" "Lcom/example/hauora_id/hauoraid/model/Realm;" .null := F261.other W266 (Or.inl ne14)
  have F311 : Arv Z h266 b8 k8 (.object "com/example/hauora_id/hauoraid/model/Claim") (12 : Int32) [(.ref s_SUB), (.ref s_EMAIL), (.ref s_GIVEN_NAME), (.ref s_MIDDLE_NAME), (.ref s_FAMILY_NAME), .null, .null, .null, .null, .null, .null, .null] .null := Arv.set Ar267 q267 S267 N267 H267 G267 rfl W266 4 rfl (Nat.le_of_ble_eq_true rfl)
  have go312 : ∀ t, Steps p.tables e below (T266.setTop (mkF m 57 #[.val (.int p0), .val (.int p1), .val (.int (v0_1 p0)), .val (.int (b0_4 p1)), .unset, .unset, .unset, .unset] [(.int (5 : Int32)), (.ref b8), (.ref b8)])) t → Steps p.tables e below (s₁.setTop (entryFrame m #[(.int p0), (.int p1)] maxLocals)) t := by
    intro t k
    refine go268 _ ?_
    refine XS.dup X266.here hx rfl (hb hby at_55) rfl rfl ?_
    show Steps p.tables e below (T266.setTop (mkF m 56 #[.val (.int p0), .val (.int p1), .val (.int (v0_1 p0)), .val (.int (b0_4 p1)), .unset, .unset, .unset, .unset] [(.ref b8), (.ref b8)])) t
    refine XS.iconst X266.here hx rfl (hb hby at_56) ?_
    show Steps p.tables e below (T266.setTop (mkF m 57 #[.val (.int p0), .val (.int p1), .val (.int (v0_1 p0)), .val (.int (b0_4 p1)), .unset, .unset, .unset, .unset] [(.int (5 : Int32)), (.ref b8), (.ref b8)])) t
    exact k
  obtain ⟨T313, X313, e313, st313⟩ := getS2 X266 hx hZ hown (host := "") (Or.inl (hw _ (List.mem_of_getElem? (i := 15) rfl))) Via.refl e266 F279 (g := (mkF m 57 #[.val (.int p0), .val (.int p1), .val (.int (v0_1 p0)), .val (.int (b0_4 p1)), .unset, .unset, .unset, .unset] [(.int (5 : Int32)), (.ref b8), (.ref b8)])) rfl (hb hby at_57)
  have go314 : ∀ t, Steps p.tables e below (T313.setTop (mkF m 60 #[.val (.int p0), .val (.int p1), .val (.int (v0_1 p0)), .val (.int (b0_4 p1)), .unset, .unset, .unset, .unset] [(.ref s_NICKNAME), (.int (5 : Int32)), (.ref b8), (.ref b8)])) t → Steps p.tables e below (s₁.setTop (entryFrame m #[(.int p0), (.int p1)] maxLocals)) t := fun t k => go312 _ (st313 _ k)
  obtain ⟨cl316, Ar316, q316, S316, N316, H316, G316⟩ := id F311
  obtain ⟨T315, h315, X315, e315, W315, st315⟩ := stR X313 hx hZ e313 Ar316 (j := (5 : Int32)) (inb_of S316 ⟨by decide, by decide⟩) rfl (Sto.ofV Ar316 q316 O8 (Ins.self F280)) (g := (mkF m 60 #[.val (.int p0), .val (.int p1), .val (.int (v0_1 p0)), .val (.int (b0_4 p1)), .unset, .unset, .unset, .unset] [(.ref s_NICKNAME), (.int (5 : Int32)), (.ref b8), (.ref b8)])) rfl rfl (hb hby at_60)
  have go317 : ∀ t, Steps p.tables e below (T315.setTop (mkF m 61 #[.val (.int p0), .val (.int p1), .val (.int (v0_1 p0)), .val (.int (b0_4 p1)), .unset, .unset, .unset, .unset] [(.ref b8)])) t → Steps p.tables e below (s₁.setTop (entryFrame m #[(.int p0), (.int p1)] maxLocals)) t := fun t k => go314 _ (st315 _ k)
  have N315 := Fr.snoc X315 N266 low8
  have K315 : Keep h0 h315 [] := K266.wr W315 (Or.inr fsh8)
  have Zs315 : n0 ≤ h315.size := Nat.le_trans Zs266 (Keep.of_wr W315).1
  have F318 : Sta Z h315 "com/example/hauora_id/hauoraid/model/Claim" "SUB" "Lcom/example/hauora_id/hauoraid/model/Claim;" (.ref s_SUB) := F269.wr W315
  have F319 : Exa Z h315 s_SUB "com/example/hauora_id/hauoraid/model/Claim" := F270.wr W315
  have F320 : Sta Z h315 "com/example/hauora_id/hauoraid/model/Claim" "EMAIL" "Lcom/example/hauora_id/hauoraid/model/Claim;" (.ref s_EMAIL) := F271.wr W315
  have F321 : Exa Z h315 s_EMAIL "com/example/hauora_id/hauoraid/model/Claim" := F272.wr W315
  have F322 : Sta Z h315 "com/example/hauora_id/hauoraid/model/Claim" "GIVEN_NAME" "Lcom/example/hauora_id/hauoraid/model/Claim;" (.ref s_GIVEN_NAME) := F273.wr W315
  have F323 : Exa Z h315 s_GIVEN_NAME "com/example/hauora_id/hauoraid/model/Claim" := F274.wr W315
  have F324 : Sta Z h315 "com/example/hauora_id/hauoraid/model/Claim" "MIDDLE_NAME" "Lcom/example/hauora_id/hauoraid/model/Claim;" (.ref s_MIDDLE_NAME) := F275.wr W315
  have F325 : Exa Z h315 s_MIDDLE_NAME "com/example/hauora_id/hauoraid/model/Claim" := F276.wr W315
  have F326 : Sta Z h315 "com/example/hauora_id/hauoraid/model/Claim" "FAMILY_NAME" "Lcom/example/hauora_id/hauoraid/model/Claim;" (.ref s_FAMILY_NAME) := F277.wr W315
  have F327 : Exa Z h315 s_FAMILY_NAME "com/example/hauora_id/hauoraid/model/Claim" := F278.wr W315
  have F328 : Sta Z h315 "com/example/hauora_id/hauoraid/model/Claim" "NICKNAME" "Lcom/example/hauora_id/hauoraid/model/Claim;" (.ref s_NICKNAME) := F279.wr W315
  have F329 : Exa Z h315 s_NICKNAME "com/example/hauora_id/hauoraid/model/Claim" := F280.wr W315
  have F330 : Sta Z h315 "com/example/hauora_id/hauoraid/model/Claim" "BIRTHDATE" "Lcom/example/hauora_id/hauoraid/model/Claim;" (.ref s_BIRTHDATE) := F281.wr W315
  have F331 : Exa Z h315 s_BIRTHDATE "com/example/hauora_id/hauoraid/model/Claim" := F282.wr W315
  have F332 : Sta Z h315 "com/example/hauora_id/hauoraid/model/Claim" "MOBILE_NUMBER" "Lcom/example/hauora_id/hauoraid/model/Claim;" (.ref s_MOBILE_NUMBER) := F283.wr W315
  have F333 : Exa Z h315 s_MOBILE_NUMBER "com/example/hauora_id/hauoraid/model/Claim" := F284.wr W315
  have F334 : Sta Z h315 "com/example/hauora_id/hauoraid/model/Claim" "NHI" "Lcom/example/hauora_id/hauoraid/model/Claim;" (.ref s_NHI) := F285.wr W315
  have F335 : Exa Z h315 s_NHI "com/example/hauora_id/hauoraid/model/Claim" := F286.wr W315
  have F336 : Sta Z h315 "com/example/hauora_id/hauoraid/model/Claim" "CPN" "Lcom/example/hauora_id/hauoraid/model/Claim;" (.ref s_CPN) := F287.wr W315
  have F337 : Exa Z h315 s_CPN "com/example/hauora_id/hauoraid/model/Claim" := F288.wr W315
  have F338 : Sta Z h315 "com/example/hauora_id/hauoraid/model/Claim" "RELATIONSHIPS" "Lcom/example/hauora_id/hauoraid/model/Claim;" (.ref s_RELATIONSHIPS) := F289.wr W315
  have F339 : Exa Z h315 s_RELATIONSHIPS "com/example/hauora_id/hauoraid/model/Claim" := F290.wr W315
  have F340 : Sta Z h315 "com/example/hauora_id/hauoraid/model/Claim" "CONFIDENCE_LEVEL" "Lcom/example/hauora_id/hauoraid/model/Claim;" (.ref s_CONFIDENCE_LEVEL) := F291.wr W315
  have F341 : Exa Z h315 s_CONFIDENCE_LEVEL "com/example/hauora_id/hauoraid/model/Claim" := F292.wr W315
  have F342 : Sta Z h315 "com/example/hauora_id/hauoraid/model/Realm" "WORKFORCE" "Lcom/example/hauora_id/hauoraid/model/Realm;" (.ref s_WORKFORCE) := F293.wr W315
  have F343 : Exa Z h315 s_WORKFORCE "com/example/hauora_id/hauoraid/model/Realm" := F294.wr W315
  have F344 : Fld Z h315 s_SUB "com/example/hauora_id/hauoraid/model/Claim" "only" "Lcom/example/hauora_id/hauoraid/model/Realm;" .null := F295.other W315 (Or.inl ne9)
  have F345 : Fld Z h315 s_GIVEN_NAME "com/example/hauora_id/hauoraid/model/Claim" "only" "Lcom/example/hauora_id/hauoraid/model/Realm;" .null := F296.other W315 (Or.inl ne11)
  have F346 : Sta Z h315 "com/example/hauora_id/hauoraid/model/Realm" "CONSUMER" "Lcom/example/hauora_id/hauoraid/model/Realm;" (.ref s_CONSUMER) := F297.wr W315
  have F347 : Exa Z h315 s_CONSUMER "com/example/hauora_id/hauoraid/model/Realm" := F298.wr W315
  have F348 : Fld Z h315 s_NHI "com/example/hauora_id/hauoraid/model/Claim" "only" "Lcom/example/hauora_id/hauoraid/model/Realm;" (.ref s_CONSUMER) := F299.other W315 (Or.inl ne17)
  have F349 : Fld Z h315 s_FAMILY_NAME "com/example/hauora_id/hauoraid/model/Claim" "only" "Lcom/example/hauora_id/hauoraid/model/Realm;" .null := F300.other W315 (Or.inl ne13)
  have F350 : Fld Z h315 s_EMAIL "com/example/hauora_id/hauoraid/model/Claim" "only" "Lcom/example/hauora_id/hauoraid/model/Realm;" .null := F301.other W315 (Or.inl ne10)
  have F351 : Fld Z h315 s_BIRTHDATE "com/example/hauora_id/hauoraid/model/Claim" "only" "Lcom/example/hauora_id/hauoraid/model/Realm;" .null := F302.other W315 (Or.inl ne15)
  have F352 : Fld Z h315 s_CONSUMER "java/lang/Enum" "ordinal" "I" (.int (0 : Int32)) := F303.other W315 (Or.inl ne22)
  have F353 : Fld Z h315 s_WORKFORCE "java/lang/Enum" "ordinal" "I" (.int (1 : Int32)) := F304.other W315 (Or.inl ne21)
  have F354 : Fld Z h315 s_CONFIDENCE_LEVEL "com/example/hauora_id/hauoraid/model/Claim" "only" "Lcom/example/hauora_id/hauoraid/model/Realm;" .null := F305.other W315 (Or.inl ne20)
  have F355 : Fld Z h315 s_MIDDLE_NAME "com/example/hauora_id/hauoraid/model/Claim" "only" "Lcom/example/hauora_id/hauoraid/model/Realm;" .null := F306.other W315 (Or.inl ne12)
  have F356 : Fld Z h315 s_CPN "com/example/hauora_id/hauoraid/model/Claim" "only" "Lcom/example/hauora_id/hauoraid/model/Realm;" (.ref s_WORKFORCE) := F307.other W315 (Or.inl ne18)
  have F357 : Fld Z h315 s_MOBILE_NUMBER "com/example/hauora_id/hauoraid/model/Claim" "only" "Lcom/example/hauora_id/hauoraid/model/Realm;" .null := F308.other W315 (Or.inl ne16)
  have F358 : Fld Z h315 s_RELATIONSHIPS "com/example/hauora_id/hauoraid/model/Claim" "only" "Lcom/example/hauora_id/hauoraid/model/Realm;" (.ref s_CONSUMER) := F309.other W315 (Or.inl ne19)
  have F359 : Fld Z h315 s_NICKNAME "com/example/hauora_id/hauoraid/model/Claim" "only" "Lcom/example/hauora_id/hauoraid/model/Realm;" .null := F310.other W315 (Or.inl ne14)
  have F360 : Arv Z h315 b8 k8 (.object "com/example/hauora_id/hauoraid/model/Claim") (12 : Int32) [(.ref s_SUB), (.ref s_EMAIL), (.ref s_GIVEN_NAME), (.ref s_MIDDLE_NAME), (.ref s_FAMILY_NAME), (.ref s_NICKNAME), .null, .null, .null, .null, .null, .null] .null := Arv.set Ar316 q316 S316 N316 H316 G316 rfl W315 5 rfl (Nat.le_of_ble_eq_true rfl)
  have go361 : ∀ t, Steps p.tables e below (T315.setTop (mkF m 64 #[.val (.int p0), .val (.int p1), .val (.int (v0_1 p0)), .val (.int (b0_4 p1)), .unset, .unset, .unset, .unset] [(.int (6 : Int32)), (.ref b8), (.ref b8)])) t → Steps p.tables e below (s₁.setTop (entryFrame m #[(.int p0), (.int p1)] maxLocals)) t := by
    intro t k
    refine go317 _ ?_
    refine XS.dup X315.here hx rfl (hb hby at_61) rfl rfl ?_
    show Steps p.tables e below (T315.setTop (mkF m 62 #[.val (.int p0), .val (.int p1), .val (.int (v0_1 p0)), .val (.int (b0_4 p1)), .unset, .unset, .unset, .unset] [(.ref b8), (.ref b8)])) t
    refine XS.bipush X315.here hx rfl (hb hby at_62) ?_
    show Steps p.tables e below (T315.setTop (mkF m 64 #[.val (.int p0), .val (.int p1), .val (.int (v0_1 p0)), .val (.int (b0_4 p1)), .unset, .unset, .unset, .unset] [(.int (6 : Int32)), (.ref b8), (.ref b8)])) t
    exact k
  obtain ⟨T362, X362, e362, st362⟩ := getS2 X315 hx hZ hown (host := "") (Or.inl (hw _ (List.mem_of_getElem? (i := 17) rfl))) Via.refl e315 F330 (g := (mkF m 64 #[.val (.int p0), .val (.int p1), .val (.int (v0_1 p0)), .val (.int (b0_4 p1)), .unset, .unset, .unset, .unset] [(.int (6 : Int32)), (.ref b8), (.ref b8)])) rfl (hb hby at_64)
  have go363 : ∀ t, Steps p.tables e below (T362.setTop (mkF m 67 #[.val (.int p0), .val (.int p1), .val (.int (v0_1 p0)), .val (.int (b0_4 p1)), .unset, .unset, .unset, .unset] [(.ref s_BIRTHDATE), (.int (6 : Int32)), (.ref b8), (.ref b8)])) t → Steps p.tables e below (s₁.setTop (entryFrame m #[(.int p0), (.int p1)] maxLocals)) t := fun t k => go361 _ (st362 _ k)
  obtain ⟨cl365, Ar365, q365, S365, N365, H365, G365⟩ := id F360
  obtain ⟨T364, h364, X364, e364, W364, st364⟩ := stR X362 hx hZ e362 Ar365 (j := (6 : Int32)) (inb_of S365 ⟨by decide, by decide⟩) rfl (Sto.ofV Ar365 q365 O8 (Ins.self F331)) (g := (mkF m 67 #[.val (.int p0), .val (.int p1), .val (.int (v0_1 p0)), .val (.int (b0_4 p1)), .unset, .unset, .unset, .unset] [(.ref s_BIRTHDATE), (.int (6 : Int32)), (.ref b8), (.ref b8)])) rfl rfl (hb hby at_67)
  have go366 : ∀ t, Steps p.tables e below (T364.setTop (mkF m 68 #[.val (.int p0), .val (.int p1), .val (.int (v0_1 p0)), .val (.int (b0_4 p1)), .unset, .unset, .unset, .unset] [(.ref b8)])) t → Steps p.tables e below (s₁.setTop (entryFrame m #[(.int p0), (.int p1)] maxLocals)) t := fun t k => go363 _ (st364 _ k)
  have N364 := Fr.snoc X364 N315 low8
  have K364 : Keep h0 h364 [] := K315.wr W364 (Or.inr fsh8)
  have Zs364 : n0 ≤ h364.size := Nat.le_trans Zs315 (Keep.of_wr W364).1
  have F367 : Sta Z h364 "com/example/hauora_id/hauoraid/model/Claim" "SUB" "Lcom/example/hauora_id/hauoraid/model/Claim;" (.ref s_SUB) := F318.wr W364
  have F368 : Exa Z h364 s_SUB "com/example/hauora_id/hauoraid/model/Claim" := F319.wr W364
  have F369 : Sta Z h364 "com/example/hauora_id/hauoraid/model/Claim" "EMAIL" "Lcom/example/hauora_id/hauoraid/model/Claim;" (.ref s_EMAIL) := F320.wr W364
  have F370 : Exa Z h364 s_EMAIL "com/example/hauora_id/hauoraid/model/Claim" := F321.wr W364
  have F371 : Sta Z h364 "com/example/hauora_id/hauoraid/model/Claim" "GIVEN_NAME" "Lcom/example/hauora_id/hauoraid/model/Claim;" (.ref s_GIVEN_NAME) := F322.wr W364
  have F372 : Exa Z h364 s_GIVEN_NAME "com/example/hauora_id/hauoraid/model/Claim" := F323.wr W364
  have F373 : Sta Z h364 "com/example/hauora_id/hauoraid/model/Claim" "MIDDLE_NAME" "Lcom/example/hauora_id/hauoraid/model/Claim;" (.ref s_MIDDLE_NAME) := F324.wr W364
  have F374 : Exa Z h364 s_MIDDLE_NAME "com/example/hauora_id/hauoraid/model/Claim" := F325.wr W364
  have F375 : Sta Z h364 "com/example/hauora_id/hauoraid/model/Claim" "FAMILY_NAME" "Lcom/example/hauora_id/hauoraid/model/Claim;" (.ref s_FAMILY_NAME) := F326.wr W364
  have F376 : Exa Z h364 s_FAMILY_NAME "com/example/hauora_id/hauoraid/model/Claim" := F327.wr W364
  have F377 : Sta Z h364 "com/example/hauora_id/hauoraid/model/Claim" "NICKNAME" "Lcom/example/hauora_id/hauoraid/model/Claim;" (.ref s_NICKNAME) := F328.wr W364
  have F378 : Exa Z h364 s_NICKNAME "com/example/hauora_id/hauoraid/model/Claim" := F329.wr W364
  have F379 : Sta Z h364 "com/example/hauora_id/hauoraid/model/Claim" "BIRTHDATE" "Lcom/example/hauora_id/hauoraid/model/Claim;" (.ref s_BIRTHDATE) := F330.wr W364
  have F380 : Exa Z h364 s_BIRTHDATE "com/example/hauora_id/hauoraid/model/Claim" := F331.wr W364
  have F381 : Sta Z h364 "com/example/hauora_id/hauoraid/model/Claim" "MOBILE_NUMBER" "Lcom/example/hauora_id/hauoraid/model/Claim;" (.ref s_MOBILE_NUMBER) := F332.wr W364
  have F382 : Exa Z h364 s_MOBILE_NUMBER "com/example/hauora_id/hauoraid/model/Claim" := F333.wr W364
  have F383 : Sta Z h364 "com/example/hauora_id/hauoraid/model/Claim" "NHI" "Lcom/example/hauora_id/hauoraid/model/Claim;" (.ref s_NHI) := F334.wr W364
  have F384 : Exa Z h364 s_NHI "com/example/hauora_id/hauoraid/model/Claim" := F335.wr W364
  have F385 : Sta Z h364 "com/example/hauora_id/hauoraid/model/Claim" "CPN" "Lcom/example/hauora_id/hauoraid/model/Claim;" (.ref s_CPN) := F336.wr W364
  have F386 : Exa Z h364 s_CPN "com/example/hauora_id/hauoraid/model/Claim" := F337.wr W364
  have F387 : Sta Z h364 "com/example/hauora_id/hauoraid/model/Claim" "RELATIONSHIPS" "Lcom/example/hauora_id/hauoraid/model/Claim;" (.ref s_RELATIONSHIPS) := F338.wr W364
  have F388 : Exa Z h364 s_RELATIONSHIPS "com/example/hauora_id/hauoraid/model/Claim" := F339.wr W364
  have F389 : Sta Z h364 "com/example/hauora_id/hauoraid/model/Claim" "CONFIDENCE_LEVEL" "Lcom/example/hauora_id/hauoraid/model/Claim;" (.ref s_CONFIDENCE_LEVEL) := F340.wr W364
  have F390 : Exa Z h364 s_CONFIDENCE_LEVEL "com/example/hauora_id/hauoraid/model/Claim" := F341.wr W364
  have F391 : Sta Z h364 "com/example/hauora_id/hauoraid/model/Realm" "WORKFORCE" "Lcom/example/hauora_id/hauoraid/model/Realm;" (.ref s_WORKFORCE) := F342.wr W364
  have F392 : Exa Z h364 s_WORKFORCE "com/example/hauora_id/hauoraid/model/Realm" := F343.wr W364
  have F393 : Fld Z h364 s_SUB "com/example/hauora_id/hauoraid/model/Claim" "only" "Lcom/example/hauora_id/hauoraid/model/Realm;" .null := F344.other W364 (Or.inl ne9)
  have F394 : Fld Z h364 s_GIVEN_NAME "com/example/hauora_id/hauoraid/model/Claim" "only" "Lcom/example/hauora_id/hauoraid/model/Realm;" .null := F345.other W364 (Or.inl ne11)
  have F395 : Sta Z h364 "com/example/hauora_id/hauoraid/model/Realm" "CONSUMER" "Lcom/example/hauora_id/hauoraid/model/Realm;" (.ref s_CONSUMER) := F346.wr W364
  have F396 : Exa Z h364 s_CONSUMER "com/example/hauora_id/hauoraid/model/Realm" := F347.wr W364
  have F397 : Fld Z h364 s_NHI "com/example/hauora_id/hauoraid/model/Claim" "only" "Lcom/example/hauora_id/hauoraid/model/Realm;" (.ref s_CONSUMER) := F348.other W364 (Or.inl ne17)
  have F398 : Fld Z h364 s_FAMILY_NAME "com/example/hauora_id/hauoraid/model/Claim" "only" "Lcom/example/hauora_id/hauoraid/model/Realm;" .null := F349.other W364 (Or.inl ne13)
  have F399 : Fld Z h364 s_EMAIL "com/example/hauora_id/hauoraid/model/Claim" "only" "Lcom/example/hauora_id/hauoraid/model/Realm;" .null := F350.other W364 (Or.inl ne10)
  have F400 : Fld Z h364 s_BIRTHDATE "com/example/hauora_id/hauoraid/model/Claim" "only" "Lcom/example/hauora_id/hauoraid/model/Realm;" .null := F351.other W364 (Or.inl ne15)
  have F401 : Fld Z h364 s_CONSUMER "java/lang/Enum" "ordinal" "I" (.int (0 : Int32)) := F352.other W364 (Or.inl ne22)
  have F402 : Fld Z h364 s_WORKFORCE "java/lang/Enum" "ordinal" "I" (.int (1 : Int32)) := F353.other W364 (Or.inl ne21)
  have F403 : Fld Z h364 s_CONFIDENCE_LEVEL "com/example/hauora_id/hauoraid/model/Claim" "only" "Lcom/example/hauora_id/hauoraid/model/Realm;" .null := F354.other W364 (Or.inl ne20)
  have F404 : Fld Z h364 s_MIDDLE_NAME "com/example/hauora_id/hauoraid/model/Claim" "only" "Lcom/example/hauora_id/hauoraid/model/Realm;" .null := F355.other W364 (Or.inl ne12)
  have F405 : Fld Z h364 s_CPN "com/example/hauora_id/hauoraid/model/Claim" "only" "Lcom/example/hauora_id/hauoraid/model/Realm;" (.ref s_WORKFORCE) := F356.other W364 (Or.inl ne18)
  have F406 : Fld Z h364 s_MOBILE_NUMBER "com/example/hauora_id/hauoraid/model/Claim" "only" "Lcom/example/hauora_id/hauoraid/model/Realm;" .null := F357.other W364 (Or.inl ne16)
  have F407 : Fld Z h364 s_RELATIONSHIPS "com/example/hauora_id/hauoraid/model/Claim" "only" "Lcom/example/hauora_id/hauoraid/model/Realm;" (.ref s_CONSUMER) := F358.other W364 (Or.inl ne19)
  have F408 : Fld Z h364 s_NICKNAME "com/example/hauora_id/hauoraid/model/Claim" "only" "Lcom/example/hauora_id/hauoraid/model/Realm;" .null := F359.other W364 (Or.inl ne14)
  have F409 : Arv Z h364 b8 k8 (.object "com/example/hauora_id/hauoraid/model/Claim") (12 : Int32) [(.ref s_SUB), (.ref s_EMAIL), (.ref s_GIVEN_NAME), (.ref s_MIDDLE_NAME), (.ref s_FAMILY_NAME), (.ref s_NICKNAME), (.ref s_BIRTHDATE), .null, .null, .null, .null, .null] .null := Arv.set Ar365 q365 S365 N365 H365 G365 rfl W364 6 rfl (Nat.le_of_ble_eq_true rfl)
  have go410 : ∀ t, Steps p.tables e below (T364.setTop (mkF m 71 #[.val (.int p0), .val (.int p1), .val (.int (v0_1 p0)), .val (.int (b0_4 p1)), .unset, .unset, .unset, .unset] [(.int (7 : Int32)), (.ref b8), (.ref b8)])) t → Steps p.tables e below (s₁.setTop (entryFrame m #[(.int p0), (.int p1)] maxLocals)) t := by
    intro t k
    refine go366 _ ?_
    refine XS.dup X364.here hx rfl (hb hby at_68) rfl rfl ?_
    show Steps p.tables e below (T364.setTop (mkF m 69 #[.val (.int p0), .val (.int p1), .val (.int (v0_1 p0)), .val (.int (b0_4 p1)), .unset, .unset, .unset, .unset] [(.ref b8), (.ref b8)])) t
    refine XS.bipush X364.here hx rfl (hb hby at_69) ?_
    show Steps p.tables e below (T364.setTop (mkF m 71 #[.val (.int p0), .val (.int p1), .val (.int (v0_1 p0)), .val (.int (b0_4 p1)), .unset, .unset, .unset, .unset] [(.int (7 : Int32)), (.ref b8), (.ref b8)])) t
    exact k
  obtain ⟨T411, X411, e411, st411⟩ := getS2 X364 hx hZ hown (host := "") (Or.inl (hw _ (List.mem_of_getElem? (i := 19) rfl))) Via.refl e364 F381 (g := (mkF m 71 #[.val (.int p0), .val (.int p1), .val (.int (v0_1 p0)), .val (.int (b0_4 p1)), .unset, .unset, .unset, .unset] [(.int (7 : Int32)), (.ref b8), (.ref b8)])) rfl (hb hby at_71)
  have go412 : ∀ t, Steps p.tables e below (T411.setTop (mkF m 74 #[.val (.int p0), .val (.int p1), .val (.int (v0_1 p0)), .val (.int (b0_4 p1)), .unset, .unset, .unset, .unset] [(.ref s_MOBILE_NUMBER), (.int (7 : Int32)), (.ref b8), (.ref b8)])) t → Steps p.tables e below (s₁.setTop (entryFrame m #[(.int p0), (.int p1)] maxLocals)) t := fun t k => go410 _ (st411 _ k)
  obtain ⟨cl414, Ar414, q414, S414, N414, H414, G414⟩ := id F409
  obtain ⟨T413, h413, X413, e413, W413, st413⟩ := stR X411 hx hZ e411 Ar414 (j := (7 : Int32)) (inb_of S414 ⟨by decide, by decide⟩) rfl (Sto.ofV Ar414 q414 O8 (Ins.self F382)) (g := (mkF m 74 #[.val (.int p0), .val (.int p1), .val (.int (v0_1 p0)), .val (.int (b0_4 p1)), .unset, .unset, .unset, .unset] [(.ref s_MOBILE_NUMBER), (.int (7 : Int32)), (.ref b8), (.ref b8)])) rfl rfl (hb hby at_74)
  have go415 : ∀ t, Steps p.tables e below (T413.setTop (mkF m 75 #[.val (.int p0), .val (.int p1), .val (.int (v0_1 p0)), .val (.int (b0_4 p1)), .unset, .unset, .unset, .unset] [(.ref b8)])) t → Steps p.tables e below (s₁.setTop (entryFrame m #[(.int p0), (.int p1)] maxLocals)) t := fun t k => go412 _ (st413 _ k)
  have N413 := Fr.snoc X413 N364 low8
  have K413 : Keep h0 h413 [] := K364.wr W413 (Or.inr fsh8)
  have Zs413 : n0 ≤ h413.size := Nat.le_trans Zs364 (Keep.of_wr W413).1
  have F416 : Sta Z h413 "com/example/hauora_id/hauoraid/model/Claim" "SUB" "Lcom/example/hauora_id/hauoraid/model/Claim;" (.ref s_SUB) := F367.wr W413
  have F417 : Exa Z h413 s_SUB "com/example/hauora_id/hauoraid/model/Claim" := F368.wr W413
  have F418 : Sta Z h413 "com/example/hauora_id/hauoraid/model/Claim" "EMAIL" "Lcom/example/hauora_id/hauoraid/model/Claim;" (.ref s_EMAIL) := F369.wr W413
  have F419 : Exa Z h413 s_EMAIL "com/example/hauora_id/hauoraid/model/Claim" := F370.wr W413
  have F420 : Sta Z h413 "com/example/hauora_id/hauoraid/model/Claim" "GIVEN_NAME" "Lcom/example/hauora_id/hauoraid/model/Claim;" (.ref s_GIVEN_NAME) := F371.wr W413
  have F421 : Exa Z h413 s_GIVEN_NAME "com/example/hauora_id/hauoraid/model/Claim" := F372.wr W413
  have F422 : Sta Z h413 "com/example/hauora_id/hauoraid/model/Claim" "MIDDLE_NAME" "Lcom/example/hauora_id/hauoraid/model/Claim;" (.ref s_MIDDLE_NAME) := F373.wr W413
  have F423 : Exa Z h413 s_MIDDLE_NAME "com/example/hauora_id/hauoraid/model/Claim" := F374.wr W413
  have F424 : Sta Z h413 "com/example/hauora_id/hauoraid/model/Claim" "FAMILY_NAME" "Lcom/example/hauora_id/hauoraid/model/Claim;" (.ref s_FAMILY_NAME) := F375.wr W413
  have F425 : Exa Z h413 s_FAMILY_NAME "com/example/hauora_id/hauoraid/model/Claim" := F376.wr W413
  have F426 : Sta Z h413 "com/example/hauora_id/hauoraid/model/Claim" "NICKNAME" "Lcom/example/hauora_id/hauoraid/model/Claim;" (.ref s_NICKNAME) := F377.wr W413
  have F427 : Exa Z h413 s_NICKNAME "com/example/hauora_id/hauoraid/model/Claim" := F378.wr W413
  have F428 : Sta Z h413 "com/example/hauora_id/hauoraid/model/Claim" "BIRTHDATE" "Lcom/example/hauora_id/hauoraid/model/Claim;" (.ref s_BIRTHDATE) := F379.wr W413
  have F429 : Exa Z h413 s_BIRTHDATE "com/example/hauora_id/hauoraid/model/Claim" := F380.wr W413
  have F430 : Sta Z h413 "com/example/hauora_id/hauoraid/model/Claim" "MOBILE_NUMBER" "Lcom/example/hauora_id/hauoraid/model/Claim;" (.ref s_MOBILE_NUMBER) := F381.wr W413
  have F431 : Exa Z h413 s_MOBILE_NUMBER "com/example/hauora_id/hauoraid/model/Claim" := F382.wr W413
  have F432 : Sta Z h413 "com/example/hauora_id/hauoraid/model/Claim" "NHI" "Lcom/example/hauora_id/hauoraid/model/Claim;" (.ref s_NHI) := F383.wr W413
  have F433 : Exa Z h413 s_NHI "com/example/hauora_id/hauoraid/model/Claim" := F384.wr W413
  have F434 : Sta Z h413 "com/example/hauora_id/hauoraid/model/Claim" "CPN" "Lcom/example/hauora_id/hauoraid/model/Claim;" (.ref s_CPN) := F385.wr W413
  have F435 : Exa Z h413 s_CPN "com/example/hauora_id/hauoraid/model/Claim" := F386.wr W413
  have F436 : Sta Z h413 "com/example/hauora_id/hauoraid/model/Claim" "RELATIONSHIPS" "Lcom/example/hauora_id/hauoraid/model/Claim;" (.ref s_RELATIONSHIPS) := F387.wr W413
  have F437 : Exa Z h413 s_RELATIONSHIPS "com/example/hauora_id/hauoraid/model/Claim" := F388.wr W413
  have F438 : Sta Z h413 "com/example/hauora_id/hauoraid/model/Claim" "CONFIDENCE_LEVEL" "Lcom/example/hauora_id/hauoraid/model/Claim;" (.ref s_CONFIDENCE_LEVEL) := F389.wr W413
  have F439 : Exa Z h413 s_CONFIDENCE_LEVEL "com/example/hauora_id/hauoraid/model/Claim" := F390.wr W413
  have F440 : Sta Z h413 "com/example/hauora_id/hauoraid/model/Realm" "WORKFORCE" "Lcom/example/hauora_id/hauoraid/model/Realm;" (.ref s_WORKFORCE) := F391.wr W413
  have F441 : Exa Z h413 s_WORKFORCE "com/example/hauora_id/hauoraid/model/Realm" := F392.wr W413
  have F442 : Fld Z h413 s_SUB "com/example/hauora_id/hauoraid/model/Claim" "only" "Lcom/example/hauora_id/hauoraid/model/Realm;" .null := F393.other W413 (Or.inl ne9)
  have F443 : Fld Z h413 s_GIVEN_NAME "com/example/hauora_id/hauoraid/model/Claim" "only" "Lcom/example/hauora_id/hauoraid/model/Realm;" .null := F394.other W413 (Or.inl ne11)
  have F444 : Sta Z h413 "com/example/hauora_id/hauoraid/model/Realm" "CONSUMER" "Lcom/example/hauora_id/hauoraid/model/Realm;" (.ref s_CONSUMER) := F395.wr W413
  have F445 : Exa Z h413 s_CONSUMER "com/example/hauora_id/hauoraid/model/Realm" := F396.wr W413
  have F446 : Fld Z h413 s_NHI "com/example/hauora_id/hauoraid/model/Claim" "only" "Lcom/example/hauora_id/hauoraid/model/Realm;" (.ref s_CONSUMER) := F397.other W413 (Or.inl ne17)
  have F447 : Fld Z h413 s_FAMILY_NAME "com/example/hauora_id/hauoraid/model/Claim" "only" "Lcom/example/hauora_id/hauoraid/model/Realm;" .null := F398.other W413 (Or.inl ne13)
  have F448 : Fld Z h413 s_EMAIL "com/example/hauora_id/hauoraid/model/Claim" "only" "Lcom/example/hauora_id/hauoraid/model/Realm;" .null := F399.other W413 (Or.inl ne10)
  have F449 : Fld Z h413 s_BIRTHDATE "com/example/hauora_id/hauoraid/model/Claim" "only" "Lcom/example/hauora_id/hauoraid/model/Realm;" .null := F400.other W413 (Or.inl ne15)
  have F450 : Fld Z h413 s_CONSUMER "java/lang/Enum" "ordinal" "I" (.int (0 : Int32)) := F401.other W413 (Or.inl ne22)
  have F451 : Fld Z h413 s_WORKFORCE "java/lang/Enum" "ordinal" "I" (.int (1 : Int32)) := F402.other W413 (Or.inl ne21)
  have F452 : Fld Z h413 s_CONFIDENCE_LEVEL "com/example/hauora_id/hauoraid/model/Claim" "only" "Lcom/example/hauora_id/hauoraid/model/Realm;" .null := F403.other W413 (Or.inl ne20)
  have F453 : Fld Z h413 s_MIDDLE_NAME "com/example/hauora_id/hauoraid/model/Claim" "only" "Lcom/example/hauora_id/hauoraid/model/Realm;" .null := F404.other W413 (Or.inl ne12)
  have F454 : Fld Z h413 s_CPN "com/example/hauora_id/hauoraid/model/Claim" "only" "Lcom/example/hauora_id/hauoraid/model/Realm;" (.ref s_WORKFORCE) := F405.other W413 (Or.inl ne18)
  have F455 : Fld Z h413 s_MOBILE_NUMBER "com/example/hauora_id/hauoraid/model/Claim" "only" "Lcom/example/hauora_id/hauoraid/model/Realm;" .null := F406.other W413 (Or.inl ne16)
  have F456 : Fld Z h413 s_RELATIONSHIPS "com/example/hauora_id/hauoraid/model/Claim" "only" "Lcom/example/hauora_id/hauoraid/model/Realm;" (.ref s_CONSUMER) := F407.other W413 (Or.inl ne19)
  have F457 : Fld Z h413 s_NICKNAME "com/example/hauora_id/hauoraid/model/Claim" "only" "Lcom/example/hauora_id/hauoraid/model/Realm;" .null := F408.other W413 (Or.inl ne14)
  have F458 : Arv Z h413 b8 k8 (.object "com/example/hauora_id/hauoraid/model/Claim") (12 : Int32) [(.ref s_SUB), (.ref s_EMAIL), (.ref s_GIVEN_NAME), (.ref s_MIDDLE_NAME), (.ref s_FAMILY_NAME), (.ref s_NICKNAME), (.ref s_BIRTHDATE), (.ref s_MOBILE_NUMBER), .null, .null, .null, .null] .null := Arv.set Ar414 q414 S414 N414 H414 G414 rfl W413 7 rfl (Nat.le_of_ble_eq_true rfl)
  have go459 : ∀ t, Steps p.tables e below (T413.setTop (mkF m 78 #[.val (.int p0), .val (.int p1), .val (.int (v0_1 p0)), .val (.int (b0_4 p1)), .unset, .unset, .unset, .unset] [(.int (8 : Int32)), (.ref b8), (.ref b8)])) t → Steps p.tables e below (s₁.setTop (entryFrame m #[(.int p0), (.int p1)] maxLocals)) t := by
    intro t k
    refine go415 _ ?_
    refine XS.dup X413.here hx rfl (hb hby at_75) rfl rfl ?_
    show Steps p.tables e below (T413.setTop (mkF m 76 #[.val (.int p0), .val (.int p1), .val (.int (v0_1 p0)), .val (.int (b0_4 p1)), .unset, .unset, .unset, .unset] [(.ref b8), (.ref b8)])) t
    refine XS.bipush X413.here hx rfl (hb hby at_76) ?_
    show Steps p.tables e below (T413.setTop (mkF m 78 #[.val (.int p0), .val (.int p1), .val (.int (v0_1 p0)), .val (.int (b0_4 p1)), .unset, .unset, .unset, .unset] [(.int (8 : Int32)), (.ref b8), (.ref b8)])) t
    exact k
  obtain ⟨T460, X460, e460, st460⟩ := getS2 X413 hx hZ hown (host := "") (Or.inl (hw _ (List.mem_of_getElem? (i := 21) rfl))) Via.refl e413 F432 (g := (mkF m 78 #[.val (.int p0), .val (.int p1), .val (.int (v0_1 p0)), .val (.int (b0_4 p1)), .unset, .unset, .unset, .unset] [(.int (8 : Int32)), (.ref b8), (.ref b8)])) rfl (hb hby at_78)
  have go461 : ∀ t, Steps p.tables e below (T460.setTop (mkF m 81 #[.val (.int p0), .val (.int p1), .val (.int (v0_1 p0)), .val (.int (b0_4 p1)), .unset, .unset, .unset, .unset] [(.ref s_NHI), (.int (8 : Int32)), (.ref b8), (.ref b8)])) t → Steps p.tables e below (s₁.setTop (entryFrame m #[(.int p0), (.int p1)] maxLocals)) t := fun t k => go459 _ (st460 _ k)
  obtain ⟨cl463, Ar463, q463, S463, N463, H463, G463⟩ := id F458
  obtain ⟨T462, h462, X462, e462, W462, st462⟩ := stR X460 hx hZ e460 Ar463 (j := (8 : Int32)) (inb_of S463 ⟨by decide, by decide⟩) rfl (Sto.ofV Ar463 q463 O8 (Ins.self F433)) (g := (mkF m 81 #[.val (.int p0), .val (.int p1), .val (.int (v0_1 p0)), .val (.int (b0_4 p1)), .unset, .unset, .unset, .unset] [(.ref s_NHI), (.int (8 : Int32)), (.ref b8), (.ref b8)])) rfl rfl (hb hby at_81)
  have go464 : ∀ t, Steps p.tables e below (T462.setTop (mkF m 82 #[.val (.int p0), .val (.int p1), .val (.int (v0_1 p0)), .val (.int (b0_4 p1)), .unset, .unset, .unset, .unset] [(.ref b8)])) t → Steps p.tables e below (s₁.setTop (entryFrame m #[(.int p0), (.int p1)] maxLocals)) t := fun t k => go461 _ (st462 _ k)
  have N462 := Fr.snoc X462 N413 low8
  have K462 : Keep h0 h462 [] := K413.wr W462 (Or.inr fsh8)
  have Zs462 : n0 ≤ h462.size := Nat.le_trans Zs413 (Keep.of_wr W462).1
  have F465 : Sta Z h462 "com/example/hauora_id/hauoraid/model/Claim" "SUB" "Lcom/example/hauora_id/hauoraid/model/Claim;" (.ref s_SUB) := F416.wr W462
  have F466 : Exa Z h462 s_SUB "com/example/hauora_id/hauoraid/model/Claim" := F417.wr W462
  have F467 : Sta Z h462 "com/example/hauora_id/hauoraid/model/Claim" "EMAIL" "Lcom/example/hauora_id/hauoraid/model/Claim;" (.ref s_EMAIL) := F418.wr W462
  have F468 : Exa Z h462 s_EMAIL "com/example/hauora_id/hauoraid/model/Claim" := F419.wr W462
  have F469 : Sta Z h462 "com/example/hauora_id/hauoraid/model/Claim" "GIVEN_NAME" "Lcom/example/hauora_id/hauoraid/model/Claim;" (.ref s_GIVEN_NAME) := F420.wr W462
  have F470 : Exa Z h462 s_GIVEN_NAME "com/example/hauora_id/hauoraid/model/Claim" := F421.wr W462
  have F471 : Sta Z h462 "com/example/hauora_id/hauoraid/model/Claim" "MIDDLE_NAME" "Lcom/example/hauora_id/hauoraid/model/Claim;" (.ref s_MIDDLE_NAME) := F422.wr W462
  have F472 : Exa Z h462 s_MIDDLE_NAME "com/example/hauora_id/hauoraid/model/Claim" := F423.wr W462
  have F473 : Sta Z h462 "com/example/hauora_id/hauoraid/model/Claim" "FAMILY_NAME" "Lcom/example/hauora_id/hauoraid/model/Claim;" (.ref s_FAMILY_NAME) := F424.wr W462
  have F474 : Exa Z h462 s_FAMILY_NAME "com/example/hauora_id/hauoraid/model/Claim" := F425.wr W462
  have F475 : Sta Z h462 "com/example/hauora_id/hauoraid/model/Claim" "NICKNAME" "Lcom/example/hauora_id/hauoraid/model/Claim;" (.ref s_NICKNAME) := F426.wr W462
  have F476 : Exa Z h462 s_NICKNAME "com/example/hauora_id/hauoraid/model/Claim" := F427.wr W462
  have F477 : Sta Z h462 "com/example/hauora_id/hauoraid/model/Claim" "BIRTHDATE" "Lcom/example/hauora_id/hauoraid/model/Claim;" (.ref s_BIRTHDATE) := F428.wr W462
  have F478 : Exa Z h462 s_BIRTHDATE "com/example/hauora_id/hauoraid/model/Claim" := F429.wr W462
  have F479 : Sta Z h462 "com/example/hauora_id/hauoraid/model/Claim" "MOBILE_NUMBER" "Lcom/example/hauora_id/hauoraid/model/Claim;" (.ref s_MOBILE_NUMBER) := F430.wr W462
  have F480 : Exa Z h462 s_MOBILE_NUMBER "com/example/hauora_id/hauoraid/model/Claim" := F431.wr W462
  have F481 : Sta Z h462 "com/example/hauora_id/hauoraid/model/Claim" "NHI" "Lcom/example/hauora_id/hauoraid/model/Claim;" (.ref s_NHI) := F432.wr W462
  have F482 : Exa Z h462 s_NHI "com/example/hauora_id/hauoraid/model/Claim" := F433.wr W462
  have F483 : Sta Z h462 "com/example/hauora_id/hauoraid/model/Claim" "CPN" "Lcom/example/hauora_id/hauoraid/model/Claim;" (.ref s_CPN) := F434.wr W462
  have F484 : Exa Z h462 s_CPN "com/example/hauora_id/hauoraid/model/Claim" := F435.wr W462
  have F485 : Sta Z h462 "com/example/hauora_id/hauoraid/model/Claim" "RELATIONSHIPS" "Lcom/example/hauora_id/hauoraid/model/Claim;" (.ref s_RELATIONSHIPS) := F436.wr W462
  have F486 : Exa Z h462 s_RELATIONSHIPS "com/example/hauora_id/hauoraid/model/Claim" := F437.wr W462
  have F487 : Sta Z h462 "com/example/hauora_id/hauoraid/model/Claim" "CONFIDENCE_LEVEL" "Lcom/example/hauora_id/hauoraid/model/Claim;" (.ref s_CONFIDENCE_LEVEL) := F438.wr W462
  have F488 : Exa Z h462 s_CONFIDENCE_LEVEL "com/example/hauora_id/hauoraid/model/Claim" := F439.wr W462
  have F489 : Sta Z h462 "com/example/hauora_id/hauoraid/model/Realm" "WORKFORCE" "Lcom/example/hauora_id/hauoraid/model/Realm;" (.ref s_WORKFORCE) := F440.wr W462
  have F490 : Exa Z h462 s_WORKFORCE "com/example/hauora_id/hauoraid/model/Realm" := F441.wr W462
  have F491 : Fld Z h462 s_SUB "com/example/hauora_id/hauoraid/model/Claim" "only" "Lcom/example/hauora_id/hauoraid/model/Realm;" .null := F442.other W462 (Or.inl ne9)
  have F492 : Fld Z h462 s_GIVEN_NAME "com/example/hauora_id/hauoraid/model/Claim" "only" "Lcom/example/hauora_id/hauoraid/model/Realm;" .null := F443.other W462 (Or.inl ne11)
  have F493 : Sta Z h462 "com/example/hauora_id/hauoraid/model/Realm" "CONSUMER" "Lcom/example/hauora_id/hauoraid/model/Realm;" (.ref s_CONSUMER) := F444.wr W462
  have F494 : Exa Z h462 s_CONSUMER "com/example/hauora_id/hauoraid/model/Realm" := F445.wr W462
  have F495 : Fld Z h462 s_NHI "com/example/hauora_id/hauoraid/model/Claim" "only" "Lcom/example/hauora_id/hauoraid/model/Realm;" (.ref s_CONSUMER) := F446.other W462 (Or.inl ne17)
  have F496 : Fld Z h462 s_FAMILY_NAME "com/example/hauora_id/hauoraid/model/Claim" "only" "Lcom/example/hauora_id/hauoraid/model/Realm;" .null := F447.other W462 (Or.inl ne13)
  have F497 : Fld Z h462 s_EMAIL "com/example/hauora_id/hauoraid/model/Claim" "only" "Lcom/example/hauora_id/hauoraid/model/Realm;" .null := F448.other W462 (Or.inl ne10)
  have F498 : Fld Z h462 s_BIRTHDATE "com/example/hauora_id/hauoraid/model/Claim" "only" "Lcom/example/hauora_id/hauoraid/model/Realm;" .null := F449.other W462 (Or.inl ne15)
  have F499 : Fld Z h462 s_CONSUMER "java/lang/Enum" "ordinal" "I" (.int (0 : Int32)) := F450.other W462 (Or.inl ne22)
  have F500 : Fld Z h462 s_WORKFORCE "java/lang/Enum" "ordinal" "I" (.int (1 : Int32)) := F451.other W462 (Or.inl ne21)
  have F501 : Fld Z h462 s_CONFIDENCE_LEVEL "com/example/hauora_id/hauoraid/model/Claim" "only" "Lcom/example/hauora_id/hauoraid/model/Realm;" .null := F452.other W462 (Or.inl ne20)
  have F502 : Fld Z h462 s_MIDDLE_NAME "com/example/hauora_id/hauoraid/model/Claim" "only" "Lcom/example/hauora_id/hauoraid/model/Realm;" .null := F453.other W462 (Or.inl ne12)
  have F503 : Fld Z h462 s_CPN "com/example/hauora_id/hauoraid/model/Claim" "only" "Lcom/example/hauora_id/hauoraid/model/Realm;" (.ref s_WORKFORCE) := F454.other W462 (Or.inl ne18)
  have F504 : Fld Z h462 s_MOBILE_NUMBER "com/example/hauora_id/hauoraid/model/Claim" "only" "Lcom/example/hauora_id/hauoraid/model/Realm;" .null := F455.other W462 (Or.inl ne16)
  have F505 : Fld Z h462 s_RELATIONSHIPS "com/example/hauora_id/hauoraid/model/Claim" "only" "Lcom/example/hauora_id/hauoraid/model/Realm;" (.ref s_CONSUMER) := F456.other W462 (Or.inl ne19)
  have F506 : Fld Z h462 s_NICKNAME "com/example/hauora_id/hauoraid/model/Claim" "only" "Lcom/example/hauora_id/hauoraid/model/Realm;" .null := F457.other W462 (Or.inl ne14)
  have F507 : Arv Z h462 b8 k8 (.object "com/example/hauora_id/hauoraid/model/Claim") (12 : Int32) [(.ref s_SUB), (.ref s_EMAIL), (.ref s_GIVEN_NAME), (.ref s_MIDDLE_NAME), (.ref s_FAMILY_NAME), (.ref s_NICKNAME), (.ref s_BIRTHDATE), (.ref s_MOBILE_NUMBER), (.ref s_NHI), .null, .null, .null] .null := Arv.set Ar463 q463 S463 N463 H463 G463 rfl W462 8 rfl (Nat.le_of_ble_eq_true rfl)
  have go508 : ∀ t, Steps p.tables e below (T462.setTop (mkF m 85 #[.val (.int p0), .val (.int p1), .val (.int (v0_1 p0)), .val (.int (b0_4 p1)), .unset, .unset, .unset, .unset] [(.int (9 : Int32)), (.ref b8), (.ref b8)])) t → Steps p.tables e below (s₁.setTop (entryFrame m #[(.int p0), (.int p1)] maxLocals)) t := by
    intro t k
    refine go464 _ ?_
    refine XS.dup X462.here hx rfl (hb hby at_82) rfl rfl ?_
    show Steps p.tables e below (T462.setTop (mkF m 83 #[.val (.int p0), .val (.int p1), .val (.int (v0_1 p0)), .val (.int (b0_4 p1)), .unset, .unset, .unset, .unset] [(.ref b8), (.ref b8)])) t
    refine XS.bipush X462.here hx rfl (hb hby at_83) ?_
    show Steps p.tables e below (T462.setTop (mkF m 85 #[.val (.int p0), .val (.int p1), .val (.int (v0_1 p0)), .val (.int (b0_4 p1)), .unset, .unset, .unset, .unset] [(.int (9 : Int32)), (.ref b8), (.ref b8)])) t
    exact k
  obtain ⟨T509, X509, e509, st509⟩ := getS2 X462 hx hZ hown (host := "") (Or.inl (hw _ (List.mem_of_getElem? (i := 23) rfl))) Via.refl e462 F483 (g := (mkF m 85 #[.val (.int p0), .val (.int p1), .val (.int (v0_1 p0)), .val (.int (b0_4 p1)), .unset, .unset, .unset, .unset] [(.int (9 : Int32)), (.ref b8), (.ref b8)])) rfl (hb hby at_85)
  have go510 : ∀ t, Steps p.tables e below (T509.setTop (mkF m 88 #[.val (.int p0), .val (.int p1), .val (.int (v0_1 p0)), .val (.int (b0_4 p1)), .unset, .unset, .unset, .unset] [(.ref s_CPN), (.int (9 : Int32)), (.ref b8), (.ref b8)])) t → Steps p.tables e below (s₁.setTop (entryFrame m #[(.int p0), (.int p1)] maxLocals)) t := fun t k => go508 _ (st509 _ k)
  obtain ⟨cl512, Ar512, q512, S512, N512, H512, G512⟩ := id F507
  obtain ⟨T511, h511, X511, e511, W511, st511⟩ := stR X509 hx hZ e509 Ar512 (j := (9 : Int32)) (inb_of S512 ⟨by decide, by decide⟩) rfl (Sto.ofV Ar512 q512 O8 (Ins.self F484)) (g := (mkF m 88 #[.val (.int p0), .val (.int p1), .val (.int (v0_1 p0)), .val (.int (b0_4 p1)), .unset, .unset, .unset, .unset] [(.ref s_CPN), (.int (9 : Int32)), (.ref b8), (.ref b8)])) rfl rfl (hb hby at_88)
  have go513 : ∀ t, Steps p.tables e below (T511.setTop (mkF m 89 #[.val (.int p0), .val (.int p1), .val (.int (v0_1 p0)), .val (.int (b0_4 p1)), .unset, .unset, .unset, .unset] [(.ref b8)])) t → Steps p.tables e below (s₁.setTop (entryFrame m #[(.int p0), (.int p1)] maxLocals)) t := fun t k => go510 _ (st511 _ k)
  have N511 := Fr.snoc X511 N462 low8
  have K511 : Keep h0 h511 [] := K462.wr W511 (Or.inr fsh8)
  have Zs511 : n0 ≤ h511.size := Nat.le_trans Zs462 (Keep.of_wr W511).1
  have F514 : Sta Z h511 "com/example/hauora_id/hauoraid/model/Claim" "SUB" "Lcom/example/hauora_id/hauoraid/model/Claim;" (.ref s_SUB) := F465.wr W511
  have F515 : Exa Z h511 s_SUB "com/example/hauora_id/hauoraid/model/Claim" := F466.wr W511
  have F516 : Sta Z h511 "com/example/hauora_id/hauoraid/model/Claim" "EMAIL" "Lcom/example/hauora_id/hauoraid/model/Claim;" (.ref s_EMAIL) := F467.wr W511
  have F517 : Exa Z h511 s_EMAIL "com/example/hauora_id/hauoraid/model/Claim" := F468.wr W511
  have F518 : Sta Z h511 "com/example/hauora_id/hauoraid/model/Claim" "GIVEN_NAME" "Lcom/example/hauora_id/hauoraid/model/Claim;" (.ref s_GIVEN_NAME) := F469.wr W511
  have F519 : Exa Z h511 s_GIVEN_NAME "com/example/hauora_id/hauoraid/model/Claim" := F470.wr W511
  have F520 : Sta Z h511 "com/example/hauora_id/hauoraid/model/Claim" "MIDDLE_NAME" "Lcom/example/hauora_id/hauoraid/model/Claim;" (.ref s_MIDDLE_NAME) := F471.wr W511
  have F521 : Exa Z h511 s_MIDDLE_NAME "com/example/hauora_id/hauoraid/model/Claim" := F472.wr W511
  have F522 : Sta Z h511 "com/example/hauora_id/hauoraid/model/Claim" "FAMILY_NAME" "Lcom/example/hauora_id/hauoraid/model/Claim;" (.ref s_FAMILY_NAME) := F473.wr W511
  have F523 : Exa Z h511 s_FAMILY_NAME "com/example/hauora_id/hauoraid/model/Claim" := F474.wr W511
  have F524 : Sta Z h511 "com/example/hauora_id/hauoraid/model/Claim" "NICKNAME" "Lcom/example/hauora_id/hauoraid/model/Claim;" (.ref s_NICKNAME) := F475.wr W511
  have F525 : Exa Z h511 s_NICKNAME "com/example/hauora_id/hauoraid/model/Claim" := F476.wr W511
  have F526 : Sta Z h511 "com/example/hauora_id/hauoraid/model/Claim" "BIRTHDATE" "Lcom/example/hauora_id/hauoraid/model/Claim;" (.ref s_BIRTHDATE) := F477.wr W511
  have F527 : Exa Z h511 s_BIRTHDATE "com/example/hauora_id/hauoraid/model/Claim" := F478.wr W511
  have F528 : Sta Z h511 "com/example/hauora_id/hauoraid/model/Claim" "MOBILE_NUMBER" "Lcom/example/hauora_id/hauoraid/model/Claim;" (.ref s_MOBILE_NUMBER) := F479.wr W511
  have F529 : Exa Z h511 s_MOBILE_NUMBER "com/example/hauora_id/hauoraid/model/Claim" := F480.wr W511
  have F530 : Sta Z h511 "com/example/hauora_id/hauoraid/model/Claim" "NHI" "Lcom/example/hauora_id/hauoraid/model/Claim;" (.ref s_NHI) := F481.wr W511
  have F531 : Exa Z h511 s_NHI "com/example/hauora_id/hauoraid/model/Claim" := F482.wr W511
  have F532 : Sta Z h511 "com/example/hauora_id/hauoraid/model/Claim" "CPN" "Lcom/example/hauora_id/hauoraid/model/Claim;" (.ref s_CPN) := F483.wr W511
  have F533 : Exa Z h511 s_CPN "com/example/hauora_id/hauoraid/model/Claim" := F484.wr W511
  have F534 : Sta Z h511 "com/example/hauora_id/hauoraid/model/Claim" "RELATIONSHIPS" "Lcom/example/hauora_id/hauoraid/model/Claim;" (.ref s_RELATIONSHIPS) := F485.wr W511
  have F535 : Exa Z h511 s_RELATIONSHIPS "com/example/hauora_id/hauoraid/model/Claim" := F486.wr W511
  have F536 : Sta Z h511 "com/example/hauora_id/hauoraid/model/Claim" "CONFIDENCE_LEVEL" "Lcom/example/hauora_id/hauoraid/model/Claim;" (.ref s_CONFIDENCE_LEVEL) := F487.wr W511
  have F537 : Exa Z h511 s_CONFIDENCE_LEVEL "com/example/hauora_id/hauoraid/model/Claim" := F488.wr W511
  have F538 : Sta Z h511 "com/example/hauora_id/hauoraid/model/Realm" "WORKFORCE" "Lcom/example/hauora_id/hauoraid/model/Realm;" (.ref s_WORKFORCE) := F489.wr W511
  have F539 : Exa Z h511 s_WORKFORCE "com/example/hauora_id/hauoraid/model/Realm" := F490.wr W511
  have F540 : Fld Z h511 s_SUB "com/example/hauora_id/hauoraid/model/Claim" "only" "Lcom/example/hauora_id/hauoraid/model/Realm;" .null := F491.other W511 (Or.inl ne9)
  have F541 : Fld Z h511 s_GIVEN_NAME "com/example/hauora_id/hauoraid/model/Claim" "only" "Lcom/example/hauora_id/hauoraid/model/Realm;" .null := F492.other W511 (Or.inl ne11)
  have F542 : Sta Z h511 "com/example/hauora_id/hauoraid/model/Realm" "CONSUMER" "Lcom/example/hauora_id/hauoraid/model/Realm;" (.ref s_CONSUMER) := F493.wr W511
  have F543 : Exa Z h511 s_CONSUMER "com/example/hauora_id/hauoraid/model/Realm" := F494.wr W511
  have F544 : Fld Z h511 s_NHI "com/example/hauora_id/hauoraid/model/Claim" "only" "Lcom/example/hauora_id/hauoraid/model/Realm;" (.ref s_CONSUMER) := F495.other W511 (Or.inl ne17)
  have F545 : Fld Z h511 s_FAMILY_NAME "com/example/hauora_id/hauoraid/model/Claim" "only" "Lcom/example/hauora_id/hauoraid/model/Realm;" .null := F496.other W511 (Or.inl ne13)
  have F546 : Fld Z h511 s_EMAIL "com/example/hauora_id/hauoraid/model/Claim" "only" "Lcom/example/hauora_id/hauoraid/model/Realm;" .null := F497.other W511 (Or.inl ne10)
  have F547 : Fld Z h511 s_BIRTHDATE "com/example/hauora_id/hauoraid/model/Claim" "only" "Lcom/example/hauora_id/hauoraid/model/Realm;" .null := F498.other W511 (Or.inl ne15)
  have F548 : Fld Z h511 s_CONSUMER "java/lang/Enum" "ordinal" "I" (.int (0 : Int32)) := F499.other W511 (Or.inl ne22)
  have F549 : Fld Z h511 s_WORKFORCE "java/lang/Enum" "ordinal" "I" (.int (1 : Int32)) := F500.other W511 (Or.inl ne21)
  have F550 : Fld Z h511 s_CONFIDENCE_LEVEL "com/example/hauora_id/hauoraid/model/Claim" "only" "Lcom/example/hauora_id/hauoraid/model/Realm;" .null := F501.other W511 (Or.inl ne20)
  have F551 : Fld Z h511 s_MIDDLE_NAME "com/example/hauora_id/hauoraid/model/Claim" "only" "Lcom/example/hauora_id/hauoraid/model/Realm;" .null := F502.other W511 (Or.inl ne12)
  have F552 : Fld Z h511 s_CPN "com/example/hauora_id/hauoraid/model/Claim" "only" "Lcom/example/hauora_id/hauoraid/model/Realm;" (.ref s_WORKFORCE) := F503.other W511 (Or.inl ne18)
  have F553 : Fld Z h511 s_MOBILE_NUMBER "com/example/hauora_id/hauoraid/model/Claim" "only" "Lcom/example/hauora_id/hauoraid/model/Realm;" .null := F504.other W511 (Or.inl ne16)
  have F554 : Fld Z h511 s_RELATIONSHIPS "com/example/hauora_id/hauoraid/model/Claim" "only" "Lcom/example/hauora_id/hauoraid/model/Realm;" (.ref s_CONSUMER) := F505.other W511 (Or.inl ne19)
  have F555 : Fld Z h511 s_NICKNAME "com/example/hauora_id/hauoraid/model/Claim" "only" "Lcom/example/hauora_id/hauoraid/model/Realm;" .null := F506.other W511 (Or.inl ne14)
  have F556 : Arv Z h511 b8 k8 (.object "com/example/hauora_id/hauoraid/model/Claim") (12 : Int32) [(.ref s_SUB), (.ref s_EMAIL), (.ref s_GIVEN_NAME), (.ref s_MIDDLE_NAME), (.ref s_FAMILY_NAME), (.ref s_NICKNAME), (.ref s_BIRTHDATE), (.ref s_MOBILE_NUMBER), (.ref s_NHI), (.ref s_CPN), .null, .null] .null := Arv.set Ar512 q512 S512 N512 H512 G512 rfl W511 9 rfl (Nat.le_of_ble_eq_true rfl)
  have go557 : ∀ t, Steps p.tables e below (T511.setTop (mkF m 92 #[.val (.int p0), .val (.int p1), .val (.int (v0_1 p0)), .val (.int (b0_4 p1)), .unset, .unset, .unset, .unset] [(.int (10 : Int32)), (.ref b8), (.ref b8)])) t → Steps p.tables e below (s₁.setTop (entryFrame m #[(.int p0), (.int p1)] maxLocals)) t := by
    intro t k
    refine go513 _ ?_
    refine XS.dup X511.here hx rfl (hb hby at_89) rfl rfl ?_
    show Steps p.tables e below (T511.setTop (mkF m 90 #[.val (.int p0), .val (.int p1), .val (.int (v0_1 p0)), .val (.int (b0_4 p1)), .unset, .unset, .unset, .unset] [(.ref b8), (.ref b8)])) t
    refine XS.bipush X511.here hx rfl (hb hby at_90) ?_
    show Steps p.tables e below (T511.setTop (mkF m 92 #[.val (.int p0), .val (.int p1), .val (.int (v0_1 p0)), .val (.int (b0_4 p1)), .unset, .unset, .unset, .unset] [(.int (10 : Int32)), (.ref b8), (.ref b8)])) t
    exact k
  obtain ⟨T558, X558, e558, st558⟩ := getS2 X511 hx hZ hown (host := "") (Or.inl (hw _ (List.mem_of_getElem? (i := 25) rfl))) Via.refl e511 F534 (g := (mkF m 92 #[.val (.int p0), .val (.int p1), .val (.int (v0_1 p0)), .val (.int (b0_4 p1)), .unset, .unset, .unset, .unset] [(.int (10 : Int32)), (.ref b8), (.ref b8)])) rfl (hb hby at_92)
  have go559 : ∀ t, Steps p.tables e below (T558.setTop (mkF m 95 #[.val (.int p0), .val (.int p1), .val (.int (v0_1 p0)), .val (.int (b0_4 p1)), .unset, .unset, .unset, .unset] [(.ref s_RELATIONSHIPS), (.int (10 : Int32)), (.ref b8), (.ref b8)])) t → Steps p.tables e below (s₁.setTop (entryFrame m #[(.int p0), (.int p1)] maxLocals)) t := fun t k => go557 _ (st558 _ k)
  obtain ⟨cl561, Ar561, q561, S561, N561, H561, G561⟩ := id F556
  obtain ⟨T560, h560, X560, e560, W560, st560⟩ := stR X558 hx hZ e558 Ar561 (j := (10 : Int32)) (inb_of S561 ⟨by decide, by decide⟩) rfl (Sto.ofV Ar561 q561 O8 (Ins.self F535)) (g := (mkF m 95 #[.val (.int p0), .val (.int p1), .val (.int (v0_1 p0)), .val (.int (b0_4 p1)), .unset, .unset, .unset, .unset] [(.ref s_RELATIONSHIPS), (.int (10 : Int32)), (.ref b8), (.ref b8)])) rfl rfl (hb hby at_95)
  have go562 : ∀ t, Steps p.tables e below (T560.setTop (mkF m 96 #[.val (.int p0), .val (.int p1), .val (.int (v0_1 p0)), .val (.int (b0_4 p1)), .unset, .unset, .unset, .unset] [(.ref b8)])) t → Steps p.tables e below (s₁.setTop (entryFrame m #[(.int p0), (.int p1)] maxLocals)) t := fun t k => go559 _ (st560 _ k)
  have N560 := Fr.snoc X560 N511 low8
  have K560 : Keep h0 h560 [] := K511.wr W560 (Or.inr fsh8)
  have Zs560 : n0 ≤ h560.size := Nat.le_trans Zs511 (Keep.of_wr W560).1
  have F563 : Sta Z h560 "com/example/hauora_id/hauoraid/model/Claim" "SUB" "Lcom/example/hauora_id/hauoraid/model/Claim;" (.ref s_SUB) := F514.wr W560
  have F564 : Exa Z h560 s_SUB "com/example/hauora_id/hauoraid/model/Claim" := F515.wr W560
  have F565 : Sta Z h560 "com/example/hauora_id/hauoraid/model/Claim" "EMAIL" "Lcom/example/hauora_id/hauoraid/model/Claim;" (.ref s_EMAIL) := F516.wr W560
  have F566 : Exa Z h560 s_EMAIL "com/example/hauora_id/hauoraid/model/Claim" := F517.wr W560
  have F567 : Sta Z h560 "com/example/hauora_id/hauoraid/model/Claim" "GIVEN_NAME" "Lcom/example/hauora_id/hauoraid/model/Claim;" (.ref s_GIVEN_NAME) := F518.wr W560
  have F568 : Exa Z h560 s_GIVEN_NAME "com/example/hauora_id/hauoraid/model/Claim" := F519.wr W560
  have F569 : Sta Z h560 "com/example/hauora_id/hauoraid/model/Claim" "MIDDLE_NAME" "Lcom/example/hauora_id/hauoraid/model/Claim;" (.ref s_MIDDLE_NAME) := F520.wr W560
  have F570 : Exa Z h560 s_MIDDLE_NAME "com/example/hauora_id/hauoraid/model/Claim" := F521.wr W560
  have F571 : Sta Z h560 "com/example/hauora_id/hauoraid/model/Claim" "FAMILY_NAME" "Lcom/example/hauora_id/hauoraid/model/Claim;" (.ref s_FAMILY_NAME) := F522.wr W560
  have F572 : Exa Z h560 s_FAMILY_NAME "com/example/hauora_id/hauoraid/model/Claim" := F523.wr W560
  have F573 : Sta Z h560 "com/example/hauora_id/hauoraid/model/Claim" "NICKNAME" "Lcom/example/hauora_id/hauoraid/model/Claim;" (.ref s_NICKNAME) := F524.wr W560
  have F574 : Exa Z h560 s_NICKNAME "com/example/hauora_id/hauoraid/model/Claim" := F525.wr W560
  have F575 : Sta Z h560 "com/example/hauora_id/hauoraid/model/Claim" "BIRTHDATE" "Lcom/example/hauora_id/hauoraid/model/Claim;" (.ref s_BIRTHDATE) := F526.wr W560
  have F576 : Exa Z h560 s_BIRTHDATE "com/example/hauora_id/hauoraid/model/Claim" := F527.wr W560
  have F577 : Sta Z h560 "com/example/hauora_id/hauoraid/model/Claim" "MOBILE_NUMBER" "Lcom/example/hauora_id/hauoraid/model/Claim;" (.ref s_MOBILE_NUMBER) := F528.wr W560
  have F578 : Exa Z h560 s_MOBILE_NUMBER "com/example/hauora_id/hauoraid/model/Claim" := F529.wr W560
  have F579 : Sta Z h560 "com/example/hauora_id/hauoraid/model/Claim" "NHI" "Lcom/example/hauora_id/hauoraid/model/Claim;" (.ref s_NHI) := F530.wr W560
  have F580 : Exa Z h560 s_NHI "com/example/hauora_id/hauoraid/model/Claim" := F531.wr W560
  have F581 : Sta Z h560 "com/example/hauora_id/hauoraid/model/Claim" "CPN" "Lcom/example/hauora_id/hauoraid/model/Claim;" (.ref s_CPN) := F532.wr W560
  have F582 : Exa Z h560 s_CPN "com/example/hauora_id/hauoraid/model/Claim" := F533.wr W560
  have F583 : Sta Z h560 "com/example/hauora_id/hauoraid/model/Claim" "RELATIONSHIPS" "Lcom/example/hauora_id/hauoraid/model/Claim;" (.ref s_RELATIONSHIPS) := F534.wr W560
  have F584 : Exa Z h560 s_RELATIONSHIPS "com/example/hauora_id/hauoraid/model/Claim" := F535.wr W560
  have F585 : Sta Z h560 "com/example/hauora_id/hauoraid/model/Claim" "CONFIDENCE_LEVEL" "Lcom/example/hauora_id/hauoraid/model/Claim;" (.ref s_CONFIDENCE_LEVEL) := F536.wr W560
  have F586 : Exa Z h560 s_CONFIDENCE_LEVEL "com/example/hauora_id/hauoraid/model/Claim" := F537.wr W560
  have F587 : Sta Z h560 "com/example/hauora_id/hauoraid/model/Realm" "WORKFORCE" "Lcom/example/hauora_id/hauoraid/model/Realm;" (.ref s_WORKFORCE) := F538.wr W560
  have F588 : Exa Z h560 s_WORKFORCE "com/example/hauora_id/hauoraid/model/Realm" := F539.wr W560
  have F589 : Fld Z h560 s_SUB "com/example/hauora_id/hauoraid/model/Claim" "only" "Lcom/example/hauora_id/hauoraid/model/Realm;" .null := F540.other W560 (Or.inl ne9)
  have F590 : Fld Z h560 s_GIVEN_NAME "com/example/hauora_id/hauoraid/model/Claim" "only" "Lcom/example/hauora_id/hauoraid/model/Realm;" .null := F541.other W560 (Or.inl ne11)
  have F591 : Sta Z h560 "com/example/hauora_id/hauoraid/model/Realm" "CONSUMER" "Lcom/example/hauora_id/hauoraid/model/Realm;" (.ref s_CONSUMER) := F542.wr W560
  have F592 : Exa Z h560 s_CONSUMER "com/example/hauora_id/hauoraid/model/Realm" := F543.wr W560
  have F593 : Fld Z h560 s_NHI "com/example/hauora_id/hauoraid/model/Claim" "only" "Lcom/example/hauora_id/hauoraid/model/Realm;" (.ref s_CONSUMER) := F544.other W560 (Or.inl ne17)
  have F594 : Fld Z h560 s_FAMILY_NAME "com/example/hauora_id/hauoraid/model/Claim" "only" "Lcom/example/hauora_id/hauoraid/model/Realm;" .null := F545.other W560 (Or.inl ne13)
  have F595 : Fld Z h560 s_EMAIL "com/example/hauora_id/hauoraid/model/Claim" "only" "Lcom/example/hauora_id/hauoraid/model/Realm;" .null := F546.other W560 (Or.inl ne10)
  have F596 : Fld Z h560 s_BIRTHDATE "com/example/hauora_id/hauoraid/model/Claim" "only" "Lcom/example/hauora_id/hauoraid/model/Realm;" .null := F547.other W560 (Or.inl ne15)
  have F597 : Fld Z h560 s_CONSUMER "java/lang/Enum" "ordinal" "I" (.int (0 : Int32)) := F548.other W560 (Or.inl ne22)
  have F598 : Fld Z h560 s_WORKFORCE "java/lang/Enum" "ordinal" "I" (.int (1 : Int32)) := F549.other W560 (Or.inl ne21)
  have F599 : Fld Z h560 s_CONFIDENCE_LEVEL "com/example/hauora_id/hauoraid/model/Claim" "only" "Lcom/example/hauora_id/hauoraid/model/Realm;" .null := F550.other W560 (Or.inl ne20)
  have F600 : Fld Z h560 s_MIDDLE_NAME "com/example/hauora_id/hauoraid/model/Claim" "only" "Lcom/example/hauora_id/hauoraid/model/Realm;" .null := F551.other W560 (Or.inl ne12)
  have F601 : Fld Z h560 s_CPN "com/example/hauora_id/hauoraid/model/Claim" "only" "Lcom/example/hauora_id/hauoraid/model/Realm;" (.ref s_WORKFORCE) := F552.other W560 (Or.inl ne18)
  have F602 : Fld Z h560 s_MOBILE_NUMBER "com/example/hauora_id/hauoraid/model/Claim" "only" "Lcom/example/hauora_id/hauoraid/model/Realm;" .null := F553.other W560 (Or.inl ne16)
  have F603 : Fld Z h560 s_RELATIONSHIPS "com/example/hauora_id/hauoraid/model/Claim" "only" "Lcom/example/hauora_id/hauoraid/model/Realm;" (.ref s_CONSUMER) := F554.other W560 (Or.inl ne19)
  have F604 : Fld Z h560 s_NICKNAME "com/example/hauora_id/hauoraid/model/Claim" "only" "Lcom/example/hauora_id/hauoraid/model/Realm;" .null := F555.other W560 (Or.inl ne14)
  have F605 : Arv Z h560 b8 k8 (.object "com/example/hauora_id/hauoraid/model/Claim") (12 : Int32) [(.ref s_SUB), (.ref s_EMAIL), (.ref s_GIVEN_NAME), (.ref s_MIDDLE_NAME), (.ref s_FAMILY_NAME), (.ref s_NICKNAME), (.ref s_BIRTHDATE), (.ref s_MOBILE_NUMBER), (.ref s_NHI), (.ref s_CPN), (.ref s_RELATIONSHIPS), .null] .null := Arv.set Ar561 q561 S561 N561 H561 G561 rfl W560 10 rfl (Nat.le_of_ble_eq_true rfl)
  have go606 : ∀ t, Steps p.tables e below (T560.setTop (mkF m 99 #[.val (.int p0), .val (.int p1), .val (.int (v0_1 p0)), .val (.int (b0_4 p1)), .unset, .unset, .unset, .unset] [(.int (11 : Int32)), (.ref b8), (.ref b8)])) t → Steps p.tables e below (s₁.setTop (entryFrame m #[(.int p0), (.int p1)] maxLocals)) t := by
    intro t k
    refine go562 _ ?_
    refine XS.dup X560.here hx rfl (hb hby at_96) rfl rfl ?_
    show Steps p.tables e below (T560.setTop (mkF m 97 #[.val (.int p0), .val (.int p1), .val (.int (v0_1 p0)), .val (.int (b0_4 p1)), .unset, .unset, .unset, .unset] [(.ref b8), (.ref b8)])) t
    refine XS.bipush X560.here hx rfl (hb hby at_97) ?_
    show Steps p.tables e below (T560.setTop (mkF m 99 #[.val (.int p0), .val (.int p1), .val (.int (v0_1 p0)), .val (.int (b0_4 p1)), .unset, .unset, .unset, .unset] [(.int (11 : Int32)), (.ref b8), (.ref b8)])) t
    exact k
  obtain ⟨T607, X607, e607, st607⟩ := getS2 X560 hx hZ hown (host := "") (Or.inl (hw _ (List.mem_of_getElem? (i := 27) rfl))) Via.refl e560 F585 (g := (mkF m 99 #[.val (.int p0), .val (.int p1), .val (.int (v0_1 p0)), .val (.int (b0_4 p1)), .unset, .unset, .unset, .unset] [(.int (11 : Int32)), (.ref b8), (.ref b8)])) rfl (hb hby at_99)
  have go608 : ∀ t, Steps p.tables e below (T607.setTop (mkF m 102 #[.val (.int p0), .val (.int p1), .val (.int (v0_1 p0)), .val (.int (b0_4 p1)), .unset, .unset, .unset, .unset] [(.ref s_CONFIDENCE_LEVEL), (.int (11 : Int32)), (.ref b8), (.ref b8)])) t → Steps p.tables e below (s₁.setTop (entryFrame m #[(.int p0), (.int p1)] maxLocals)) t := fun t k => go606 _ (st607 _ k)
  obtain ⟨cl610, Ar610, q610, S610, N610, H610, G610⟩ := id F605
  obtain ⟨T609, h609, X609, e609, W609, st609⟩ := stR X607 hx hZ e607 Ar610 (j := (11 : Int32)) (inb_of S610 ⟨by decide, by decide⟩) rfl (Sto.ofV Ar610 q610 O8 (Ins.self F586)) (g := (mkF m 102 #[.val (.int p0), .val (.int p1), .val (.int (v0_1 p0)), .val (.int (b0_4 p1)), .unset, .unset, .unset, .unset] [(.ref s_CONFIDENCE_LEVEL), (.int (11 : Int32)), (.ref b8), (.ref b8)])) rfl rfl (hb hby at_102)
  have go611 : ∀ t, Steps p.tables e below (T609.setTop (mkF m 103 #[.val (.int p0), .val (.int p1), .val (.int (v0_1 p0)), .val (.int (b0_4 p1)), .unset, .unset, .unset, .unset] [(.ref b8)])) t → Steps p.tables e below (s₁.setTop (entryFrame m #[(.int p0), (.int p1)] maxLocals)) t := fun t k => go608 _ (st609 _ k)
  have N609 := Fr.snoc X609 N560 low8
  have K609 : Keep h0 h609 [] := K560.wr W609 (Or.inr fsh8)
  have Zs609 : n0 ≤ h609.size := Nat.le_trans Zs560 (Keep.of_wr W609).1
  have F612 : Sta Z h609 "com/example/hauora_id/hauoraid/model/Claim" "SUB" "Lcom/example/hauora_id/hauoraid/model/Claim;" (.ref s_SUB) := F563.wr W609
  have F613 : Exa Z h609 s_SUB "com/example/hauora_id/hauoraid/model/Claim" := F564.wr W609
  have F614 : Sta Z h609 "com/example/hauora_id/hauoraid/model/Claim" "EMAIL" "Lcom/example/hauora_id/hauoraid/model/Claim;" (.ref s_EMAIL) := F565.wr W609
  have F615 : Exa Z h609 s_EMAIL "com/example/hauora_id/hauoraid/model/Claim" := F566.wr W609
  have F616 : Sta Z h609 "com/example/hauora_id/hauoraid/model/Claim" "GIVEN_NAME" "Lcom/example/hauora_id/hauoraid/model/Claim;" (.ref s_GIVEN_NAME) := F567.wr W609
  have F617 : Exa Z h609 s_GIVEN_NAME "com/example/hauora_id/hauoraid/model/Claim" := F568.wr W609
  have F618 : Sta Z h609 "com/example/hauora_id/hauoraid/model/Claim" "MIDDLE_NAME" "Lcom/example/hauora_id/hauoraid/model/Claim;" (.ref s_MIDDLE_NAME) := F569.wr W609
  have F619 : Exa Z h609 s_MIDDLE_NAME "com/example/hauora_id/hauoraid/model/Claim" := F570.wr W609
  have F620 : Sta Z h609 "com/example/hauora_id/hauoraid/model/Claim" "FAMILY_NAME" "Lcom/example/hauora_id/hauoraid/model/Claim;" (.ref s_FAMILY_NAME) := F571.wr W609
  have F621 : Exa Z h609 s_FAMILY_NAME "com/example/hauora_id/hauoraid/model/Claim" := F572.wr W609
  have F622 : Sta Z h609 "com/example/hauora_id/hauoraid/model/Claim" "NICKNAME" "Lcom/example/hauora_id/hauoraid/model/Claim;" (.ref s_NICKNAME) := F573.wr W609
  have F623 : Exa Z h609 s_NICKNAME "com/example/hauora_id/hauoraid/model/Claim" := F574.wr W609
  have F624 : Sta Z h609 "com/example/hauora_id/hauoraid/model/Claim" "BIRTHDATE" "Lcom/example/hauora_id/hauoraid/model/Claim;" (.ref s_BIRTHDATE) := F575.wr W609
  have F625 : Exa Z h609 s_BIRTHDATE "com/example/hauora_id/hauoraid/model/Claim" := F576.wr W609
  have F626 : Sta Z h609 "com/example/hauora_id/hauoraid/model/Claim" "MOBILE_NUMBER" "Lcom/example/hauora_id/hauoraid/model/Claim;" (.ref s_MOBILE_NUMBER) := F577.wr W609
  have F627 : Exa Z h609 s_MOBILE_NUMBER "com/example/hauora_id/hauoraid/model/Claim" := F578.wr W609
  have F628 : Sta Z h609 "com/example/hauora_id/hauoraid/model/Claim" "NHI" "Lcom/example/hauora_id/hauoraid/model/Claim;" (.ref s_NHI) := F579.wr W609
  have F629 : Exa Z h609 s_NHI "com/example/hauora_id/hauoraid/model/Claim" := F580.wr W609
  have F630 : Sta Z h609 "com/example/hauora_id/hauoraid/model/Claim" "CPN" "Lcom/example/hauora_id/hauoraid/model/Claim;" (.ref s_CPN) := F581.wr W609
  have F631 : Exa Z h609 s_CPN "com/example/hauora_id/hauoraid/model/Claim" := F582.wr W609
  have F632 : Sta Z h609 "com/example/hauora_id/hauoraid/model/Claim" "RELATIONSHIPS" "Lcom/example/hauora_id/hauoraid/model/Claim;" (.ref s_RELATIONSHIPS) := F583.wr W609
  have F633 : Exa Z h609 s_RELATIONSHIPS "com/example/hauora_id/hauoraid/model/Claim" := F584.wr W609
  have F634 : Sta Z h609 "com/example/hauora_id/hauoraid/model/Claim" "CONFIDENCE_LEVEL" "Lcom/example/hauora_id/hauoraid/model/Claim;" (.ref s_CONFIDENCE_LEVEL) := F585.wr W609
  have F635 : Exa Z h609 s_CONFIDENCE_LEVEL "com/example/hauora_id/hauoraid/model/Claim" := F586.wr W609
  have F636 : Sta Z h609 "com/example/hauora_id/hauoraid/model/Realm" "WORKFORCE" "Lcom/example/hauora_id/hauoraid/model/Realm;" (.ref s_WORKFORCE) := F587.wr W609
  have F637 : Exa Z h609 s_WORKFORCE "com/example/hauora_id/hauoraid/model/Realm" := F588.wr W609
  have F638 : Fld Z h609 s_SUB "com/example/hauora_id/hauoraid/model/Claim" "only" "Lcom/example/hauora_id/hauoraid/model/Realm;" .null := F589.other W609 (Or.inl ne9)
  have F639 : Fld Z h609 s_GIVEN_NAME "com/example/hauora_id/hauoraid/model/Claim" "only" "Lcom/example/hauora_id/hauoraid/model/Realm;" .null := F590.other W609 (Or.inl ne11)
  have F640 : Sta Z h609 "com/example/hauora_id/hauoraid/model/Realm" "CONSUMER" "Lcom/example/hauora_id/hauoraid/model/Realm;" (.ref s_CONSUMER) := F591.wr W609
  have F641 : Exa Z h609 s_CONSUMER "com/example/hauora_id/hauoraid/model/Realm" := F592.wr W609
  have F642 : Fld Z h609 s_NHI "com/example/hauora_id/hauoraid/model/Claim" "only" "Lcom/example/hauora_id/hauoraid/model/Realm;" (.ref s_CONSUMER) := F593.other W609 (Or.inl ne17)
  have F643 : Fld Z h609 s_FAMILY_NAME "com/example/hauora_id/hauoraid/model/Claim" "only" "Lcom/example/hauora_id/hauoraid/model/Realm;" .null := F594.other W609 (Or.inl ne13)
  have F644 : Fld Z h609 s_EMAIL "com/example/hauora_id/hauoraid/model/Claim" "only" "Lcom/example/hauora_id/hauoraid/model/Realm;" .null := F595.other W609 (Or.inl ne10)
  have F645 : Fld Z h609 s_BIRTHDATE "com/example/hauora_id/hauoraid/model/Claim" "only" "Lcom/example/hauora_id/hauoraid/model/Realm;" .null := F596.other W609 (Or.inl ne15)
  have F646 : Fld Z h609 s_CONSUMER "java/lang/Enum" "ordinal" "I" (.int (0 : Int32)) := F597.other W609 (Or.inl ne22)
  have F647 : Fld Z h609 s_WORKFORCE "java/lang/Enum" "ordinal" "I" (.int (1 : Int32)) := F598.other W609 (Or.inl ne21)
  have F648 : Fld Z h609 s_CONFIDENCE_LEVEL "com/example/hauora_id/hauoraid/model/Claim" "only" "Lcom/example/hauora_id/hauoraid/model/Realm;" .null := F599.other W609 (Or.inl ne20)
  have F649 : Fld Z h609 s_MIDDLE_NAME "com/example/hauora_id/hauoraid/model/Claim" "only" "Lcom/example/hauora_id/hauoraid/model/Realm;" .null := F600.other W609 (Or.inl ne12)
  have F650 : Fld Z h609 s_CPN "com/example/hauora_id/hauoraid/model/Claim" "only" "Lcom/example/hauora_id/hauoraid/model/Realm;" (.ref s_WORKFORCE) := F601.other W609 (Or.inl ne18)
  have F651 : Fld Z h609 s_MOBILE_NUMBER "com/example/hauora_id/hauoraid/model/Claim" "only" "Lcom/example/hauora_id/hauoraid/model/Realm;" .null := F602.other W609 (Or.inl ne16)
  have F652 : Fld Z h609 s_RELATIONSHIPS "com/example/hauora_id/hauoraid/model/Claim" "only" "Lcom/example/hauora_id/hauoraid/model/Realm;" (.ref s_CONSUMER) := F603.other W609 (Or.inl ne19)
  have F653 : Fld Z h609 s_NICKNAME "com/example/hauora_id/hauoraid/model/Claim" "only" "Lcom/example/hauora_id/hauoraid/model/Realm;" .null := F604.other W609 (Or.inl ne14)
  have F654 : Arv Z h609 b8 k8 (.object "com/example/hauora_id/hauoraid/model/Claim") (12 : Int32) [(.ref s_SUB), (.ref s_EMAIL), (.ref s_GIVEN_NAME), (.ref s_MIDDLE_NAME), (.ref s_FAMILY_NAME), (.ref s_NICKNAME), (.ref s_BIRTHDATE), (.ref s_MOBILE_NUMBER), (.ref s_NHI), (.ref s_CPN), (.ref s_RELATIONSHIPS), (.ref s_CONFIDENCE_LEVEL)] .null := Arv.set Ar610 q610 S610 N610 H610 G610 rfl W609 11 rfl (Nat.le_of_ble_eq_true rfl)
  have go655 : ∀ t, Steps p.tables e below (T609.setTop (mkF m 108 #[.val (.int p0), .val (.int p1), .val (.int (v0_1 p0)), .val (.int (b0_4 p1)), .val (.ref b8), .unset, .unset, .unset] [(.int (v0_1 p0)), (.ref b8)])) t → Steps p.tables e below (s₁.setTop (entryFrame m #[(.int p0), (.int p1)] maxLocals)) t := by
    intro t k
    refine go611 _ ?_
    refine XS.astore X609.here hx rfl (hb hby at_103) rfl rfl (l' := #[.val (.int p0), .val (.int p1), .val (.int (v0_1 p0)), .val (.int (b0_4 p1)), .val (.ref b8), .unset, .unset, .unset]) rfl ?_
    show Steps p.tables e below (T609.setTop (mkF m 105 #[.val (.int p0), .val (.int p1), .val (.int (v0_1 p0)), .val (.int (b0_4 p1)), .val (.ref b8), .unset, .unset, .unset] [])) t
    refine XS.aload X609.here hx rfl (hb hby at_105) rfl rfl ?_
    show Steps p.tables e below (T609.setTop (mkF m 107 #[.val (.int p0), .val (.int p1), .val (.int (v0_1 p0)), .val (.int (b0_4 p1)), .val (.ref b8), .unset, .unset, .unset] [(.ref b8)])) t
    refine XS.iloadN X609.here hx rfl (hb hby at_107) rfl ?_
    show Steps p.tables e below (T609.setTop (mkF m 108 #[.val (.int p0), .val (.int p1), .val (.int (v0_1 p0)), .val (.int (b0_4 p1)), .val (.ref b8), .unset, .unset, .unset] [(.int (v0_1 p0)), (.ref b8)])) t
    exact k
  by_cases hs656 : (v0_1 p0) = (0 : Int32)
  · have go657 : ∀ t, Steps p.tables e below (T609.setTop (mkF m 108 #[.val (.int p0), .val (.int p1), .val (.int (0 : Int32)), .val (.int (b0_4 p1)), .val (.ref b8), .unset, .unset, .unset] [(.int (0 : Int32)), (.ref b8)])) t → Steps p.tables e below (s₁.setTop (entryFrame m #[(.int p0), (.int p1)] maxLocals)) t := by
      have q := go655
      rw [hs656] at q
      exact q
    obtain ⟨cl658, Ar658, q658, S658, N658, H658, G658⟩ := id F654
    have go659 : ∀ t, Steps p.tables e below (T609.setTop (mkF m 112 #[.val (.int p0), .val (.int p1), .val (.int (0 : Int32)), .val (.int (b0_4 p1)), .val (.ref b8), .val (.ref s_SUB), .unset, .unset] [(.int (b0_4 p1))])) t → Steps p.tables e below (s₁.setTop (entryFrame m #[(.int p0), (.int p1)] maxLocals)) t := by
      intro t k
      refine go657 _ ?_
      refine X609.aaload hx (j := (0 : Int32)) (v := (.ref s_SUB)) (by rw [e609]; exact Ar658.1) (State.isArrayOf_alike hZ.alike Ar658.2.1) rfl Ar658.2.2 (inb_of S658 ⟨by decide, by decide⟩) (Has.at H658 (inb_of S658 ⟨by decide, by decide⟩) rfl) (g := (mkF m 108 #[.val (.int p0), .val (.int p1), .val (.int (0 : Int32)), .val (.int (b0_4 p1)), .val (.ref b8), .unset, .unset, .unset] [(.int (0 : Int32)), (.ref b8)])) rfl rfl (hb hby at_108) _ ?_
      show Steps p.tables e below (T609.setTop (mkF m 109 #[.val (.int p0), .val (.int p1), .val (.int (0 : Int32)), .val (.int (b0_4 p1)), .val (.ref b8), .unset, .unset, .unset] [(.ref s_SUB)])) t
      refine XS.astore X609.here hx rfl (hb hby at_109) rfl rfl (l' := #[.val (.int p0), .val (.int p1), .val (.int (0 : Int32)), .val (.int (b0_4 p1)), .val (.ref b8), .val (.ref s_SUB), .unset, .unset]) rfl ?_
      show Steps p.tables e below (T609.setTop (mkF m 111 #[.val (.int p0), .val (.int p1), .val (.int (0 : Int32)), .val (.int (b0_4 p1)), .val (.ref b8), .val (.ref s_SUB), .unset, .unset] [])) t
      refine XS.iloadN X609.here hx rfl (hb hby at_111) rfl ?_
      show Steps p.tables e below (T609.setTop (mkF m 112 #[.val (.int p0), .val (.int p1), .val (.int (0 : Int32)), .val (.int (b0_4 p1)), .val (.ref b8), .val (.ref s_SUB), .unset, .unset] [(.int (b0_4 p1))])) t
      exact k
    by_cases hs660 : (b0_4 p1) = (0 : Int32)
    · have go661 : ∀ t, Steps p.tables e below (T609.setTop (mkF m 121 #[.val (.int p0), .val (.int p1), .val (.int (0 : Int32)), .val (.int (b0_4 p1)), .val (.ref b8), .val (.ref s_SUB), .unset, .unset] [])) t → Steps p.tables e below (s₁.setTop (entryFrame m #[(.int p0), (.int p1)] maxLocals)) t := by
        intro t k
        refine go659 _ ?_
        refine XS.ifYes X609.here hx rfl (pc0 := 112) (pc' := 121) rfl (hb hby at_112) rfl (XT.i0_eq_t hs660) (by decide) (by decide) ?_
        show Steps p.tables e below (T609.setTop (mkF m 121 #[.val (.int p0), .val (.int p1), .val (.int (0 : Int32)), .val (.int (b0_4 p1)), .val (.ref b8), .val (.ref s_SUB), .unset, .unset] [])) t
        exact k
      obtain ⟨T662, X662, e662, st662⟩ := getS2 X609 hx hZ hown (host := "") (Or.inl (hw _ (List.mem_of_getElem? (i := 29) rfl))) Via.refl e609 F636 (g := (mkF m 121 #[.val (.int p0), .val (.int p1), .val (.int (0 : Int32)), .val (.int (b0_4 p1)), .val (.ref b8), .val (.ref s_SUB), .unset, .unset] [])) rfl (hb hby at_121)
      have go663 : ∀ t, Steps p.tables e below (T662.setTop (mkF m 124 #[.val (.int p0), .val (.int p1), .val (.int (0 : Int32)), .val (.int (b0_4 p1)), .val (.ref b8), .val (.ref s_SUB), .unset, .unset] [(.ref s_WORKFORCE)])) t → Steps p.tables e below (s₁.setTop (entryFrame m #[(.int p0), (.int p1)] maxLocals)) t := fun t k => go661 _ (st662 _ k)
      have go664 : ∀ t, Steps p.tables e below (T662.setTop (mkF m 171 #[.val (.int p0), .val (.int p1), .val (.int (0 : Int32)), .val (.int (b0_4 p1)), .val (.ref b8), .val (.ref s_SUB), .val (.ref s_WORKFORCE), .val (.int (1 : Int32))] [(.ref s_WORKFORCE), (.ref s_SUB)])) t → Steps p.tables e below (s₁.setTop (entryFrame m #[(.int p0), (.int p1)] maxLocals)) t := by
        intro t k
        refine go663 _ ?_
        refine XS.astore X662.here hx rfl (hb hby at_124) rfl rfl (l' := #[.val (.int p0), .val (.int p1), .val (.int (0 : Int32)), .val (.int (b0_4 p1)), .val (.ref b8), .val (.ref s_SUB), .val (.ref s_WORKFORCE), .unset]) rfl ?_
        show Steps p.tables e below (T662.setTop (mkF m 126 #[.val (.int p0), .val (.int p1), .val (.int (0 : Int32)), .val (.int (b0_4 p1)), .val (.ref b8), .val (.ref s_SUB), .val (.ref s_WORKFORCE), .unset] [])) t
        refine XS.iloadN X662.here hx rfl (hb hby at_126) rfl ?_
        show Steps p.tables e below (T662.setTop (mkF m 127 #[.val (.int p0), .val (.int p1), .val (.int (0 : Int32)), .val (.int (b0_4 p1)), .val (.ref b8), .val (.ref s_SUB), .val (.ref s_WORKFORCE), .unset] [(.int (0 : Int32))])) t
        refine XS.bipush X662.here hx rfl (hb hby at_127) ?_
        show Steps p.tables e below (T662.setTop (mkF m 129 #[.val (.int p0), .val (.int p1), .val (.int (0 : Int32)), .val (.int (b0_4 p1)), .val (.ref b8), .val (.ref s_SUB), .val (.ref s_WORKFORCE), .unset] [(.int (8 : Int32)), (.int (0 : Int32))])) t
        refine XS.icmpNo X662.here hx rfl (hb hby at_129) rfl (XT.ii_eq_f (by decide : ¬ ((0 : Int32) = (8 : Int32)))) ?_
        show Steps p.tables e below (T662.setTop (mkF m 132 #[.val (.int p0), .val (.int p1), .val (.int (0 : Int32)), .val (.int (b0_4 p1)), .val (.ref b8), .val (.ref s_SUB), .val (.ref s_WORKFORCE), .unset] [])) t
        refine XS.iloadN X662.here hx rfl (hb hby at_132) rfl ?_
        show Steps p.tables e below (T662.setTop (mkF m 133 #[.val (.int p0), .val (.int p1), .val (.int (0 : Int32)), .val (.int (b0_4 p1)), .val (.ref b8), .val (.ref s_SUB), .val (.ref s_WORKFORCE), .unset] [(.int (0 : Int32))])) t
        refine XS.bipush X662.here hx rfl (hb hby at_133) ?_
        show Steps p.tables e below (T662.setTop (mkF m 135 #[.val (.int p0), .val (.int p1), .val (.int (0 : Int32)), .val (.int (b0_4 p1)), .val (.ref b8), .val (.ref s_SUB), .val (.ref s_WORKFORCE), .unset] [(.int (10 : Int32)), (.int (0 : Int32))])) t
        refine XS.icmpYes X662.here hx rfl (pc0 := 135) (pc' := 144) rfl (hb hby at_135) rfl (XT.ii_ne_t (by decide : ¬ ((0 : Int32) = (10 : Int32)))) (by decide) (by decide) ?_
        show Steps p.tables e below (T662.setTop (mkF m 144 #[.val (.int p0), .val (.int p1), .val (.int (0 : Int32)), .val (.int (b0_4 p1)), .val (.ref b8), .val (.ref s_SUB), .val (.ref s_WORKFORCE), .unset] [])) t
        refine XS.iloadN X662.here hx rfl (hb hby at_144) rfl ?_
        show Steps p.tables e below (T662.setTop (mkF m 145 #[.val (.int p0), .val (.int p1), .val (.int (0 : Int32)), .val (.int (b0_4 p1)), .val (.ref b8), .val (.ref s_SUB), .val (.ref s_WORKFORCE), .unset] [(.int (0 : Int32))])) t
        refine XS.bipush X662.here hx rfl (hb hby at_145) ?_
        show Steps p.tables e below (T662.setTop (mkF m 147 #[.val (.int p0), .val (.int p1), .val (.int (0 : Int32)), .val (.int (b0_4 p1)), .val (.ref b8), .val (.ref s_SUB), .val (.ref s_WORKFORCE), .unset] [(.int (9 : Int32)), (.int (0 : Int32))])) t
        refine XS.icmpYes X662.here hx rfl (pc0 := 147) (pc' := 164) rfl (hb hby at_147) rfl (XT.ii_ne_t (by decide : ¬ ((0 : Int32) = (9 : Int32)))) (by decide) (by decide) ?_
        show Steps p.tables e below (T662.setTop (mkF m 164 #[.val (.int p0), .val (.int p1), .val (.int (0 : Int32)), .val (.int (b0_4 p1)), .val (.ref b8), .val (.ref s_SUB), .val (.ref s_WORKFORCE), .unset] [])) t
        refine XS.iconst X662.here hx rfl (hb hby at_164) ?_
        show Steps p.tables e below (T662.setTop (mkF m 165 #[.val (.int p0), .val (.int p1), .val (.int (0 : Int32)), .val (.int (b0_4 p1)), .val (.ref b8), .val (.ref s_SUB), .val (.ref s_WORKFORCE), .unset] [(.int (1 : Int32))])) t
        refine XS.istore X662.here hx rfl (hb hby at_165) rfl (l' := #[.val (.int p0), .val (.int p1), .val (.int (0 : Int32)), .val (.int (b0_4 p1)), .val (.ref b8), .val (.ref s_SUB), .val (.ref s_WORKFORCE), .val (.int (1 : Int32))]) rfl ?_
        show Steps p.tables e below (T662.setTop (mkF m 167 #[.val (.int p0), .val (.int p1), .val (.int (0 : Int32)), .val (.int (b0_4 p1)), .val (.ref b8), .val (.ref s_SUB), .val (.ref s_WORKFORCE), .val (.int (1 : Int32))] [])) t
        refine XS.aload X662.here hx rfl (hb hby at_167) rfl rfl ?_
        show Steps p.tables e below (T662.setTop (mkF m 169 #[.val (.int p0), .val (.int p1), .val (.int (0 : Int32)), .val (.int (b0_4 p1)), .val (.ref b8), .val (.ref s_SUB), .val (.ref s_WORKFORCE), .val (.int (1 : Int32))] [(.ref s_SUB)])) t
        refine XS.aload X662.here hx rfl (hb hby at_169) rfl rfl ?_
        show Steps p.tables e below (T662.setTop (mkF m 171 #[.val (.int p0), .val (.int p1), .val (.int (0 : Int32)), .val (.int (b0_4 p1)), .val (.ref b8), .val (.ref s_SUB), .val (.ref s_WORKFORCE), .val (.int (1 : Int32))] [(.ref s_WORKFORCE), (.ref s_SUB)])) t
        exact k
      obtain ⟨cq665, kq665, q665a, q665b, q665c⟩ := isOf hZ e662 F613
      obtain ⟨_, _, ⟨T665, L665, k665, n665⟩, -, X665, ⟨Lc665, hQ665, l665, y665, z665⟩, st665⟩ := X662.virtualBack hx (y := (⟨"com/example/hauora_id/hauoraid/model/Claim", "heldIn", "(Lcom/example/hauora_id/hauoraid/model/Realm;)Z"⟩ : MethodName)) (z := (⟨"com/example/hauora_id/hauoraid/model/Claim", "heldIn", "(Lcom/example/hauora_id/hauoraid/model/Realm;)Z"⟩ : MethodName)) hown (mvT hZ (hw _ (List.mem_of_getElem? (i := 32) rfl))) (mvT hZ (hw _ (List.mem_of_getElem? (i := 33) rfl))) (notFace_of_selects (args := #[]) (mvT hZ (hw _ (List.mem_of_getElem? (i := 35) rfl)))) (mvT hZ (hw _ (List.mem_of_getElem? (i := 35) rfl))) (mvT hZ (hw _ (List.mem_of_getElem? (i := 34) rfl))) (by decide) (backOf (W := 0) (rm1n l Z aZ hw [] s_SUB s_WORKFORCE h609 n0 Zs609 F638) hZ (hw _ (List.mem_of_getElem? (i := 36) rfl)) (hw _ (List.mem_of_getElem? (i := 4) rfl)) (by decide) (by decide)) q665a q665c (g := (mkF m 171 #[.val (.int p0), .val (.int p1), .val (.int (0 : Int32)), .val (.int (b0_4 p1)), .val (.ref b8), .val (.ref s_SUB), .val (.ref s_WORKFORCE), .val (.int (1 : Int32))] [(.ref s_WORKFORCE), (.ref s_SUB)])) rfl (by rw [hml]; rfl) (Steps.refl _) (argsL := [(.ref s_WORKFORCE)]) (rest := []) (lenOf pd_15 rfl) rfl (by show 2 * 0 + _ ≤ _; exact Nat.le_of_eq rfl) (hb hby at_171) (fun _ _ => ⟨rfl, e662, (by decide : 1 + 0 ≤ _), (by decide : 12 + 0 ≤ _)⟩)
      dsimp only [Pt.U, Pt.locs, Pt.cells, Pt.slots] at X665 l665 y665 z665 st665 hQ665
      subst l665 y665 z665
      obtain ⟨rfl, N665q, e665⟩ := hQ665
      have N665 := Fr.app N609 N665q
      have go666 : ∀ t, Steps p.tables e below (T665.setTop (mkF m 174 #[.val (.int p0), .val (.int p1), .val (.int (0 : Int32)), .val (.int (b0_4 p1)), .val (.ref b8), .val (.ref s_SUB), .val (.ref s_WORKFORCE), .val (.int (1 : Int32))] [(.int (1 : Int32))])) t → Steps p.tables e below (s₁.setTop (entryFrame m #[(.int p0), (.int p1)] maxLocals)) t := fun t k => go664 _ (st665.trans k)
      have go667 : ∀ t, Steps p.tables e below (T665.setTop (mkF m 184 #[.val (.int p0), .val (.int p1), .val (.int (0 : Int32)), .val (.int (b0_4 p1)), .val (.ref b8), .val (.ref s_SUB), .val (.ref s_WORKFORCE), .val (.int (1 : Int32))] [(.int (1 : Int32))])) t → Steps p.tables e below (s₁.setTop (entryFrame m #[(.int p0), (.int p1)] maxLocals)) t := by
        intro t k
        refine go666 _ ?_
        refine XS.iload X665.here hx rfl (hb hby at_174) rfl ?_
        show Steps p.tables e below (T665.setTop (mkF m 176 #[.val (.int p0), .val (.int p1), .val (.int (0 : Int32)), .val (.int (b0_4 p1)), .val (.ref b8), .val (.ref s_SUB), .val (.ref s_WORKFORCE), .val (.int (1 : Int32))] [(.int (1 : Int32)), (.int (1 : Int32))])) t
        refine XS.icmpNo X665.here hx rfl (hb hby at_176) rfl (XT.ii_ne_f (by decide : ((1 : Int32) = (1 : Int32)))) ?_
        show Steps p.tables e below (T665.setTop (mkF m 179 #[.val (.int p0), .val (.int p1), .val (.int (0 : Int32)), .val (.int (b0_4 p1)), .val (.ref b8), .val (.ref s_SUB), .val (.ref s_WORKFORCE), .val (.int (1 : Int32))] [])) t
        refine XS.iconst X665.here hx rfl (hb hby at_179) ?_
        show Steps p.tables e below (T665.setTop (mkF m 180 #[.val (.int p0), .val (.int p1), .val (.int (0 : Int32)), .val (.int (b0_4 p1)), .val (.ref b8), .val (.ref s_SUB), .val (.ref s_WORKFORCE), .val (.int (1 : Int32))] [(.int (1 : Int32))])) t
        refine XS.goto X665.here hx rfl (pc0 := 180) (pc' := 184) rfl (hb hby at_180) (by decide) (by decide) ?_
        show Steps p.tables e below (T665.setTop (mkF m 184 #[.val (.int p0), .val (.int p1), .val (.int (0 : Int32)), .val (.int (b0_4 p1)), .val (.ref b8), .val (.ref s_SUB), .val (.ref s_WORKFORCE), .val (.int (1 : Int32))] [(.int (1 : Int32))])) t
        exact k
      obtain ⟨fs, hr, hrun, hended, hW, hsame⟩ := X665.leave (v := some (.int (1 : Int32))) (fun h => by rw [Bd.returns] at h; cases h)
      refine ⟨_, _, go667 _ (Jvm.RoadKit.retOut X665 hx Bd.returns rfl (Or.inl ⟨rfl, Or.inr (Or.inl rfl), _, rfl⟩) (hb hby at_184) hr), hrun, hended, _, _, rfl, ?_, ⟨_, rfl⟩, hW, hsame.mono (by decide) (by decide)⟩
      show Q0 _ _ p0 p1 s_SUB s_EMAIL s_GIVEN_NAME s_MIDDLE_NAME s_FAMILY_NAME s_NICKNAME s_BIRTHDATE s_MOBILE_NUMBER s_NHI s_CPN s_RELATIONSHIPS s_CONFIDENCE_LEVEL s_WORKFORCE s_CONSUMER h0 _ (T665.setFrames fs).heap _
      have hE : (T665.setFrames fs).heap = h609 := e665
      rw [hE]
      exact ⟨congrArg (fun z => some (Value.int z)) ((by rw [f0, if_pos hs656, if_pos hs660] : (1 : Int32) = (f0 p0 p1 s_WORKFORCE s_CONSUMER)).trans (f0_one p0 p1 s_WORKFORCE s_CONSUMER ne_CW)), N665⟩
    · have go668 : ∀ t, Steps p.tables e below (T609.setTop (mkF m 115 #[.val (.int p0), .val (.int p1), .val (.int (0 : Int32)), .val (.int (b0_4 p1)), .val (.ref b8), .val (.ref s_SUB), .unset, .unset] [])) t → Steps p.tables e below (s₁.setTop (entryFrame m #[(.int p0), (.int p1)] maxLocals)) t := by
        intro t k
        refine go659 _ ?_
        refine XS.ifNo X609.here hx rfl (hb hby at_112) rfl (XT.i0_eq_f hs660) ?_
        show Steps p.tables e below (T609.setTop (mkF m 115 #[.val (.int p0), .val (.int p1), .val (.int (0 : Int32)), .val (.int (b0_4 p1)), .val (.ref b8), .val (.ref s_SUB), .unset, .unset] [])) t
        exact k
      obtain ⟨T669, X669, e669, st669⟩ := getS2 X609 hx hZ hown (host := "") (Or.inl (hw _ (List.mem_of_getElem? (i := 39) rfl))) Via.refl e609 F640 (g := (mkF m 115 #[.val (.int p0), .val (.int p1), .val (.int (0 : Int32)), .val (.int (b0_4 p1)), .val (.ref b8), .val (.ref s_SUB), .unset, .unset] [])) rfl (hb hby at_115)
      have go670 : ∀ t, Steps p.tables e below (T669.setTop (mkF m 118 #[.val (.int p0), .val (.int p1), .val (.int (0 : Int32)), .val (.int (b0_4 p1)), .val (.ref b8), .val (.ref s_SUB), .unset, .unset] [(.ref s_CONSUMER)])) t → Steps p.tables e below (s₁.setTop (entryFrame m #[(.int p0), (.int p1)] maxLocals)) t := fun t k => go668 _ (st669 _ k)
      have go671 : ∀ t, Steps p.tables e below (T669.setTop (mkF m 171 #[.val (.int p0), .val (.int p1), .val (.int (0 : Int32)), .val (.int (b0_4 p1)), .val (.ref b8), .val (.ref s_SUB), .val (.ref s_CONSUMER), .val (.int (1 : Int32))] [(.ref s_CONSUMER), (.ref s_SUB)])) t → Steps p.tables e below (s₁.setTop (entryFrame m #[(.int p0), (.int p1)] maxLocals)) t := by
        intro t k
        refine go670 _ ?_
        refine XS.goto X669.here hx rfl (pc0 := 118) (pc' := 124) rfl (hb hby at_118) (by decide) (by decide) ?_
        show Steps p.tables e below (T669.setTop (mkF m 124 #[.val (.int p0), .val (.int p1), .val (.int (0 : Int32)), .val (.int (b0_4 p1)), .val (.ref b8), .val (.ref s_SUB), .unset, .unset] [(.ref s_CONSUMER)])) t
        refine XS.astore X669.here hx rfl (hb hby at_124) rfl rfl (l' := #[.val (.int p0), .val (.int p1), .val (.int (0 : Int32)), .val (.int (b0_4 p1)), .val (.ref b8), .val (.ref s_SUB), .val (.ref s_CONSUMER), .unset]) rfl ?_
        show Steps p.tables e below (T669.setTop (mkF m 126 #[.val (.int p0), .val (.int p1), .val (.int (0 : Int32)), .val (.int (b0_4 p1)), .val (.ref b8), .val (.ref s_SUB), .val (.ref s_CONSUMER), .unset] [])) t
        refine XS.iloadN X669.here hx rfl (hb hby at_126) rfl ?_
        show Steps p.tables e below (T669.setTop (mkF m 127 #[.val (.int p0), .val (.int p1), .val (.int (0 : Int32)), .val (.int (b0_4 p1)), .val (.ref b8), .val (.ref s_SUB), .val (.ref s_CONSUMER), .unset] [(.int (0 : Int32))])) t
        refine XS.bipush X669.here hx rfl (hb hby at_127) ?_
        show Steps p.tables e below (T669.setTop (mkF m 129 #[.val (.int p0), .val (.int p1), .val (.int (0 : Int32)), .val (.int (b0_4 p1)), .val (.ref b8), .val (.ref s_SUB), .val (.ref s_CONSUMER), .unset] [(.int (8 : Int32)), (.int (0 : Int32))])) t
        refine XS.icmpNo X669.here hx rfl (hb hby at_129) rfl (XT.ii_eq_f (by decide : ¬ ((0 : Int32) = (8 : Int32)))) ?_
        show Steps p.tables e below (T669.setTop (mkF m 132 #[.val (.int p0), .val (.int p1), .val (.int (0 : Int32)), .val (.int (b0_4 p1)), .val (.ref b8), .val (.ref s_SUB), .val (.ref s_CONSUMER), .unset] [])) t
        refine XS.iloadN X669.here hx rfl (hb hby at_132) rfl ?_
        show Steps p.tables e below (T669.setTop (mkF m 133 #[.val (.int p0), .val (.int p1), .val (.int (0 : Int32)), .val (.int (b0_4 p1)), .val (.ref b8), .val (.ref s_SUB), .val (.ref s_CONSUMER), .unset] [(.int (0 : Int32))])) t
        refine XS.bipush X669.here hx rfl (hb hby at_133) ?_
        show Steps p.tables e below (T669.setTop (mkF m 135 #[.val (.int p0), .val (.int p1), .val (.int (0 : Int32)), .val (.int (b0_4 p1)), .val (.ref b8), .val (.ref s_SUB), .val (.ref s_CONSUMER), .unset] [(.int (10 : Int32)), (.int (0 : Int32))])) t
        refine XS.icmpYes X669.here hx rfl (pc0 := 135) (pc' := 144) rfl (hb hby at_135) rfl (XT.ii_ne_t (by decide : ¬ ((0 : Int32) = (10 : Int32)))) (by decide) (by decide) ?_
        show Steps p.tables e below (T669.setTop (mkF m 144 #[.val (.int p0), .val (.int p1), .val (.int (0 : Int32)), .val (.int (b0_4 p1)), .val (.ref b8), .val (.ref s_SUB), .val (.ref s_CONSUMER), .unset] [])) t
        refine XS.iloadN X669.here hx rfl (hb hby at_144) rfl ?_
        show Steps p.tables e below (T669.setTop (mkF m 145 #[.val (.int p0), .val (.int p1), .val (.int (0 : Int32)), .val (.int (b0_4 p1)), .val (.ref b8), .val (.ref s_SUB), .val (.ref s_CONSUMER), .unset] [(.int (0 : Int32))])) t
        refine XS.bipush X669.here hx rfl (hb hby at_145) ?_
        show Steps p.tables e below (T669.setTop (mkF m 147 #[.val (.int p0), .val (.int p1), .val (.int (0 : Int32)), .val (.int (b0_4 p1)), .val (.ref b8), .val (.ref s_SUB), .val (.ref s_CONSUMER), .unset] [(.int (9 : Int32)), (.int (0 : Int32))])) t
        refine XS.icmpYes X669.here hx rfl (pc0 := 147) (pc' := 164) rfl (hb hby at_147) rfl (XT.ii_ne_t (by decide : ¬ ((0 : Int32) = (9 : Int32)))) (by decide) (by decide) ?_
        show Steps p.tables e below (T669.setTop (mkF m 164 #[.val (.int p0), .val (.int p1), .val (.int (0 : Int32)), .val (.int (b0_4 p1)), .val (.ref b8), .val (.ref s_SUB), .val (.ref s_CONSUMER), .unset] [])) t
        refine XS.iconst X669.here hx rfl (hb hby at_164) ?_
        show Steps p.tables e below (T669.setTop (mkF m 165 #[.val (.int p0), .val (.int p1), .val (.int (0 : Int32)), .val (.int (b0_4 p1)), .val (.ref b8), .val (.ref s_SUB), .val (.ref s_CONSUMER), .unset] [(.int (1 : Int32))])) t
        refine XS.istore X669.here hx rfl (hb hby at_165) rfl (l' := #[.val (.int p0), .val (.int p1), .val (.int (0 : Int32)), .val (.int (b0_4 p1)), .val (.ref b8), .val (.ref s_SUB), .val (.ref s_CONSUMER), .val (.int (1 : Int32))]) rfl ?_
        show Steps p.tables e below (T669.setTop (mkF m 167 #[.val (.int p0), .val (.int p1), .val (.int (0 : Int32)), .val (.int (b0_4 p1)), .val (.ref b8), .val (.ref s_SUB), .val (.ref s_CONSUMER), .val (.int (1 : Int32))] [])) t
        refine XS.aload X669.here hx rfl (hb hby at_167) rfl rfl ?_
        show Steps p.tables e below (T669.setTop (mkF m 169 #[.val (.int p0), .val (.int p1), .val (.int (0 : Int32)), .val (.int (b0_4 p1)), .val (.ref b8), .val (.ref s_SUB), .val (.ref s_CONSUMER), .val (.int (1 : Int32))] [(.ref s_SUB)])) t
        refine XS.aload X669.here hx rfl (hb hby at_169) rfl rfl ?_
        show Steps p.tables e below (T669.setTop (mkF m 171 #[.val (.int p0), .val (.int p1), .val (.int (0 : Int32)), .val (.int (b0_4 p1)), .val (.ref b8), .val (.ref s_SUB), .val (.ref s_CONSUMER), .val (.int (1 : Int32))] [(.ref s_CONSUMER), (.ref s_SUB)])) t
        exact k
      obtain ⟨cq672, kq672, q672a, q672b, q672c⟩ := isOf hZ e669 F613
      obtain ⟨_, _, ⟨T672, L672, k672, n672⟩, -, X672, ⟨Lc672, hQ672, l672, y672, z672⟩, st672⟩ := X669.virtualBack hx (y := (⟨"com/example/hauora_id/hauoraid/model/Claim", "heldIn", "(Lcom/example/hauora_id/hauoraid/model/Realm;)Z"⟩ : MethodName)) (z := (⟨"com/example/hauora_id/hauoraid/model/Claim", "heldIn", "(Lcom/example/hauora_id/hauoraid/model/Realm;)Z"⟩ : MethodName)) hown (mvT hZ (hw _ (List.mem_of_getElem? (i := 32) rfl))) (mvT hZ (hw _ (List.mem_of_getElem? (i := 33) rfl))) (notFace_of_selects (args := #[]) (mvT hZ (hw _ (List.mem_of_getElem? (i := 35) rfl)))) (mvT hZ (hw _ (List.mem_of_getElem? (i := 35) rfl))) (mvT hZ (hw _ (List.mem_of_getElem? (i := 34) rfl))) (by decide) (backOf (W := 0) (rm1n l Z aZ hw [] s_SUB s_CONSUMER h609 n0 Zs609 F638) hZ (hw _ (List.mem_of_getElem? (i := 36) rfl)) (hw _ (List.mem_of_getElem? (i := 4) rfl)) (by decide) (by decide)) q672a q672c (g := (mkF m 171 #[.val (.int p0), .val (.int p1), .val (.int (0 : Int32)), .val (.int (b0_4 p1)), .val (.ref b8), .val (.ref s_SUB), .val (.ref s_CONSUMER), .val (.int (1 : Int32))] [(.ref s_CONSUMER), (.ref s_SUB)])) rfl (by rw [hml]; rfl) (Steps.refl _) (argsL := [(.ref s_CONSUMER)]) (rest := []) (lenOf pd_15 rfl) rfl (by show 2 * 0 + _ ≤ _; exact Nat.le_of_eq rfl) (hb hby at_171) (fun _ _ => ⟨rfl, e669, (by decide : 1 + 0 ≤ _), (by decide : 12 + 0 ≤ _)⟩)
      dsimp only [Pt.U, Pt.locs, Pt.cells, Pt.slots] at X672 l672 y672 z672 st672 hQ672
      subst l672 y672 z672
      obtain ⟨rfl, N672q, e672⟩ := hQ672
      have N672 := Fr.app N609 N672q
      have go673 : ∀ t, Steps p.tables e below (T672.setTop (mkF m 174 #[.val (.int p0), .val (.int p1), .val (.int (0 : Int32)), .val (.int (b0_4 p1)), .val (.ref b8), .val (.ref s_SUB), .val (.ref s_CONSUMER), .val (.int (1 : Int32))] [(.int (1 : Int32))])) t → Steps p.tables e below (s₁.setTop (entryFrame m #[(.int p0), (.int p1)] maxLocals)) t := fun t k => go671 _ (st672.trans k)
      have go674 : ∀ t, Steps p.tables e below (T672.setTop (mkF m 184 #[.val (.int p0), .val (.int p1), .val (.int (0 : Int32)), .val (.int (b0_4 p1)), .val (.ref b8), .val (.ref s_SUB), .val (.ref s_CONSUMER), .val (.int (1 : Int32))] [(.int (1 : Int32))])) t → Steps p.tables e below (s₁.setTop (entryFrame m #[(.int p0), (.int p1)] maxLocals)) t := by
        intro t k
        refine go673 _ ?_
        refine XS.iload X672.here hx rfl (hb hby at_174) rfl ?_
        show Steps p.tables e below (T672.setTop (mkF m 176 #[.val (.int p0), .val (.int p1), .val (.int (0 : Int32)), .val (.int (b0_4 p1)), .val (.ref b8), .val (.ref s_SUB), .val (.ref s_CONSUMER), .val (.int (1 : Int32))] [(.int (1 : Int32)), (.int (1 : Int32))])) t
        refine XS.icmpNo X672.here hx rfl (hb hby at_176) rfl (XT.ii_ne_f (by decide : ((1 : Int32) = (1 : Int32)))) ?_
        show Steps p.tables e below (T672.setTop (mkF m 179 #[.val (.int p0), .val (.int p1), .val (.int (0 : Int32)), .val (.int (b0_4 p1)), .val (.ref b8), .val (.ref s_SUB), .val (.ref s_CONSUMER), .val (.int (1 : Int32))] [])) t
        refine XS.iconst X672.here hx rfl (hb hby at_179) ?_
        show Steps p.tables e below (T672.setTop (mkF m 180 #[.val (.int p0), .val (.int p1), .val (.int (0 : Int32)), .val (.int (b0_4 p1)), .val (.ref b8), .val (.ref s_SUB), .val (.ref s_CONSUMER), .val (.int (1 : Int32))] [(.int (1 : Int32))])) t
        refine XS.goto X672.here hx rfl (pc0 := 180) (pc' := 184) rfl (hb hby at_180) (by decide) (by decide) ?_
        show Steps p.tables e below (T672.setTop (mkF m 184 #[.val (.int p0), .val (.int p1), .val (.int (0 : Int32)), .val (.int (b0_4 p1)), .val (.ref b8), .val (.ref s_SUB), .val (.ref s_CONSUMER), .val (.int (1 : Int32))] [(.int (1 : Int32))])) t
        exact k
      obtain ⟨fs, hr, hrun, hended, hW, hsame⟩ := X672.leave (v := some (.int (1 : Int32))) (fun h => by rw [Bd.returns] at h; cases h)
      refine ⟨_, _, go674 _ (Jvm.RoadKit.retOut X672 hx Bd.returns rfl (Or.inl ⟨rfl, Or.inr (Or.inl rfl), _, rfl⟩) (hb hby at_184) hr), hrun, hended, _, _, rfl, ?_, ⟨_, rfl⟩, hW, hsame.mono (by decide) (by decide)⟩
      show Q0 _ _ p0 p1 s_SUB s_EMAIL s_GIVEN_NAME s_MIDDLE_NAME s_FAMILY_NAME s_NICKNAME s_BIRTHDATE s_MOBILE_NUMBER s_NHI s_CPN s_RELATIONSHIPS s_CONFIDENCE_LEVEL s_WORKFORCE s_CONSUMER h0 _ (T672.setFrames fs).heap _
      have hE : (T672.setFrames fs).heap = h609 := e672
      rw [hE]
      exact ⟨congrArg (fun z => some (Value.int z)) ((by rw [f0, if_pos hs656, if_neg hs660] : (1 : Int32) = (f0 p0 p1 s_WORKFORCE s_CONSUMER)).trans (f0_one p0 p1 s_WORKFORCE s_CONSUMER ne_CW)), N672⟩
  · by_cases hs675 : (v0_1 p0) = (1 : Int32)
    · have go676 : ∀ t, Steps p.tables e below (T609.setTop (mkF m 108 #[.val (.int p0), .val (.int p1), .val (.int (1 : Int32)), .val (.int (b0_4 p1)), .val (.ref b8), .unset, .unset, .unset] [(.int (1 : Int32)), (.ref b8)])) t → Steps p.tables e below (s₁.setTop (entryFrame m #[(.int p0), (.int p1)] maxLocals)) t := by
        have q := go655
        rw [hs675] at q
        exact q
      obtain ⟨cl677, Ar677, q677, S677, N677, H677, G677⟩ := id F654
      have go678 : ∀ t, Steps p.tables e below (T609.setTop (mkF m 112 #[.val (.int p0), .val (.int p1), .val (.int (1 : Int32)), .val (.int (b0_4 p1)), .val (.ref b8), .val (.ref s_EMAIL), .unset, .unset] [(.int (b0_4 p1))])) t → Steps p.tables e below (s₁.setTop (entryFrame m #[(.int p0), (.int p1)] maxLocals)) t := by
        intro t k
        refine go676 _ ?_
        refine X609.aaload hx (j := (1 : Int32)) (v := (.ref s_EMAIL)) (by rw [e609]; exact Ar677.1) (State.isArrayOf_alike hZ.alike Ar677.2.1) rfl Ar677.2.2 (inb_of S677 ⟨by decide, by decide⟩) (Has.at H677 (inb_of S677 ⟨by decide, by decide⟩) rfl) (g := (mkF m 108 #[.val (.int p0), .val (.int p1), .val (.int (1 : Int32)), .val (.int (b0_4 p1)), .val (.ref b8), .unset, .unset, .unset] [(.int (1 : Int32)), (.ref b8)])) rfl rfl (hb hby at_108) _ ?_
        show Steps p.tables e below (T609.setTop (mkF m 109 #[.val (.int p0), .val (.int p1), .val (.int (1 : Int32)), .val (.int (b0_4 p1)), .val (.ref b8), .unset, .unset, .unset] [(.ref s_EMAIL)])) t
        refine XS.astore X609.here hx rfl (hb hby at_109) rfl rfl (l' := #[.val (.int p0), .val (.int p1), .val (.int (1 : Int32)), .val (.int (b0_4 p1)), .val (.ref b8), .val (.ref s_EMAIL), .unset, .unset]) rfl ?_
        show Steps p.tables e below (T609.setTop (mkF m 111 #[.val (.int p0), .val (.int p1), .val (.int (1 : Int32)), .val (.int (b0_4 p1)), .val (.ref b8), .val (.ref s_EMAIL), .unset, .unset] [])) t
        refine XS.iloadN X609.here hx rfl (hb hby at_111) rfl ?_
        show Steps p.tables e below (T609.setTop (mkF m 112 #[.val (.int p0), .val (.int p1), .val (.int (1 : Int32)), .val (.int (b0_4 p1)), .val (.ref b8), .val (.ref s_EMAIL), .unset, .unset] [(.int (b0_4 p1))])) t
        exact k
      by_cases hs679 : (b0_4 p1) = (0 : Int32)
      · have go680 : ∀ t, Steps p.tables e below (T609.setTop (mkF m 121 #[.val (.int p0), .val (.int p1), .val (.int (1 : Int32)), .val (.int (b0_4 p1)), .val (.ref b8), .val (.ref s_EMAIL), .unset, .unset] [])) t → Steps p.tables e below (s₁.setTop (entryFrame m #[(.int p0), (.int p1)] maxLocals)) t := by
          intro t k
          refine go678 _ ?_
          refine XS.ifYes X609.here hx rfl (pc0 := 112) (pc' := 121) rfl (hb hby at_112) rfl (XT.i0_eq_t hs679) (by decide) (by decide) ?_
          show Steps p.tables e below (T609.setTop (mkF m 121 #[.val (.int p0), .val (.int p1), .val (.int (1 : Int32)), .val (.int (b0_4 p1)), .val (.ref b8), .val (.ref s_EMAIL), .unset, .unset] [])) t
          exact k
        obtain ⟨T681, X681, e681, st681⟩ := getS2 X609 hx hZ hown (host := "") (Or.inl (hw _ (List.mem_of_getElem? (i := 29) rfl))) Via.refl e609 F636 (g := (mkF m 121 #[.val (.int p0), .val (.int p1), .val (.int (1 : Int32)), .val (.int (b0_4 p1)), .val (.ref b8), .val (.ref s_EMAIL), .unset, .unset] [])) rfl (hb hby at_121)
        have go682 : ∀ t, Steps p.tables e below (T681.setTop (mkF m 124 #[.val (.int p0), .val (.int p1), .val (.int (1 : Int32)), .val (.int (b0_4 p1)), .val (.ref b8), .val (.ref s_EMAIL), .unset, .unset] [(.ref s_WORKFORCE)])) t → Steps p.tables e below (s₁.setTop (entryFrame m #[(.int p0), (.int p1)] maxLocals)) t := fun t k => go680 _ (st681 _ k)
        have go683 : ∀ t, Steps p.tables e below (T681.setTop (mkF m 171 #[.val (.int p0), .val (.int p1), .val (.int (1 : Int32)), .val (.int (b0_4 p1)), .val (.ref b8), .val (.ref s_EMAIL), .val (.ref s_WORKFORCE), .val (.int (1 : Int32))] [(.ref s_WORKFORCE), (.ref s_EMAIL)])) t → Steps p.tables e below (s₁.setTop (entryFrame m #[(.int p0), (.int p1)] maxLocals)) t := by
          intro t k
          refine go682 _ ?_
          refine XS.astore X681.here hx rfl (hb hby at_124) rfl rfl (l' := #[.val (.int p0), .val (.int p1), .val (.int (1 : Int32)), .val (.int (b0_4 p1)), .val (.ref b8), .val (.ref s_EMAIL), .val (.ref s_WORKFORCE), .unset]) rfl ?_
          show Steps p.tables e below (T681.setTop (mkF m 126 #[.val (.int p0), .val (.int p1), .val (.int (1 : Int32)), .val (.int (b0_4 p1)), .val (.ref b8), .val (.ref s_EMAIL), .val (.ref s_WORKFORCE), .unset] [])) t
          refine XS.iloadN X681.here hx rfl (hb hby at_126) rfl ?_
          show Steps p.tables e below (T681.setTop (mkF m 127 #[.val (.int p0), .val (.int p1), .val (.int (1 : Int32)), .val (.int (b0_4 p1)), .val (.ref b8), .val (.ref s_EMAIL), .val (.ref s_WORKFORCE), .unset] [(.int (1 : Int32))])) t
          refine XS.bipush X681.here hx rfl (hb hby at_127) ?_
          show Steps p.tables e below (T681.setTop (mkF m 129 #[.val (.int p0), .val (.int p1), .val (.int (1 : Int32)), .val (.int (b0_4 p1)), .val (.ref b8), .val (.ref s_EMAIL), .val (.ref s_WORKFORCE), .unset] [(.int (8 : Int32)), (.int (1 : Int32))])) t
          refine XS.icmpNo X681.here hx rfl (hb hby at_129) rfl (XT.ii_eq_f (by decide : ¬ ((1 : Int32) = (8 : Int32)))) ?_
          show Steps p.tables e below (T681.setTop (mkF m 132 #[.val (.int p0), .val (.int p1), .val (.int (1 : Int32)), .val (.int (b0_4 p1)), .val (.ref b8), .val (.ref s_EMAIL), .val (.ref s_WORKFORCE), .unset] [])) t
          refine XS.iloadN X681.here hx rfl (hb hby at_132) rfl ?_
          show Steps p.tables e below (T681.setTop (mkF m 133 #[.val (.int p0), .val (.int p1), .val (.int (1 : Int32)), .val (.int (b0_4 p1)), .val (.ref b8), .val (.ref s_EMAIL), .val (.ref s_WORKFORCE), .unset] [(.int (1 : Int32))])) t
          refine XS.bipush X681.here hx rfl (hb hby at_133) ?_
          show Steps p.tables e below (T681.setTop (mkF m 135 #[.val (.int p0), .val (.int p1), .val (.int (1 : Int32)), .val (.int (b0_4 p1)), .val (.ref b8), .val (.ref s_EMAIL), .val (.ref s_WORKFORCE), .unset] [(.int (10 : Int32)), (.int (1 : Int32))])) t
          refine XS.icmpYes X681.here hx rfl (pc0 := 135) (pc' := 144) rfl (hb hby at_135) rfl (XT.ii_ne_t (by decide : ¬ ((1 : Int32) = (10 : Int32)))) (by decide) (by decide) ?_
          show Steps p.tables e below (T681.setTop (mkF m 144 #[.val (.int p0), .val (.int p1), .val (.int (1 : Int32)), .val (.int (b0_4 p1)), .val (.ref b8), .val (.ref s_EMAIL), .val (.ref s_WORKFORCE), .unset] [])) t
          refine XS.iloadN X681.here hx rfl (hb hby at_144) rfl ?_
          show Steps p.tables e below (T681.setTop (mkF m 145 #[.val (.int p0), .val (.int p1), .val (.int (1 : Int32)), .val (.int (b0_4 p1)), .val (.ref b8), .val (.ref s_EMAIL), .val (.ref s_WORKFORCE), .unset] [(.int (1 : Int32))])) t
          refine XS.bipush X681.here hx rfl (hb hby at_145) ?_
          show Steps p.tables e below (T681.setTop (mkF m 147 #[.val (.int p0), .val (.int p1), .val (.int (1 : Int32)), .val (.int (b0_4 p1)), .val (.ref b8), .val (.ref s_EMAIL), .val (.ref s_WORKFORCE), .unset] [(.int (9 : Int32)), (.int (1 : Int32))])) t
          refine XS.icmpYes X681.here hx rfl (pc0 := 147) (pc' := 164) rfl (hb hby at_147) rfl (XT.ii_ne_t (by decide : ¬ ((1 : Int32) = (9 : Int32)))) (by decide) (by decide) ?_
          show Steps p.tables e below (T681.setTop (mkF m 164 #[.val (.int p0), .val (.int p1), .val (.int (1 : Int32)), .val (.int (b0_4 p1)), .val (.ref b8), .val (.ref s_EMAIL), .val (.ref s_WORKFORCE), .unset] [])) t
          refine XS.iconst X681.here hx rfl (hb hby at_164) ?_
          show Steps p.tables e below (T681.setTop (mkF m 165 #[.val (.int p0), .val (.int p1), .val (.int (1 : Int32)), .val (.int (b0_4 p1)), .val (.ref b8), .val (.ref s_EMAIL), .val (.ref s_WORKFORCE), .unset] [(.int (1 : Int32))])) t
          refine XS.istore X681.here hx rfl (hb hby at_165) rfl (l' := #[.val (.int p0), .val (.int p1), .val (.int (1 : Int32)), .val (.int (b0_4 p1)), .val (.ref b8), .val (.ref s_EMAIL), .val (.ref s_WORKFORCE), .val (.int (1 : Int32))]) rfl ?_
          show Steps p.tables e below (T681.setTop (mkF m 167 #[.val (.int p0), .val (.int p1), .val (.int (1 : Int32)), .val (.int (b0_4 p1)), .val (.ref b8), .val (.ref s_EMAIL), .val (.ref s_WORKFORCE), .val (.int (1 : Int32))] [])) t
          refine XS.aload X681.here hx rfl (hb hby at_167) rfl rfl ?_
          show Steps p.tables e below (T681.setTop (mkF m 169 #[.val (.int p0), .val (.int p1), .val (.int (1 : Int32)), .val (.int (b0_4 p1)), .val (.ref b8), .val (.ref s_EMAIL), .val (.ref s_WORKFORCE), .val (.int (1 : Int32))] [(.ref s_EMAIL)])) t
          refine XS.aload X681.here hx rfl (hb hby at_169) rfl rfl ?_
          show Steps p.tables e below (T681.setTop (mkF m 171 #[.val (.int p0), .val (.int p1), .val (.int (1 : Int32)), .val (.int (b0_4 p1)), .val (.ref b8), .val (.ref s_EMAIL), .val (.ref s_WORKFORCE), .val (.int (1 : Int32))] [(.ref s_WORKFORCE), (.ref s_EMAIL)])) t
          exact k
        obtain ⟨cq684, kq684, q684a, q684b, q684c⟩ := isOf hZ e681 F615
        obtain ⟨_, _, ⟨T684, L684, k684, n684⟩, -, X684, ⟨Lc684, hQ684, l684, y684, z684⟩, st684⟩ := X681.virtualBack hx (y := (⟨"com/example/hauora_id/hauoraid/model/Claim", "heldIn", "(Lcom/example/hauora_id/hauoraid/model/Realm;)Z"⟩ : MethodName)) (z := (⟨"com/example/hauora_id/hauoraid/model/Claim", "heldIn", "(Lcom/example/hauora_id/hauoraid/model/Realm;)Z"⟩ : MethodName)) hown (mvT hZ (hw _ (List.mem_of_getElem? (i := 32) rfl))) (mvT hZ (hw _ (List.mem_of_getElem? (i := 33) rfl))) (notFace_of_selects (args := #[]) (mvT hZ (hw _ (List.mem_of_getElem? (i := 35) rfl)))) (mvT hZ (hw _ (List.mem_of_getElem? (i := 35) rfl))) (mvT hZ (hw _ (List.mem_of_getElem? (i := 34) rfl))) (by decide) (backOf (W := 0) (rm1n l Z aZ hw [] s_EMAIL s_WORKFORCE h609 n0 Zs609 F644) hZ (hw _ (List.mem_of_getElem? (i := 36) rfl)) (hw _ (List.mem_of_getElem? (i := 4) rfl)) (by decide) (by decide)) q684a q684c (g := (mkF m 171 #[.val (.int p0), .val (.int p1), .val (.int (1 : Int32)), .val (.int (b0_4 p1)), .val (.ref b8), .val (.ref s_EMAIL), .val (.ref s_WORKFORCE), .val (.int (1 : Int32))] [(.ref s_WORKFORCE), (.ref s_EMAIL)])) rfl (by rw [hml]; rfl) (Steps.refl _) (argsL := [(.ref s_WORKFORCE)]) (rest := []) (lenOf pd_15 rfl) rfl (by show 2 * 0 + _ ≤ _; exact Nat.le_of_eq rfl) (hb hby at_171) (fun _ _ => ⟨rfl, e681, (by decide : 1 + 0 ≤ _), (by decide : 12 + 0 ≤ _)⟩)
        dsimp only [Pt.U, Pt.locs, Pt.cells, Pt.slots] at X684 l684 y684 z684 st684 hQ684
        subst l684 y684 z684
        obtain ⟨rfl, N684q, e684⟩ := hQ684
        have N684 := Fr.app N609 N684q
        have go685 : ∀ t, Steps p.tables e below (T684.setTop (mkF m 174 #[.val (.int p0), .val (.int p1), .val (.int (1 : Int32)), .val (.int (b0_4 p1)), .val (.ref b8), .val (.ref s_EMAIL), .val (.ref s_WORKFORCE), .val (.int (1 : Int32))] [(.int (1 : Int32))])) t → Steps p.tables e below (s₁.setTop (entryFrame m #[(.int p0), (.int p1)] maxLocals)) t := fun t k => go683 _ (st684.trans k)
        have go686 : ∀ t, Steps p.tables e below (T684.setTop (mkF m 184 #[.val (.int p0), .val (.int p1), .val (.int (1 : Int32)), .val (.int (b0_4 p1)), .val (.ref b8), .val (.ref s_EMAIL), .val (.ref s_WORKFORCE), .val (.int (1 : Int32))] [(.int (1 : Int32))])) t → Steps p.tables e below (s₁.setTop (entryFrame m #[(.int p0), (.int p1)] maxLocals)) t := by
          intro t k
          refine go685 _ ?_
          refine XS.iload X684.here hx rfl (hb hby at_174) rfl ?_
          show Steps p.tables e below (T684.setTop (mkF m 176 #[.val (.int p0), .val (.int p1), .val (.int (1 : Int32)), .val (.int (b0_4 p1)), .val (.ref b8), .val (.ref s_EMAIL), .val (.ref s_WORKFORCE), .val (.int (1 : Int32))] [(.int (1 : Int32)), (.int (1 : Int32))])) t
          refine XS.icmpNo X684.here hx rfl (hb hby at_176) rfl (XT.ii_ne_f (by decide : ((1 : Int32) = (1 : Int32)))) ?_
          show Steps p.tables e below (T684.setTop (mkF m 179 #[.val (.int p0), .val (.int p1), .val (.int (1 : Int32)), .val (.int (b0_4 p1)), .val (.ref b8), .val (.ref s_EMAIL), .val (.ref s_WORKFORCE), .val (.int (1 : Int32))] [])) t
          refine XS.iconst X684.here hx rfl (hb hby at_179) ?_
          show Steps p.tables e below (T684.setTop (mkF m 180 #[.val (.int p0), .val (.int p1), .val (.int (1 : Int32)), .val (.int (b0_4 p1)), .val (.ref b8), .val (.ref s_EMAIL), .val (.ref s_WORKFORCE), .val (.int (1 : Int32))] [(.int (1 : Int32))])) t
          refine XS.goto X684.here hx rfl (pc0 := 180) (pc' := 184) rfl (hb hby at_180) (by decide) (by decide) ?_
          show Steps p.tables e below (T684.setTop (mkF m 184 #[.val (.int p0), .val (.int p1), .val (.int (1 : Int32)), .val (.int (b0_4 p1)), .val (.ref b8), .val (.ref s_EMAIL), .val (.ref s_WORKFORCE), .val (.int (1 : Int32))] [(.int (1 : Int32))])) t
          exact k
        obtain ⟨fs, hr, hrun, hended, hW, hsame⟩ := X684.leave (v := some (.int (1 : Int32))) (fun h => by rw [Bd.returns] at h; cases h)
        refine ⟨_, _, go686 _ (Jvm.RoadKit.retOut X684 hx Bd.returns rfl (Or.inl ⟨rfl, Or.inr (Or.inl rfl), _, rfl⟩) (hb hby at_184) hr), hrun, hended, _, _, rfl, ?_, ⟨_, rfl⟩, hW, hsame.mono (by decide) (by decide)⟩
        show Q0 _ _ p0 p1 s_SUB s_EMAIL s_GIVEN_NAME s_MIDDLE_NAME s_FAMILY_NAME s_NICKNAME s_BIRTHDATE s_MOBILE_NUMBER s_NHI s_CPN s_RELATIONSHIPS s_CONFIDENCE_LEVEL s_WORKFORCE s_CONSUMER h0 _ (T684.setFrames fs).heap _
        have hE : (T684.setFrames fs).heap = h609 := e684
        rw [hE]
        exact ⟨congrArg (fun z => some (Value.int z)) ((by rw [f0, if_neg hs656, if_pos hs675, if_pos hs679] : (1 : Int32) = (f0 p0 p1 s_WORKFORCE s_CONSUMER)).trans (f0_one p0 p1 s_WORKFORCE s_CONSUMER ne_CW)), N684⟩
      · have go687 : ∀ t, Steps p.tables e below (T609.setTop (mkF m 115 #[.val (.int p0), .val (.int p1), .val (.int (1 : Int32)), .val (.int (b0_4 p1)), .val (.ref b8), .val (.ref s_EMAIL), .unset, .unset] [])) t → Steps p.tables e below (s₁.setTop (entryFrame m #[(.int p0), (.int p1)] maxLocals)) t := by
          intro t k
          refine go678 _ ?_
          refine XS.ifNo X609.here hx rfl (hb hby at_112) rfl (XT.i0_eq_f hs679) ?_
          show Steps p.tables e below (T609.setTop (mkF m 115 #[.val (.int p0), .val (.int p1), .val (.int (1 : Int32)), .val (.int (b0_4 p1)), .val (.ref b8), .val (.ref s_EMAIL), .unset, .unset] [])) t
          exact k
        obtain ⟨T688, X688, e688, st688⟩ := getS2 X609 hx hZ hown (host := "") (Or.inl (hw _ (List.mem_of_getElem? (i := 39) rfl))) Via.refl e609 F640 (g := (mkF m 115 #[.val (.int p0), .val (.int p1), .val (.int (1 : Int32)), .val (.int (b0_4 p1)), .val (.ref b8), .val (.ref s_EMAIL), .unset, .unset] [])) rfl (hb hby at_115)
        have go689 : ∀ t, Steps p.tables e below (T688.setTop (mkF m 118 #[.val (.int p0), .val (.int p1), .val (.int (1 : Int32)), .val (.int (b0_4 p1)), .val (.ref b8), .val (.ref s_EMAIL), .unset, .unset] [(.ref s_CONSUMER)])) t → Steps p.tables e below (s₁.setTop (entryFrame m #[(.int p0), (.int p1)] maxLocals)) t := fun t k => go687 _ (st688 _ k)
        have go690 : ∀ t, Steps p.tables e below (T688.setTop (mkF m 171 #[.val (.int p0), .val (.int p1), .val (.int (1 : Int32)), .val (.int (b0_4 p1)), .val (.ref b8), .val (.ref s_EMAIL), .val (.ref s_CONSUMER), .val (.int (1 : Int32))] [(.ref s_CONSUMER), (.ref s_EMAIL)])) t → Steps p.tables e below (s₁.setTop (entryFrame m #[(.int p0), (.int p1)] maxLocals)) t := by
          intro t k
          refine go689 _ ?_
          refine XS.goto X688.here hx rfl (pc0 := 118) (pc' := 124) rfl (hb hby at_118) (by decide) (by decide) ?_
          show Steps p.tables e below (T688.setTop (mkF m 124 #[.val (.int p0), .val (.int p1), .val (.int (1 : Int32)), .val (.int (b0_4 p1)), .val (.ref b8), .val (.ref s_EMAIL), .unset, .unset] [(.ref s_CONSUMER)])) t
          refine XS.astore X688.here hx rfl (hb hby at_124) rfl rfl (l' := #[.val (.int p0), .val (.int p1), .val (.int (1 : Int32)), .val (.int (b0_4 p1)), .val (.ref b8), .val (.ref s_EMAIL), .val (.ref s_CONSUMER), .unset]) rfl ?_
          show Steps p.tables e below (T688.setTop (mkF m 126 #[.val (.int p0), .val (.int p1), .val (.int (1 : Int32)), .val (.int (b0_4 p1)), .val (.ref b8), .val (.ref s_EMAIL), .val (.ref s_CONSUMER), .unset] [])) t
          refine XS.iloadN X688.here hx rfl (hb hby at_126) rfl ?_
          show Steps p.tables e below (T688.setTop (mkF m 127 #[.val (.int p0), .val (.int p1), .val (.int (1 : Int32)), .val (.int (b0_4 p1)), .val (.ref b8), .val (.ref s_EMAIL), .val (.ref s_CONSUMER), .unset] [(.int (1 : Int32))])) t
          refine XS.bipush X688.here hx rfl (hb hby at_127) ?_
          show Steps p.tables e below (T688.setTop (mkF m 129 #[.val (.int p0), .val (.int p1), .val (.int (1 : Int32)), .val (.int (b0_4 p1)), .val (.ref b8), .val (.ref s_EMAIL), .val (.ref s_CONSUMER), .unset] [(.int (8 : Int32)), (.int (1 : Int32))])) t
          refine XS.icmpNo X688.here hx rfl (hb hby at_129) rfl (XT.ii_eq_f (by decide : ¬ ((1 : Int32) = (8 : Int32)))) ?_
          show Steps p.tables e below (T688.setTop (mkF m 132 #[.val (.int p0), .val (.int p1), .val (.int (1 : Int32)), .val (.int (b0_4 p1)), .val (.ref b8), .val (.ref s_EMAIL), .val (.ref s_CONSUMER), .unset] [])) t
          refine XS.iloadN X688.here hx rfl (hb hby at_132) rfl ?_
          show Steps p.tables e below (T688.setTop (mkF m 133 #[.val (.int p0), .val (.int p1), .val (.int (1 : Int32)), .val (.int (b0_4 p1)), .val (.ref b8), .val (.ref s_EMAIL), .val (.ref s_CONSUMER), .unset] [(.int (1 : Int32))])) t
          refine XS.bipush X688.here hx rfl (hb hby at_133) ?_
          show Steps p.tables e below (T688.setTop (mkF m 135 #[.val (.int p0), .val (.int p1), .val (.int (1 : Int32)), .val (.int (b0_4 p1)), .val (.ref b8), .val (.ref s_EMAIL), .val (.ref s_CONSUMER), .unset] [(.int (10 : Int32)), (.int (1 : Int32))])) t
          refine XS.icmpYes X688.here hx rfl (pc0 := 135) (pc' := 144) rfl (hb hby at_135) rfl (XT.ii_ne_t (by decide : ¬ ((1 : Int32) = (10 : Int32)))) (by decide) (by decide) ?_
          show Steps p.tables e below (T688.setTop (mkF m 144 #[.val (.int p0), .val (.int p1), .val (.int (1 : Int32)), .val (.int (b0_4 p1)), .val (.ref b8), .val (.ref s_EMAIL), .val (.ref s_CONSUMER), .unset] [])) t
          refine XS.iloadN X688.here hx rfl (hb hby at_144) rfl ?_
          show Steps p.tables e below (T688.setTop (mkF m 145 #[.val (.int p0), .val (.int p1), .val (.int (1 : Int32)), .val (.int (b0_4 p1)), .val (.ref b8), .val (.ref s_EMAIL), .val (.ref s_CONSUMER), .unset] [(.int (1 : Int32))])) t
          refine XS.bipush X688.here hx rfl (hb hby at_145) ?_
          show Steps p.tables e below (T688.setTop (mkF m 147 #[.val (.int p0), .val (.int p1), .val (.int (1 : Int32)), .val (.int (b0_4 p1)), .val (.ref b8), .val (.ref s_EMAIL), .val (.ref s_CONSUMER), .unset] [(.int (9 : Int32)), (.int (1 : Int32))])) t
          refine XS.icmpYes X688.here hx rfl (pc0 := 147) (pc' := 164) rfl (hb hby at_147) rfl (XT.ii_ne_t (by decide : ¬ ((1 : Int32) = (9 : Int32)))) (by decide) (by decide) ?_
          show Steps p.tables e below (T688.setTop (mkF m 164 #[.val (.int p0), .val (.int p1), .val (.int (1 : Int32)), .val (.int (b0_4 p1)), .val (.ref b8), .val (.ref s_EMAIL), .val (.ref s_CONSUMER), .unset] [])) t
          refine XS.iconst X688.here hx rfl (hb hby at_164) ?_
          show Steps p.tables e below (T688.setTop (mkF m 165 #[.val (.int p0), .val (.int p1), .val (.int (1 : Int32)), .val (.int (b0_4 p1)), .val (.ref b8), .val (.ref s_EMAIL), .val (.ref s_CONSUMER), .unset] [(.int (1 : Int32))])) t
          refine XS.istore X688.here hx rfl (hb hby at_165) rfl (l' := #[.val (.int p0), .val (.int p1), .val (.int (1 : Int32)), .val (.int (b0_4 p1)), .val (.ref b8), .val (.ref s_EMAIL), .val (.ref s_CONSUMER), .val (.int (1 : Int32))]) rfl ?_
          show Steps p.tables e below (T688.setTop (mkF m 167 #[.val (.int p0), .val (.int p1), .val (.int (1 : Int32)), .val (.int (b0_4 p1)), .val (.ref b8), .val (.ref s_EMAIL), .val (.ref s_CONSUMER), .val (.int (1 : Int32))] [])) t
          refine XS.aload X688.here hx rfl (hb hby at_167) rfl rfl ?_
          show Steps p.tables e below (T688.setTop (mkF m 169 #[.val (.int p0), .val (.int p1), .val (.int (1 : Int32)), .val (.int (b0_4 p1)), .val (.ref b8), .val (.ref s_EMAIL), .val (.ref s_CONSUMER), .val (.int (1 : Int32))] [(.ref s_EMAIL)])) t
          refine XS.aload X688.here hx rfl (hb hby at_169) rfl rfl ?_
          show Steps p.tables e below (T688.setTop (mkF m 171 #[.val (.int p0), .val (.int p1), .val (.int (1 : Int32)), .val (.int (b0_4 p1)), .val (.ref b8), .val (.ref s_EMAIL), .val (.ref s_CONSUMER), .val (.int (1 : Int32))] [(.ref s_CONSUMER), (.ref s_EMAIL)])) t
          exact k
        obtain ⟨cq691, kq691, q691a, q691b, q691c⟩ := isOf hZ e688 F615
        obtain ⟨_, _, ⟨T691, L691, k691, n691⟩, -, X691, ⟨Lc691, hQ691, l691, y691, z691⟩, st691⟩ := X688.virtualBack hx (y := (⟨"com/example/hauora_id/hauoraid/model/Claim", "heldIn", "(Lcom/example/hauora_id/hauoraid/model/Realm;)Z"⟩ : MethodName)) (z := (⟨"com/example/hauora_id/hauoraid/model/Claim", "heldIn", "(Lcom/example/hauora_id/hauoraid/model/Realm;)Z"⟩ : MethodName)) hown (mvT hZ (hw _ (List.mem_of_getElem? (i := 32) rfl))) (mvT hZ (hw _ (List.mem_of_getElem? (i := 33) rfl))) (notFace_of_selects (args := #[]) (mvT hZ (hw _ (List.mem_of_getElem? (i := 35) rfl)))) (mvT hZ (hw _ (List.mem_of_getElem? (i := 35) rfl))) (mvT hZ (hw _ (List.mem_of_getElem? (i := 34) rfl))) (by decide) (backOf (W := 0) (rm1n l Z aZ hw [] s_EMAIL s_CONSUMER h609 n0 Zs609 F644) hZ (hw _ (List.mem_of_getElem? (i := 36) rfl)) (hw _ (List.mem_of_getElem? (i := 4) rfl)) (by decide) (by decide)) q691a q691c (g := (mkF m 171 #[.val (.int p0), .val (.int p1), .val (.int (1 : Int32)), .val (.int (b0_4 p1)), .val (.ref b8), .val (.ref s_EMAIL), .val (.ref s_CONSUMER), .val (.int (1 : Int32))] [(.ref s_CONSUMER), (.ref s_EMAIL)])) rfl (by rw [hml]; rfl) (Steps.refl _) (argsL := [(.ref s_CONSUMER)]) (rest := []) (lenOf pd_15 rfl) rfl (by show 2 * 0 + _ ≤ _; exact Nat.le_of_eq rfl) (hb hby at_171) (fun _ _ => ⟨rfl, e688, (by decide : 1 + 0 ≤ _), (by decide : 12 + 0 ≤ _)⟩)
        dsimp only [Pt.U, Pt.locs, Pt.cells, Pt.slots] at X691 l691 y691 z691 st691 hQ691
        subst l691 y691 z691
        obtain ⟨rfl, N691q, e691⟩ := hQ691
        have N691 := Fr.app N609 N691q
        have go692 : ∀ t, Steps p.tables e below (T691.setTop (mkF m 174 #[.val (.int p0), .val (.int p1), .val (.int (1 : Int32)), .val (.int (b0_4 p1)), .val (.ref b8), .val (.ref s_EMAIL), .val (.ref s_CONSUMER), .val (.int (1 : Int32))] [(.int (1 : Int32))])) t → Steps p.tables e below (s₁.setTop (entryFrame m #[(.int p0), (.int p1)] maxLocals)) t := fun t k => go690 _ (st691.trans k)
        have go693 : ∀ t, Steps p.tables e below (T691.setTop (mkF m 184 #[.val (.int p0), .val (.int p1), .val (.int (1 : Int32)), .val (.int (b0_4 p1)), .val (.ref b8), .val (.ref s_EMAIL), .val (.ref s_CONSUMER), .val (.int (1 : Int32))] [(.int (1 : Int32))])) t → Steps p.tables e below (s₁.setTop (entryFrame m #[(.int p0), (.int p1)] maxLocals)) t := by
          intro t k
          refine go692 _ ?_
          refine XS.iload X691.here hx rfl (hb hby at_174) rfl ?_
          show Steps p.tables e below (T691.setTop (mkF m 176 #[.val (.int p0), .val (.int p1), .val (.int (1 : Int32)), .val (.int (b0_4 p1)), .val (.ref b8), .val (.ref s_EMAIL), .val (.ref s_CONSUMER), .val (.int (1 : Int32))] [(.int (1 : Int32)), (.int (1 : Int32))])) t
          refine XS.icmpNo X691.here hx rfl (hb hby at_176) rfl (XT.ii_ne_f (by decide : ((1 : Int32) = (1 : Int32)))) ?_
          show Steps p.tables e below (T691.setTop (mkF m 179 #[.val (.int p0), .val (.int p1), .val (.int (1 : Int32)), .val (.int (b0_4 p1)), .val (.ref b8), .val (.ref s_EMAIL), .val (.ref s_CONSUMER), .val (.int (1 : Int32))] [])) t
          refine XS.iconst X691.here hx rfl (hb hby at_179) ?_
          show Steps p.tables e below (T691.setTop (mkF m 180 #[.val (.int p0), .val (.int p1), .val (.int (1 : Int32)), .val (.int (b0_4 p1)), .val (.ref b8), .val (.ref s_EMAIL), .val (.ref s_CONSUMER), .val (.int (1 : Int32))] [(.int (1 : Int32))])) t
          refine XS.goto X691.here hx rfl (pc0 := 180) (pc' := 184) rfl (hb hby at_180) (by decide) (by decide) ?_
          show Steps p.tables e below (T691.setTop (mkF m 184 #[.val (.int p0), .val (.int p1), .val (.int (1 : Int32)), .val (.int (b0_4 p1)), .val (.ref b8), .val (.ref s_EMAIL), .val (.ref s_CONSUMER), .val (.int (1 : Int32))] [(.int (1 : Int32))])) t
          exact k
        obtain ⟨fs, hr, hrun, hended, hW, hsame⟩ := X691.leave (v := some (.int (1 : Int32))) (fun h => by rw [Bd.returns] at h; cases h)
        refine ⟨_, _, go693 _ (Jvm.RoadKit.retOut X691 hx Bd.returns rfl (Or.inl ⟨rfl, Or.inr (Or.inl rfl), _, rfl⟩) (hb hby at_184) hr), hrun, hended, _, _, rfl, ?_, ⟨_, rfl⟩, hW, hsame.mono (by decide) (by decide)⟩
        show Q0 _ _ p0 p1 s_SUB s_EMAIL s_GIVEN_NAME s_MIDDLE_NAME s_FAMILY_NAME s_NICKNAME s_BIRTHDATE s_MOBILE_NUMBER s_NHI s_CPN s_RELATIONSHIPS s_CONFIDENCE_LEVEL s_WORKFORCE s_CONSUMER h0 _ (T691.setFrames fs).heap _
        have hE : (T691.setFrames fs).heap = h609 := e691
        rw [hE]
        exact ⟨congrArg (fun z => some (Value.int z)) ((by rw [f0, if_neg hs656, if_pos hs675, if_neg hs679] : (1 : Int32) = (f0 p0 p1 s_WORKFORCE s_CONSUMER)).trans (f0_one p0 p1 s_WORKFORCE s_CONSUMER ne_CW)), N691⟩
    · by_cases hs694 : (v0_1 p0) = (2 : Int32)
      · have go695 : ∀ t, Steps p.tables e below (T609.setTop (mkF m 108 #[.val (.int p0), .val (.int p1), .val (.int (2 : Int32)), .val (.int (b0_4 p1)), .val (.ref b8), .unset, .unset, .unset] [(.int (2 : Int32)), (.ref b8)])) t → Steps p.tables e below (s₁.setTop (entryFrame m #[(.int p0), (.int p1)] maxLocals)) t := by
          have q := go655
          rw [hs694] at q
          exact q
        obtain ⟨cl696, Ar696, q696, S696, N696, H696, G696⟩ := id F654
        have go697 : ∀ t, Steps p.tables e below (T609.setTop (mkF m 112 #[.val (.int p0), .val (.int p1), .val (.int (2 : Int32)), .val (.int (b0_4 p1)), .val (.ref b8), .val (.ref s_GIVEN_NAME), .unset, .unset] [(.int (b0_4 p1))])) t → Steps p.tables e below (s₁.setTop (entryFrame m #[(.int p0), (.int p1)] maxLocals)) t := by
          intro t k
          refine go695 _ ?_
          refine X609.aaload hx (j := (2 : Int32)) (v := (.ref s_GIVEN_NAME)) (by rw [e609]; exact Ar696.1) (State.isArrayOf_alike hZ.alike Ar696.2.1) rfl Ar696.2.2 (inb_of S696 ⟨by decide, by decide⟩) (Has.at H696 (inb_of S696 ⟨by decide, by decide⟩) rfl) (g := (mkF m 108 #[.val (.int p0), .val (.int p1), .val (.int (2 : Int32)), .val (.int (b0_4 p1)), .val (.ref b8), .unset, .unset, .unset] [(.int (2 : Int32)), (.ref b8)])) rfl rfl (hb hby at_108) _ ?_
          show Steps p.tables e below (T609.setTop (mkF m 109 #[.val (.int p0), .val (.int p1), .val (.int (2 : Int32)), .val (.int (b0_4 p1)), .val (.ref b8), .unset, .unset, .unset] [(.ref s_GIVEN_NAME)])) t
          refine XS.astore X609.here hx rfl (hb hby at_109) rfl rfl (l' := #[.val (.int p0), .val (.int p1), .val (.int (2 : Int32)), .val (.int (b0_4 p1)), .val (.ref b8), .val (.ref s_GIVEN_NAME), .unset, .unset]) rfl ?_
          show Steps p.tables e below (T609.setTop (mkF m 111 #[.val (.int p0), .val (.int p1), .val (.int (2 : Int32)), .val (.int (b0_4 p1)), .val (.ref b8), .val (.ref s_GIVEN_NAME), .unset, .unset] [])) t
          refine XS.iloadN X609.here hx rfl (hb hby at_111) rfl ?_
          show Steps p.tables e below (T609.setTop (mkF m 112 #[.val (.int p0), .val (.int p1), .val (.int (2 : Int32)), .val (.int (b0_4 p1)), .val (.ref b8), .val (.ref s_GIVEN_NAME), .unset, .unset] [(.int (b0_4 p1))])) t
          exact k
        by_cases hs698 : (b0_4 p1) = (0 : Int32)
        · have go699 : ∀ t, Steps p.tables e below (T609.setTop (mkF m 121 #[.val (.int p0), .val (.int p1), .val (.int (2 : Int32)), .val (.int (b0_4 p1)), .val (.ref b8), .val (.ref s_GIVEN_NAME), .unset, .unset] [])) t → Steps p.tables e below (s₁.setTop (entryFrame m #[(.int p0), (.int p1)] maxLocals)) t := by
            intro t k
            refine go697 _ ?_
            refine XS.ifYes X609.here hx rfl (pc0 := 112) (pc' := 121) rfl (hb hby at_112) rfl (XT.i0_eq_t hs698) (by decide) (by decide) ?_
            show Steps p.tables e below (T609.setTop (mkF m 121 #[.val (.int p0), .val (.int p1), .val (.int (2 : Int32)), .val (.int (b0_4 p1)), .val (.ref b8), .val (.ref s_GIVEN_NAME), .unset, .unset] [])) t
            exact k
          obtain ⟨T700, X700, e700, st700⟩ := getS2 X609 hx hZ hown (host := "") (Or.inl (hw _ (List.mem_of_getElem? (i := 29) rfl))) Via.refl e609 F636 (g := (mkF m 121 #[.val (.int p0), .val (.int p1), .val (.int (2 : Int32)), .val (.int (b0_4 p1)), .val (.ref b8), .val (.ref s_GIVEN_NAME), .unset, .unset] [])) rfl (hb hby at_121)
          have go701 : ∀ t, Steps p.tables e below (T700.setTop (mkF m 124 #[.val (.int p0), .val (.int p1), .val (.int (2 : Int32)), .val (.int (b0_4 p1)), .val (.ref b8), .val (.ref s_GIVEN_NAME), .unset, .unset] [(.ref s_WORKFORCE)])) t → Steps p.tables e below (s₁.setTop (entryFrame m #[(.int p0), (.int p1)] maxLocals)) t := fun t k => go699 _ (st700 _ k)
          have go702 : ∀ t, Steps p.tables e below (T700.setTop (mkF m 171 #[.val (.int p0), .val (.int p1), .val (.int (2 : Int32)), .val (.int (b0_4 p1)), .val (.ref b8), .val (.ref s_GIVEN_NAME), .val (.ref s_WORKFORCE), .val (.int (1 : Int32))] [(.ref s_WORKFORCE), (.ref s_GIVEN_NAME)])) t → Steps p.tables e below (s₁.setTop (entryFrame m #[(.int p0), (.int p1)] maxLocals)) t := by
            intro t k
            refine go701 _ ?_
            refine XS.astore X700.here hx rfl (hb hby at_124) rfl rfl (l' := #[.val (.int p0), .val (.int p1), .val (.int (2 : Int32)), .val (.int (b0_4 p1)), .val (.ref b8), .val (.ref s_GIVEN_NAME), .val (.ref s_WORKFORCE), .unset]) rfl ?_
            show Steps p.tables e below (T700.setTop (mkF m 126 #[.val (.int p0), .val (.int p1), .val (.int (2 : Int32)), .val (.int (b0_4 p1)), .val (.ref b8), .val (.ref s_GIVEN_NAME), .val (.ref s_WORKFORCE), .unset] [])) t
            refine XS.iloadN X700.here hx rfl (hb hby at_126) rfl ?_
            show Steps p.tables e below (T700.setTop (mkF m 127 #[.val (.int p0), .val (.int p1), .val (.int (2 : Int32)), .val (.int (b0_4 p1)), .val (.ref b8), .val (.ref s_GIVEN_NAME), .val (.ref s_WORKFORCE), .unset] [(.int (2 : Int32))])) t
            refine XS.bipush X700.here hx rfl (hb hby at_127) ?_
            show Steps p.tables e below (T700.setTop (mkF m 129 #[.val (.int p0), .val (.int p1), .val (.int (2 : Int32)), .val (.int (b0_4 p1)), .val (.ref b8), .val (.ref s_GIVEN_NAME), .val (.ref s_WORKFORCE), .unset] [(.int (8 : Int32)), (.int (2 : Int32))])) t
            refine XS.icmpNo X700.here hx rfl (hb hby at_129) rfl (XT.ii_eq_f (by decide : ¬ ((2 : Int32) = (8 : Int32)))) ?_
            show Steps p.tables e below (T700.setTop (mkF m 132 #[.val (.int p0), .val (.int p1), .val (.int (2 : Int32)), .val (.int (b0_4 p1)), .val (.ref b8), .val (.ref s_GIVEN_NAME), .val (.ref s_WORKFORCE), .unset] [])) t
            refine XS.iloadN X700.here hx rfl (hb hby at_132) rfl ?_
            show Steps p.tables e below (T700.setTop (mkF m 133 #[.val (.int p0), .val (.int p1), .val (.int (2 : Int32)), .val (.int (b0_4 p1)), .val (.ref b8), .val (.ref s_GIVEN_NAME), .val (.ref s_WORKFORCE), .unset] [(.int (2 : Int32))])) t
            refine XS.bipush X700.here hx rfl (hb hby at_133) ?_
            show Steps p.tables e below (T700.setTop (mkF m 135 #[.val (.int p0), .val (.int p1), .val (.int (2 : Int32)), .val (.int (b0_4 p1)), .val (.ref b8), .val (.ref s_GIVEN_NAME), .val (.ref s_WORKFORCE), .unset] [(.int (10 : Int32)), (.int (2 : Int32))])) t
            refine XS.icmpYes X700.here hx rfl (pc0 := 135) (pc' := 144) rfl (hb hby at_135) rfl (XT.ii_ne_t (by decide : ¬ ((2 : Int32) = (10 : Int32)))) (by decide) (by decide) ?_
            show Steps p.tables e below (T700.setTop (mkF m 144 #[.val (.int p0), .val (.int p1), .val (.int (2 : Int32)), .val (.int (b0_4 p1)), .val (.ref b8), .val (.ref s_GIVEN_NAME), .val (.ref s_WORKFORCE), .unset] [])) t
            refine XS.iloadN X700.here hx rfl (hb hby at_144) rfl ?_
            show Steps p.tables e below (T700.setTop (mkF m 145 #[.val (.int p0), .val (.int p1), .val (.int (2 : Int32)), .val (.int (b0_4 p1)), .val (.ref b8), .val (.ref s_GIVEN_NAME), .val (.ref s_WORKFORCE), .unset] [(.int (2 : Int32))])) t
            refine XS.bipush X700.here hx rfl (hb hby at_145) ?_
            show Steps p.tables e below (T700.setTop (mkF m 147 #[.val (.int p0), .val (.int p1), .val (.int (2 : Int32)), .val (.int (b0_4 p1)), .val (.ref b8), .val (.ref s_GIVEN_NAME), .val (.ref s_WORKFORCE), .unset] [(.int (9 : Int32)), (.int (2 : Int32))])) t
            refine XS.icmpYes X700.here hx rfl (pc0 := 147) (pc' := 164) rfl (hb hby at_147) rfl (XT.ii_ne_t (by decide : ¬ ((2 : Int32) = (9 : Int32)))) (by decide) (by decide) ?_
            show Steps p.tables e below (T700.setTop (mkF m 164 #[.val (.int p0), .val (.int p1), .val (.int (2 : Int32)), .val (.int (b0_4 p1)), .val (.ref b8), .val (.ref s_GIVEN_NAME), .val (.ref s_WORKFORCE), .unset] [])) t
            refine XS.iconst X700.here hx rfl (hb hby at_164) ?_
            show Steps p.tables e below (T700.setTop (mkF m 165 #[.val (.int p0), .val (.int p1), .val (.int (2 : Int32)), .val (.int (b0_4 p1)), .val (.ref b8), .val (.ref s_GIVEN_NAME), .val (.ref s_WORKFORCE), .unset] [(.int (1 : Int32))])) t
            refine XS.istore X700.here hx rfl (hb hby at_165) rfl (l' := #[.val (.int p0), .val (.int p1), .val (.int (2 : Int32)), .val (.int (b0_4 p1)), .val (.ref b8), .val (.ref s_GIVEN_NAME), .val (.ref s_WORKFORCE), .val (.int (1 : Int32))]) rfl ?_
            show Steps p.tables e below (T700.setTop (mkF m 167 #[.val (.int p0), .val (.int p1), .val (.int (2 : Int32)), .val (.int (b0_4 p1)), .val (.ref b8), .val (.ref s_GIVEN_NAME), .val (.ref s_WORKFORCE), .val (.int (1 : Int32))] [])) t
            refine XS.aload X700.here hx rfl (hb hby at_167) rfl rfl ?_
            show Steps p.tables e below (T700.setTop (mkF m 169 #[.val (.int p0), .val (.int p1), .val (.int (2 : Int32)), .val (.int (b0_4 p1)), .val (.ref b8), .val (.ref s_GIVEN_NAME), .val (.ref s_WORKFORCE), .val (.int (1 : Int32))] [(.ref s_GIVEN_NAME)])) t
            refine XS.aload X700.here hx rfl (hb hby at_169) rfl rfl ?_
            show Steps p.tables e below (T700.setTop (mkF m 171 #[.val (.int p0), .val (.int p1), .val (.int (2 : Int32)), .val (.int (b0_4 p1)), .val (.ref b8), .val (.ref s_GIVEN_NAME), .val (.ref s_WORKFORCE), .val (.int (1 : Int32))] [(.ref s_WORKFORCE), (.ref s_GIVEN_NAME)])) t
            exact k
          obtain ⟨cq703, kq703, q703a, q703b, q703c⟩ := isOf hZ e700 F617
          obtain ⟨_, _, ⟨T703, L703, k703, n703⟩, -, X703, ⟨Lc703, hQ703, l703, y703, z703⟩, st703⟩ := X700.virtualBack hx (y := (⟨"com/example/hauora_id/hauoraid/model/Claim", "heldIn", "(Lcom/example/hauora_id/hauoraid/model/Realm;)Z"⟩ : MethodName)) (z := (⟨"com/example/hauora_id/hauoraid/model/Claim", "heldIn", "(Lcom/example/hauora_id/hauoraid/model/Realm;)Z"⟩ : MethodName)) hown (mvT hZ (hw _ (List.mem_of_getElem? (i := 32) rfl))) (mvT hZ (hw _ (List.mem_of_getElem? (i := 33) rfl))) (notFace_of_selects (args := #[]) (mvT hZ (hw _ (List.mem_of_getElem? (i := 35) rfl)))) (mvT hZ (hw _ (List.mem_of_getElem? (i := 35) rfl))) (mvT hZ (hw _ (List.mem_of_getElem? (i := 34) rfl))) (by decide) (backOf (W := 0) (rm1n l Z aZ hw [] s_GIVEN_NAME s_WORKFORCE h609 n0 Zs609 F639) hZ (hw _ (List.mem_of_getElem? (i := 36) rfl)) (hw _ (List.mem_of_getElem? (i := 4) rfl)) (by decide) (by decide)) q703a q703c (g := (mkF m 171 #[.val (.int p0), .val (.int p1), .val (.int (2 : Int32)), .val (.int (b0_4 p1)), .val (.ref b8), .val (.ref s_GIVEN_NAME), .val (.ref s_WORKFORCE), .val (.int (1 : Int32))] [(.ref s_WORKFORCE), (.ref s_GIVEN_NAME)])) rfl (by rw [hml]; rfl) (Steps.refl _) (argsL := [(.ref s_WORKFORCE)]) (rest := []) (lenOf pd_15 rfl) rfl (by show 2 * 0 + _ ≤ _; exact Nat.le_of_eq rfl) (hb hby at_171) (fun _ _ => ⟨rfl, e700, (by decide : 1 + 0 ≤ _), (by decide : 12 + 0 ≤ _)⟩)
          dsimp only [Pt.U, Pt.locs, Pt.cells, Pt.slots] at X703 l703 y703 z703 st703 hQ703
          subst l703 y703 z703
          obtain ⟨rfl, N703q, e703⟩ := hQ703
          have N703 := Fr.app N609 N703q
          have go704 : ∀ t, Steps p.tables e below (T703.setTop (mkF m 174 #[.val (.int p0), .val (.int p1), .val (.int (2 : Int32)), .val (.int (b0_4 p1)), .val (.ref b8), .val (.ref s_GIVEN_NAME), .val (.ref s_WORKFORCE), .val (.int (1 : Int32))] [(.int (1 : Int32))])) t → Steps p.tables e below (s₁.setTop (entryFrame m #[(.int p0), (.int p1)] maxLocals)) t := fun t k => go702 _ (st703.trans k)
          have go705 : ∀ t, Steps p.tables e below (T703.setTop (mkF m 184 #[.val (.int p0), .val (.int p1), .val (.int (2 : Int32)), .val (.int (b0_4 p1)), .val (.ref b8), .val (.ref s_GIVEN_NAME), .val (.ref s_WORKFORCE), .val (.int (1 : Int32))] [(.int (1 : Int32))])) t → Steps p.tables e below (s₁.setTop (entryFrame m #[(.int p0), (.int p1)] maxLocals)) t := by
            intro t k
            refine go704 _ ?_
            refine XS.iload X703.here hx rfl (hb hby at_174) rfl ?_
            show Steps p.tables e below (T703.setTop (mkF m 176 #[.val (.int p0), .val (.int p1), .val (.int (2 : Int32)), .val (.int (b0_4 p1)), .val (.ref b8), .val (.ref s_GIVEN_NAME), .val (.ref s_WORKFORCE), .val (.int (1 : Int32))] [(.int (1 : Int32)), (.int (1 : Int32))])) t
            refine XS.icmpNo X703.here hx rfl (hb hby at_176) rfl (XT.ii_ne_f (by decide : ((1 : Int32) = (1 : Int32)))) ?_
            show Steps p.tables e below (T703.setTop (mkF m 179 #[.val (.int p0), .val (.int p1), .val (.int (2 : Int32)), .val (.int (b0_4 p1)), .val (.ref b8), .val (.ref s_GIVEN_NAME), .val (.ref s_WORKFORCE), .val (.int (1 : Int32))] [])) t
            refine XS.iconst X703.here hx rfl (hb hby at_179) ?_
            show Steps p.tables e below (T703.setTop (mkF m 180 #[.val (.int p0), .val (.int p1), .val (.int (2 : Int32)), .val (.int (b0_4 p1)), .val (.ref b8), .val (.ref s_GIVEN_NAME), .val (.ref s_WORKFORCE), .val (.int (1 : Int32))] [(.int (1 : Int32))])) t
            refine XS.goto X703.here hx rfl (pc0 := 180) (pc' := 184) rfl (hb hby at_180) (by decide) (by decide) ?_
            show Steps p.tables e below (T703.setTop (mkF m 184 #[.val (.int p0), .val (.int p1), .val (.int (2 : Int32)), .val (.int (b0_4 p1)), .val (.ref b8), .val (.ref s_GIVEN_NAME), .val (.ref s_WORKFORCE), .val (.int (1 : Int32))] [(.int (1 : Int32))])) t
            exact k
          obtain ⟨fs, hr, hrun, hended, hW, hsame⟩ := X703.leave (v := some (.int (1 : Int32))) (fun h => by rw [Bd.returns] at h; cases h)
          refine ⟨_, _, go705 _ (Jvm.RoadKit.retOut X703 hx Bd.returns rfl (Or.inl ⟨rfl, Or.inr (Or.inl rfl), _, rfl⟩) (hb hby at_184) hr), hrun, hended, _, _, rfl, ?_, ⟨_, rfl⟩, hW, hsame.mono (by decide) (by decide)⟩
          show Q0 _ _ p0 p1 s_SUB s_EMAIL s_GIVEN_NAME s_MIDDLE_NAME s_FAMILY_NAME s_NICKNAME s_BIRTHDATE s_MOBILE_NUMBER s_NHI s_CPN s_RELATIONSHIPS s_CONFIDENCE_LEVEL s_WORKFORCE s_CONSUMER h0 _ (T703.setFrames fs).heap _
          have hE : (T703.setFrames fs).heap = h609 := e703
          rw [hE]
          exact ⟨congrArg (fun z => some (Value.int z)) ((by rw [f0, if_neg hs656, if_neg hs675, if_pos hs694, if_pos hs698] : (1 : Int32) = (f0 p0 p1 s_WORKFORCE s_CONSUMER)).trans (f0_one p0 p1 s_WORKFORCE s_CONSUMER ne_CW)), N703⟩
        · have go706 : ∀ t, Steps p.tables e below (T609.setTop (mkF m 115 #[.val (.int p0), .val (.int p1), .val (.int (2 : Int32)), .val (.int (b0_4 p1)), .val (.ref b8), .val (.ref s_GIVEN_NAME), .unset, .unset] [])) t → Steps p.tables e below (s₁.setTop (entryFrame m #[(.int p0), (.int p1)] maxLocals)) t := by
            intro t k
            refine go697 _ ?_
            refine XS.ifNo X609.here hx rfl (hb hby at_112) rfl (XT.i0_eq_f hs698) ?_
            show Steps p.tables e below (T609.setTop (mkF m 115 #[.val (.int p0), .val (.int p1), .val (.int (2 : Int32)), .val (.int (b0_4 p1)), .val (.ref b8), .val (.ref s_GIVEN_NAME), .unset, .unset] [])) t
            exact k
          obtain ⟨T707, X707, e707, st707⟩ := getS2 X609 hx hZ hown (host := "") (Or.inl (hw _ (List.mem_of_getElem? (i := 39) rfl))) Via.refl e609 F640 (g := (mkF m 115 #[.val (.int p0), .val (.int p1), .val (.int (2 : Int32)), .val (.int (b0_4 p1)), .val (.ref b8), .val (.ref s_GIVEN_NAME), .unset, .unset] [])) rfl (hb hby at_115)
          have go708 : ∀ t, Steps p.tables e below (T707.setTop (mkF m 118 #[.val (.int p0), .val (.int p1), .val (.int (2 : Int32)), .val (.int (b0_4 p1)), .val (.ref b8), .val (.ref s_GIVEN_NAME), .unset, .unset] [(.ref s_CONSUMER)])) t → Steps p.tables e below (s₁.setTop (entryFrame m #[(.int p0), (.int p1)] maxLocals)) t := fun t k => go706 _ (st707 _ k)
          have go709 : ∀ t, Steps p.tables e below (T707.setTop (mkF m 171 #[.val (.int p0), .val (.int p1), .val (.int (2 : Int32)), .val (.int (b0_4 p1)), .val (.ref b8), .val (.ref s_GIVEN_NAME), .val (.ref s_CONSUMER), .val (.int (1 : Int32))] [(.ref s_CONSUMER), (.ref s_GIVEN_NAME)])) t → Steps p.tables e below (s₁.setTop (entryFrame m #[(.int p0), (.int p1)] maxLocals)) t := by
            intro t k
            refine go708 _ ?_
            refine XS.goto X707.here hx rfl (pc0 := 118) (pc' := 124) rfl (hb hby at_118) (by decide) (by decide) ?_
            show Steps p.tables e below (T707.setTop (mkF m 124 #[.val (.int p0), .val (.int p1), .val (.int (2 : Int32)), .val (.int (b0_4 p1)), .val (.ref b8), .val (.ref s_GIVEN_NAME), .unset, .unset] [(.ref s_CONSUMER)])) t
            refine XS.astore X707.here hx rfl (hb hby at_124) rfl rfl (l' := #[.val (.int p0), .val (.int p1), .val (.int (2 : Int32)), .val (.int (b0_4 p1)), .val (.ref b8), .val (.ref s_GIVEN_NAME), .val (.ref s_CONSUMER), .unset]) rfl ?_
            show Steps p.tables e below (T707.setTop (mkF m 126 #[.val (.int p0), .val (.int p1), .val (.int (2 : Int32)), .val (.int (b0_4 p1)), .val (.ref b8), .val (.ref s_GIVEN_NAME), .val (.ref s_CONSUMER), .unset] [])) t
            refine XS.iloadN X707.here hx rfl (hb hby at_126) rfl ?_
            show Steps p.tables e below (T707.setTop (mkF m 127 #[.val (.int p0), .val (.int p1), .val (.int (2 : Int32)), .val (.int (b0_4 p1)), .val (.ref b8), .val (.ref s_GIVEN_NAME), .val (.ref s_CONSUMER), .unset] [(.int (2 : Int32))])) t
            refine XS.bipush X707.here hx rfl (hb hby at_127) ?_
            show Steps p.tables e below (T707.setTop (mkF m 129 #[.val (.int p0), .val (.int p1), .val (.int (2 : Int32)), .val (.int (b0_4 p1)), .val (.ref b8), .val (.ref s_GIVEN_NAME), .val (.ref s_CONSUMER), .unset] [(.int (8 : Int32)), (.int (2 : Int32))])) t
            refine XS.icmpNo X707.here hx rfl (hb hby at_129) rfl (XT.ii_eq_f (by decide : ¬ ((2 : Int32) = (8 : Int32)))) ?_
            show Steps p.tables e below (T707.setTop (mkF m 132 #[.val (.int p0), .val (.int p1), .val (.int (2 : Int32)), .val (.int (b0_4 p1)), .val (.ref b8), .val (.ref s_GIVEN_NAME), .val (.ref s_CONSUMER), .unset] [])) t
            refine XS.iloadN X707.here hx rfl (hb hby at_132) rfl ?_
            show Steps p.tables e below (T707.setTop (mkF m 133 #[.val (.int p0), .val (.int p1), .val (.int (2 : Int32)), .val (.int (b0_4 p1)), .val (.ref b8), .val (.ref s_GIVEN_NAME), .val (.ref s_CONSUMER), .unset] [(.int (2 : Int32))])) t
            refine XS.bipush X707.here hx rfl (hb hby at_133) ?_
            show Steps p.tables e below (T707.setTop (mkF m 135 #[.val (.int p0), .val (.int p1), .val (.int (2 : Int32)), .val (.int (b0_4 p1)), .val (.ref b8), .val (.ref s_GIVEN_NAME), .val (.ref s_CONSUMER), .unset] [(.int (10 : Int32)), (.int (2 : Int32))])) t
            refine XS.icmpYes X707.here hx rfl (pc0 := 135) (pc' := 144) rfl (hb hby at_135) rfl (XT.ii_ne_t (by decide : ¬ ((2 : Int32) = (10 : Int32)))) (by decide) (by decide) ?_
            show Steps p.tables e below (T707.setTop (mkF m 144 #[.val (.int p0), .val (.int p1), .val (.int (2 : Int32)), .val (.int (b0_4 p1)), .val (.ref b8), .val (.ref s_GIVEN_NAME), .val (.ref s_CONSUMER), .unset] [])) t
            refine XS.iloadN X707.here hx rfl (hb hby at_144) rfl ?_
            show Steps p.tables e below (T707.setTop (mkF m 145 #[.val (.int p0), .val (.int p1), .val (.int (2 : Int32)), .val (.int (b0_4 p1)), .val (.ref b8), .val (.ref s_GIVEN_NAME), .val (.ref s_CONSUMER), .unset] [(.int (2 : Int32))])) t
            refine XS.bipush X707.here hx rfl (hb hby at_145) ?_
            show Steps p.tables e below (T707.setTop (mkF m 147 #[.val (.int p0), .val (.int p1), .val (.int (2 : Int32)), .val (.int (b0_4 p1)), .val (.ref b8), .val (.ref s_GIVEN_NAME), .val (.ref s_CONSUMER), .unset] [(.int (9 : Int32)), (.int (2 : Int32))])) t
            refine XS.icmpYes X707.here hx rfl (pc0 := 147) (pc' := 164) rfl (hb hby at_147) rfl (XT.ii_ne_t (by decide : ¬ ((2 : Int32) = (9 : Int32)))) (by decide) (by decide) ?_
            show Steps p.tables e below (T707.setTop (mkF m 164 #[.val (.int p0), .val (.int p1), .val (.int (2 : Int32)), .val (.int (b0_4 p1)), .val (.ref b8), .val (.ref s_GIVEN_NAME), .val (.ref s_CONSUMER), .unset] [])) t
            refine XS.iconst X707.here hx rfl (hb hby at_164) ?_
            show Steps p.tables e below (T707.setTop (mkF m 165 #[.val (.int p0), .val (.int p1), .val (.int (2 : Int32)), .val (.int (b0_4 p1)), .val (.ref b8), .val (.ref s_GIVEN_NAME), .val (.ref s_CONSUMER), .unset] [(.int (1 : Int32))])) t
            refine XS.istore X707.here hx rfl (hb hby at_165) rfl (l' := #[.val (.int p0), .val (.int p1), .val (.int (2 : Int32)), .val (.int (b0_4 p1)), .val (.ref b8), .val (.ref s_GIVEN_NAME), .val (.ref s_CONSUMER), .val (.int (1 : Int32))]) rfl ?_
            show Steps p.tables e below (T707.setTop (mkF m 167 #[.val (.int p0), .val (.int p1), .val (.int (2 : Int32)), .val (.int (b0_4 p1)), .val (.ref b8), .val (.ref s_GIVEN_NAME), .val (.ref s_CONSUMER), .val (.int (1 : Int32))] [])) t
            refine XS.aload X707.here hx rfl (hb hby at_167) rfl rfl ?_
            show Steps p.tables e below (T707.setTop (mkF m 169 #[.val (.int p0), .val (.int p1), .val (.int (2 : Int32)), .val (.int (b0_4 p1)), .val (.ref b8), .val (.ref s_GIVEN_NAME), .val (.ref s_CONSUMER), .val (.int (1 : Int32))] [(.ref s_GIVEN_NAME)])) t
            refine XS.aload X707.here hx rfl (hb hby at_169) rfl rfl ?_
            show Steps p.tables e below (T707.setTop (mkF m 171 #[.val (.int p0), .val (.int p1), .val (.int (2 : Int32)), .val (.int (b0_4 p1)), .val (.ref b8), .val (.ref s_GIVEN_NAME), .val (.ref s_CONSUMER), .val (.int (1 : Int32))] [(.ref s_CONSUMER), (.ref s_GIVEN_NAME)])) t
            exact k
          obtain ⟨cq710, kq710, q710a, q710b, q710c⟩ := isOf hZ e707 F617
          obtain ⟨_, _, ⟨T710, L710, k710, n710⟩, -, X710, ⟨Lc710, hQ710, l710, y710, z710⟩, st710⟩ := X707.virtualBack hx (y := (⟨"com/example/hauora_id/hauoraid/model/Claim", "heldIn", "(Lcom/example/hauora_id/hauoraid/model/Realm;)Z"⟩ : MethodName)) (z := (⟨"com/example/hauora_id/hauoraid/model/Claim", "heldIn", "(Lcom/example/hauora_id/hauoraid/model/Realm;)Z"⟩ : MethodName)) hown (mvT hZ (hw _ (List.mem_of_getElem? (i := 32) rfl))) (mvT hZ (hw _ (List.mem_of_getElem? (i := 33) rfl))) (notFace_of_selects (args := #[]) (mvT hZ (hw _ (List.mem_of_getElem? (i := 35) rfl)))) (mvT hZ (hw _ (List.mem_of_getElem? (i := 35) rfl))) (mvT hZ (hw _ (List.mem_of_getElem? (i := 34) rfl))) (by decide) (backOf (W := 0) (rm1n l Z aZ hw [] s_GIVEN_NAME s_CONSUMER h609 n0 Zs609 F639) hZ (hw _ (List.mem_of_getElem? (i := 36) rfl)) (hw _ (List.mem_of_getElem? (i := 4) rfl)) (by decide) (by decide)) q710a q710c (g := (mkF m 171 #[.val (.int p0), .val (.int p1), .val (.int (2 : Int32)), .val (.int (b0_4 p1)), .val (.ref b8), .val (.ref s_GIVEN_NAME), .val (.ref s_CONSUMER), .val (.int (1 : Int32))] [(.ref s_CONSUMER), (.ref s_GIVEN_NAME)])) rfl (by rw [hml]; rfl) (Steps.refl _) (argsL := [(.ref s_CONSUMER)]) (rest := []) (lenOf pd_15 rfl) rfl (by show 2 * 0 + _ ≤ _; exact Nat.le_of_eq rfl) (hb hby at_171) (fun _ _ => ⟨rfl, e707, (by decide : 1 + 0 ≤ _), (by decide : 12 + 0 ≤ _)⟩)
          dsimp only [Pt.U, Pt.locs, Pt.cells, Pt.slots] at X710 l710 y710 z710 st710 hQ710
          subst l710 y710 z710
          obtain ⟨rfl, N710q, e710⟩ := hQ710
          have N710 := Fr.app N609 N710q
          have go711 : ∀ t, Steps p.tables e below (T710.setTop (mkF m 174 #[.val (.int p0), .val (.int p1), .val (.int (2 : Int32)), .val (.int (b0_4 p1)), .val (.ref b8), .val (.ref s_GIVEN_NAME), .val (.ref s_CONSUMER), .val (.int (1 : Int32))] [(.int (1 : Int32))])) t → Steps p.tables e below (s₁.setTop (entryFrame m #[(.int p0), (.int p1)] maxLocals)) t := fun t k => go709 _ (st710.trans k)
          have go712 : ∀ t, Steps p.tables e below (T710.setTop (mkF m 184 #[.val (.int p0), .val (.int p1), .val (.int (2 : Int32)), .val (.int (b0_4 p1)), .val (.ref b8), .val (.ref s_GIVEN_NAME), .val (.ref s_CONSUMER), .val (.int (1 : Int32))] [(.int (1 : Int32))])) t → Steps p.tables e below (s₁.setTop (entryFrame m #[(.int p0), (.int p1)] maxLocals)) t := by
            intro t k
            refine go711 _ ?_
            refine XS.iload X710.here hx rfl (hb hby at_174) rfl ?_
            show Steps p.tables e below (T710.setTop (mkF m 176 #[.val (.int p0), .val (.int p1), .val (.int (2 : Int32)), .val (.int (b0_4 p1)), .val (.ref b8), .val (.ref s_GIVEN_NAME), .val (.ref s_CONSUMER), .val (.int (1 : Int32))] [(.int (1 : Int32)), (.int (1 : Int32))])) t
            refine XS.icmpNo X710.here hx rfl (hb hby at_176) rfl (XT.ii_ne_f (by decide : ((1 : Int32) = (1 : Int32)))) ?_
            show Steps p.tables e below (T710.setTop (mkF m 179 #[.val (.int p0), .val (.int p1), .val (.int (2 : Int32)), .val (.int (b0_4 p1)), .val (.ref b8), .val (.ref s_GIVEN_NAME), .val (.ref s_CONSUMER), .val (.int (1 : Int32))] [])) t
            refine XS.iconst X710.here hx rfl (hb hby at_179) ?_
            show Steps p.tables e below (T710.setTop (mkF m 180 #[.val (.int p0), .val (.int p1), .val (.int (2 : Int32)), .val (.int (b0_4 p1)), .val (.ref b8), .val (.ref s_GIVEN_NAME), .val (.ref s_CONSUMER), .val (.int (1 : Int32))] [(.int (1 : Int32))])) t
            refine XS.goto X710.here hx rfl (pc0 := 180) (pc' := 184) rfl (hb hby at_180) (by decide) (by decide) ?_
            show Steps p.tables e below (T710.setTop (mkF m 184 #[.val (.int p0), .val (.int p1), .val (.int (2 : Int32)), .val (.int (b0_4 p1)), .val (.ref b8), .val (.ref s_GIVEN_NAME), .val (.ref s_CONSUMER), .val (.int (1 : Int32))] [(.int (1 : Int32))])) t
            exact k
          obtain ⟨fs, hr, hrun, hended, hW, hsame⟩ := X710.leave (v := some (.int (1 : Int32))) (fun h => by rw [Bd.returns] at h; cases h)
          refine ⟨_, _, go712 _ (Jvm.RoadKit.retOut X710 hx Bd.returns rfl (Or.inl ⟨rfl, Or.inr (Or.inl rfl), _, rfl⟩) (hb hby at_184) hr), hrun, hended, _, _, rfl, ?_, ⟨_, rfl⟩, hW, hsame.mono (by decide) (by decide)⟩
          show Q0 _ _ p0 p1 s_SUB s_EMAIL s_GIVEN_NAME s_MIDDLE_NAME s_FAMILY_NAME s_NICKNAME s_BIRTHDATE s_MOBILE_NUMBER s_NHI s_CPN s_RELATIONSHIPS s_CONFIDENCE_LEVEL s_WORKFORCE s_CONSUMER h0 _ (T710.setFrames fs).heap _
          have hE : (T710.setFrames fs).heap = h609 := e710
          rw [hE]
          exact ⟨congrArg (fun z => some (Value.int z)) ((by rw [f0, if_neg hs656, if_neg hs675, if_pos hs694, if_neg hs698] : (1 : Int32) = (f0 p0 p1 s_WORKFORCE s_CONSUMER)).trans (f0_one p0 p1 s_WORKFORCE s_CONSUMER ne_CW)), N710⟩
      · by_cases hs713 : (v0_1 p0) = (3 : Int32)
        · have go714 : ∀ t, Steps p.tables e below (T609.setTop (mkF m 108 #[.val (.int p0), .val (.int p1), .val (.int (3 : Int32)), .val (.int (b0_4 p1)), .val (.ref b8), .unset, .unset, .unset] [(.int (3 : Int32)), (.ref b8)])) t → Steps p.tables e below (s₁.setTop (entryFrame m #[(.int p0), (.int p1)] maxLocals)) t := by
            have q := go655
            rw [hs713] at q
            exact q
          obtain ⟨cl715, Ar715, q715, S715, N715, H715, G715⟩ := id F654
          have go716 : ∀ t, Steps p.tables e below (T609.setTop (mkF m 112 #[.val (.int p0), .val (.int p1), .val (.int (3 : Int32)), .val (.int (b0_4 p1)), .val (.ref b8), .val (.ref s_MIDDLE_NAME), .unset, .unset] [(.int (b0_4 p1))])) t → Steps p.tables e below (s₁.setTop (entryFrame m #[(.int p0), (.int p1)] maxLocals)) t := by
            intro t k
            refine go714 _ ?_
            refine X609.aaload hx (j := (3 : Int32)) (v := (.ref s_MIDDLE_NAME)) (by rw [e609]; exact Ar715.1) (State.isArrayOf_alike hZ.alike Ar715.2.1) rfl Ar715.2.2 (inb_of S715 ⟨by decide, by decide⟩) (Has.at H715 (inb_of S715 ⟨by decide, by decide⟩) rfl) (g := (mkF m 108 #[.val (.int p0), .val (.int p1), .val (.int (3 : Int32)), .val (.int (b0_4 p1)), .val (.ref b8), .unset, .unset, .unset] [(.int (3 : Int32)), (.ref b8)])) rfl rfl (hb hby at_108) _ ?_
            show Steps p.tables e below (T609.setTop (mkF m 109 #[.val (.int p0), .val (.int p1), .val (.int (3 : Int32)), .val (.int (b0_4 p1)), .val (.ref b8), .unset, .unset, .unset] [(.ref s_MIDDLE_NAME)])) t
            refine XS.astore X609.here hx rfl (hb hby at_109) rfl rfl (l' := #[.val (.int p0), .val (.int p1), .val (.int (3 : Int32)), .val (.int (b0_4 p1)), .val (.ref b8), .val (.ref s_MIDDLE_NAME), .unset, .unset]) rfl ?_
            show Steps p.tables e below (T609.setTop (mkF m 111 #[.val (.int p0), .val (.int p1), .val (.int (3 : Int32)), .val (.int (b0_4 p1)), .val (.ref b8), .val (.ref s_MIDDLE_NAME), .unset, .unset] [])) t
            refine XS.iloadN X609.here hx rfl (hb hby at_111) rfl ?_
            show Steps p.tables e below (T609.setTop (mkF m 112 #[.val (.int p0), .val (.int p1), .val (.int (3 : Int32)), .val (.int (b0_4 p1)), .val (.ref b8), .val (.ref s_MIDDLE_NAME), .unset, .unset] [(.int (b0_4 p1))])) t
            exact k
          by_cases hs717 : (b0_4 p1) = (0 : Int32)
          · have go718 : ∀ t, Steps p.tables e below (T609.setTop (mkF m 121 #[.val (.int p0), .val (.int p1), .val (.int (3 : Int32)), .val (.int (b0_4 p1)), .val (.ref b8), .val (.ref s_MIDDLE_NAME), .unset, .unset] [])) t → Steps p.tables e below (s₁.setTop (entryFrame m #[(.int p0), (.int p1)] maxLocals)) t := by
              intro t k
              refine go716 _ ?_
              refine XS.ifYes X609.here hx rfl (pc0 := 112) (pc' := 121) rfl (hb hby at_112) rfl (XT.i0_eq_t hs717) (by decide) (by decide) ?_
              show Steps p.tables e below (T609.setTop (mkF m 121 #[.val (.int p0), .val (.int p1), .val (.int (3 : Int32)), .val (.int (b0_4 p1)), .val (.ref b8), .val (.ref s_MIDDLE_NAME), .unset, .unset] [])) t
              exact k
            obtain ⟨T719, X719, e719, st719⟩ := getS2 X609 hx hZ hown (host := "") (Or.inl (hw _ (List.mem_of_getElem? (i := 29) rfl))) Via.refl e609 F636 (g := (mkF m 121 #[.val (.int p0), .val (.int p1), .val (.int (3 : Int32)), .val (.int (b0_4 p1)), .val (.ref b8), .val (.ref s_MIDDLE_NAME), .unset, .unset] [])) rfl (hb hby at_121)
            have go720 : ∀ t, Steps p.tables e below (T719.setTop (mkF m 124 #[.val (.int p0), .val (.int p1), .val (.int (3 : Int32)), .val (.int (b0_4 p1)), .val (.ref b8), .val (.ref s_MIDDLE_NAME), .unset, .unset] [(.ref s_WORKFORCE)])) t → Steps p.tables e below (s₁.setTop (entryFrame m #[(.int p0), (.int p1)] maxLocals)) t := fun t k => go718 _ (st719 _ k)
            have go721 : ∀ t, Steps p.tables e below (T719.setTop (mkF m 171 #[.val (.int p0), .val (.int p1), .val (.int (3 : Int32)), .val (.int (b0_4 p1)), .val (.ref b8), .val (.ref s_MIDDLE_NAME), .val (.ref s_WORKFORCE), .val (.int (1 : Int32))] [(.ref s_WORKFORCE), (.ref s_MIDDLE_NAME)])) t → Steps p.tables e below (s₁.setTop (entryFrame m #[(.int p0), (.int p1)] maxLocals)) t := by
              intro t k
              refine go720 _ ?_
              refine XS.astore X719.here hx rfl (hb hby at_124) rfl rfl (l' := #[.val (.int p0), .val (.int p1), .val (.int (3 : Int32)), .val (.int (b0_4 p1)), .val (.ref b8), .val (.ref s_MIDDLE_NAME), .val (.ref s_WORKFORCE), .unset]) rfl ?_
              show Steps p.tables e below (T719.setTop (mkF m 126 #[.val (.int p0), .val (.int p1), .val (.int (3 : Int32)), .val (.int (b0_4 p1)), .val (.ref b8), .val (.ref s_MIDDLE_NAME), .val (.ref s_WORKFORCE), .unset] [])) t
              refine XS.iloadN X719.here hx rfl (hb hby at_126) rfl ?_
              show Steps p.tables e below (T719.setTop (mkF m 127 #[.val (.int p0), .val (.int p1), .val (.int (3 : Int32)), .val (.int (b0_4 p1)), .val (.ref b8), .val (.ref s_MIDDLE_NAME), .val (.ref s_WORKFORCE), .unset] [(.int (3 : Int32))])) t
              refine XS.bipush X719.here hx rfl (hb hby at_127) ?_
              show Steps p.tables e below (T719.setTop (mkF m 129 #[.val (.int p0), .val (.int p1), .val (.int (3 : Int32)), .val (.int (b0_4 p1)), .val (.ref b8), .val (.ref s_MIDDLE_NAME), .val (.ref s_WORKFORCE), .unset] [(.int (8 : Int32)), (.int (3 : Int32))])) t
              refine XS.icmpNo X719.here hx rfl (hb hby at_129) rfl (XT.ii_eq_f (by decide : ¬ ((3 : Int32) = (8 : Int32)))) ?_
              show Steps p.tables e below (T719.setTop (mkF m 132 #[.val (.int p0), .val (.int p1), .val (.int (3 : Int32)), .val (.int (b0_4 p1)), .val (.ref b8), .val (.ref s_MIDDLE_NAME), .val (.ref s_WORKFORCE), .unset] [])) t
              refine XS.iloadN X719.here hx rfl (hb hby at_132) rfl ?_
              show Steps p.tables e below (T719.setTop (mkF m 133 #[.val (.int p0), .val (.int p1), .val (.int (3 : Int32)), .val (.int (b0_4 p1)), .val (.ref b8), .val (.ref s_MIDDLE_NAME), .val (.ref s_WORKFORCE), .unset] [(.int (3 : Int32))])) t
              refine XS.bipush X719.here hx rfl (hb hby at_133) ?_
              show Steps p.tables e below (T719.setTop (mkF m 135 #[.val (.int p0), .val (.int p1), .val (.int (3 : Int32)), .val (.int (b0_4 p1)), .val (.ref b8), .val (.ref s_MIDDLE_NAME), .val (.ref s_WORKFORCE), .unset] [(.int (10 : Int32)), (.int (3 : Int32))])) t
              refine XS.icmpYes X719.here hx rfl (pc0 := 135) (pc' := 144) rfl (hb hby at_135) rfl (XT.ii_ne_t (by decide : ¬ ((3 : Int32) = (10 : Int32)))) (by decide) (by decide) ?_
              show Steps p.tables e below (T719.setTop (mkF m 144 #[.val (.int p0), .val (.int p1), .val (.int (3 : Int32)), .val (.int (b0_4 p1)), .val (.ref b8), .val (.ref s_MIDDLE_NAME), .val (.ref s_WORKFORCE), .unset] [])) t
              refine XS.iloadN X719.here hx rfl (hb hby at_144) rfl ?_
              show Steps p.tables e below (T719.setTop (mkF m 145 #[.val (.int p0), .val (.int p1), .val (.int (3 : Int32)), .val (.int (b0_4 p1)), .val (.ref b8), .val (.ref s_MIDDLE_NAME), .val (.ref s_WORKFORCE), .unset] [(.int (3 : Int32))])) t
              refine XS.bipush X719.here hx rfl (hb hby at_145) ?_
              show Steps p.tables e below (T719.setTop (mkF m 147 #[.val (.int p0), .val (.int p1), .val (.int (3 : Int32)), .val (.int (b0_4 p1)), .val (.ref b8), .val (.ref s_MIDDLE_NAME), .val (.ref s_WORKFORCE), .unset] [(.int (9 : Int32)), (.int (3 : Int32))])) t
              refine XS.icmpYes X719.here hx rfl (pc0 := 147) (pc' := 164) rfl (hb hby at_147) rfl (XT.ii_ne_t (by decide : ¬ ((3 : Int32) = (9 : Int32)))) (by decide) (by decide) ?_
              show Steps p.tables e below (T719.setTop (mkF m 164 #[.val (.int p0), .val (.int p1), .val (.int (3 : Int32)), .val (.int (b0_4 p1)), .val (.ref b8), .val (.ref s_MIDDLE_NAME), .val (.ref s_WORKFORCE), .unset] [])) t
              refine XS.iconst X719.here hx rfl (hb hby at_164) ?_
              show Steps p.tables e below (T719.setTop (mkF m 165 #[.val (.int p0), .val (.int p1), .val (.int (3 : Int32)), .val (.int (b0_4 p1)), .val (.ref b8), .val (.ref s_MIDDLE_NAME), .val (.ref s_WORKFORCE), .unset] [(.int (1 : Int32))])) t
              refine XS.istore X719.here hx rfl (hb hby at_165) rfl (l' := #[.val (.int p0), .val (.int p1), .val (.int (3 : Int32)), .val (.int (b0_4 p1)), .val (.ref b8), .val (.ref s_MIDDLE_NAME), .val (.ref s_WORKFORCE), .val (.int (1 : Int32))]) rfl ?_
              show Steps p.tables e below (T719.setTop (mkF m 167 #[.val (.int p0), .val (.int p1), .val (.int (3 : Int32)), .val (.int (b0_4 p1)), .val (.ref b8), .val (.ref s_MIDDLE_NAME), .val (.ref s_WORKFORCE), .val (.int (1 : Int32))] [])) t
              refine XS.aload X719.here hx rfl (hb hby at_167) rfl rfl ?_
              show Steps p.tables e below (T719.setTop (mkF m 169 #[.val (.int p0), .val (.int p1), .val (.int (3 : Int32)), .val (.int (b0_4 p1)), .val (.ref b8), .val (.ref s_MIDDLE_NAME), .val (.ref s_WORKFORCE), .val (.int (1 : Int32))] [(.ref s_MIDDLE_NAME)])) t
              refine XS.aload X719.here hx rfl (hb hby at_169) rfl rfl ?_
              show Steps p.tables e below (T719.setTop (mkF m 171 #[.val (.int p0), .val (.int p1), .val (.int (3 : Int32)), .val (.int (b0_4 p1)), .val (.ref b8), .val (.ref s_MIDDLE_NAME), .val (.ref s_WORKFORCE), .val (.int (1 : Int32))] [(.ref s_WORKFORCE), (.ref s_MIDDLE_NAME)])) t
              exact k
            obtain ⟨cq722, kq722, q722a, q722b, q722c⟩ := isOf hZ e719 F619
            obtain ⟨_, _, ⟨T722, L722, k722, n722⟩, -, X722, ⟨Lc722, hQ722, l722, y722, z722⟩, st722⟩ := X719.virtualBack hx (y := (⟨"com/example/hauora_id/hauoraid/model/Claim", "heldIn", "(Lcom/example/hauora_id/hauoraid/model/Realm;)Z"⟩ : MethodName)) (z := (⟨"com/example/hauora_id/hauoraid/model/Claim", "heldIn", "(Lcom/example/hauora_id/hauoraid/model/Realm;)Z"⟩ : MethodName)) hown (mvT hZ (hw _ (List.mem_of_getElem? (i := 32) rfl))) (mvT hZ (hw _ (List.mem_of_getElem? (i := 33) rfl))) (notFace_of_selects (args := #[]) (mvT hZ (hw _ (List.mem_of_getElem? (i := 35) rfl)))) (mvT hZ (hw _ (List.mem_of_getElem? (i := 35) rfl))) (mvT hZ (hw _ (List.mem_of_getElem? (i := 34) rfl))) (by decide) (backOf (W := 0) (rm1n l Z aZ hw [] s_MIDDLE_NAME s_WORKFORCE h609 n0 Zs609 F649) hZ (hw _ (List.mem_of_getElem? (i := 36) rfl)) (hw _ (List.mem_of_getElem? (i := 4) rfl)) (by decide) (by decide)) q722a q722c (g := (mkF m 171 #[.val (.int p0), .val (.int p1), .val (.int (3 : Int32)), .val (.int (b0_4 p1)), .val (.ref b8), .val (.ref s_MIDDLE_NAME), .val (.ref s_WORKFORCE), .val (.int (1 : Int32))] [(.ref s_WORKFORCE), (.ref s_MIDDLE_NAME)])) rfl (by rw [hml]; rfl) (Steps.refl _) (argsL := [(.ref s_WORKFORCE)]) (rest := []) (lenOf pd_15 rfl) rfl (by show 2 * 0 + _ ≤ _; exact Nat.le_of_eq rfl) (hb hby at_171) (fun _ _ => ⟨rfl, e719, (by decide : 1 + 0 ≤ _), (by decide : 12 + 0 ≤ _)⟩)
            dsimp only [Pt.U, Pt.locs, Pt.cells, Pt.slots] at X722 l722 y722 z722 st722 hQ722
            subst l722 y722 z722
            obtain ⟨rfl, N722q, e722⟩ := hQ722
            have N722 := Fr.app N609 N722q
            have go723 : ∀ t, Steps p.tables e below (T722.setTop (mkF m 174 #[.val (.int p0), .val (.int p1), .val (.int (3 : Int32)), .val (.int (b0_4 p1)), .val (.ref b8), .val (.ref s_MIDDLE_NAME), .val (.ref s_WORKFORCE), .val (.int (1 : Int32))] [(.int (1 : Int32))])) t → Steps p.tables e below (s₁.setTop (entryFrame m #[(.int p0), (.int p1)] maxLocals)) t := fun t k => go721 _ (st722.trans k)
            have go724 : ∀ t, Steps p.tables e below (T722.setTop (mkF m 184 #[.val (.int p0), .val (.int p1), .val (.int (3 : Int32)), .val (.int (b0_4 p1)), .val (.ref b8), .val (.ref s_MIDDLE_NAME), .val (.ref s_WORKFORCE), .val (.int (1 : Int32))] [(.int (1 : Int32))])) t → Steps p.tables e below (s₁.setTop (entryFrame m #[(.int p0), (.int p1)] maxLocals)) t := by
              intro t k
              refine go723 _ ?_
              refine XS.iload X722.here hx rfl (hb hby at_174) rfl ?_
              show Steps p.tables e below (T722.setTop (mkF m 176 #[.val (.int p0), .val (.int p1), .val (.int (3 : Int32)), .val (.int (b0_4 p1)), .val (.ref b8), .val (.ref s_MIDDLE_NAME), .val (.ref s_WORKFORCE), .val (.int (1 : Int32))] [(.int (1 : Int32)), (.int (1 : Int32))])) t
              refine XS.icmpNo X722.here hx rfl (hb hby at_176) rfl (XT.ii_ne_f (by decide : ((1 : Int32) = (1 : Int32)))) ?_
              show Steps p.tables e below (T722.setTop (mkF m 179 #[.val (.int p0), .val (.int p1), .val (.int (3 : Int32)), .val (.int (b0_4 p1)), .val (.ref b8), .val (.ref s_MIDDLE_NAME), .val (.ref s_WORKFORCE), .val (.int (1 : Int32))] [])) t
              refine XS.iconst X722.here hx rfl (hb hby at_179) ?_
              show Steps p.tables e below (T722.setTop (mkF m 180 #[.val (.int p0), .val (.int p1), .val (.int (3 : Int32)), .val (.int (b0_4 p1)), .val (.ref b8), .val (.ref s_MIDDLE_NAME), .val (.ref s_WORKFORCE), .val (.int (1 : Int32))] [(.int (1 : Int32))])) t
              refine XS.goto X722.here hx rfl (pc0 := 180) (pc' := 184) rfl (hb hby at_180) (by decide) (by decide) ?_
              show Steps p.tables e below (T722.setTop (mkF m 184 #[.val (.int p0), .val (.int p1), .val (.int (3 : Int32)), .val (.int (b0_4 p1)), .val (.ref b8), .val (.ref s_MIDDLE_NAME), .val (.ref s_WORKFORCE), .val (.int (1 : Int32))] [(.int (1 : Int32))])) t
              exact k
            obtain ⟨fs, hr, hrun, hended, hW, hsame⟩ := X722.leave (v := some (.int (1 : Int32))) (fun h => by rw [Bd.returns] at h; cases h)
            refine ⟨_, _, go724 _ (Jvm.RoadKit.retOut X722 hx Bd.returns rfl (Or.inl ⟨rfl, Or.inr (Or.inl rfl), _, rfl⟩) (hb hby at_184) hr), hrun, hended, _, _, rfl, ?_, ⟨_, rfl⟩, hW, hsame.mono (by decide) (by decide)⟩
            show Q0 _ _ p0 p1 s_SUB s_EMAIL s_GIVEN_NAME s_MIDDLE_NAME s_FAMILY_NAME s_NICKNAME s_BIRTHDATE s_MOBILE_NUMBER s_NHI s_CPN s_RELATIONSHIPS s_CONFIDENCE_LEVEL s_WORKFORCE s_CONSUMER h0 _ (T722.setFrames fs).heap _
            have hE : (T722.setFrames fs).heap = h609 := e722
            rw [hE]
            exact ⟨congrArg (fun z => some (Value.int z)) ((by rw [f0, if_neg hs656, if_neg hs675, if_neg hs694, if_pos hs713, if_pos hs717] : (1 : Int32) = (f0 p0 p1 s_WORKFORCE s_CONSUMER)).trans (f0_one p0 p1 s_WORKFORCE s_CONSUMER ne_CW)), N722⟩
          · have go725 : ∀ t, Steps p.tables e below (T609.setTop (mkF m 115 #[.val (.int p0), .val (.int p1), .val (.int (3 : Int32)), .val (.int (b0_4 p1)), .val (.ref b8), .val (.ref s_MIDDLE_NAME), .unset, .unset] [])) t → Steps p.tables e below (s₁.setTop (entryFrame m #[(.int p0), (.int p1)] maxLocals)) t := by
              intro t k
              refine go716 _ ?_
              refine XS.ifNo X609.here hx rfl (hb hby at_112) rfl (XT.i0_eq_f hs717) ?_
              show Steps p.tables e below (T609.setTop (mkF m 115 #[.val (.int p0), .val (.int p1), .val (.int (3 : Int32)), .val (.int (b0_4 p1)), .val (.ref b8), .val (.ref s_MIDDLE_NAME), .unset, .unset] [])) t
              exact k
            obtain ⟨T726, X726, e726, st726⟩ := getS2 X609 hx hZ hown (host := "") (Or.inl (hw _ (List.mem_of_getElem? (i := 39) rfl))) Via.refl e609 F640 (g := (mkF m 115 #[.val (.int p0), .val (.int p1), .val (.int (3 : Int32)), .val (.int (b0_4 p1)), .val (.ref b8), .val (.ref s_MIDDLE_NAME), .unset, .unset] [])) rfl (hb hby at_115)
            have go727 : ∀ t, Steps p.tables e below (T726.setTop (mkF m 118 #[.val (.int p0), .val (.int p1), .val (.int (3 : Int32)), .val (.int (b0_4 p1)), .val (.ref b8), .val (.ref s_MIDDLE_NAME), .unset, .unset] [(.ref s_CONSUMER)])) t → Steps p.tables e below (s₁.setTop (entryFrame m #[(.int p0), (.int p1)] maxLocals)) t := fun t k => go725 _ (st726 _ k)
            have go728 : ∀ t, Steps p.tables e below (T726.setTop (mkF m 171 #[.val (.int p0), .val (.int p1), .val (.int (3 : Int32)), .val (.int (b0_4 p1)), .val (.ref b8), .val (.ref s_MIDDLE_NAME), .val (.ref s_CONSUMER), .val (.int (1 : Int32))] [(.ref s_CONSUMER), (.ref s_MIDDLE_NAME)])) t → Steps p.tables e below (s₁.setTop (entryFrame m #[(.int p0), (.int p1)] maxLocals)) t := by
              intro t k
              refine go727 _ ?_
              refine XS.goto X726.here hx rfl (pc0 := 118) (pc' := 124) rfl (hb hby at_118) (by decide) (by decide) ?_
              show Steps p.tables e below (T726.setTop (mkF m 124 #[.val (.int p0), .val (.int p1), .val (.int (3 : Int32)), .val (.int (b0_4 p1)), .val (.ref b8), .val (.ref s_MIDDLE_NAME), .unset, .unset] [(.ref s_CONSUMER)])) t
              refine XS.astore X726.here hx rfl (hb hby at_124) rfl rfl (l' := #[.val (.int p0), .val (.int p1), .val (.int (3 : Int32)), .val (.int (b0_4 p1)), .val (.ref b8), .val (.ref s_MIDDLE_NAME), .val (.ref s_CONSUMER), .unset]) rfl ?_
              show Steps p.tables e below (T726.setTop (mkF m 126 #[.val (.int p0), .val (.int p1), .val (.int (3 : Int32)), .val (.int (b0_4 p1)), .val (.ref b8), .val (.ref s_MIDDLE_NAME), .val (.ref s_CONSUMER), .unset] [])) t
              refine XS.iloadN X726.here hx rfl (hb hby at_126) rfl ?_
              show Steps p.tables e below (T726.setTop (mkF m 127 #[.val (.int p0), .val (.int p1), .val (.int (3 : Int32)), .val (.int (b0_4 p1)), .val (.ref b8), .val (.ref s_MIDDLE_NAME), .val (.ref s_CONSUMER), .unset] [(.int (3 : Int32))])) t
              refine XS.bipush X726.here hx rfl (hb hby at_127) ?_
              show Steps p.tables e below (T726.setTop (mkF m 129 #[.val (.int p0), .val (.int p1), .val (.int (3 : Int32)), .val (.int (b0_4 p1)), .val (.ref b8), .val (.ref s_MIDDLE_NAME), .val (.ref s_CONSUMER), .unset] [(.int (8 : Int32)), (.int (3 : Int32))])) t
              refine XS.icmpNo X726.here hx rfl (hb hby at_129) rfl (XT.ii_eq_f (by decide : ¬ ((3 : Int32) = (8 : Int32)))) ?_
              show Steps p.tables e below (T726.setTop (mkF m 132 #[.val (.int p0), .val (.int p1), .val (.int (3 : Int32)), .val (.int (b0_4 p1)), .val (.ref b8), .val (.ref s_MIDDLE_NAME), .val (.ref s_CONSUMER), .unset] [])) t
              refine XS.iloadN X726.here hx rfl (hb hby at_132) rfl ?_
              show Steps p.tables e below (T726.setTop (mkF m 133 #[.val (.int p0), .val (.int p1), .val (.int (3 : Int32)), .val (.int (b0_4 p1)), .val (.ref b8), .val (.ref s_MIDDLE_NAME), .val (.ref s_CONSUMER), .unset] [(.int (3 : Int32))])) t
              refine XS.bipush X726.here hx rfl (hb hby at_133) ?_
              show Steps p.tables e below (T726.setTop (mkF m 135 #[.val (.int p0), .val (.int p1), .val (.int (3 : Int32)), .val (.int (b0_4 p1)), .val (.ref b8), .val (.ref s_MIDDLE_NAME), .val (.ref s_CONSUMER), .unset] [(.int (10 : Int32)), (.int (3 : Int32))])) t
              refine XS.icmpYes X726.here hx rfl (pc0 := 135) (pc' := 144) rfl (hb hby at_135) rfl (XT.ii_ne_t (by decide : ¬ ((3 : Int32) = (10 : Int32)))) (by decide) (by decide) ?_
              show Steps p.tables e below (T726.setTop (mkF m 144 #[.val (.int p0), .val (.int p1), .val (.int (3 : Int32)), .val (.int (b0_4 p1)), .val (.ref b8), .val (.ref s_MIDDLE_NAME), .val (.ref s_CONSUMER), .unset] [])) t
              refine XS.iloadN X726.here hx rfl (hb hby at_144) rfl ?_
              show Steps p.tables e below (T726.setTop (mkF m 145 #[.val (.int p0), .val (.int p1), .val (.int (3 : Int32)), .val (.int (b0_4 p1)), .val (.ref b8), .val (.ref s_MIDDLE_NAME), .val (.ref s_CONSUMER), .unset] [(.int (3 : Int32))])) t
              refine XS.bipush X726.here hx rfl (hb hby at_145) ?_
              show Steps p.tables e below (T726.setTop (mkF m 147 #[.val (.int p0), .val (.int p1), .val (.int (3 : Int32)), .val (.int (b0_4 p1)), .val (.ref b8), .val (.ref s_MIDDLE_NAME), .val (.ref s_CONSUMER), .unset] [(.int (9 : Int32)), (.int (3 : Int32))])) t
              refine XS.icmpYes X726.here hx rfl (pc0 := 147) (pc' := 164) rfl (hb hby at_147) rfl (XT.ii_ne_t (by decide : ¬ ((3 : Int32) = (9 : Int32)))) (by decide) (by decide) ?_
              show Steps p.tables e below (T726.setTop (mkF m 164 #[.val (.int p0), .val (.int p1), .val (.int (3 : Int32)), .val (.int (b0_4 p1)), .val (.ref b8), .val (.ref s_MIDDLE_NAME), .val (.ref s_CONSUMER), .unset] [])) t
              refine XS.iconst X726.here hx rfl (hb hby at_164) ?_
              show Steps p.tables e below (T726.setTop (mkF m 165 #[.val (.int p0), .val (.int p1), .val (.int (3 : Int32)), .val (.int (b0_4 p1)), .val (.ref b8), .val (.ref s_MIDDLE_NAME), .val (.ref s_CONSUMER), .unset] [(.int (1 : Int32))])) t
              refine XS.istore X726.here hx rfl (hb hby at_165) rfl (l' := #[.val (.int p0), .val (.int p1), .val (.int (3 : Int32)), .val (.int (b0_4 p1)), .val (.ref b8), .val (.ref s_MIDDLE_NAME), .val (.ref s_CONSUMER), .val (.int (1 : Int32))]) rfl ?_
              show Steps p.tables e below (T726.setTop (mkF m 167 #[.val (.int p0), .val (.int p1), .val (.int (3 : Int32)), .val (.int (b0_4 p1)), .val (.ref b8), .val (.ref s_MIDDLE_NAME), .val (.ref s_CONSUMER), .val (.int (1 : Int32))] [])) t
              refine XS.aload X726.here hx rfl (hb hby at_167) rfl rfl ?_
              show Steps p.tables e below (T726.setTop (mkF m 169 #[.val (.int p0), .val (.int p1), .val (.int (3 : Int32)), .val (.int (b0_4 p1)), .val (.ref b8), .val (.ref s_MIDDLE_NAME), .val (.ref s_CONSUMER), .val (.int (1 : Int32))] [(.ref s_MIDDLE_NAME)])) t
              refine XS.aload X726.here hx rfl (hb hby at_169) rfl rfl ?_
              show Steps p.tables e below (T726.setTop (mkF m 171 #[.val (.int p0), .val (.int p1), .val (.int (3 : Int32)), .val (.int (b0_4 p1)), .val (.ref b8), .val (.ref s_MIDDLE_NAME), .val (.ref s_CONSUMER), .val (.int (1 : Int32))] [(.ref s_CONSUMER), (.ref s_MIDDLE_NAME)])) t
              exact k
            obtain ⟨cq729, kq729, q729a, q729b, q729c⟩ := isOf hZ e726 F619
            obtain ⟨_, _, ⟨T729, L729, k729, n729⟩, -, X729, ⟨Lc729, hQ729, l729, y729, z729⟩, st729⟩ := X726.virtualBack hx (y := (⟨"com/example/hauora_id/hauoraid/model/Claim", "heldIn", "(Lcom/example/hauora_id/hauoraid/model/Realm;)Z"⟩ : MethodName)) (z := (⟨"com/example/hauora_id/hauoraid/model/Claim", "heldIn", "(Lcom/example/hauora_id/hauoraid/model/Realm;)Z"⟩ : MethodName)) hown (mvT hZ (hw _ (List.mem_of_getElem? (i := 32) rfl))) (mvT hZ (hw _ (List.mem_of_getElem? (i := 33) rfl))) (notFace_of_selects (args := #[]) (mvT hZ (hw _ (List.mem_of_getElem? (i := 35) rfl)))) (mvT hZ (hw _ (List.mem_of_getElem? (i := 35) rfl))) (mvT hZ (hw _ (List.mem_of_getElem? (i := 34) rfl))) (by decide) (backOf (W := 0) (rm1n l Z aZ hw [] s_MIDDLE_NAME s_CONSUMER h609 n0 Zs609 F649) hZ (hw _ (List.mem_of_getElem? (i := 36) rfl)) (hw _ (List.mem_of_getElem? (i := 4) rfl)) (by decide) (by decide)) q729a q729c (g := (mkF m 171 #[.val (.int p0), .val (.int p1), .val (.int (3 : Int32)), .val (.int (b0_4 p1)), .val (.ref b8), .val (.ref s_MIDDLE_NAME), .val (.ref s_CONSUMER), .val (.int (1 : Int32))] [(.ref s_CONSUMER), (.ref s_MIDDLE_NAME)])) rfl (by rw [hml]; rfl) (Steps.refl _) (argsL := [(.ref s_CONSUMER)]) (rest := []) (lenOf pd_15 rfl) rfl (by show 2 * 0 + _ ≤ _; exact Nat.le_of_eq rfl) (hb hby at_171) (fun _ _ => ⟨rfl, e726, (by decide : 1 + 0 ≤ _), (by decide : 12 + 0 ≤ _)⟩)
            dsimp only [Pt.U, Pt.locs, Pt.cells, Pt.slots] at X729 l729 y729 z729 st729 hQ729
            subst l729 y729 z729
            obtain ⟨rfl, N729q, e729⟩ := hQ729
            have N729 := Fr.app N609 N729q
            have go730 : ∀ t, Steps p.tables e below (T729.setTop (mkF m 174 #[.val (.int p0), .val (.int p1), .val (.int (3 : Int32)), .val (.int (b0_4 p1)), .val (.ref b8), .val (.ref s_MIDDLE_NAME), .val (.ref s_CONSUMER), .val (.int (1 : Int32))] [(.int (1 : Int32))])) t → Steps p.tables e below (s₁.setTop (entryFrame m #[(.int p0), (.int p1)] maxLocals)) t := fun t k => go728 _ (st729.trans k)
            have go731 : ∀ t, Steps p.tables e below (T729.setTop (mkF m 184 #[.val (.int p0), .val (.int p1), .val (.int (3 : Int32)), .val (.int (b0_4 p1)), .val (.ref b8), .val (.ref s_MIDDLE_NAME), .val (.ref s_CONSUMER), .val (.int (1 : Int32))] [(.int (1 : Int32))])) t → Steps p.tables e below (s₁.setTop (entryFrame m #[(.int p0), (.int p1)] maxLocals)) t := by
              intro t k
              refine go730 _ ?_
              refine XS.iload X729.here hx rfl (hb hby at_174) rfl ?_
              show Steps p.tables e below (T729.setTop (mkF m 176 #[.val (.int p0), .val (.int p1), .val (.int (3 : Int32)), .val (.int (b0_4 p1)), .val (.ref b8), .val (.ref s_MIDDLE_NAME), .val (.ref s_CONSUMER), .val (.int (1 : Int32))] [(.int (1 : Int32)), (.int (1 : Int32))])) t
              refine XS.icmpNo X729.here hx rfl (hb hby at_176) rfl (XT.ii_ne_f (by decide : ((1 : Int32) = (1 : Int32)))) ?_
              show Steps p.tables e below (T729.setTop (mkF m 179 #[.val (.int p0), .val (.int p1), .val (.int (3 : Int32)), .val (.int (b0_4 p1)), .val (.ref b8), .val (.ref s_MIDDLE_NAME), .val (.ref s_CONSUMER), .val (.int (1 : Int32))] [])) t
              refine XS.iconst X729.here hx rfl (hb hby at_179) ?_
              show Steps p.tables e below (T729.setTop (mkF m 180 #[.val (.int p0), .val (.int p1), .val (.int (3 : Int32)), .val (.int (b0_4 p1)), .val (.ref b8), .val (.ref s_MIDDLE_NAME), .val (.ref s_CONSUMER), .val (.int (1 : Int32))] [(.int (1 : Int32))])) t
              refine XS.goto X729.here hx rfl (pc0 := 180) (pc' := 184) rfl (hb hby at_180) (by decide) (by decide) ?_
              show Steps p.tables e below (T729.setTop (mkF m 184 #[.val (.int p0), .val (.int p1), .val (.int (3 : Int32)), .val (.int (b0_4 p1)), .val (.ref b8), .val (.ref s_MIDDLE_NAME), .val (.ref s_CONSUMER), .val (.int (1 : Int32))] [(.int (1 : Int32))])) t
              exact k
            obtain ⟨fs, hr, hrun, hended, hW, hsame⟩ := X729.leave (v := some (.int (1 : Int32))) (fun h => by rw [Bd.returns] at h; cases h)
            refine ⟨_, _, go731 _ (Jvm.RoadKit.retOut X729 hx Bd.returns rfl (Or.inl ⟨rfl, Or.inr (Or.inl rfl), _, rfl⟩) (hb hby at_184) hr), hrun, hended, _, _, rfl, ?_, ⟨_, rfl⟩, hW, hsame.mono (by decide) (by decide)⟩
            show Q0 _ _ p0 p1 s_SUB s_EMAIL s_GIVEN_NAME s_MIDDLE_NAME s_FAMILY_NAME s_NICKNAME s_BIRTHDATE s_MOBILE_NUMBER s_NHI s_CPN s_RELATIONSHIPS s_CONFIDENCE_LEVEL s_WORKFORCE s_CONSUMER h0 _ (T729.setFrames fs).heap _
            have hE : (T729.setFrames fs).heap = h609 := e729
            rw [hE]
            exact ⟨congrArg (fun z => some (Value.int z)) ((by rw [f0, if_neg hs656, if_neg hs675, if_neg hs694, if_pos hs713, if_neg hs717] : (1 : Int32) = (f0 p0 p1 s_WORKFORCE s_CONSUMER)).trans (f0_one p0 p1 s_WORKFORCE s_CONSUMER ne_CW)), N729⟩
        · by_cases hs732 : (v0_1 p0) = (4 : Int32)
          · have go733 : ∀ t, Steps p.tables e below (T609.setTop (mkF m 108 #[.val (.int p0), .val (.int p1), .val (.int (4 : Int32)), .val (.int (b0_4 p1)), .val (.ref b8), .unset, .unset, .unset] [(.int (4 : Int32)), (.ref b8)])) t → Steps p.tables e below (s₁.setTop (entryFrame m #[(.int p0), (.int p1)] maxLocals)) t := by
              have q := go655
              rw [hs732] at q
              exact q
            obtain ⟨cl734, Ar734, q734, S734, N734, H734, G734⟩ := id F654
            have go735 : ∀ t, Steps p.tables e below (T609.setTop (mkF m 112 #[.val (.int p0), .val (.int p1), .val (.int (4 : Int32)), .val (.int (b0_4 p1)), .val (.ref b8), .val (.ref s_FAMILY_NAME), .unset, .unset] [(.int (b0_4 p1))])) t → Steps p.tables e below (s₁.setTop (entryFrame m #[(.int p0), (.int p1)] maxLocals)) t := by
              intro t k
              refine go733 _ ?_
              refine X609.aaload hx (j := (4 : Int32)) (v := (.ref s_FAMILY_NAME)) (by rw [e609]; exact Ar734.1) (State.isArrayOf_alike hZ.alike Ar734.2.1) rfl Ar734.2.2 (inb_of S734 ⟨by decide, by decide⟩) (Has.at H734 (inb_of S734 ⟨by decide, by decide⟩) rfl) (g := (mkF m 108 #[.val (.int p0), .val (.int p1), .val (.int (4 : Int32)), .val (.int (b0_4 p1)), .val (.ref b8), .unset, .unset, .unset] [(.int (4 : Int32)), (.ref b8)])) rfl rfl (hb hby at_108) _ ?_
              show Steps p.tables e below (T609.setTop (mkF m 109 #[.val (.int p0), .val (.int p1), .val (.int (4 : Int32)), .val (.int (b0_4 p1)), .val (.ref b8), .unset, .unset, .unset] [(.ref s_FAMILY_NAME)])) t
              refine XS.astore X609.here hx rfl (hb hby at_109) rfl rfl (l' := #[.val (.int p0), .val (.int p1), .val (.int (4 : Int32)), .val (.int (b0_4 p1)), .val (.ref b8), .val (.ref s_FAMILY_NAME), .unset, .unset]) rfl ?_
              show Steps p.tables e below (T609.setTop (mkF m 111 #[.val (.int p0), .val (.int p1), .val (.int (4 : Int32)), .val (.int (b0_4 p1)), .val (.ref b8), .val (.ref s_FAMILY_NAME), .unset, .unset] [])) t
              refine XS.iloadN X609.here hx rfl (hb hby at_111) rfl ?_
              show Steps p.tables e below (T609.setTop (mkF m 112 #[.val (.int p0), .val (.int p1), .val (.int (4 : Int32)), .val (.int (b0_4 p1)), .val (.ref b8), .val (.ref s_FAMILY_NAME), .unset, .unset] [(.int (b0_4 p1))])) t
              exact k
            by_cases hs736 : (b0_4 p1) = (0 : Int32)
            · have go737 : ∀ t, Steps p.tables e below (T609.setTop (mkF m 121 #[.val (.int p0), .val (.int p1), .val (.int (4 : Int32)), .val (.int (b0_4 p1)), .val (.ref b8), .val (.ref s_FAMILY_NAME), .unset, .unset] [])) t → Steps p.tables e below (s₁.setTop (entryFrame m #[(.int p0), (.int p1)] maxLocals)) t := by
                intro t k
                refine go735 _ ?_
                refine XS.ifYes X609.here hx rfl (pc0 := 112) (pc' := 121) rfl (hb hby at_112) rfl (XT.i0_eq_t hs736) (by decide) (by decide) ?_
                show Steps p.tables e below (T609.setTop (mkF m 121 #[.val (.int p0), .val (.int p1), .val (.int (4 : Int32)), .val (.int (b0_4 p1)), .val (.ref b8), .val (.ref s_FAMILY_NAME), .unset, .unset] [])) t
                exact k
              obtain ⟨T738, X738, e738, st738⟩ := getS2 X609 hx hZ hown (host := "") (Or.inl (hw _ (List.mem_of_getElem? (i := 29) rfl))) Via.refl e609 F636 (g := (mkF m 121 #[.val (.int p0), .val (.int p1), .val (.int (4 : Int32)), .val (.int (b0_4 p1)), .val (.ref b8), .val (.ref s_FAMILY_NAME), .unset, .unset] [])) rfl (hb hby at_121)
              have go739 : ∀ t, Steps p.tables e below (T738.setTop (mkF m 124 #[.val (.int p0), .val (.int p1), .val (.int (4 : Int32)), .val (.int (b0_4 p1)), .val (.ref b8), .val (.ref s_FAMILY_NAME), .unset, .unset] [(.ref s_WORKFORCE)])) t → Steps p.tables e below (s₁.setTop (entryFrame m #[(.int p0), (.int p1)] maxLocals)) t := fun t k => go737 _ (st738 _ k)
              have go740 : ∀ t, Steps p.tables e below (T738.setTop (mkF m 171 #[.val (.int p0), .val (.int p1), .val (.int (4 : Int32)), .val (.int (b0_4 p1)), .val (.ref b8), .val (.ref s_FAMILY_NAME), .val (.ref s_WORKFORCE), .val (.int (1 : Int32))] [(.ref s_WORKFORCE), (.ref s_FAMILY_NAME)])) t → Steps p.tables e below (s₁.setTop (entryFrame m #[(.int p0), (.int p1)] maxLocals)) t := by
                intro t k
                refine go739 _ ?_
                refine XS.astore X738.here hx rfl (hb hby at_124) rfl rfl (l' := #[.val (.int p0), .val (.int p1), .val (.int (4 : Int32)), .val (.int (b0_4 p1)), .val (.ref b8), .val (.ref s_FAMILY_NAME), .val (.ref s_WORKFORCE), .unset]) rfl ?_
                show Steps p.tables e below (T738.setTop (mkF m 126 #[.val (.int p0), .val (.int p1), .val (.int (4 : Int32)), .val (.int (b0_4 p1)), .val (.ref b8), .val (.ref s_FAMILY_NAME), .val (.ref s_WORKFORCE), .unset] [])) t
                refine XS.iloadN X738.here hx rfl (hb hby at_126) rfl ?_
                show Steps p.tables e below (T738.setTop (mkF m 127 #[.val (.int p0), .val (.int p1), .val (.int (4 : Int32)), .val (.int (b0_4 p1)), .val (.ref b8), .val (.ref s_FAMILY_NAME), .val (.ref s_WORKFORCE), .unset] [(.int (4 : Int32))])) t
                refine XS.bipush X738.here hx rfl (hb hby at_127) ?_
                show Steps p.tables e below (T738.setTop (mkF m 129 #[.val (.int p0), .val (.int p1), .val (.int (4 : Int32)), .val (.int (b0_4 p1)), .val (.ref b8), .val (.ref s_FAMILY_NAME), .val (.ref s_WORKFORCE), .unset] [(.int (8 : Int32)), (.int (4 : Int32))])) t
                refine XS.icmpNo X738.here hx rfl (hb hby at_129) rfl (XT.ii_eq_f (by decide : ¬ ((4 : Int32) = (8 : Int32)))) ?_
                show Steps p.tables e below (T738.setTop (mkF m 132 #[.val (.int p0), .val (.int p1), .val (.int (4 : Int32)), .val (.int (b0_4 p1)), .val (.ref b8), .val (.ref s_FAMILY_NAME), .val (.ref s_WORKFORCE), .unset] [])) t
                refine XS.iloadN X738.here hx rfl (hb hby at_132) rfl ?_
                show Steps p.tables e below (T738.setTop (mkF m 133 #[.val (.int p0), .val (.int p1), .val (.int (4 : Int32)), .val (.int (b0_4 p1)), .val (.ref b8), .val (.ref s_FAMILY_NAME), .val (.ref s_WORKFORCE), .unset] [(.int (4 : Int32))])) t
                refine XS.bipush X738.here hx rfl (hb hby at_133) ?_
                show Steps p.tables e below (T738.setTop (mkF m 135 #[.val (.int p0), .val (.int p1), .val (.int (4 : Int32)), .val (.int (b0_4 p1)), .val (.ref b8), .val (.ref s_FAMILY_NAME), .val (.ref s_WORKFORCE), .unset] [(.int (10 : Int32)), (.int (4 : Int32))])) t
                refine XS.icmpYes X738.here hx rfl (pc0 := 135) (pc' := 144) rfl (hb hby at_135) rfl (XT.ii_ne_t (by decide : ¬ ((4 : Int32) = (10 : Int32)))) (by decide) (by decide) ?_
                show Steps p.tables e below (T738.setTop (mkF m 144 #[.val (.int p0), .val (.int p1), .val (.int (4 : Int32)), .val (.int (b0_4 p1)), .val (.ref b8), .val (.ref s_FAMILY_NAME), .val (.ref s_WORKFORCE), .unset] [])) t
                refine XS.iloadN X738.here hx rfl (hb hby at_144) rfl ?_
                show Steps p.tables e below (T738.setTop (mkF m 145 #[.val (.int p0), .val (.int p1), .val (.int (4 : Int32)), .val (.int (b0_4 p1)), .val (.ref b8), .val (.ref s_FAMILY_NAME), .val (.ref s_WORKFORCE), .unset] [(.int (4 : Int32))])) t
                refine XS.bipush X738.here hx rfl (hb hby at_145) ?_
                show Steps p.tables e below (T738.setTop (mkF m 147 #[.val (.int p0), .val (.int p1), .val (.int (4 : Int32)), .val (.int (b0_4 p1)), .val (.ref b8), .val (.ref s_FAMILY_NAME), .val (.ref s_WORKFORCE), .unset] [(.int (9 : Int32)), (.int (4 : Int32))])) t
                refine XS.icmpYes X738.here hx rfl (pc0 := 147) (pc' := 164) rfl (hb hby at_147) rfl (XT.ii_ne_t (by decide : ¬ ((4 : Int32) = (9 : Int32)))) (by decide) (by decide) ?_
                show Steps p.tables e below (T738.setTop (mkF m 164 #[.val (.int p0), .val (.int p1), .val (.int (4 : Int32)), .val (.int (b0_4 p1)), .val (.ref b8), .val (.ref s_FAMILY_NAME), .val (.ref s_WORKFORCE), .unset] [])) t
                refine XS.iconst X738.here hx rfl (hb hby at_164) ?_
                show Steps p.tables e below (T738.setTop (mkF m 165 #[.val (.int p0), .val (.int p1), .val (.int (4 : Int32)), .val (.int (b0_4 p1)), .val (.ref b8), .val (.ref s_FAMILY_NAME), .val (.ref s_WORKFORCE), .unset] [(.int (1 : Int32))])) t
                refine XS.istore X738.here hx rfl (hb hby at_165) rfl (l' := #[.val (.int p0), .val (.int p1), .val (.int (4 : Int32)), .val (.int (b0_4 p1)), .val (.ref b8), .val (.ref s_FAMILY_NAME), .val (.ref s_WORKFORCE), .val (.int (1 : Int32))]) rfl ?_
                show Steps p.tables e below (T738.setTop (mkF m 167 #[.val (.int p0), .val (.int p1), .val (.int (4 : Int32)), .val (.int (b0_4 p1)), .val (.ref b8), .val (.ref s_FAMILY_NAME), .val (.ref s_WORKFORCE), .val (.int (1 : Int32))] [])) t
                refine XS.aload X738.here hx rfl (hb hby at_167) rfl rfl ?_
                show Steps p.tables e below (T738.setTop (mkF m 169 #[.val (.int p0), .val (.int p1), .val (.int (4 : Int32)), .val (.int (b0_4 p1)), .val (.ref b8), .val (.ref s_FAMILY_NAME), .val (.ref s_WORKFORCE), .val (.int (1 : Int32))] [(.ref s_FAMILY_NAME)])) t
                refine XS.aload X738.here hx rfl (hb hby at_169) rfl rfl ?_
                show Steps p.tables e below (T738.setTop (mkF m 171 #[.val (.int p0), .val (.int p1), .val (.int (4 : Int32)), .val (.int (b0_4 p1)), .val (.ref b8), .val (.ref s_FAMILY_NAME), .val (.ref s_WORKFORCE), .val (.int (1 : Int32))] [(.ref s_WORKFORCE), (.ref s_FAMILY_NAME)])) t
                exact k
              obtain ⟨cq741, kq741, q741a, q741b, q741c⟩ := isOf hZ e738 F621
              obtain ⟨_, _, ⟨T741, L741, k741, n741⟩, -, X741, ⟨Lc741, hQ741, l741, y741, z741⟩, st741⟩ := X738.virtualBack hx (y := (⟨"com/example/hauora_id/hauoraid/model/Claim", "heldIn", "(Lcom/example/hauora_id/hauoraid/model/Realm;)Z"⟩ : MethodName)) (z := (⟨"com/example/hauora_id/hauoraid/model/Claim", "heldIn", "(Lcom/example/hauora_id/hauoraid/model/Realm;)Z"⟩ : MethodName)) hown (mvT hZ (hw _ (List.mem_of_getElem? (i := 32) rfl))) (mvT hZ (hw _ (List.mem_of_getElem? (i := 33) rfl))) (notFace_of_selects (args := #[]) (mvT hZ (hw _ (List.mem_of_getElem? (i := 35) rfl)))) (mvT hZ (hw _ (List.mem_of_getElem? (i := 35) rfl))) (mvT hZ (hw _ (List.mem_of_getElem? (i := 34) rfl))) (by decide) (backOf (W := 0) (rm1n l Z aZ hw [] s_FAMILY_NAME s_WORKFORCE h609 n0 Zs609 F643) hZ (hw _ (List.mem_of_getElem? (i := 36) rfl)) (hw _ (List.mem_of_getElem? (i := 4) rfl)) (by decide) (by decide)) q741a q741c (g := (mkF m 171 #[.val (.int p0), .val (.int p1), .val (.int (4 : Int32)), .val (.int (b0_4 p1)), .val (.ref b8), .val (.ref s_FAMILY_NAME), .val (.ref s_WORKFORCE), .val (.int (1 : Int32))] [(.ref s_WORKFORCE), (.ref s_FAMILY_NAME)])) rfl (by rw [hml]; rfl) (Steps.refl _) (argsL := [(.ref s_WORKFORCE)]) (rest := []) (lenOf pd_15 rfl) rfl (by show 2 * 0 + _ ≤ _; exact Nat.le_of_eq rfl) (hb hby at_171) (fun _ _ => ⟨rfl, e738, (by decide : 1 + 0 ≤ _), (by decide : 12 + 0 ≤ _)⟩)
              dsimp only [Pt.U, Pt.locs, Pt.cells, Pt.slots] at X741 l741 y741 z741 st741 hQ741
              subst l741 y741 z741
              obtain ⟨rfl, N741q, e741⟩ := hQ741
              have N741 := Fr.app N609 N741q
              have go742 : ∀ t, Steps p.tables e below (T741.setTop (mkF m 174 #[.val (.int p0), .val (.int p1), .val (.int (4 : Int32)), .val (.int (b0_4 p1)), .val (.ref b8), .val (.ref s_FAMILY_NAME), .val (.ref s_WORKFORCE), .val (.int (1 : Int32))] [(.int (1 : Int32))])) t → Steps p.tables e below (s₁.setTop (entryFrame m #[(.int p0), (.int p1)] maxLocals)) t := fun t k => go740 _ (st741.trans k)
              have go743 : ∀ t, Steps p.tables e below (T741.setTop (mkF m 184 #[.val (.int p0), .val (.int p1), .val (.int (4 : Int32)), .val (.int (b0_4 p1)), .val (.ref b8), .val (.ref s_FAMILY_NAME), .val (.ref s_WORKFORCE), .val (.int (1 : Int32))] [(.int (1 : Int32))])) t → Steps p.tables e below (s₁.setTop (entryFrame m #[(.int p0), (.int p1)] maxLocals)) t := by
                intro t k
                refine go742 _ ?_
                refine XS.iload X741.here hx rfl (hb hby at_174) rfl ?_
                show Steps p.tables e below (T741.setTop (mkF m 176 #[.val (.int p0), .val (.int p1), .val (.int (4 : Int32)), .val (.int (b0_4 p1)), .val (.ref b8), .val (.ref s_FAMILY_NAME), .val (.ref s_WORKFORCE), .val (.int (1 : Int32))] [(.int (1 : Int32)), (.int (1 : Int32))])) t
                refine XS.icmpNo X741.here hx rfl (hb hby at_176) rfl (XT.ii_ne_f (by decide : ((1 : Int32) = (1 : Int32)))) ?_
                show Steps p.tables e below (T741.setTop (mkF m 179 #[.val (.int p0), .val (.int p1), .val (.int (4 : Int32)), .val (.int (b0_4 p1)), .val (.ref b8), .val (.ref s_FAMILY_NAME), .val (.ref s_WORKFORCE), .val (.int (1 : Int32))] [])) t
                refine XS.iconst X741.here hx rfl (hb hby at_179) ?_
                show Steps p.tables e below (T741.setTop (mkF m 180 #[.val (.int p0), .val (.int p1), .val (.int (4 : Int32)), .val (.int (b0_4 p1)), .val (.ref b8), .val (.ref s_FAMILY_NAME), .val (.ref s_WORKFORCE), .val (.int (1 : Int32))] [(.int (1 : Int32))])) t
                refine XS.goto X741.here hx rfl (pc0 := 180) (pc' := 184) rfl (hb hby at_180) (by decide) (by decide) ?_
                show Steps p.tables e below (T741.setTop (mkF m 184 #[.val (.int p0), .val (.int p1), .val (.int (4 : Int32)), .val (.int (b0_4 p1)), .val (.ref b8), .val (.ref s_FAMILY_NAME), .val (.ref s_WORKFORCE), .val (.int (1 : Int32))] [(.int (1 : Int32))])) t
                exact k
              obtain ⟨fs, hr, hrun, hended, hW, hsame⟩ := X741.leave (v := some (.int (1 : Int32))) (fun h => by rw [Bd.returns] at h; cases h)
              refine ⟨_, _, go743 _ (Jvm.RoadKit.retOut X741 hx Bd.returns rfl (Or.inl ⟨rfl, Or.inr (Or.inl rfl), _, rfl⟩) (hb hby at_184) hr), hrun, hended, _, _, rfl, ?_, ⟨_, rfl⟩, hW, hsame.mono (by decide) (by decide)⟩
              show Q0 _ _ p0 p1 s_SUB s_EMAIL s_GIVEN_NAME s_MIDDLE_NAME s_FAMILY_NAME s_NICKNAME s_BIRTHDATE s_MOBILE_NUMBER s_NHI s_CPN s_RELATIONSHIPS s_CONFIDENCE_LEVEL s_WORKFORCE s_CONSUMER h0 _ (T741.setFrames fs).heap _
              have hE : (T741.setFrames fs).heap = h609 := e741
              rw [hE]
              exact ⟨congrArg (fun z => some (Value.int z)) ((by rw [f0, if_neg hs656, if_neg hs675, if_neg hs694, if_neg hs713, if_pos hs732, if_pos hs736] : (1 : Int32) = (f0 p0 p1 s_WORKFORCE s_CONSUMER)).trans (f0_one p0 p1 s_WORKFORCE s_CONSUMER ne_CW)), N741⟩
            · have go744 : ∀ t, Steps p.tables e below (T609.setTop (mkF m 115 #[.val (.int p0), .val (.int p1), .val (.int (4 : Int32)), .val (.int (b0_4 p1)), .val (.ref b8), .val (.ref s_FAMILY_NAME), .unset, .unset] [])) t → Steps p.tables e below (s₁.setTop (entryFrame m #[(.int p0), (.int p1)] maxLocals)) t := by
                intro t k
                refine go735 _ ?_
                refine XS.ifNo X609.here hx rfl (hb hby at_112) rfl (XT.i0_eq_f hs736) ?_
                show Steps p.tables e below (T609.setTop (mkF m 115 #[.val (.int p0), .val (.int p1), .val (.int (4 : Int32)), .val (.int (b0_4 p1)), .val (.ref b8), .val (.ref s_FAMILY_NAME), .unset, .unset] [])) t
                exact k
              obtain ⟨T745, X745, e745, st745⟩ := getS2 X609 hx hZ hown (host := "") (Or.inl (hw _ (List.mem_of_getElem? (i := 39) rfl))) Via.refl e609 F640 (g := (mkF m 115 #[.val (.int p0), .val (.int p1), .val (.int (4 : Int32)), .val (.int (b0_4 p1)), .val (.ref b8), .val (.ref s_FAMILY_NAME), .unset, .unset] [])) rfl (hb hby at_115)
              have go746 : ∀ t, Steps p.tables e below (T745.setTop (mkF m 118 #[.val (.int p0), .val (.int p1), .val (.int (4 : Int32)), .val (.int (b0_4 p1)), .val (.ref b8), .val (.ref s_FAMILY_NAME), .unset, .unset] [(.ref s_CONSUMER)])) t → Steps p.tables e below (s₁.setTop (entryFrame m #[(.int p0), (.int p1)] maxLocals)) t := fun t k => go744 _ (st745 _ k)
              have go747 : ∀ t, Steps p.tables e below (T745.setTop (mkF m 171 #[.val (.int p0), .val (.int p1), .val (.int (4 : Int32)), .val (.int (b0_4 p1)), .val (.ref b8), .val (.ref s_FAMILY_NAME), .val (.ref s_CONSUMER), .val (.int (1 : Int32))] [(.ref s_CONSUMER), (.ref s_FAMILY_NAME)])) t → Steps p.tables e below (s₁.setTop (entryFrame m #[(.int p0), (.int p1)] maxLocals)) t := by
                intro t k
                refine go746 _ ?_
                refine XS.goto X745.here hx rfl (pc0 := 118) (pc' := 124) rfl (hb hby at_118) (by decide) (by decide) ?_
                show Steps p.tables e below (T745.setTop (mkF m 124 #[.val (.int p0), .val (.int p1), .val (.int (4 : Int32)), .val (.int (b0_4 p1)), .val (.ref b8), .val (.ref s_FAMILY_NAME), .unset, .unset] [(.ref s_CONSUMER)])) t
                refine XS.astore X745.here hx rfl (hb hby at_124) rfl rfl (l' := #[.val (.int p0), .val (.int p1), .val (.int (4 : Int32)), .val (.int (b0_4 p1)), .val (.ref b8), .val (.ref s_FAMILY_NAME), .val (.ref s_CONSUMER), .unset]) rfl ?_
                show Steps p.tables e below (T745.setTop (mkF m 126 #[.val (.int p0), .val (.int p1), .val (.int (4 : Int32)), .val (.int (b0_4 p1)), .val (.ref b8), .val (.ref s_FAMILY_NAME), .val (.ref s_CONSUMER), .unset] [])) t
                refine XS.iloadN X745.here hx rfl (hb hby at_126) rfl ?_
                show Steps p.tables e below (T745.setTop (mkF m 127 #[.val (.int p0), .val (.int p1), .val (.int (4 : Int32)), .val (.int (b0_4 p1)), .val (.ref b8), .val (.ref s_FAMILY_NAME), .val (.ref s_CONSUMER), .unset] [(.int (4 : Int32))])) t
                refine XS.bipush X745.here hx rfl (hb hby at_127) ?_
                show Steps p.tables e below (T745.setTop (mkF m 129 #[.val (.int p0), .val (.int p1), .val (.int (4 : Int32)), .val (.int (b0_4 p1)), .val (.ref b8), .val (.ref s_FAMILY_NAME), .val (.ref s_CONSUMER), .unset] [(.int (8 : Int32)), (.int (4 : Int32))])) t
                refine XS.icmpNo X745.here hx rfl (hb hby at_129) rfl (XT.ii_eq_f (by decide : ¬ ((4 : Int32) = (8 : Int32)))) ?_
                show Steps p.tables e below (T745.setTop (mkF m 132 #[.val (.int p0), .val (.int p1), .val (.int (4 : Int32)), .val (.int (b0_4 p1)), .val (.ref b8), .val (.ref s_FAMILY_NAME), .val (.ref s_CONSUMER), .unset] [])) t
                refine XS.iloadN X745.here hx rfl (hb hby at_132) rfl ?_
                show Steps p.tables e below (T745.setTop (mkF m 133 #[.val (.int p0), .val (.int p1), .val (.int (4 : Int32)), .val (.int (b0_4 p1)), .val (.ref b8), .val (.ref s_FAMILY_NAME), .val (.ref s_CONSUMER), .unset] [(.int (4 : Int32))])) t
                refine XS.bipush X745.here hx rfl (hb hby at_133) ?_
                show Steps p.tables e below (T745.setTop (mkF m 135 #[.val (.int p0), .val (.int p1), .val (.int (4 : Int32)), .val (.int (b0_4 p1)), .val (.ref b8), .val (.ref s_FAMILY_NAME), .val (.ref s_CONSUMER), .unset] [(.int (10 : Int32)), (.int (4 : Int32))])) t
                refine XS.icmpYes X745.here hx rfl (pc0 := 135) (pc' := 144) rfl (hb hby at_135) rfl (XT.ii_ne_t (by decide : ¬ ((4 : Int32) = (10 : Int32)))) (by decide) (by decide) ?_
                show Steps p.tables e below (T745.setTop (mkF m 144 #[.val (.int p0), .val (.int p1), .val (.int (4 : Int32)), .val (.int (b0_4 p1)), .val (.ref b8), .val (.ref s_FAMILY_NAME), .val (.ref s_CONSUMER), .unset] [])) t
                refine XS.iloadN X745.here hx rfl (hb hby at_144) rfl ?_
                show Steps p.tables e below (T745.setTop (mkF m 145 #[.val (.int p0), .val (.int p1), .val (.int (4 : Int32)), .val (.int (b0_4 p1)), .val (.ref b8), .val (.ref s_FAMILY_NAME), .val (.ref s_CONSUMER), .unset] [(.int (4 : Int32))])) t
                refine XS.bipush X745.here hx rfl (hb hby at_145) ?_
                show Steps p.tables e below (T745.setTop (mkF m 147 #[.val (.int p0), .val (.int p1), .val (.int (4 : Int32)), .val (.int (b0_4 p1)), .val (.ref b8), .val (.ref s_FAMILY_NAME), .val (.ref s_CONSUMER), .unset] [(.int (9 : Int32)), (.int (4 : Int32))])) t
                refine XS.icmpYes X745.here hx rfl (pc0 := 147) (pc' := 164) rfl (hb hby at_147) rfl (XT.ii_ne_t (by decide : ¬ ((4 : Int32) = (9 : Int32)))) (by decide) (by decide) ?_
                show Steps p.tables e below (T745.setTop (mkF m 164 #[.val (.int p0), .val (.int p1), .val (.int (4 : Int32)), .val (.int (b0_4 p1)), .val (.ref b8), .val (.ref s_FAMILY_NAME), .val (.ref s_CONSUMER), .unset] [])) t
                refine XS.iconst X745.here hx rfl (hb hby at_164) ?_
                show Steps p.tables e below (T745.setTop (mkF m 165 #[.val (.int p0), .val (.int p1), .val (.int (4 : Int32)), .val (.int (b0_4 p1)), .val (.ref b8), .val (.ref s_FAMILY_NAME), .val (.ref s_CONSUMER), .unset] [(.int (1 : Int32))])) t
                refine XS.istore X745.here hx rfl (hb hby at_165) rfl (l' := #[.val (.int p0), .val (.int p1), .val (.int (4 : Int32)), .val (.int (b0_4 p1)), .val (.ref b8), .val (.ref s_FAMILY_NAME), .val (.ref s_CONSUMER), .val (.int (1 : Int32))]) rfl ?_
                show Steps p.tables e below (T745.setTop (mkF m 167 #[.val (.int p0), .val (.int p1), .val (.int (4 : Int32)), .val (.int (b0_4 p1)), .val (.ref b8), .val (.ref s_FAMILY_NAME), .val (.ref s_CONSUMER), .val (.int (1 : Int32))] [])) t
                refine XS.aload X745.here hx rfl (hb hby at_167) rfl rfl ?_
                show Steps p.tables e below (T745.setTop (mkF m 169 #[.val (.int p0), .val (.int p1), .val (.int (4 : Int32)), .val (.int (b0_4 p1)), .val (.ref b8), .val (.ref s_FAMILY_NAME), .val (.ref s_CONSUMER), .val (.int (1 : Int32))] [(.ref s_FAMILY_NAME)])) t
                refine XS.aload X745.here hx rfl (hb hby at_169) rfl rfl ?_
                show Steps p.tables e below (T745.setTop (mkF m 171 #[.val (.int p0), .val (.int p1), .val (.int (4 : Int32)), .val (.int (b0_4 p1)), .val (.ref b8), .val (.ref s_FAMILY_NAME), .val (.ref s_CONSUMER), .val (.int (1 : Int32))] [(.ref s_CONSUMER), (.ref s_FAMILY_NAME)])) t
                exact k
              obtain ⟨cq748, kq748, q748a, q748b, q748c⟩ := isOf hZ e745 F621
              obtain ⟨_, _, ⟨T748, L748, k748, n748⟩, -, X748, ⟨Lc748, hQ748, l748, y748, z748⟩, st748⟩ := X745.virtualBack hx (y := (⟨"com/example/hauora_id/hauoraid/model/Claim", "heldIn", "(Lcom/example/hauora_id/hauoraid/model/Realm;)Z"⟩ : MethodName)) (z := (⟨"com/example/hauora_id/hauoraid/model/Claim", "heldIn", "(Lcom/example/hauora_id/hauoraid/model/Realm;)Z"⟩ : MethodName)) hown (mvT hZ (hw _ (List.mem_of_getElem? (i := 32) rfl))) (mvT hZ (hw _ (List.mem_of_getElem? (i := 33) rfl))) (notFace_of_selects (args := #[]) (mvT hZ (hw _ (List.mem_of_getElem? (i := 35) rfl)))) (mvT hZ (hw _ (List.mem_of_getElem? (i := 35) rfl))) (mvT hZ (hw _ (List.mem_of_getElem? (i := 34) rfl))) (by decide) (backOf (W := 0) (rm1n l Z aZ hw [] s_FAMILY_NAME s_CONSUMER h609 n0 Zs609 F643) hZ (hw _ (List.mem_of_getElem? (i := 36) rfl)) (hw _ (List.mem_of_getElem? (i := 4) rfl)) (by decide) (by decide)) q748a q748c (g := (mkF m 171 #[.val (.int p0), .val (.int p1), .val (.int (4 : Int32)), .val (.int (b0_4 p1)), .val (.ref b8), .val (.ref s_FAMILY_NAME), .val (.ref s_CONSUMER), .val (.int (1 : Int32))] [(.ref s_CONSUMER), (.ref s_FAMILY_NAME)])) rfl (by rw [hml]; rfl) (Steps.refl _) (argsL := [(.ref s_CONSUMER)]) (rest := []) (lenOf pd_15 rfl) rfl (by show 2 * 0 + _ ≤ _; exact Nat.le_of_eq rfl) (hb hby at_171) (fun _ _ => ⟨rfl, e745, (by decide : 1 + 0 ≤ _), (by decide : 12 + 0 ≤ _)⟩)
              dsimp only [Pt.U, Pt.locs, Pt.cells, Pt.slots] at X748 l748 y748 z748 st748 hQ748
              subst l748 y748 z748
              obtain ⟨rfl, N748q, e748⟩ := hQ748
              have N748 := Fr.app N609 N748q
              have go749 : ∀ t, Steps p.tables e below (T748.setTop (mkF m 174 #[.val (.int p0), .val (.int p1), .val (.int (4 : Int32)), .val (.int (b0_4 p1)), .val (.ref b8), .val (.ref s_FAMILY_NAME), .val (.ref s_CONSUMER), .val (.int (1 : Int32))] [(.int (1 : Int32))])) t → Steps p.tables e below (s₁.setTop (entryFrame m #[(.int p0), (.int p1)] maxLocals)) t := fun t k => go747 _ (st748.trans k)
              have go750 : ∀ t, Steps p.tables e below (T748.setTop (mkF m 184 #[.val (.int p0), .val (.int p1), .val (.int (4 : Int32)), .val (.int (b0_4 p1)), .val (.ref b8), .val (.ref s_FAMILY_NAME), .val (.ref s_CONSUMER), .val (.int (1 : Int32))] [(.int (1 : Int32))])) t → Steps p.tables e below (s₁.setTop (entryFrame m #[(.int p0), (.int p1)] maxLocals)) t := by
                intro t k
                refine go749 _ ?_
                refine XS.iload X748.here hx rfl (hb hby at_174) rfl ?_
                show Steps p.tables e below (T748.setTop (mkF m 176 #[.val (.int p0), .val (.int p1), .val (.int (4 : Int32)), .val (.int (b0_4 p1)), .val (.ref b8), .val (.ref s_FAMILY_NAME), .val (.ref s_CONSUMER), .val (.int (1 : Int32))] [(.int (1 : Int32)), (.int (1 : Int32))])) t
                refine XS.icmpNo X748.here hx rfl (hb hby at_176) rfl (XT.ii_ne_f (by decide : ((1 : Int32) = (1 : Int32)))) ?_
                show Steps p.tables e below (T748.setTop (mkF m 179 #[.val (.int p0), .val (.int p1), .val (.int (4 : Int32)), .val (.int (b0_4 p1)), .val (.ref b8), .val (.ref s_FAMILY_NAME), .val (.ref s_CONSUMER), .val (.int (1 : Int32))] [])) t
                refine XS.iconst X748.here hx rfl (hb hby at_179) ?_
                show Steps p.tables e below (T748.setTop (mkF m 180 #[.val (.int p0), .val (.int p1), .val (.int (4 : Int32)), .val (.int (b0_4 p1)), .val (.ref b8), .val (.ref s_FAMILY_NAME), .val (.ref s_CONSUMER), .val (.int (1 : Int32))] [(.int (1 : Int32))])) t
                refine XS.goto X748.here hx rfl (pc0 := 180) (pc' := 184) rfl (hb hby at_180) (by decide) (by decide) ?_
                show Steps p.tables e below (T748.setTop (mkF m 184 #[.val (.int p0), .val (.int p1), .val (.int (4 : Int32)), .val (.int (b0_4 p1)), .val (.ref b8), .val (.ref s_FAMILY_NAME), .val (.ref s_CONSUMER), .val (.int (1 : Int32))] [(.int (1 : Int32))])) t
                exact k
              obtain ⟨fs, hr, hrun, hended, hW, hsame⟩ := X748.leave (v := some (.int (1 : Int32))) (fun h => by rw [Bd.returns] at h; cases h)
              refine ⟨_, _, go750 _ (Jvm.RoadKit.retOut X748 hx Bd.returns rfl (Or.inl ⟨rfl, Or.inr (Or.inl rfl), _, rfl⟩) (hb hby at_184) hr), hrun, hended, _, _, rfl, ?_, ⟨_, rfl⟩, hW, hsame.mono (by decide) (by decide)⟩
              show Q0 _ _ p0 p1 s_SUB s_EMAIL s_GIVEN_NAME s_MIDDLE_NAME s_FAMILY_NAME s_NICKNAME s_BIRTHDATE s_MOBILE_NUMBER s_NHI s_CPN s_RELATIONSHIPS s_CONFIDENCE_LEVEL s_WORKFORCE s_CONSUMER h0 _ (T748.setFrames fs).heap _
              have hE : (T748.setFrames fs).heap = h609 := e748
              rw [hE]
              exact ⟨congrArg (fun z => some (Value.int z)) ((by rw [f0, if_neg hs656, if_neg hs675, if_neg hs694, if_neg hs713, if_pos hs732, if_neg hs736] : (1 : Int32) = (f0 p0 p1 s_WORKFORCE s_CONSUMER)).trans (f0_one p0 p1 s_WORKFORCE s_CONSUMER ne_CW)), N748⟩
          · by_cases hs751 : (v0_1 p0) = (5 : Int32)
            · have go752 : ∀ t, Steps p.tables e below (T609.setTop (mkF m 108 #[.val (.int p0), .val (.int p1), .val (.int (5 : Int32)), .val (.int (b0_4 p1)), .val (.ref b8), .unset, .unset, .unset] [(.int (5 : Int32)), (.ref b8)])) t → Steps p.tables e below (s₁.setTop (entryFrame m #[(.int p0), (.int p1)] maxLocals)) t := by
                have q := go655
                rw [hs751] at q
                exact q
              obtain ⟨cl753, Ar753, q753, S753, N753, H753, G753⟩ := id F654
              have go754 : ∀ t, Steps p.tables e below (T609.setTop (mkF m 112 #[.val (.int p0), .val (.int p1), .val (.int (5 : Int32)), .val (.int (b0_4 p1)), .val (.ref b8), .val (.ref s_NICKNAME), .unset, .unset] [(.int (b0_4 p1))])) t → Steps p.tables e below (s₁.setTop (entryFrame m #[(.int p0), (.int p1)] maxLocals)) t := by
                intro t k
                refine go752 _ ?_
                refine X609.aaload hx (j := (5 : Int32)) (v := (.ref s_NICKNAME)) (by rw [e609]; exact Ar753.1) (State.isArrayOf_alike hZ.alike Ar753.2.1) rfl Ar753.2.2 (inb_of S753 ⟨by decide, by decide⟩) (Has.at H753 (inb_of S753 ⟨by decide, by decide⟩) rfl) (g := (mkF m 108 #[.val (.int p0), .val (.int p1), .val (.int (5 : Int32)), .val (.int (b0_4 p1)), .val (.ref b8), .unset, .unset, .unset] [(.int (5 : Int32)), (.ref b8)])) rfl rfl (hb hby at_108) _ ?_
                show Steps p.tables e below (T609.setTop (mkF m 109 #[.val (.int p0), .val (.int p1), .val (.int (5 : Int32)), .val (.int (b0_4 p1)), .val (.ref b8), .unset, .unset, .unset] [(.ref s_NICKNAME)])) t
                refine XS.astore X609.here hx rfl (hb hby at_109) rfl rfl (l' := #[.val (.int p0), .val (.int p1), .val (.int (5 : Int32)), .val (.int (b0_4 p1)), .val (.ref b8), .val (.ref s_NICKNAME), .unset, .unset]) rfl ?_
                show Steps p.tables e below (T609.setTop (mkF m 111 #[.val (.int p0), .val (.int p1), .val (.int (5 : Int32)), .val (.int (b0_4 p1)), .val (.ref b8), .val (.ref s_NICKNAME), .unset, .unset] [])) t
                refine XS.iloadN X609.here hx rfl (hb hby at_111) rfl ?_
                show Steps p.tables e below (T609.setTop (mkF m 112 #[.val (.int p0), .val (.int p1), .val (.int (5 : Int32)), .val (.int (b0_4 p1)), .val (.ref b8), .val (.ref s_NICKNAME), .unset, .unset] [(.int (b0_4 p1))])) t
                exact k
              by_cases hs755 : (b0_4 p1) = (0 : Int32)
              · have go756 : ∀ t, Steps p.tables e below (T609.setTop (mkF m 121 #[.val (.int p0), .val (.int p1), .val (.int (5 : Int32)), .val (.int (b0_4 p1)), .val (.ref b8), .val (.ref s_NICKNAME), .unset, .unset] [])) t → Steps p.tables e below (s₁.setTop (entryFrame m #[(.int p0), (.int p1)] maxLocals)) t := by
                  intro t k
                  refine go754 _ ?_
                  refine XS.ifYes X609.here hx rfl (pc0 := 112) (pc' := 121) rfl (hb hby at_112) rfl (XT.i0_eq_t hs755) (by decide) (by decide) ?_
                  show Steps p.tables e below (T609.setTop (mkF m 121 #[.val (.int p0), .val (.int p1), .val (.int (5 : Int32)), .val (.int (b0_4 p1)), .val (.ref b8), .val (.ref s_NICKNAME), .unset, .unset] [])) t
                  exact k
                obtain ⟨T757, X757, e757, st757⟩ := getS2 X609 hx hZ hown (host := "") (Or.inl (hw _ (List.mem_of_getElem? (i := 29) rfl))) Via.refl e609 F636 (g := (mkF m 121 #[.val (.int p0), .val (.int p1), .val (.int (5 : Int32)), .val (.int (b0_4 p1)), .val (.ref b8), .val (.ref s_NICKNAME), .unset, .unset] [])) rfl (hb hby at_121)
                have go758 : ∀ t, Steps p.tables e below (T757.setTop (mkF m 124 #[.val (.int p0), .val (.int p1), .val (.int (5 : Int32)), .val (.int (b0_4 p1)), .val (.ref b8), .val (.ref s_NICKNAME), .unset, .unset] [(.ref s_WORKFORCE)])) t → Steps p.tables e below (s₁.setTop (entryFrame m #[(.int p0), (.int p1)] maxLocals)) t := fun t k => go756 _ (st757 _ k)
                have go759 : ∀ t, Steps p.tables e below (T757.setTop (mkF m 171 #[.val (.int p0), .val (.int p1), .val (.int (5 : Int32)), .val (.int (b0_4 p1)), .val (.ref b8), .val (.ref s_NICKNAME), .val (.ref s_WORKFORCE), .val (.int (1 : Int32))] [(.ref s_WORKFORCE), (.ref s_NICKNAME)])) t → Steps p.tables e below (s₁.setTop (entryFrame m #[(.int p0), (.int p1)] maxLocals)) t := by
                  intro t k
                  refine go758 _ ?_
                  refine XS.astore X757.here hx rfl (hb hby at_124) rfl rfl (l' := #[.val (.int p0), .val (.int p1), .val (.int (5 : Int32)), .val (.int (b0_4 p1)), .val (.ref b8), .val (.ref s_NICKNAME), .val (.ref s_WORKFORCE), .unset]) rfl ?_
                  show Steps p.tables e below (T757.setTop (mkF m 126 #[.val (.int p0), .val (.int p1), .val (.int (5 : Int32)), .val (.int (b0_4 p1)), .val (.ref b8), .val (.ref s_NICKNAME), .val (.ref s_WORKFORCE), .unset] [])) t
                  refine XS.iloadN X757.here hx rfl (hb hby at_126) rfl ?_
                  show Steps p.tables e below (T757.setTop (mkF m 127 #[.val (.int p0), .val (.int p1), .val (.int (5 : Int32)), .val (.int (b0_4 p1)), .val (.ref b8), .val (.ref s_NICKNAME), .val (.ref s_WORKFORCE), .unset] [(.int (5 : Int32))])) t
                  refine XS.bipush X757.here hx rfl (hb hby at_127) ?_
                  show Steps p.tables e below (T757.setTop (mkF m 129 #[.val (.int p0), .val (.int p1), .val (.int (5 : Int32)), .val (.int (b0_4 p1)), .val (.ref b8), .val (.ref s_NICKNAME), .val (.ref s_WORKFORCE), .unset] [(.int (8 : Int32)), (.int (5 : Int32))])) t
                  refine XS.icmpNo X757.here hx rfl (hb hby at_129) rfl (XT.ii_eq_f (by decide : ¬ ((5 : Int32) = (8 : Int32)))) ?_
                  show Steps p.tables e below (T757.setTop (mkF m 132 #[.val (.int p0), .val (.int p1), .val (.int (5 : Int32)), .val (.int (b0_4 p1)), .val (.ref b8), .val (.ref s_NICKNAME), .val (.ref s_WORKFORCE), .unset] [])) t
                  refine XS.iloadN X757.here hx rfl (hb hby at_132) rfl ?_
                  show Steps p.tables e below (T757.setTop (mkF m 133 #[.val (.int p0), .val (.int p1), .val (.int (5 : Int32)), .val (.int (b0_4 p1)), .val (.ref b8), .val (.ref s_NICKNAME), .val (.ref s_WORKFORCE), .unset] [(.int (5 : Int32))])) t
                  refine XS.bipush X757.here hx rfl (hb hby at_133) ?_
                  show Steps p.tables e below (T757.setTop (mkF m 135 #[.val (.int p0), .val (.int p1), .val (.int (5 : Int32)), .val (.int (b0_4 p1)), .val (.ref b8), .val (.ref s_NICKNAME), .val (.ref s_WORKFORCE), .unset] [(.int (10 : Int32)), (.int (5 : Int32))])) t
                  refine XS.icmpYes X757.here hx rfl (pc0 := 135) (pc' := 144) rfl (hb hby at_135) rfl (XT.ii_ne_t (by decide : ¬ ((5 : Int32) = (10 : Int32)))) (by decide) (by decide) ?_
                  show Steps p.tables e below (T757.setTop (mkF m 144 #[.val (.int p0), .val (.int p1), .val (.int (5 : Int32)), .val (.int (b0_4 p1)), .val (.ref b8), .val (.ref s_NICKNAME), .val (.ref s_WORKFORCE), .unset] [])) t
                  refine XS.iloadN X757.here hx rfl (hb hby at_144) rfl ?_
                  show Steps p.tables e below (T757.setTop (mkF m 145 #[.val (.int p0), .val (.int p1), .val (.int (5 : Int32)), .val (.int (b0_4 p1)), .val (.ref b8), .val (.ref s_NICKNAME), .val (.ref s_WORKFORCE), .unset] [(.int (5 : Int32))])) t
                  refine XS.bipush X757.here hx rfl (hb hby at_145) ?_
                  show Steps p.tables e below (T757.setTop (mkF m 147 #[.val (.int p0), .val (.int p1), .val (.int (5 : Int32)), .val (.int (b0_4 p1)), .val (.ref b8), .val (.ref s_NICKNAME), .val (.ref s_WORKFORCE), .unset] [(.int (9 : Int32)), (.int (5 : Int32))])) t
                  refine XS.icmpYes X757.here hx rfl (pc0 := 147) (pc' := 164) rfl (hb hby at_147) rfl (XT.ii_ne_t (by decide : ¬ ((5 : Int32) = (9 : Int32)))) (by decide) (by decide) ?_
                  show Steps p.tables e below (T757.setTop (mkF m 164 #[.val (.int p0), .val (.int p1), .val (.int (5 : Int32)), .val (.int (b0_4 p1)), .val (.ref b8), .val (.ref s_NICKNAME), .val (.ref s_WORKFORCE), .unset] [])) t
                  refine XS.iconst X757.here hx rfl (hb hby at_164) ?_
                  show Steps p.tables e below (T757.setTop (mkF m 165 #[.val (.int p0), .val (.int p1), .val (.int (5 : Int32)), .val (.int (b0_4 p1)), .val (.ref b8), .val (.ref s_NICKNAME), .val (.ref s_WORKFORCE), .unset] [(.int (1 : Int32))])) t
                  refine XS.istore X757.here hx rfl (hb hby at_165) rfl (l' := #[.val (.int p0), .val (.int p1), .val (.int (5 : Int32)), .val (.int (b0_4 p1)), .val (.ref b8), .val (.ref s_NICKNAME), .val (.ref s_WORKFORCE), .val (.int (1 : Int32))]) rfl ?_
                  show Steps p.tables e below (T757.setTop (mkF m 167 #[.val (.int p0), .val (.int p1), .val (.int (5 : Int32)), .val (.int (b0_4 p1)), .val (.ref b8), .val (.ref s_NICKNAME), .val (.ref s_WORKFORCE), .val (.int (1 : Int32))] [])) t
                  refine XS.aload X757.here hx rfl (hb hby at_167) rfl rfl ?_
                  show Steps p.tables e below (T757.setTop (mkF m 169 #[.val (.int p0), .val (.int p1), .val (.int (5 : Int32)), .val (.int (b0_4 p1)), .val (.ref b8), .val (.ref s_NICKNAME), .val (.ref s_WORKFORCE), .val (.int (1 : Int32))] [(.ref s_NICKNAME)])) t
                  refine XS.aload X757.here hx rfl (hb hby at_169) rfl rfl ?_
                  show Steps p.tables e below (T757.setTop (mkF m 171 #[.val (.int p0), .val (.int p1), .val (.int (5 : Int32)), .val (.int (b0_4 p1)), .val (.ref b8), .val (.ref s_NICKNAME), .val (.ref s_WORKFORCE), .val (.int (1 : Int32))] [(.ref s_WORKFORCE), (.ref s_NICKNAME)])) t
                  exact k
                obtain ⟨cq760, kq760, q760a, q760b, q760c⟩ := isOf hZ e757 F623
                obtain ⟨_, _, ⟨T760, L760, k760, n760⟩, -, X760, ⟨Lc760, hQ760, l760, y760, z760⟩, st760⟩ := X757.virtualBack hx (y := (⟨"com/example/hauora_id/hauoraid/model/Claim", "heldIn", "(Lcom/example/hauora_id/hauoraid/model/Realm;)Z"⟩ : MethodName)) (z := (⟨"com/example/hauora_id/hauoraid/model/Claim", "heldIn", "(Lcom/example/hauora_id/hauoraid/model/Realm;)Z"⟩ : MethodName)) hown (mvT hZ (hw _ (List.mem_of_getElem? (i := 32) rfl))) (mvT hZ (hw _ (List.mem_of_getElem? (i := 33) rfl))) (notFace_of_selects (args := #[]) (mvT hZ (hw _ (List.mem_of_getElem? (i := 35) rfl)))) (mvT hZ (hw _ (List.mem_of_getElem? (i := 35) rfl))) (mvT hZ (hw _ (List.mem_of_getElem? (i := 34) rfl))) (by decide) (backOf (W := 0) (rm1n l Z aZ hw [] s_NICKNAME s_WORKFORCE h609 n0 Zs609 F653) hZ (hw _ (List.mem_of_getElem? (i := 36) rfl)) (hw _ (List.mem_of_getElem? (i := 4) rfl)) (by decide) (by decide)) q760a q760c (g := (mkF m 171 #[.val (.int p0), .val (.int p1), .val (.int (5 : Int32)), .val (.int (b0_4 p1)), .val (.ref b8), .val (.ref s_NICKNAME), .val (.ref s_WORKFORCE), .val (.int (1 : Int32))] [(.ref s_WORKFORCE), (.ref s_NICKNAME)])) rfl (by rw [hml]; rfl) (Steps.refl _) (argsL := [(.ref s_WORKFORCE)]) (rest := []) (lenOf pd_15 rfl) rfl (by show 2 * 0 + _ ≤ _; exact Nat.le_of_eq rfl) (hb hby at_171) (fun _ _ => ⟨rfl, e757, (by decide : 1 + 0 ≤ _), (by decide : 12 + 0 ≤ _)⟩)
                dsimp only [Pt.U, Pt.locs, Pt.cells, Pt.slots] at X760 l760 y760 z760 st760 hQ760
                subst l760 y760 z760
                obtain ⟨rfl, N760q, e760⟩ := hQ760
                have N760 := Fr.app N609 N760q
                have go761 : ∀ t, Steps p.tables e below (T760.setTop (mkF m 174 #[.val (.int p0), .val (.int p1), .val (.int (5 : Int32)), .val (.int (b0_4 p1)), .val (.ref b8), .val (.ref s_NICKNAME), .val (.ref s_WORKFORCE), .val (.int (1 : Int32))] [(.int (1 : Int32))])) t → Steps p.tables e below (s₁.setTop (entryFrame m #[(.int p0), (.int p1)] maxLocals)) t := fun t k => go759 _ (st760.trans k)
                have go762 : ∀ t, Steps p.tables e below (T760.setTop (mkF m 184 #[.val (.int p0), .val (.int p1), .val (.int (5 : Int32)), .val (.int (b0_4 p1)), .val (.ref b8), .val (.ref s_NICKNAME), .val (.ref s_WORKFORCE), .val (.int (1 : Int32))] [(.int (1 : Int32))])) t → Steps p.tables e below (s₁.setTop (entryFrame m #[(.int p0), (.int p1)] maxLocals)) t := by
                  intro t k
                  refine go761 _ ?_
                  refine XS.iload X760.here hx rfl (hb hby at_174) rfl ?_
                  show Steps p.tables e below (T760.setTop (mkF m 176 #[.val (.int p0), .val (.int p1), .val (.int (5 : Int32)), .val (.int (b0_4 p1)), .val (.ref b8), .val (.ref s_NICKNAME), .val (.ref s_WORKFORCE), .val (.int (1 : Int32))] [(.int (1 : Int32)), (.int (1 : Int32))])) t
                  refine XS.icmpNo X760.here hx rfl (hb hby at_176) rfl (XT.ii_ne_f (by decide : ((1 : Int32) = (1 : Int32)))) ?_
                  show Steps p.tables e below (T760.setTop (mkF m 179 #[.val (.int p0), .val (.int p1), .val (.int (5 : Int32)), .val (.int (b0_4 p1)), .val (.ref b8), .val (.ref s_NICKNAME), .val (.ref s_WORKFORCE), .val (.int (1 : Int32))] [])) t
                  refine XS.iconst X760.here hx rfl (hb hby at_179) ?_
                  show Steps p.tables e below (T760.setTop (mkF m 180 #[.val (.int p0), .val (.int p1), .val (.int (5 : Int32)), .val (.int (b0_4 p1)), .val (.ref b8), .val (.ref s_NICKNAME), .val (.ref s_WORKFORCE), .val (.int (1 : Int32))] [(.int (1 : Int32))])) t
                  refine XS.goto X760.here hx rfl (pc0 := 180) (pc' := 184) rfl (hb hby at_180) (by decide) (by decide) ?_
                  show Steps p.tables e below (T760.setTop (mkF m 184 #[.val (.int p0), .val (.int p1), .val (.int (5 : Int32)), .val (.int (b0_4 p1)), .val (.ref b8), .val (.ref s_NICKNAME), .val (.ref s_WORKFORCE), .val (.int (1 : Int32))] [(.int (1 : Int32))])) t
                  exact k
                obtain ⟨fs, hr, hrun, hended, hW, hsame⟩ := X760.leave (v := some (.int (1 : Int32))) (fun h => by rw [Bd.returns] at h; cases h)
                refine ⟨_, _, go762 _ (Jvm.RoadKit.retOut X760 hx Bd.returns rfl (Or.inl ⟨rfl, Or.inr (Or.inl rfl), _, rfl⟩) (hb hby at_184) hr), hrun, hended, _, _, rfl, ?_, ⟨_, rfl⟩, hW, hsame.mono (by decide) (by decide)⟩
                show Q0 _ _ p0 p1 s_SUB s_EMAIL s_GIVEN_NAME s_MIDDLE_NAME s_FAMILY_NAME s_NICKNAME s_BIRTHDATE s_MOBILE_NUMBER s_NHI s_CPN s_RELATIONSHIPS s_CONFIDENCE_LEVEL s_WORKFORCE s_CONSUMER h0 _ (T760.setFrames fs).heap _
                have hE : (T760.setFrames fs).heap = h609 := e760
                rw [hE]
                exact ⟨congrArg (fun z => some (Value.int z)) ((by rw [f0, if_neg hs656, if_neg hs675, if_neg hs694, if_neg hs713, if_neg hs732, if_pos hs751, if_pos hs755] : (1 : Int32) = (f0 p0 p1 s_WORKFORCE s_CONSUMER)).trans (f0_one p0 p1 s_WORKFORCE s_CONSUMER ne_CW)), N760⟩
              · have go763 : ∀ t, Steps p.tables e below (T609.setTop (mkF m 115 #[.val (.int p0), .val (.int p1), .val (.int (5 : Int32)), .val (.int (b0_4 p1)), .val (.ref b8), .val (.ref s_NICKNAME), .unset, .unset] [])) t → Steps p.tables e below (s₁.setTop (entryFrame m #[(.int p0), (.int p1)] maxLocals)) t := by
                  intro t k
                  refine go754 _ ?_
                  refine XS.ifNo X609.here hx rfl (hb hby at_112) rfl (XT.i0_eq_f hs755) ?_
                  show Steps p.tables e below (T609.setTop (mkF m 115 #[.val (.int p0), .val (.int p1), .val (.int (5 : Int32)), .val (.int (b0_4 p1)), .val (.ref b8), .val (.ref s_NICKNAME), .unset, .unset] [])) t
                  exact k
                obtain ⟨T764, X764, e764, st764⟩ := getS2 X609 hx hZ hown (host := "") (Or.inl (hw _ (List.mem_of_getElem? (i := 39) rfl))) Via.refl e609 F640 (g := (mkF m 115 #[.val (.int p0), .val (.int p1), .val (.int (5 : Int32)), .val (.int (b0_4 p1)), .val (.ref b8), .val (.ref s_NICKNAME), .unset, .unset] [])) rfl (hb hby at_115)
                have go765 : ∀ t, Steps p.tables e below (T764.setTop (mkF m 118 #[.val (.int p0), .val (.int p1), .val (.int (5 : Int32)), .val (.int (b0_4 p1)), .val (.ref b8), .val (.ref s_NICKNAME), .unset, .unset] [(.ref s_CONSUMER)])) t → Steps p.tables e below (s₁.setTop (entryFrame m #[(.int p0), (.int p1)] maxLocals)) t := fun t k => go763 _ (st764 _ k)
                have go766 : ∀ t, Steps p.tables e below (T764.setTop (mkF m 171 #[.val (.int p0), .val (.int p1), .val (.int (5 : Int32)), .val (.int (b0_4 p1)), .val (.ref b8), .val (.ref s_NICKNAME), .val (.ref s_CONSUMER), .val (.int (1 : Int32))] [(.ref s_CONSUMER), (.ref s_NICKNAME)])) t → Steps p.tables e below (s₁.setTop (entryFrame m #[(.int p0), (.int p1)] maxLocals)) t := by
                  intro t k
                  refine go765 _ ?_
                  refine XS.goto X764.here hx rfl (pc0 := 118) (pc' := 124) rfl (hb hby at_118) (by decide) (by decide) ?_
                  show Steps p.tables e below (T764.setTop (mkF m 124 #[.val (.int p0), .val (.int p1), .val (.int (5 : Int32)), .val (.int (b0_4 p1)), .val (.ref b8), .val (.ref s_NICKNAME), .unset, .unset] [(.ref s_CONSUMER)])) t
                  refine XS.astore X764.here hx rfl (hb hby at_124) rfl rfl (l' := #[.val (.int p0), .val (.int p1), .val (.int (5 : Int32)), .val (.int (b0_4 p1)), .val (.ref b8), .val (.ref s_NICKNAME), .val (.ref s_CONSUMER), .unset]) rfl ?_
                  show Steps p.tables e below (T764.setTop (mkF m 126 #[.val (.int p0), .val (.int p1), .val (.int (5 : Int32)), .val (.int (b0_4 p1)), .val (.ref b8), .val (.ref s_NICKNAME), .val (.ref s_CONSUMER), .unset] [])) t
                  refine XS.iloadN X764.here hx rfl (hb hby at_126) rfl ?_
                  show Steps p.tables e below (T764.setTop (mkF m 127 #[.val (.int p0), .val (.int p1), .val (.int (5 : Int32)), .val (.int (b0_4 p1)), .val (.ref b8), .val (.ref s_NICKNAME), .val (.ref s_CONSUMER), .unset] [(.int (5 : Int32))])) t
                  refine XS.bipush X764.here hx rfl (hb hby at_127) ?_
                  show Steps p.tables e below (T764.setTop (mkF m 129 #[.val (.int p0), .val (.int p1), .val (.int (5 : Int32)), .val (.int (b0_4 p1)), .val (.ref b8), .val (.ref s_NICKNAME), .val (.ref s_CONSUMER), .unset] [(.int (8 : Int32)), (.int (5 : Int32))])) t
                  refine XS.icmpNo X764.here hx rfl (hb hby at_129) rfl (XT.ii_eq_f (by decide : ¬ ((5 : Int32) = (8 : Int32)))) ?_
                  show Steps p.tables e below (T764.setTop (mkF m 132 #[.val (.int p0), .val (.int p1), .val (.int (5 : Int32)), .val (.int (b0_4 p1)), .val (.ref b8), .val (.ref s_NICKNAME), .val (.ref s_CONSUMER), .unset] [])) t
                  refine XS.iloadN X764.here hx rfl (hb hby at_132) rfl ?_
                  show Steps p.tables e below (T764.setTop (mkF m 133 #[.val (.int p0), .val (.int p1), .val (.int (5 : Int32)), .val (.int (b0_4 p1)), .val (.ref b8), .val (.ref s_NICKNAME), .val (.ref s_CONSUMER), .unset] [(.int (5 : Int32))])) t
                  refine XS.bipush X764.here hx rfl (hb hby at_133) ?_
                  show Steps p.tables e below (T764.setTop (mkF m 135 #[.val (.int p0), .val (.int p1), .val (.int (5 : Int32)), .val (.int (b0_4 p1)), .val (.ref b8), .val (.ref s_NICKNAME), .val (.ref s_CONSUMER), .unset] [(.int (10 : Int32)), (.int (5 : Int32))])) t
                  refine XS.icmpYes X764.here hx rfl (pc0 := 135) (pc' := 144) rfl (hb hby at_135) rfl (XT.ii_ne_t (by decide : ¬ ((5 : Int32) = (10 : Int32)))) (by decide) (by decide) ?_
                  show Steps p.tables e below (T764.setTop (mkF m 144 #[.val (.int p0), .val (.int p1), .val (.int (5 : Int32)), .val (.int (b0_4 p1)), .val (.ref b8), .val (.ref s_NICKNAME), .val (.ref s_CONSUMER), .unset] [])) t
                  refine XS.iloadN X764.here hx rfl (hb hby at_144) rfl ?_
                  show Steps p.tables e below (T764.setTop (mkF m 145 #[.val (.int p0), .val (.int p1), .val (.int (5 : Int32)), .val (.int (b0_4 p1)), .val (.ref b8), .val (.ref s_NICKNAME), .val (.ref s_CONSUMER), .unset] [(.int (5 : Int32))])) t
                  refine XS.bipush X764.here hx rfl (hb hby at_145) ?_
                  show Steps p.tables e below (T764.setTop (mkF m 147 #[.val (.int p0), .val (.int p1), .val (.int (5 : Int32)), .val (.int (b0_4 p1)), .val (.ref b8), .val (.ref s_NICKNAME), .val (.ref s_CONSUMER), .unset] [(.int (9 : Int32)), (.int (5 : Int32))])) t
                  refine XS.icmpYes X764.here hx rfl (pc0 := 147) (pc' := 164) rfl (hb hby at_147) rfl (XT.ii_ne_t (by decide : ¬ ((5 : Int32) = (9 : Int32)))) (by decide) (by decide) ?_
                  show Steps p.tables e below (T764.setTop (mkF m 164 #[.val (.int p0), .val (.int p1), .val (.int (5 : Int32)), .val (.int (b0_4 p1)), .val (.ref b8), .val (.ref s_NICKNAME), .val (.ref s_CONSUMER), .unset] [])) t
                  refine XS.iconst X764.here hx rfl (hb hby at_164) ?_
                  show Steps p.tables e below (T764.setTop (mkF m 165 #[.val (.int p0), .val (.int p1), .val (.int (5 : Int32)), .val (.int (b0_4 p1)), .val (.ref b8), .val (.ref s_NICKNAME), .val (.ref s_CONSUMER), .unset] [(.int (1 : Int32))])) t
                  refine XS.istore X764.here hx rfl (hb hby at_165) rfl (l' := #[.val (.int p0), .val (.int p1), .val (.int (5 : Int32)), .val (.int (b0_4 p1)), .val (.ref b8), .val (.ref s_NICKNAME), .val (.ref s_CONSUMER), .val (.int (1 : Int32))]) rfl ?_
                  show Steps p.tables e below (T764.setTop (mkF m 167 #[.val (.int p0), .val (.int p1), .val (.int (5 : Int32)), .val (.int (b0_4 p1)), .val (.ref b8), .val (.ref s_NICKNAME), .val (.ref s_CONSUMER), .val (.int (1 : Int32))] [])) t
                  refine XS.aload X764.here hx rfl (hb hby at_167) rfl rfl ?_
                  show Steps p.tables e below (T764.setTop (mkF m 169 #[.val (.int p0), .val (.int p1), .val (.int (5 : Int32)), .val (.int (b0_4 p1)), .val (.ref b8), .val (.ref s_NICKNAME), .val (.ref s_CONSUMER), .val (.int (1 : Int32))] [(.ref s_NICKNAME)])) t
                  refine XS.aload X764.here hx rfl (hb hby at_169) rfl rfl ?_
                  show Steps p.tables e below (T764.setTop (mkF m 171 #[.val (.int p0), .val (.int p1), .val (.int (5 : Int32)), .val (.int (b0_4 p1)), .val (.ref b8), .val (.ref s_NICKNAME), .val (.ref s_CONSUMER), .val (.int (1 : Int32))] [(.ref s_CONSUMER), (.ref s_NICKNAME)])) t
                  exact k
                obtain ⟨cq767, kq767, q767a, q767b, q767c⟩ := isOf hZ e764 F623
                obtain ⟨_, _, ⟨T767, L767, k767, n767⟩, -, X767, ⟨Lc767, hQ767, l767, y767, z767⟩, st767⟩ := X764.virtualBack hx (y := (⟨"com/example/hauora_id/hauoraid/model/Claim", "heldIn", "(Lcom/example/hauora_id/hauoraid/model/Realm;)Z"⟩ : MethodName)) (z := (⟨"com/example/hauora_id/hauoraid/model/Claim", "heldIn", "(Lcom/example/hauora_id/hauoraid/model/Realm;)Z"⟩ : MethodName)) hown (mvT hZ (hw _ (List.mem_of_getElem? (i := 32) rfl))) (mvT hZ (hw _ (List.mem_of_getElem? (i := 33) rfl))) (notFace_of_selects (args := #[]) (mvT hZ (hw _ (List.mem_of_getElem? (i := 35) rfl)))) (mvT hZ (hw _ (List.mem_of_getElem? (i := 35) rfl))) (mvT hZ (hw _ (List.mem_of_getElem? (i := 34) rfl))) (by decide) (backOf (W := 0) (rm1n l Z aZ hw [] s_NICKNAME s_CONSUMER h609 n0 Zs609 F653) hZ (hw _ (List.mem_of_getElem? (i := 36) rfl)) (hw _ (List.mem_of_getElem? (i := 4) rfl)) (by decide) (by decide)) q767a q767c (g := (mkF m 171 #[.val (.int p0), .val (.int p1), .val (.int (5 : Int32)), .val (.int (b0_4 p1)), .val (.ref b8), .val (.ref s_NICKNAME), .val (.ref s_CONSUMER), .val (.int (1 : Int32))] [(.ref s_CONSUMER), (.ref s_NICKNAME)])) rfl (by rw [hml]; rfl) (Steps.refl _) (argsL := [(.ref s_CONSUMER)]) (rest := []) (lenOf pd_15 rfl) rfl (by show 2 * 0 + _ ≤ _; exact Nat.le_of_eq rfl) (hb hby at_171) (fun _ _ => ⟨rfl, e764, (by decide : 1 + 0 ≤ _), (by decide : 12 + 0 ≤ _)⟩)
                dsimp only [Pt.U, Pt.locs, Pt.cells, Pt.slots] at X767 l767 y767 z767 st767 hQ767
                subst l767 y767 z767
                obtain ⟨rfl, N767q, e767⟩ := hQ767
                have N767 := Fr.app N609 N767q
                have go768 : ∀ t, Steps p.tables e below (T767.setTop (mkF m 174 #[.val (.int p0), .val (.int p1), .val (.int (5 : Int32)), .val (.int (b0_4 p1)), .val (.ref b8), .val (.ref s_NICKNAME), .val (.ref s_CONSUMER), .val (.int (1 : Int32))] [(.int (1 : Int32))])) t → Steps p.tables e below (s₁.setTop (entryFrame m #[(.int p0), (.int p1)] maxLocals)) t := fun t k => go766 _ (st767.trans k)
                have go769 : ∀ t, Steps p.tables e below (T767.setTop (mkF m 184 #[.val (.int p0), .val (.int p1), .val (.int (5 : Int32)), .val (.int (b0_4 p1)), .val (.ref b8), .val (.ref s_NICKNAME), .val (.ref s_CONSUMER), .val (.int (1 : Int32))] [(.int (1 : Int32))])) t → Steps p.tables e below (s₁.setTop (entryFrame m #[(.int p0), (.int p1)] maxLocals)) t := by
                  intro t k
                  refine go768 _ ?_
                  refine XS.iload X767.here hx rfl (hb hby at_174) rfl ?_
                  show Steps p.tables e below (T767.setTop (mkF m 176 #[.val (.int p0), .val (.int p1), .val (.int (5 : Int32)), .val (.int (b0_4 p1)), .val (.ref b8), .val (.ref s_NICKNAME), .val (.ref s_CONSUMER), .val (.int (1 : Int32))] [(.int (1 : Int32)), (.int (1 : Int32))])) t
                  refine XS.icmpNo X767.here hx rfl (hb hby at_176) rfl (XT.ii_ne_f (by decide : ((1 : Int32) = (1 : Int32)))) ?_
                  show Steps p.tables e below (T767.setTop (mkF m 179 #[.val (.int p0), .val (.int p1), .val (.int (5 : Int32)), .val (.int (b0_4 p1)), .val (.ref b8), .val (.ref s_NICKNAME), .val (.ref s_CONSUMER), .val (.int (1 : Int32))] [])) t
                  refine XS.iconst X767.here hx rfl (hb hby at_179) ?_
                  show Steps p.tables e below (T767.setTop (mkF m 180 #[.val (.int p0), .val (.int p1), .val (.int (5 : Int32)), .val (.int (b0_4 p1)), .val (.ref b8), .val (.ref s_NICKNAME), .val (.ref s_CONSUMER), .val (.int (1 : Int32))] [(.int (1 : Int32))])) t
                  refine XS.goto X767.here hx rfl (pc0 := 180) (pc' := 184) rfl (hb hby at_180) (by decide) (by decide) ?_
                  show Steps p.tables e below (T767.setTop (mkF m 184 #[.val (.int p0), .val (.int p1), .val (.int (5 : Int32)), .val (.int (b0_4 p1)), .val (.ref b8), .val (.ref s_NICKNAME), .val (.ref s_CONSUMER), .val (.int (1 : Int32))] [(.int (1 : Int32))])) t
                  exact k
                obtain ⟨fs, hr, hrun, hended, hW, hsame⟩ := X767.leave (v := some (.int (1 : Int32))) (fun h => by rw [Bd.returns] at h; cases h)
                refine ⟨_, _, go769 _ (Jvm.RoadKit.retOut X767 hx Bd.returns rfl (Or.inl ⟨rfl, Or.inr (Or.inl rfl), _, rfl⟩) (hb hby at_184) hr), hrun, hended, _, _, rfl, ?_, ⟨_, rfl⟩, hW, hsame.mono (by decide) (by decide)⟩
                show Q0 _ _ p0 p1 s_SUB s_EMAIL s_GIVEN_NAME s_MIDDLE_NAME s_FAMILY_NAME s_NICKNAME s_BIRTHDATE s_MOBILE_NUMBER s_NHI s_CPN s_RELATIONSHIPS s_CONFIDENCE_LEVEL s_WORKFORCE s_CONSUMER h0 _ (T767.setFrames fs).heap _
                have hE : (T767.setFrames fs).heap = h609 := e767
                rw [hE]
                exact ⟨congrArg (fun z => some (Value.int z)) ((by rw [f0, if_neg hs656, if_neg hs675, if_neg hs694, if_neg hs713, if_neg hs732, if_pos hs751, if_neg hs755] : (1 : Int32) = (f0 p0 p1 s_WORKFORCE s_CONSUMER)).trans (f0_one p0 p1 s_WORKFORCE s_CONSUMER ne_CW)), N767⟩
            · by_cases hs770 : (v0_1 p0) = (6 : Int32)
              · have go771 : ∀ t, Steps p.tables e below (T609.setTop (mkF m 108 #[.val (.int p0), .val (.int p1), .val (.int (6 : Int32)), .val (.int (b0_4 p1)), .val (.ref b8), .unset, .unset, .unset] [(.int (6 : Int32)), (.ref b8)])) t → Steps p.tables e below (s₁.setTop (entryFrame m #[(.int p0), (.int p1)] maxLocals)) t := by
                  have q := go655
                  rw [hs770] at q
                  exact q
                obtain ⟨cl772, Ar772, q772, S772, N772, H772, G772⟩ := id F654
                have go773 : ∀ t, Steps p.tables e below (T609.setTop (mkF m 112 #[.val (.int p0), .val (.int p1), .val (.int (6 : Int32)), .val (.int (b0_4 p1)), .val (.ref b8), .val (.ref s_BIRTHDATE), .unset, .unset] [(.int (b0_4 p1))])) t → Steps p.tables e below (s₁.setTop (entryFrame m #[(.int p0), (.int p1)] maxLocals)) t := by
                  intro t k
                  refine go771 _ ?_
                  refine X609.aaload hx (j := (6 : Int32)) (v := (.ref s_BIRTHDATE)) (by rw [e609]; exact Ar772.1) (State.isArrayOf_alike hZ.alike Ar772.2.1) rfl Ar772.2.2 (inb_of S772 ⟨by decide, by decide⟩) (Has.at H772 (inb_of S772 ⟨by decide, by decide⟩) rfl) (g := (mkF m 108 #[.val (.int p0), .val (.int p1), .val (.int (6 : Int32)), .val (.int (b0_4 p1)), .val (.ref b8), .unset, .unset, .unset] [(.int (6 : Int32)), (.ref b8)])) rfl rfl (hb hby at_108) _ ?_
                  show Steps p.tables e below (T609.setTop (mkF m 109 #[.val (.int p0), .val (.int p1), .val (.int (6 : Int32)), .val (.int (b0_4 p1)), .val (.ref b8), .unset, .unset, .unset] [(.ref s_BIRTHDATE)])) t
                  refine XS.astore X609.here hx rfl (hb hby at_109) rfl rfl (l' := #[.val (.int p0), .val (.int p1), .val (.int (6 : Int32)), .val (.int (b0_4 p1)), .val (.ref b8), .val (.ref s_BIRTHDATE), .unset, .unset]) rfl ?_
                  show Steps p.tables e below (T609.setTop (mkF m 111 #[.val (.int p0), .val (.int p1), .val (.int (6 : Int32)), .val (.int (b0_4 p1)), .val (.ref b8), .val (.ref s_BIRTHDATE), .unset, .unset] [])) t
                  refine XS.iloadN X609.here hx rfl (hb hby at_111) rfl ?_
                  show Steps p.tables e below (T609.setTop (mkF m 112 #[.val (.int p0), .val (.int p1), .val (.int (6 : Int32)), .val (.int (b0_4 p1)), .val (.ref b8), .val (.ref s_BIRTHDATE), .unset, .unset] [(.int (b0_4 p1))])) t
                  exact k
                by_cases hs774 : (b0_4 p1) = (0 : Int32)
                · have go775 : ∀ t, Steps p.tables e below (T609.setTop (mkF m 121 #[.val (.int p0), .val (.int p1), .val (.int (6 : Int32)), .val (.int (b0_4 p1)), .val (.ref b8), .val (.ref s_BIRTHDATE), .unset, .unset] [])) t → Steps p.tables e below (s₁.setTop (entryFrame m #[(.int p0), (.int p1)] maxLocals)) t := by
                    intro t k
                    refine go773 _ ?_
                    refine XS.ifYes X609.here hx rfl (pc0 := 112) (pc' := 121) rfl (hb hby at_112) rfl (XT.i0_eq_t hs774) (by decide) (by decide) ?_
                    show Steps p.tables e below (T609.setTop (mkF m 121 #[.val (.int p0), .val (.int p1), .val (.int (6 : Int32)), .val (.int (b0_4 p1)), .val (.ref b8), .val (.ref s_BIRTHDATE), .unset, .unset] [])) t
                    exact k
                  obtain ⟨T776, X776, e776, st776⟩ := getS2 X609 hx hZ hown (host := "") (Or.inl (hw _ (List.mem_of_getElem? (i := 29) rfl))) Via.refl e609 F636 (g := (mkF m 121 #[.val (.int p0), .val (.int p1), .val (.int (6 : Int32)), .val (.int (b0_4 p1)), .val (.ref b8), .val (.ref s_BIRTHDATE), .unset, .unset] [])) rfl (hb hby at_121)
                  have go777 : ∀ t, Steps p.tables e below (T776.setTop (mkF m 124 #[.val (.int p0), .val (.int p1), .val (.int (6 : Int32)), .val (.int (b0_4 p1)), .val (.ref b8), .val (.ref s_BIRTHDATE), .unset, .unset] [(.ref s_WORKFORCE)])) t → Steps p.tables e below (s₁.setTop (entryFrame m #[(.int p0), (.int p1)] maxLocals)) t := fun t k => go775 _ (st776 _ k)
                  have go778 : ∀ t, Steps p.tables e below (T776.setTop (mkF m 171 #[.val (.int p0), .val (.int p1), .val (.int (6 : Int32)), .val (.int (b0_4 p1)), .val (.ref b8), .val (.ref s_BIRTHDATE), .val (.ref s_WORKFORCE), .val (.int (1 : Int32))] [(.ref s_WORKFORCE), (.ref s_BIRTHDATE)])) t → Steps p.tables e below (s₁.setTop (entryFrame m #[(.int p0), (.int p1)] maxLocals)) t := by
                    intro t k
                    refine go777 _ ?_
                    refine XS.astore X776.here hx rfl (hb hby at_124) rfl rfl (l' := #[.val (.int p0), .val (.int p1), .val (.int (6 : Int32)), .val (.int (b0_4 p1)), .val (.ref b8), .val (.ref s_BIRTHDATE), .val (.ref s_WORKFORCE), .unset]) rfl ?_
                    show Steps p.tables e below (T776.setTop (mkF m 126 #[.val (.int p0), .val (.int p1), .val (.int (6 : Int32)), .val (.int (b0_4 p1)), .val (.ref b8), .val (.ref s_BIRTHDATE), .val (.ref s_WORKFORCE), .unset] [])) t
                    refine XS.iloadN X776.here hx rfl (hb hby at_126) rfl ?_
                    show Steps p.tables e below (T776.setTop (mkF m 127 #[.val (.int p0), .val (.int p1), .val (.int (6 : Int32)), .val (.int (b0_4 p1)), .val (.ref b8), .val (.ref s_BIRTHDATE), .val (.ref s_WORKFORCE), .unset] [(.int (6 : Int32))])) t
                    refine XS.bipush X776.here hx rfl (hb hby at_127) ?_
                    show Steps p.tables e below (T776.setTop (mkF m 129 #[.val (.int p0), .val (.int p1), .val (.int (6 : Int32)), .val (.int (b0_4 p1)), .val (.ref b8), .val (.ref s_BIRTHDATE), .val (.ref s_WORKFORCE), .unset] [(.int (8 : Int32)), (.int (6 : Int32))])) t
                    refine XS.icmpNo X776.here hx rfl (hb hby at_129) rfl (XT.ii_eq_f (by decide : ¬ ((6 : Int32) = (8 : Int32)))) ?_
                    show Steps p.tables e below (T776.setTop (mkF m 132 #[.val (.int p0), .val (.int p1), .val (.int (6 : Int32)), .val (.int (b0_4 p1)), .val (.ref b8), .val (.ref s_BIRTHDATE), .val (.ref s_WORKFORCE), .unset] [])) t
                    refine XS.iloadN X776.here hx rfl (hb hby at_132) rfl ?_
                    show Steps p.tables e below (T776.setTop (mkF m 133 #[.val (.int p0), .val (.int p1), .val (.int (6 : Int32)), .val (.int (b0_4 p1)), .val (.ref b8), .val (.ref s_BIRTHDATE), .val (.ref s_WORKFORCE), .unset] [(.int (6 : Int32))])) t
                    refine XS.bipush X776.here hx rfl (hb hby at_133) ?_
                    show Steps p.tables e below (T776.setTop (mkF m 135 #[.val (.int p0), .val (.int p1), .val (.int (6 : Int32)), .val (.int (b0_4 p1)), .val (.ref b8), .val (.ref s_BIRTHDATE), .val (.ref s_WORKFORCE), .unset] [(.int (10 : Int32)), (.int (6 : Int32))])) t
                    refine XS.icmpYes X776.here hx rfl (pc0 := 135) (pc' := 144) rfl (hb hby at_135) rfl (XT.ii_ne_t (by decide : ¬ ((6 : Int32) = (10 : Int32)))) (by decide) (by decide) ?_
                    show Steps p.tables e below (T776.setTop (mkF m 144 #[.val (.int p0), .val (.int p1), .val (.int (6 : Int32)), .val (.int (b0_4 p1)), .val (.ref b8), .val (.ref s_BIRTHDATE), .val (.ref s_WORKFORCE), .unset] [])) t
                    refine XS.iloadN X776.here hx rfl (hb hby at_144) rfl ?_
                    show Steps p.tables e below (T776.setTop (mkF m 145 #[.val (.int p0), .val (.int p1), .val (.int (6 : Int32)), .val (.int (b0_4 p1)), .val (.ref b8), .val (.ref s_BIRTHDATE), .val (.ref s_WORKFORCE), .unset] [(.int (6 : Int32))])) t
                    refine XS.bipush X776.here hx rfl (hb hby at_145) ?_
                    show Steps p.tables e below (T776.setTop (mkF m 147 #[.val (.int p0), .val (.int p1), .val (.int (6 : Int32)), .val (.int (b0_4 p1)), .val (.ref b8), .val (.ref s_BIRTHDATE), .val (.ref s_WORKFORCE), .unset] [(.int (9 : Int32)), (.int (6 : Int32))])) t
                    refine XS.icmpYes X776.here hx rfl (pc0 := 147) (pc' := 164) rfl (hb hby at_147) rfl (XT.ii_ne_t (by decide : ¬ ((6 : Int32) = (9 : Int32)))) (by decide) (by decide) ?_
                    show Steps p.tables e below (T776.setTop (mkF m 164 #[.val (.int p0), .val (.int p1), .val (.int (6 : Int32)), .val (.int (b0_4 p1)), .val (.ref b8), .val (.ref s_BIRTHDATE), .val (.ref s_WORKFORCE), .unset] [])) t
                    refine XS.iconst X776.here hx rfl (hb hby at_164) ?_
                    show Steps p.tables e below (T776.setTop (mkF m 165 #[.val (.int p0), .val (.int p1), .val (.int (6 : Int32)), .val (.int (b0_4 p1)), .val (.ref b8), .val (.ref s_BIRTHDATE), .val (.ref s_WORKFORCE), .unset] [(.int (1 : Int32))])) t
                    refine XS.istore X776.here hx rfl (hb hby at_165) rfl (l' := #[.val (.int p0), .val (.int p1), .val (.int (6 : Int32)), .val (.int (b0_4 p1)), .val (.ref b8), .val (.ref s_BIRTHDATE), .val (.ref s_WORKFORCE), .val (.int (1 : Int32))]) rfl ?_
                    show Steps p.tables e below (T776.setTop (mkF m 167 #[.val (.int p0), .val (.int p1), .val (.int (6 : Int32)), .val (.int (b0_4 p1)), .val (.ref b8), .val (.ref s_BIRTHDATE), .val (.ref s_WORKFORCE), .val (.int (1 : Int32))] [])) t
                    refine XS.aload X776.here hx rfl (hb hby at_167) rfl rfl ?_
                    show Steps p.tables e below (T776.setTop (mkF m 169 #[.val (.int p0), .val (.int p1), .val (.int (6 : Int32)), .val (.int (b0_4 p1)), .val (.ref b8), .val (.ref s_BIRTHDATE), .val (.ref s_WORKFORCE), .val (.int (1 : Int32))] [(.ref s_BIRTHDATE)])) t
                    refine XS.aload X776.here hx rfl (hb hby at_169) rfl rfl ?_
                    show Steps p.tables e below (T776.setTop (mkF m 171 #[.val (.int p0), .val (.int p1), .val (.int (6 : Int32)), .val (.int (b0_4 p1)), .val (.ref b8), .val (.ref s_BIRTHDATE), .val (.ref s_WORKFORCE), .val (.int (1 : Int32))] [(.ref s_WORKFORCE), (.ref s_BIRTHDATE)])) t
                    exact k
                  obtain ⟨cq779, kq779, q779a, q779b, q779c⟩ := isOf hZ e776 F625
                  obtain ⟨_, _, ⟨T779, L779, k779, n779⟩, -, X779, ⟨Lc779, hQ779, l779, y779, z779⟩, st779⟩ := X776.virtualBack hx (y := (⟨"com/example/hauora_id/hauoraid/model/Claim", "heldIn", "(Lcom/example/hauora_id/hauoraid/model/Realm;)Z"⟩ : MethodName)) (z := (⟨"com/example/hauora_id/hauoraid/model/Claim", "heldIn", "(Lcom/example/hauora_id/hauoraid/model/Realm;)Z"⟩ : MethodName)) hown (mvT hZ (hw _ (List.mem_of_getElem? (i := 32) rfl))) (mvT hZ (hw _ (List.mem_of_getElem? (i := 33) rfl))) (notFace_of_selects (args := #[]) (mvT hZ (hw _ (List.mem_of_getElem? (i := 35) rfl)))) (mvT hZ (hw _ (List.mem_of_getElem? (i := 35) rfl))) (mvT hZ (hw _ (List.mem_of_getElem? (i := 34) rfl))) (by decide) (backOf (W := 0) (rm1n l Z aZ hw [] s_BIRTHDATE s_WORKFORCE h609 n0 Zs609 F645) hZ (hw _ (List.mem_of_getElem? (i := 36) rfl)) (hw _ (List.mem_of_getElem? (i := 4) rfl)) (by decide) (by decide)) q779a q779c (g := (mkF m 171 #[.val (.int p0), .val (.int p1), .val (.int (6 : Int32)), .val (.int (b0_4 p1)), .val (.ref b8), .val (.ref s_BIRTHDATE), .val (.ref s_WORKFORCE), .val (.int (1 : Int32))] [(.ref s_WORKFORCE), (.ref s_BIRTHDATE)])) rfl (by rw [hml]; rfl) (Steps.refl _) (argsL := [(.ref s_WORKFORCE)]) (rest := []) (lenOf pd_15 rfl) rfl (by show 2 * 0 + _ ≤ _; exact Nat.le_of_eq rfl) (hb hby at_171) (fun _ _ => ⟨rfl, e776, (by decide : 1 + 0 ≤ _), (by decide : 12 + 0 ≤ _)⟩)
                  dsimp only [Pt.U, Pt.locs, Pt.cells, Pt.slots] at X779 l779 y779 z779 st779 hQ779
                  subst l779 y779 z779
                  obtain ⟨rfl, N779q, e779⟩ := hQ779
                  have N779 := Fr.app N609 N779q
                  have go780 : ∀ t, Steps p.tables e below (T779.setTop (mkF m 174 #[.val (.int p0), .val (.int p1), .val (.int (6 : Int32)), .val (.int (b0_4 p1)), .val (.ref b8), .val (.ref s_BIRTHDATE), .val (.ref s_WORKFORCE), .val (.int (1 : Int32))] [(.int (1 : Int32))])) t → Steps p.tables e below (s₁.setTop (entryFrame m #[(.int p0), (.int p1)] maxLocals)) t := fun t k => go778 _ (st779.trans k)
                  have go781 : ∀ t, Steps p.tables e below (T779.setTop (mkF m 184 #[.val (.int p0), .val (.int p1), .val (.int (6 : Int32)), .val (.int (b0_4 p1)), .val (.ref b8), .val (.ref s_BIRTHDATE), .val (.ref s_WORKFORCE), .val (.int (1 : Int32))] [(.int (1 : Int32))])) t → Steps p.tables e below (s₁.setTop (entryFrame m #[(.int p0), (.int p1)] maxLocals)) t := by
                    intro t k
                    refine go780 _ ?_
                    refine XS.iload X779.here hx rfl (hb hby at_174) rfl ?_
                    show Steps p.tables e below (T779.setTop (mkF m 176 #[.val (.int p0), .val (.int p1), .val (.int (6 : Int32)), .val (.int (b0_4 p1)), .val (.ref b8), .val (.ref s_BIRTHDATE), .val (.ref s_WORKFORCE), .val (.int (1 : Int32))] [(.int (1 : Int32)), (.int (1 : Int32))])) t
                    refine XS.icmpNo X779.here hx rfl (hb hby at_176) rfl (XT.ii_ne_f (by decide : ((1 : Int32) = (1 : Int32)))) ?_
                    show Steps p.tables e below (T779.setTop (mkF m 179 #[.val (.int p0), .val (.int p1), .val (.int (6 : Int32)), .val (.int (b0_4 p1)), .val (.ref b8), .val (.ref s_BIRTHDATE), .val (.ref s_WORKFORCE), .val (.int (1 : Int32))] [])) t
                    refine XS.iconst X779.here hx rfl (hb hby at_179) ?_
                    show Steps p.tables e below (T779.setTop (mkF m 180 #[.val (.int p0), .val (.int p1), .val (.int (6 : Int32)), .val (.int (b0_4 p1)), .val (.ref b8), .val (.ref s_BIRTHDATE), .val (.ref s_WORKFORCE), .val (.int (1 : Int32))] [(.int (1 : Int32))])) t
                    refine XS.goto X779.here hx rfl (pc0 := 180) (pc' := 184) rfl (hb hby at_180) (by decide) (by decide) ?_
                    show Steps p.tables e below (T779.setTop (mkF m 184 #[.val (.int p0), .val (.int p1), .val (.int (6 : Int32)), .val (.int (b0_4 p1)), .val (.ref b8), .val (.ref s_BIRTHDATE), .val (.ref s_WORKFORCE), .val (.int (1 : Int32))] [(.int (1 : Int32))])) t
                    exact k
                  obtain ⟨fs, hr, hrun, hended, hW, hsame⟩ := X779.leave (v := some (.int (1 : Int32))) (fun h => by rw [Bd.returns] at h; cases h)
                  refine ⟨_, _, go781 _ (Jvm.RoadKit.retOut X779 hx Bd.returns rfl (Or.inl ⟨rfl, Or.inr (Or.inl rfl), _, rfl⟩) (hb hby at_184) hr), hrun, hended, _, _, rfl, ?_, ⟨_, rfl⟩, hW, hsame.mono (by decide) (by decide)⟩
                  show Q0 _ _ p0 p1 s_SUB s_EMAIL s_GIVEN_NAME s_MIDDLE_NAME s_FAMILY_NAME s_NICKNAME s_BIRTHDATE s_MOBILE_NUMBER s_NHI s_CPN s_RELATIONSHIPS s_CONFIDENCE_LEVEL s_WORKFORCE s_CONSUMER h0 _ (T779.setFrames fs).heap _
                  have hE : (T779.setFrames fs).heap = h609 := e779
                  rw [hE]
                  exact ⟨congrArg (fun z => some (Value.int z)) ((by rw [f0, if_neg hs656, if_neg hs675, if_neg hs694, if_neg hs713, if_neg hs732, if_neg hs751, if_pos hs770, if_pos hs774] : (1 : Int32) = (f0 p0 p1 s_WORKFORCE s_CONSUMER)).trans (f0_one p0 p1 s_WORKFORCE s_CONSUMER ne_CW)), N779⟩
                · have go782 : ∀ t, Steps p.tables e below (T609.setTop (mkF m 115 #[.val (.int p0), .val (.int p1), .val (.int (6 : Int32)), .val (.int (b0_4 p1)), .val (.ref b8), .val (.ref s_BIRTHDATE), .unset, .unset] [])) t → Steps p.tables e below (s₁.setTop (entryFrame m #[(.int p0), (.int p1)] maxLocals)) t := by
                    intro t k
                    refine go773 _ ?_
                    refine XS.ifNo X609.here hx rfl (hb hby at_112) rfl (XT.i0_eq_f hs774) ?_
                    show Steps p.tables e below (T609.setTop (mkF m 115 #[.val (.int p0), .val (.int p1), .val (.int (6 : Int32)), .val (.int (b0_4 p1)), .val (.ref b8), .val (.ref s_BIRTHDATE), .unset, .unset] [])) t
                    exact k
                  obtain ⟨T783, X783, e783, st783⟩ := getS2 X609 hx hZ hown (host := "") (Or.inl (hw _ (List.mem_of_getElem? (i := 39) rfl))) Via.refl e609 F640 (g := (mkF m 115 #[.val (.int p0), .val (.int p1), .val (.int (6 : Int32)), .val (.int (b0_4 p1)), .val (.ref b8), .val (.ref s_BIRTHDATE), .unset, .unset] [])) rfl (hb hby at_115)
                  have go784 : ∀ t, Steps p.tables e below (T783.setTop (mkF m 118 #[.val (.int p0), .val (.int p1), .val (.int (6 : Int32)), .val (.int (b0_4 p1)), .val (.ref b8), .val (.ref s_BIRTHDATE), .unset, .unset] [(.ref s_CONSUMER)])) t → Steps p.tables e below (s₁.setTop (entryFrame m #[(.int p0), (.int p1)] maxLocals)) t := fun t k => go782 _ (st783 _ k)
                  have go785 : ∀ t, Steps p.tables e below (T783.setTop (mkF m 171 #[.val (.int p0), .val (.int p1), .val (.int (6 : Int32)), .val (.int (b0_4 p1)), .val (.ref b8), .val (.ref s_BIRTHDATE), .val (.ref s_CONSUMER), .val (.int (1 : Int32))] [(.ref s_CONSUMER), (.ref s_BIRTHDATE)])) t → Steps p.tables e below (s₁.setTop (entryFrame m #[(.int p0), (.int p1)] maxLocals)) t := by
                    intro t k
                    refine go784 _ ?_
                    refine XS.goto X783.here hx rfl (pc0 := 118) (pc' := 124) rfl (hb hby at_118) (by decide) (by decide) ?_
                    show Steps p.tables e below (T783.setTop (mkF m 124 #[.val (.int p0), .val (.int p1), .val (.int (6 : Int32)), .val (.int (b0_4 p1)), .val (.ref b8), .val (.ref s_BIRTHDATE), .unset, .unset] [(.ref s_CONSUMER)])) t
                    refine XS.astore X783.here hx rfl (hb hby at_124) rfl rfl (l' := #[.val (.int p0), .val (.int p1), .val (.int (6 : Int32)), .val (.int (b0_4 p1)), .val (.ref b8), .val (.ref s_BIRTHDATE), .val (.ref s_CONSUMER), .unset]) rfl ?_
                    show Steps p.tables e below (T783.setTop (mkF m 126 #[.val (.int p0), .val (.int p1), .val (.int (6 : Int32)), .val (.int (b0_4 p1)), .val (.ref b8), .val (.ref s_BIRTHDATE), .val (.ref s_CONSUMER), .unset] [])) t
                    refine XS.iloadN X783.here hx rfl (hb hby at_126) rfl ?_
                    show Steps p.tables e below (T783.setTop (mkF m 127 #[.val (.int p0), .val (.int p1), .val (.int (6 : Int32)), .val (.int (b0_4 p1)), .val (.ref b8), .val (.ref s_BIRTHDATE), .val (.ref s_CONSUMER), .unset] [(.int (6 : Int32))])) t
                    refine XS.bipush X783.here hx rfl (hb hby at_127) ?_
                    show Steps p.tables e below (T783.setTop (mkF m 129 #[.val (.int p0), .val (.int p1), .val (.int (6 : Int32)), .val (.int (b0_4 p1)), .val (.ref b8), .val (.ref s_BIRTHDATE), .val (.ref s_CONSUMER), .unset] [(.int (8 : Int32)), (.int (6 : Int32))])) t
                    refine XS.icmpNo X783.here hx rfl (hb hby at_129) rfl (XT.ii_eq_f (by decide : ¬ ((6 : Int32) = (8 : Int32)))) ?_
                    show Steps p.tables e below (T783.setTop (mkF m 132 #[.val (.int p0), .val (.int p1), .val (.int (6 : Int32)), .val (.int (b0_4 p1)), .val (.ref b8), .val (.ref s_BIRTHDATE), .val (.ref s_CONSUMER), .unset] [])) t
                    refine XS.iloadN X783.here hx rfl (hb hby at_132) rfl ?_
                    show Steps p.tables e below (T783.setTop (mkF m 133 #[.val (.int p0), .val (.int p1), .val (.int (6 : Int32)), .val (.int (b0_4 p1)), .val (.ref b8), .val (.ref s_BIRTHDATE), .val (.ref s_CONSUMER), .unset] [(.int (6 : Int32))])) t
                    refine XS.bipush X783.here hx rfl (hb hby at_133) ?_
                    show Steps p.tables e below (T783.setTop (mkF m 135 #[.val (.int p0), .val (.int p1), .val (.int (6 : Int32)), .val (.int (b0_4 p1)), .val (.ref b8), .val (.ref s_BIRTHDATE), .val (.ref s_CONSUMER), .unset] [(.int (10 : Int32)), (.int (6 : Int32))])) t
                    refine XS.icmpYes X783.here hx rfl (pc0 := 135) (pc' := 144) rfl (hb hby at_135) rfl (XT.ii_ne_t (by decide : ¬ ((6 : Int32) = (10 : Int32)))) (by decide) (by decide) ?_
                    show Steps p.tables e below (T783.setTop (mkF m 144 #[.val (.int p0), .val (.int p1), .val (.int (6 : Int32)), .val (.int (b0_4 p1)), .val (.ref b8), .val (.ref s_BIRTHDATE), .val (.ref s_CONSUMER), .unset] [])) t
                    refine XS.iloadN X783.here hx rfl (hb hby at_144) rfl ?_
                    show Steps p.tables e below (T783.setTop (mkF m 145 #[.val (.int p0), .val (.int p1), .val (.int (6 : Int32)), .val (.int (b0_4 p1)), .val (.ref b8), .val (.ref s_BIRTHDATE), .val (.ref s_CONSUMER), .unset] [(.int (6 : Int32))])) t
                    refine XS.bipush X783.here hx rfl (hb hby at_145) ?_
                    show Steps p.tables e below (T783.setTop (mkF m 147 #[.val (.int p0), .val (.int p1), .val (.int (6 : Int32)), .val (.int (b0_4 p1)), .val (.ref b8), .val (.ref s_BIRTHDATE), .val (.ref s_CONSUMER), .unset] [(.int (9 : Int32)), (.int (6 : Int32))])) t
                    refine XS.icmpYes X783.here hx rfl (pc0 := 147) (pc' := 164) rfl (hb hby at_147) rfl (XT.ii_ne_t (by decide : ¬ ((6 : Int32) = (9 : Int32)))) (by decide) (by decide) ?_
                    show Steps p.tables e below (T783.setTop (mkF m 164 #[.val (.int p0), .val (.int p1), .val (.int (6 : Int32)), .val (.int (b0_4 p1)), .val (.ref b8), .val (.ref s_BIRTHDATE), .val (.ref s_CONSUMER), .unset] [])) t
                    refine XS.iconst X783.here hx rfl (hb hby at_164) ?_
                    show Steps p.tables e below (T783.setTop (mkF m 165 #[.val (.int p0), .val (.int p1), .val (.int (6 : Int32)), .val (.int (b0_4 p1)), .val (.ref b8), .val (.ref s_BIRTHDATE), .val (.ref s_CONSUMER), .unset] [(.int (1 : Int32))])) t
                    refine XS.istore X783.here hx rfl (hb hby at_165) rfl (l' := #[.val (.int p0), .val (.int p1), .val (.int (6 : Int32)), .val (.int (b0_4 p1)), .val (.ref b8), .val (.ref s_BIRTHDATE), .val (.ref s_CONSUMER), .val (.int (1 : Int32))]) rfl ?_
                    show Steps p.tables e below (T783.setTop (mkF m 167 #[.val (.int p0), .val (.int p1), .val (.int (6 : Int32)), .val (.int (b0_4 p1)), .val (.ref b8), .val (.ref s_BIRTHDATE), .val (.ref s_CONSUMER), .val (.int (1 : Int32))] [])) t
                    refine XS.aload X783.here hx rfl (hb hby at_167) rfl rfl ?_
                    show Steps p.tables e below (T783.setTop (mkF m 169 #[.val (.int p0), .val (.int p1), .val (.int (6 : Int32)), .val (.int (b0_4 p1)), .val (.ref b8), .val (.ref s_BIRTHDATE), .val (.ref s_CONSUMER), .val (.int (1 : Int32))] [(.ref s_BIRTHDATE)])) t
                    refine XS.aload X783.here hx rfl (hb hby at_169) rfl rfl ?_
                    show Steps p.tables e below (T783.setTop (mkF m 171 #[.val (.int p0), .val (.int p1), .val (.int (6 : Int32)), .val (.int (b0_4 p1)), .val (.ref b8), .val (.ref s_BIRTHDATE), .val (.ref s_CONSUMER), .val (.int (1 : Int32))] [(.ref s_CONSUMER), (.ref s_BIRTHDATE)])) t
                    exact k
                  obtain ⟨cq786, kq786, q786a, q786b, q786c⟩ := isOf hZ e783 F625
                  obtain ⟨_, _, ⟨T786, L786, k786, n786⟩, -, X786, ⟨Lc786, hQ786, l786, y786, z786⟩, st786⟩ := X783.virtualBack hx (y := (⟨"com/example/hauora_id/hauoraid/model/Claim", "heldIn", "(Lcom/example/hauora_id/hauoraid/model/Realm;)Z"⟩ : MethodName)) (z := (⟨"com/example/hauora_id/hauoraid/model/Claim", "heldIn", "(Lcom/example/hauora_id/hauoraid/model/Realm;)Z"⟩ : MethodName)) hown (mvT hZ (hw _ (List.mem_of_getElem? (i := 32) rfl))) (mvT hZ (hw _ (List.mem_of_getElem? (i := 33) rfl))) (notFace_of_selects (args := #[]) (mvT hZ (hw _ (List.mem_of_getElem? (i := 35) rfl)))) (mvT hZ (hw _ (List.mem_of_getElem? (i := 35) rfl))) (mvT hZ (hw _ (List.mem_of_getElem? (i := 34) rfl))) (by decide) (backOf (W := 0) (rm1n l Z aZ hw [] s_BIRTHDATE s_CONSUMER h609 n0 Zs609 F645) hZ (hw _ (List.mem_of_getElem? (i := 36) rfl)) (hw _ (List.mem_of_getElem? (i := 4) rfl)) (by decide) (by decide)) q786a q786c (g := (mkF m 171 #[.val (.int p0), .val (.int p1), .val (.int (6 : Int32)), .val (.int (b0_4 p1)), .val (.ref b8), .val (.ref s_BIRTHDATE), .val (.ref s_CONSUMER), .val (.int (1 : Int32))] [(.ref s_CONSUMER), (.ref s_BIRTHDATE)])) rfl (by rw [hml]; rfl) (Steps.refl _) (argsL := [(.ref s_CONSUMER)]) (rest := []) (lenOf pd_15 rfl) rfl (by show 2 * 0 + _ ≤ _; exact Nat.le_of_eq rfl) (hb hby at_171) (fun _ _ => ⟨rfl, e783, (by decide : 1 + 0 ≤ _), (by decide : 12 + 0 ≤ _)⟩)
                  dsimp only [Pt.U, Pt.locs, Pt.cells, Pt.slots] at X786 l786 y786 z786 st786 hQ786
                  subst l786 y786 z786
                  obtain ⟨rfl, N786q, e786⟩ := hQ786
                  have N786 := Fr.app N609 N786q
                  have go787 : ∀ t, Steps p.tables e below (T786.setTop (mkF m 174 #[.val (.int p0), .val (.int p1), .val (.int (6 : Int32)), .val (.int (b0_4 p1)), .val (.ref b8), .val (.ref s_BIRTHDATE), .val (.ref s_CONSUMER), .val (.int (1 : Int32))] [(.int (1 : Int32))])) t → Steps p.tables e below (s₁.setTop (entryFrame m #[(.int p0), (.int p1)] maxLocals)) t := fun t k => go785 _ (st786.trans k)
                  have go788 : ∀ t, Steps p.tables e below (T786.setTop (mkF m 184 #[.val (.int p0), .val (.int p1), .val (.int (6 : Int32)), .val (.int (b0_4 p1)), .val (.ref b8), .val (.ref s_BIRTHDATE), .val (.ref s_CONSUMER), .val (.int (1 : Int32))] [(.int (1 : Int32))])) t → Steps p.tables e below (s₁.setTop (entryFrame m #[(.int p0), (.int p1)] maxLocals)) t := by
                    intro t k
                    refine go787 _ ?_
                    refine XS.iload X786.here hx rfl (hb hby at_174) rfl ?_
                    show Steps p.tables e below (T786.setTop (mkF m 176 #[.val (.int p0), .val (.int p1), .val (.int (6 : Int32)), .val (.int (b0_4 p1)), .val (.ref b8), .val (.ref s_BIRTHDATE), .val (.ref s_CONSUMER), .val (.int (1 : Int32))] [(.int (1 : Int32)), (.int (1 : Int32))])) t
                    refine XS.icmpNo X786.here hx rfl (hb hby at_176) rfl (XT.ii_ne_f (by decide : ((1 : Int32) = (1 : Int32)))) ?_
                    show Steps p.tables e below (T786.setTop (mkF m 179 #[.val (.int p0), .val (.int p1), .val (.int (6 : Int32)), .val (.int (b0_4 p1)), .val (.ref b8), .val (.ref s_BIRTHDATE), .val (.ref s_CONSUMER), .val (.int (1 : Int32))] [])) t
                    refine XS.iconst X786.here hx rfl (hb hby at_179) ?_
                    show Steps p.tables e below (T786.setTop (mkF m 180 #[.val (.int p0), .val (.int p1), .val (.int (6 : Int32)), .val (.int (b0_4 p1)), .val (.ref b8), .val (.ref s_BIRTHDATE), .val (.ref s_CONSUMER), .val (.int (1 : Int32))] [(.int (1 : Int32))])) t
                    refine XS.goto X786.here hx rfl (pc0 := 180) (pc' := 184) rfl (hb hby at_180) (by decide) (by decide) ?_
                    show Steps p.tables e below (T786.setTop (mkF m 184 #[.val (.int p0), .val (.int p1), .val (.int (6 : Int32)), .val (.int (b0_4 p1)), .val (.ref b8), .val (.ref s_BIRTHDATE), .val (.ref s_CONSUMER), .val (.int (1 : Int32))] [(.int (1 : Int32))])) t
                    exact k
                  obtain ⟨fs, hr, hrun, hended, hW, hsame⟩ := X786.leave (v := some (.int (1 : Int32))) (fun h => by rw [Bd.returns] at h; cases h)
                  refine ⟨_, _, go788 _ (Jvm.RoadKit.retOut X786 hx Bd.returns rfl (Or.inl ⟨rfl, Or.inr (Or.inl rfl), _, rfl⟩) (hb hby at_184) hr), hrun, hended, _, _, rfl, ?_, ⟨_, rfl⟩, hW, hsame.mono (by decide) (by decide)⟩
                  show Q0 _ _ p0 p1 s_SUB s_EMAIL s_GIVEN_NAME s_MIDDLE_NAME s_FAMILY_NAME s_NICKNAME s_BIRTHDATE s_MOBILE_NUMBER s_NHI s_CPN s_RELATIONSHIPS s_CONFIDENCE_LEVEL s_WORKFORCE s_CONSUMER h0 _ (T786.setFrames fs).heap _
                  have hE : (T786.setFrames fs).heap = h609 := e786
                  rw [hE]
                  exact ⟨congrArg (fun z => some (Value.int z)) ((by rw [f0, if_neg hs656, if_neg hs675, if_neg hs694, if_neg hs713, if_neg hs732, if_neg hs751, if_pos hs770, if_neg hs774] : (1 : Int32) = (f0 p0 p1 s_WORKFORCE s_CONSUMER)).trans (f0_one p0 p1 s_WORKFORCE s_CONSUMER ne_CW)), N786⟩
              · by_cases hs789 : (v0_1 p0) = (7 : Int32)
                · have go790 : ∀ t, Steps p.tables e below (T609.setTop (mkF m 108 #[.val (.int p0), .val (.int p1), .val (.int (7 : Int32)), .val (.int (b0_4 p1)), .val (.ref b8), .unset, .unset, .unset] [(.int (7 : Int32)), (.ref b8)])) t → Steps p.tables e below (s₁.setTop (entryFrame m #[(.int p0), (.int p1)] maxLocals)) t := by
                    have q := go655
                    rw [hs789] at q
                    exact q
                  obtain ⟨cl791, Ar791, q791, S791, N791, H791, G791⟩ := id F654
                  have go792 : ∀ t, Steps p.tables e below (T609.setTop (mkF m 112 #[.val (.int p0), .val (.int p1), .val (.int (7 : Int32)), .val (.int (b0_4 p1)), .val (.ref b8), .val (.ref s_MOBILE_NUMBER), .unset, .unset] [(.int (b0_4 p1))])) t → Steps p.tables e below (s₁.setTop (entryFrame m #[(.int p0), (.int p1)] maxLocals)) t := by
                    intro t k
                    refine go790 _ ?_
                    refine X609.aaload hx (j := (7 : Int32)) (v := (.ref s_MOBILE_NUMBER)) (by rw [e609]; exact Ar791.1) (State.isArrayOf_alike hZ.alike Ar791.2.1) rfl Ar791.2.2 (inb_of S791 ⟨by decide, by decide⟩) (Has.at H791 (inb_of S791 ⟨by decide, by decide⟩) rfl) (g := (mkF m 108 #[.val (.int p0), .val (.int p1), .val (.int (7 : Int32)), .val (.int (b0_4 p1)), .val (.ref b8), .unset, .unset, .unset] [(.int (7 : Int32)), (.ref b8)])) rfl rfl (hb hby at_108) _ ?_
                    show Steps p.tables e below (T609.setTop (mkF m 109 #[.val (.int p0), .val (.int p1), .val (.int (7 : Int32)), .val (.int (b0_4 p1)), .val (.ref b8), .unset, .unset, .unset] [(.ref s_MOBILE_NUMBER)])) t
                    refine XS.astore X609.here hx rfl (hb hby at_109) rfl rfl (l' := #[.val (.int p0), .val (.int p1), .val (.int (7 : Int32)), .val (.int (b0_4 p1)), .val (.ref b8), .val (.ref s_MOBILE_NUMBER), .unset, .unset]) rfl ?_
                    show Steps p.tables e below (T609.setTop (mkF m 111 #[.val (.int p0), .val (.int p1), .val (.int (7 : Int32)), .val (.int (b0_4 p1)), .val (.ref b8), .val (.ref s_MOBILE_NUMBER), .unset, .unset] [])) t
                    refine XS.iloadN X609.here hx rfl (hb hby at_111) rfl ?_
                    show Steps p.tables e below (T609.setTop (mkF m 112 #[.val (.int p0), .val (.int p1), .val (.int (7 : Int32)), .val (.int (b0_4 p1)), .val (.ref b8), .val (.ref s_MOBILE_NUMBER), .unset, .unset] [(.int (b0_4 p1))])) t
                    exact k
                  by_cases hs793 : (b0_4 p1) = (0 : Int32)
                  · have go794 : ∀ t, Steps p.tables e below (T609.setTop (mkF m 121 #[.val (.int p0), .val (.int p1), .val (.int (7 : Int32)), .val (.int (b0_4 p1)), .val (.ref b8), .val (.ref s_MOBILE_NUMBER), .unset, .unset] [])) t → Steps p.tables e below (s₁.setTop (entryFrame m #[(.int p0), (.int p1)] maxLocals)) t := by
                      intro t k
                      refine go792 _ ?_
                      refine XS.ifYes X609.here hx rfl (pc0 := 112) (pc' := 121) rfl (hb hby at_112) rfl (XT.i0_eq_t hs793) (by decide) (by decide) ?_
                      show Steps p.tables e below (T609.setTop (mkF m 121 #[.val (.int p0), .val (.int p1), .val (.int (7 : Int32)), .val (.int (b0_4 p1)), .val (.ref b8), .val (.ref s_MOBILE_NUMBER), .unset, .unset] [])) t
                      exact k
                    obtain ⟨T795, X795, e795, st795⟩ := getS2 X609 hx hZ hown (host := "") (Or.inl (hw _ (List.mem_of_getElem? (i := 29) rfl))) Via.refl e609 F636 (g := (mkF m 121 #[.val (.int p0), .val (.int p1), .val (.int (7 : Int32)), .val (.int (b0_4 p1)), .val (.ref b8), .val (.ref s_MOBILE_NUMBER), .unset, .unset] [])) rfl (hb hby at_121)
                    have go796 : ∀ t, Steps p.tables e below (T795.setTop (mkF m 124 #[.val (.int p0), .val (.int p1), .val (.int (7 : Int32)), .val (.int (b0_4 p1)), .val (.ref b8), .val (.ref s_MOBILE_NUMBER), .unset, .unset] [(.ref s_WORKFORCE)])) t → Steps p.tables e below (s₁.setTop (entryFrame m #[(.int p0), (.int p1)] maxLocals)) t := fun t k => go794 _ (st795 _ k)
                    have go797 : ∀ t, Steps p.tables e below (T795.setTop (mkF m 171 #[.val (.int p0), .val (.int p1), .val (.int (7 : Int32)), .val (.int (b0_4 p1)), .val (.ref b8), .val (.ref s_MOBILE_NUMBER), .val (.ref s_WORKFORCE), .val (.int (1 : Int32))] [(.ref s_WORKFORCE), (.ref s_MOBILE_NUMBER)])) t → Steps p.tables e below (s₁.setTop (entryFrame m #[(.int p0), (.int p1)] maxLocals)) t := by
                      intro t k
                      refine go796 _ ?_
                      refine XS.astore X795.here hx rfl (hb hby at_124) rfl rfl (l' := #[.val (.int p0), .val (.int p1), .val (.int (7 : Int32)), .val (.int (b0_4 p1)), .val (.ref b8), .val (.ref s_MOBILE_NUMBER), .val (.ref s_WORKFORCE), .unset]) rfl ?_
                      show Steps p.tables e below (T795.setTop (mkF m 126 #[.val (.int p0), .val (.int p1), .val (.int (7 : Int32)), .val (.int (b0_4 p1)), .val (.ref b8), .val (.ref s_MOBILE_NUMBER), .val (.ref s_WORKFORCE), .unset] [])) t
                      refine XS.iloadN X795.here hx rfl (hb hby at_126) rfl ?_
                      show Steps p.tables e below (T795.setTop (mkF m 127 #[.val (.int p0), .val (.int p1), .val (.int (7 : Int32)), .val (.int (b0_4 p1)), .val (.ref b8), .val (.ref s_MOBILE_NUMBER), .val (.ref s_WORKFORCE), .unset] [(.int (7 : Int32))])) t
                      refine XS.bipush X795.here hx rfl (hb hby at_127) ?_
                      show Steps p.tables e below (T795.setTop (mkF m 129 #[.val (.int p0), .val (.int p1), .val (.int (7 : Int32)), .val (.int (b0_4 p1)), .val (.ref b8), .val (.ref s_MOBILE_NUMBER), .val (.ref s_WORKFORCE), .unset] [(.int (8 : Int32)), (.int (7 : Int32))])) t
                      refine XS.icmpNo X795.here hx rfl (hb hby at_129) rfl (XT.ii_eq_f (by decide : ¬ ((7 : Int32) = (8 : Int32)))) ?_
                      show Steps p.tables e below (T795.setTop (mkF m 132 #[.val (.int p0), .val (.int p1), .val (.int (7 : Int32)), .val (.int (b0_4 p1)), .val (.ref b8), .val (.ref s_MOBILE_NUMBER), .val (.ref s_WORKFORCE), .unset] [])) t
                      refine XS.iloadN X795.here hx rfl (hb hby at_132) rfl ?_
                      show Steps p.tables e below (T795.setTop (mkF m 133 #[.val (.int p0), .val (.int p1), .val (.int (7 : Int32)), .val (.int (b0_4 p1)), .val (.ref b8), .val (.ref s_MOBILE_NUMBER), .val (.ref s_WORKFORCE), .unset] [(.int (7 : Int32))])) t
                      refine XS.bipush X795.here hx rfl (hb hby at_133) ?_
                      show Steps p.tables e below (T795.setTop (mkF m 135 #[.val (.int p0), .val (.int p1), .val (.int (7 : Int32)), .val (.int (b0_4 p1)), .val (.ref b8), .val (.ref s_MOBILE_NUMBER), .val (.ref s_WORKFORCE), .unset] [(.int (10 : Int32)), (.int (7 : Int32))])) t
                      refine XS.icmpYes X795.here hx rfl (pc0 := 135) (pc' := 144) rfl (hb hby at_135) rfl (XT.ii_ne_t (by decide : ¬ ((7 : Int32) = (10 : Int32)))) (by decide) (by decide) ?_
                      show Steps p.tables e below (T795.setTop (mkF m 144 #[.val (.int p0), .val (.int p1), .val (.int (7 : Int32)), .val (.int (b0_4 p1)), .val (.ref b8), .val (.ref s_MOBILE_NUMBER), .val (.ref s_WORKFORCE), .unset] [])) t
                      refine XS.iloadN X795.here hx rfl (hb hby at_144) rfl ?_
                      show Steps p.tables e below (T795.setTop (mkF m 145 #[.val (.int p0), .val (.int p1), .val (.int (7 : Int32)), .val (.int (b0_4 p1)), .val (.ref b8), .val (.ref s_MOBILE_NUMBER), .val (.ref s_WORKFORCE), .unset] [(.int (7 : Int32))])) t
                      refine XS.bipush X795.here hx rfl (hb hby at_145) ?_
                      show Steps p.tables e below (T795.setTop (mkF m 147 #[.val (.int p0), .val (.int p1), .val (.int (7 : Int32)), .val (.int (b0_4 p1)), .val (.ref b8), .val (.ref s_MOBILE_NUMBER), .val (.ref s_WORKFORCE), .unset] [(.int (9 : Int32)), (.int (7 : Int32))])) t
                      refine XS.icmpYes X795.here hx rfl (pc0 := 147) (pc' := 164) rfl (hb hby at_147) rfl (XT.ii_ne_t (by decide : ¬ ((7 : Int32) = (9 : Int32)))) (by decide) (by decide) ?_
                      show Steps p.tables e below (T795.setTop (mkF m 164 #[.val (.int p0), .val (.int p1), .val (.int (7 : Int32)), .val (.int (b0_4 p1)), .val (.ref b8), .val (.ref s_MOBILE_NUMBER), .val (.ref s_WORKFORCE), .unset] [])) t
                      refine XS.iconst X795.here hx rfl (hb hby at_164) ?_
                      show Steps p.tables e below (T795.setTop (mkF m 165 #[.val (.int p0), .val (.int p1), .val (.int (7 : Int32)), .val (.int (b0_4 p1)), .val (.ref b8), .val (.ref s_MOBILE_NUMBER), .val (.ref s_WORKFORCE), .unset] [(.int (1 : Int32))])) t
                      refine XS.istore X795.here hx rfl (hb hby at_165) rfl (l' := #[.val (.int p0), .val (.int p1), .val (.int (7 : Int32)), .val (.int (b0_4 p1)), .val (.ref b8), .val (.ref s_MOBILE_NUMBER), .val (.ref s_WORKFORCE), .val (.int (1 : Int32))]) rfl ?_
                      show Steps p.tables e below (T795.setTop (mkF m 167 #[.val (.int p0), .val (.int p1), .val (.int (7 : Int32)), .val (.int (b0_4 p1)), .val (.ref b8), .val (.ref s_MOBILE_NUMBER), .val (.ref s_WORKFORCE), .val (.int (1 : Int32))] [])) t
                      refine XS.aload X795.here hx rfl (hb hby at_167) rfl rfl ?_
                      show Steps p.tables e below (T795.setTop (mkF m 169 #[.val (.int p0), .val (.int p1), .val (.int (7 : Int32)), .val (.int (b0_4 p1)), .val (.ref b8), .val (.ref s_MOBILE_NUMBER), .val (.ref s_WORKFORCE), .val (.int (1 : Int32))] [(.ref s_MOBILE_NUMBER)])) t
                      refine XS.aload X795.here hx rfl (hb hby at_169) rfl rfl ?_
                      show Steps p.tables e below (T795.setTop (mkF m 171 #[.val (.int p0), .val (.int p1), .val (.int (7 : Int32)), .val (.int (b0_4 p1)), .val (.ref b8), .val (.ref s_MOBILE_NUMBER), .val (.ref s_WORKFORCE), .val (.int (1 : Int32))] [(.ref s_WORKFORCE), (.ref s_MOBILE_NUMBER)])) t
                      exact k
                    obtain ⟨cq798, kq798, q798a, q798b, q798c⟩ := isOf hZ e795 F627
                    obtain ⟨_, _, ⟨T798, L798, k798, n798⟩, -, X798, ⟨Lc798, hQ798, l798, y798, z798⟩, st798⟩ := X795.virtualBack hx (y := (⟨"com/example/hauora_id/hauoraid/model/Claim", "heldIn", "(Lcom/example/hauora_id/hauoraid/model/Realm;)Z"⟩ : MethodName)) (z := (⟨"com/example/hauora_id/hauoraid/model/Claim", "heldIn", "(Lcom/example/hauora_id/hauoraid/model/Realm;)Z"⟩ : MethodName)) hown (mvT hZ (hw _ (List.mem_of_getElem? (i := 32) rfl))) (mvT hZ (hw _ (List.mem_of_getElem? (i := 33) rfl))) (notFace_of_selects (args := #[]) (mvT hZ (hw _ (List.mem_of_getElem? (i := 35) rfl)))) (mvT hZ (hw _ (List.mem_of_getElem? (i := 35) rfl))) (mvT hZ (hw _ (List.mem_of_getElem? (i := 34) rfl))) (by decide) (backOf (W := 0) (rm1n l Z aZ hw [] s_MOBILE_NUMBER s_WORKFORCE h609 n0 Zs609 F651) hZ (hw _ (List.mem_of_getElem? (i := 36) rfl)) (hw _ (List.mem_of_getElem? (i := 4) rfl)) (by decide) (by decide)) q798a q798c (g := (mkF m 171 #[.val (.int p0), .val (.int p1), .val (.int (7 : Int32)), .val (.int (b0_4 p1)), .val (.ref b8), .val (.ref s_MOBILE_NUMBER), .val (.ref s_WORKFORCE), .val (.int (1 : Int32))] [(.ref s_WORKFORCE), (.ref s_MOBILE_NUMBER)])) rfl (by rw [hml]; rfl) (Steps.refl _) (argsL := [(.ref s_WORKFORCE)]) (rest := []) (lenOf pd_15 rfl) rfl (by show 2 * 0 + _ ≤ _; exact Nat.le_of_eq rfl) (hb hby at_171) (fun _ _ => ⟨rfl, e795, (by decide : 1 + 0 ≤ _), (by decide : 12 + 0 ≤ _)⟩)
                    dsimp only [Pt.U, Pt.locs, Pt.cells, Pt.slots] at X798 l798 y798 z798 st798 hQ798
                    subst l798 y798 z798
                    obtain ⟨rfl, N798q, e798⟩ := hQ798
                    have N798 := Fr.app N609 N798q
                    have go799 : ∀ t, Steps p.tables e below (T798.setTop (mkF m 174 #[.val (.int p0), .val (.int p1), .val (.int (7 : Int32)), .val (.int (b0_4 p1)), .val (.ref b8), .val (.ref s_MOBILE_NUMBER), .val (.ref s_WORKFORCE), .val (.int (1 : Int32))] [(.int (1 : Int32))])) t → Steps p.tables e below (s₁.setTop (entryFrame m #[(.int p0), (.int p1)] maxLocals)) t := fun t k => go797 _ (st798.trans k)
                    have go800 : ∀ t, Steps p.tables e below (T798.setTop (mkF m 184 #[.val (.int p0), .val (.int p1), .val (.int (7 : Int32)), .val (.int (b0_4 p1)), .val (.ref b8), .val (.ref s_MOBILE_NUMBER), .val (.ref s_WORKFORCE), .val (.int (1 : Int32))] [(.int (1 : Int32))])) t → Steps p.tables e below (s₁.setTop (entryFrame m #[(.int p0), (.int p1)] maxLocals)) t := by
                      intro t k
                      refine go799 _ ?_
                      refine XS.iload X798.here hx rfl (hb hby at_174) rfl ?_
                      show Steps p.tables e below (T798.setTop (mkF m 176 #[.val (.int p0), .val (.int p1), .val (.int (7 : Int32)), .val (.int (b0_4 p1)), .val (.ref b8), .val (.ref s_MOBILE_NUMBER), .val (.ref s_WORKFORCE), .val (.int (1 : Int32))] [(.int (1 : Int32)), (.int (1 : Int32))])) t
                      refine XS.icmpNo X798.here hx rfl (hb hby at_176) rfl (XT.ii_ne_f (by decide : ((1 : Int32) = (1 : Int32)))) ?_
                      show Steps p.tables e below (T798.setTop (mkF m 179 #[.val (.int p0), .val (.int p1), .val (.int (7 : Int32)), .val (.int (b0_4 p1)), .val (.ref b8), .val (.ref s_MOBILE_NUMBER), .val (.ref s_WORKFORCE), .val (.int (1 : Int32))] [])) t
                      refine XS.iconst X798.here hx rfl (hb hby at_179) ?_
                      show Steps p.tables e below (T798.setTop (mkF m 180 #[.val (.int p0), .val (.int p1), .val (.int (7 : Int32)), .val (.int (b0_4 p1)), .val (.ref b8), .val (.ref s_MOBILE_NUMBER), .val (.ref s_WORKFORCE), .val (.int (1 : Int32))] [(.int (1 : Int32))])) t
                      refine XS.goto X798.here hx rfl (pc0 := 180) (pc' := 184) rfl (hb hby at_180) (by decide) (by decide) ?_
                      show Steps p.tables e below (T798.setTop (mkF m 184 #[.val (.int p0), .val (.int p1), .val (.int (7 : Int32)), .val (.int (b0_4 p1)), .val (.ref b8), .val (.ref s_MOBILE_NUMBER), .val (.ref s_WORKFORCE), .val (.int (1 : Int32))] [(.int (1 : Int32))])) t
                      exact k
                    obtain ⟨fs, hr, hrun, hended, hW, hsame⟩ := X798.leave (v := some (.int (1 : Int32))) (fun h => by rw [Bd.returns] at h; cases h)
                    refine ⟨_, _, go800 _ (Jvm.RoadKit.retOut X798 hx Bd.returns rfl (Or.inl ⟨rfl, Or.inr (Or.inl rfl), _, rfl⟩) (hb hby at_184) hr), hrun, hended, _, _, rfl, ?_, ⟨_, rfl⟩, hW, hsame.mono (by decide) (by decide)⟩
                    show Q0 _ _ p0 p1 s_SUB s_EMAIL s_GIVEN_NAME s_MIDDLE_NAME s_FAMILY_NAME s_NICKNAME s_BIRTHDATE s_MOBILE_NUMBER s_NHI s_CPN s_RELATIONSHIPS s_CONFIDENCE_LEVEL s_WORKFORCE s_CONSUMER h0 _ (T798.setFrames fs).heap _
                    have hE : (T798.setFrames fs).heap = h609 := e798
                    rw [hE]
                    exact ⟨congrArg (fun z => some (Value.int z)) ((by rw [f0, if_neg hs656, if_neg hs675, if_neg hs694, if_neg hs713, if_neg hs732, if_neg hs751, if_neg hs770, if_pos hs789, if_pos hs793] : (1 : Int32) = (f0 p0 p1 s_WORKFORCE s_CONSUMER)).trans (f0_one p0 p1 s_WORKFORCE s_CONSUMER ne_CW)), N798⟩
                  · have go801 : ∀ t, Steps p.tables e below (T609.setTop (mkF m 115 #[.val (.int p0), .val (.int p1), .val (.int (7 : Int32)), .val (.int (b0_4 p1)), .val (.ref b8), .val (.ref s_MOBILE_NUMBER), .unset, .unset] [])) t → Steps p.tables e below (s₁.setTop (entryFrame m #[(.int p0), (.int p1)] maxLocals)) t := by
                      intro t k
                      refine go792 _ ?_
                      refine XS.ifNo X609.here hx rfl (hb hby at_112) rfl (XT.i0_eq_f hs793) ?_
                      show Steps p.tables e below (T609.setTop (mkF m 115 #[.val (.int p0), .val (.int p1), .val (.int (7 : Int32)), .val (.int (b0_4 p1)), .val (.ref b8), .val (.ref s_MOBILE_NUMBER), .unset, .unset] [])) t
                      exact k
                    obtain ⟨T802, X802, e802, st802⟩ := getS2 X609 hx hZ hown (host := "") (Or.inl (hw _ (List.mem_of_getElem? (i := 39) rfl))) Via.refl e609 F640 (g := (mkF m 115 #[.val (.int p0), .val (.int p1), .val (.int (7 : Int32)), .val (.int (b0_4 p1)), .val (.ref b8), .val (.ref s_MOBILE_NUMBER), .unset, .unset] [])) rfl (hb hby at_115)
                    have go803 : ∀ t, Steps p.tables e below (T802.setTop (mkF m 118 #[.val (.int p0), .val (.int p1), .val (.int (7 : Int32)), .val (.int (b0_4 p1)), .val (.ref b8), .val (.ref s_MOBILE_NUMBER), .unset, .unset] [(.ref s_CONSUMER)])) t → Steps p.tables e below (s₁.setTop (entryFrame m #[(.int p0), (.int p1)] maxLocals)) t := fun t k => go801 _ (st802 _ k)
                    have go804 : ∀ t, Steps p.tables e below (T802.setTop (mkF m 171 #[.val (.int p0), .val (.int p1), .val (.int (7 : Int32)), .val (.int (b0_4 p1)), .val (.ref b8), .val (.ref s_MOBILE_NUMBER), .val (.ref s_CONSUMER), .val (.int (1 : Int32))] [(.ref s_CONSUMER), (.ref s_MOBILE_NUMBER)])) t → Steps p.tables e below (s₁.setTop (entryFrame m #[(.int p0), (.int p1)] maxLocals)) t := by
                      intro t k
                      refine go803 _ ?_
                      refine XS.goto X802.here hx rfl (pc0 := 118) (pc' := 124) rfl (hb hby at_118) (by decide) (by decide) ?_
                      show Steps p.tables e below (T802.setTop (mkF m 124 #[.val (.int p0), .val (.int p1), .val (.int (7 : Int32)), .val (.int (b0_4 p1)), .val (.ref b8), .val (.ref s_MOBILE_NUMBER), .unset, .unset] [(.ref s_CONSUMER)])) t
                      refine XS.astore X802.here hx rfl (hb hby at_124) rfl rfl (l' := #[.val (.int p0), .val (.int p1), .val (.int (7 : Int32)), .val (.int (b0_4 p1)), .val (.ref b8), .val (.ref s_MOBILE_NUMBER), .val (.ref s_CONSUMER), .unset]) rfl ?_
                      show Steps p.tables e below (T802.setTop (mkF m 126 #[.val (.int p0), .val (.int p1), .val (.int (7 : Int32)), .val (.int (b0_4 p1)), .val (.ref b8), .val (.ref s_MOBILE_NUMBER), .val (.ref s_CONSUMER), .unset] [])) t
                      refine XS.iloadN X802.here hx rfl (hb hby at_126) rfl ?_
                      show Steps p.tables e below (T802.setTop (mkF m 127 #[.val (.int p0), .val (.int p1), .val (.int (7 : Int32)), .val (.int (b0_4 p1)), .val (.ref b8), .val (.ref s_MOBILE_NUMBER), .val (.ref s_CONSUMER), .unset] [(.int (7 : Int32))])) t
                      refine XS.bipush X802.here hx rfl (hb hby at_127) ?_
                      show Steps p.tables e below (T802.setTop (mkF m 129 #[.val (.int p0), .val (.int p1), .val (.int (7 : Int32)), .val (.int (b0_4 p1)), .val (.ref b8), .val (.ref s_MOBILE_NUMBER), .val (.ref s_CONSUMER), .unset] [(.int (8 : Int32)), (.int (7 : Int32))])) t
                      refine XS.icmpNo X802.here hx rfl (hb hby at_129) rfl (XT.ii_eq_f (by decide : ¬ ((7 : Int32) = (8 : Int32)))) ?_
                      show Steps p.tables e below (T802.setTop (mkF m 132 #[.val (.int p0), .val (.int p1), .val (.int (7 : Int32)), .val (.int (b0_4 p1)), .val (.ref b8), .val (.ref s_MOBILE_NUMBER), .val (.ref s_CONSUMER), .unset] [])) t
                      refine XS.iloadN X802.here hx rfl (hb hby at_132) rfl ?_
                      show Steps p.tables e below (T802.setTop (mkF m 133 #[.val (.int p0), .val (.int p1), .val (.int (7 : Int32)), .val (.int (b0_4 p1)), .val (.ref b8), .val (.ref s_MOBILE_NUMBER), .val (.ref s_CONSUMER), .unset] [(.int (7 : Int32))])) t
                      refine XS.bipush X802.here hx rfl (hb hby at_133) ?_
                      show Steps p.tables e below (T802.setTop (mkF m 135 #[.val (.int p0), .val (.int p1), .val (.int (7 : Int32)), .val (.int (b0_4 p1)), .val (.ref b8), .val (.ref s_MOBILE_NUMBER), .val (.ref s_CONSUMER), .unset] [(.int (10 : Int32)), (.int (7 : Int32))])) t
                      refine XS.icmpYes X802.here hx rfl (pc0 := 135) (pc' := 144) rfl (hb hby at_135) rfl (XT.ii_ne_t (by decide : ¬ ((7 : Int32) = (10 : Int32)))) (by decide) (by decide) ?_
                      show Steps p.tables e below (T802.setTop (mkF m 144 #[.val (.int p0), .val (.int p1), .val (.int (7 : Int32)), .val (.int (b0_4 p1)), .val (.ref b8), .val (.ref s_MOBILE_NUMBER), .val (.ref s_CONSUMER), .unset] [])) t
                      refine XS.iloadN X802.here hx rfl (hb hby at_144) rfl ?_
                      show Steps p.tables e below (T802.setTop (mkF m 145 #[.val (.int p0), .val (.int p1), .val (.int (7 : Int32)), .val (.int (b0_4 p1)), .val (.ref b8), .val (.ref s_MOBILE_NUMBER), .val (.ref s_CONSUMER), .unset] [(.int (7 : Int32))])) t
                      refine XS.bipush X802.here hx rfl (hb hby at_145) ?_
                      show Steps p.tables e below (T802.setTop (mkF m 147 #[.val (.int p0), .val (.int p1), .val (.int (7 : Int32)), .val (.int (b0_4 p1)), .val (.ref b8), .val (.ref s_MOBILE_NUMBER), .val (.ref s_CONSUMER), .unset] [(.int (9 : Int32)), (.int (7 : Int32))])) t
                      refine XS.icmpYes X802.here hx rfl (pc0 := 147) (pc' := 164) rfl (hb hby at_147) rfl (XT.ii_ne_t (by decide : ¬ ((7 : Int32) = (9 : Int32)))) (by decide) (by decide) ?_
                      show Steps p.tables e below (T802.setTop (mkF m 164 #[.val (.int p0), .val (.int p1), .val (.int (7 : Int32)), .val (.int (b0_4 p1)), .val (.ref b8), .val (.ref s_MOBILE_NUMBER), .val (.ref s_CONSUMER), .unset] [])) t
                      refine XS.iconst X802.here hx rfl (hb hby at_164) ?_
                      show Steps p.tables e below (T802.setTop (mkF m 165 #[.val (.int p0), .val (.int p1), .val (.int (7 : Int32)), .val (.int (b0_4 p1)), .val (.ref b8), .val (.ref s_MOBILE_NUMBER), .val (.ref s_CONSUMER), .unset] [(.int (1 : Int32))])) t
                      refine XS.istore X802.here hx rfl (hb hby at_165) rfl (l' := #[.val (.int p0), .val (.int p1), .val (.int (7 : Int32)), .val (.int (b0_4 p1)), .val (.ref b8), .val (.ref s_MOBILE_NUMBER), .val (.ref s_CONSUMER), .val (.int (1 : Int32))]) rfl ?_
                      show Steps p.tables e below (T802.setTop (mkF m 167 #[.val (.int p0), .val (.int p1), .val (.int (7 : Int32)), .val (.int (b0_4 p1)), .val (.ref b8), .val (.ref s_MOBILE_NUMBER), .val (.ref s_CONSUMER), .val (.int (1 : Int32))] [])) t
                      refine XS.aload X802.here hx rfl (hb hby at_167) rfl rfl ?_
                      show Steps p.tables e below (T802.setTop (mkF m 169 #[.val (.int p0), .val (.int p1), .val (.int (7 : Int32)), .val (.int (b0_4 p1)), .val (.ref b8), .val (.ref s_MOBILE_NUMBER), .val (.ref s_CONSUMER), .val (.int (1 : Int32))] [(.ref s_MOBILE_NUMBER)])) t
                      refine XS.aload X802.here hx rfl (hb hby at_169) rfl rfl ?_
                      show Steps p.tables e below (T802.setTop (mkF m 171 #[.val (.int p0), .val (.int p1), .val (.int (7 : Int32)), .val (.int (b0_4 p1)), .val (.ref b8), .val (.ref s_MOBILE_NUMBER), .val (.ref s_CONSUMER), .val (.int (1 : Int32))] [(.ref s_CONSUMER), (.ref s_MOBILE_NUMBER)])) t
                      exact k
                    obtain ⟨cq805, kq805, q805a, q805b, q805c⟩ := isOf hZ e802 F627
                    obtain ⟨_, _, ⟨T805, L805, k805, n805⟩, -, X805, ⟨Lc805, hQ805, l805, y805, z805⟩, st805⟩ := X802.virtualBack hx (y := (⟨"com/example/hauora_id/hauoraid/model/Claim", "heldIn", "(Lcom/example/hauora_id/hauoraid/model/Realm;)Z"⟩ : MethodName)) (z := (⟨"com/example/hauora_id/hauoraid/model/Claim", "heldIn", "(Lcom/example/hauora_id/hauoraid/model/Realm;)Z"⟩ : MethodName)) hown (mvT hZ (hw _ (List.mem_of_getElem? (i := 32) rfl))) (mvT hZ (hw _ (List.mem_of_getElem? (i := 33) rfl))) (notFace_of_selects (args := #[]) (mvT hZ (hw _ (List.mem_of_getElem? (i := 35) rfl)))) (mvT hZ (hw _ (List.mem_of_getElem? (i := 35) rfl))) (mvT hZ (hw _ (List.mem_of_getElem? (i := 34) rfl))) (by decide) (backOf (W := 0) (rm1n l Z aZ hw [] s_MOBILE_NUMBER s_CONSUMER h609 n0 Zs609 F651) hZ (hw _ (List.mem_of_getElem? (i := 36) rfl)) (hw _ (List.mem_of_getElem? (i := 4) rfl)) (by decide) (by decide)) q805a q805c (g := (mkF m 171 #[.val (.int p0), .val (.int p1), .val (.int (7 : Int32)), .val (.int (b0_4 p1)), .val (.ref b8), .val (.ref s_MOBILE_NUMBER), .val (.ref s_CONSUMER), .val (.int (1 : Int32))] [(.ref s_CONSUMER), (.ref s_MOBILE_NUMBER)])) rfl (by rw [hml]; rfl) (Steps.refl _) (argsL := [(.ref s_CONSUMER)]) (rest := []) (lenOf pd_15 rfl) rfl (by show 2 * 0 + _ ≤ _; exact Nat.le_of_eq rfl) (hb hby at_171) (fun _ _ => ⟨rfl, e802, (by decide : 1 + 0 ≤ _), (by decide : 12 + 0 ≤ _)⟩)
                    dsimp only [Pt.U, Pt.locs, Pt.cells, Pt.slots] at X805 l805 y805 z805 st805 hQ805
                    subst l805 y805 z805
                    obtain ⟨rfl, N805q, e805⟩ := hQ805
                    have N805 := Fr.app N609 N805q
                    have go806 : ∀ t, Steps p.tables e below (T805.setTop (mkF m 174 #[.val (.int p0), .val (.int p1), .val (.int (7 : Int32)), .val (.int (b0_4 p1)), .val (.ref b8), .val (.ref s_MOBILE_NUMBER), .val (.ref s_CONSUMER), .val (.int (1 : Int32))] [(.int (1 : Int32))])) t → Steps p.tables e below (s₁.setTop (entryFrame m #[(.int p0), (.int p1)] maxLocals)) t := fun t k => go804 _ (st805.trans k)
                    have go807 : ∀ t, Steps p.tables e below (T805.setTop (mkF m 184 #[.val (.int p0), .val (.int p1), .val (.int (7 : Int32)), .val (.int (b0_4 p1)), .val (.ref b8), .val (.ref s_MOBILE_NUMBER), .val (.ref s_CONSUMER), .val (.int (1 : Int32))] [(.int (1 : Int32))])) t → Steps p.tables e below (s₁.setTop (entryFrame m #[(.int p0), (.int p1)] maxLocals)) t := by
                      intro t k
                      refine go806 _ ?_
                      refine XS.iload X805.here hx rfl (hb hby at_174) rfl ?_
                      show Steps p.tables e below (T805.setTop (mkF m 176 #[.val (.int p0), .val (.int p1), .val (.int (7 : Int32)), .val (.int (b0_4 p1)), .val (.ref b8), .val (.ref s_MOBILE_NUMBER), .val (.ref s_CONSUMER), .val (.int (1 : Int32))] [(.int (1 : Int32)), (.int (1 : Int32))])) t
                      refine XS.icmpNo X805.here hx rfl (hb hby at_176) rfl (XT.ii_ne_f (by decide : ((1 : Int32) = (1 : Int32)))) ?_
                      show Steps p.tables e below (T805.setTop (mkF m 179 #[.val (.int p0), .val (.int p1), .val (.int (7 : Int32)), .val (.int (b0_4 p1)), .val (.ref b8), .val (.ref s_MOBILE_NUMBER), .val (.ref s_CONSUMER), .val (.int (1 : Int32))] [])) t
                      refine XS.iconst X805.here hx rfl (hb hby at_179) ?_
                      show Steps p.tables e below (T805.setTop (mkF m 180 #[.val (.int p0), .val (.int p1), .val (.int (7 : Int32)), .val (.int (b0_4 p1)), .val (.ref b8), .val (.ref s_MOBILE_NUMBER), .val (.ref s_CONSUMER), .val (.int (1 : Int32))] [(.int (1 : Int32))])) t
                      refine XS.goto X805.here hx rfl (pc0 := 180) (pc' := 184) rfl (hb hby at_180) (by decide) (by decide) ?_
                      show Steps p.tables e below (T805.setTop (mkF m 184 #[.val (.int p0), .val (.int p1), .val (.int (7 : Int32)), .val (.int (b0_4 p1)), .val (.ref b8), .val (.ref s_MOBILE_NUMBER), .val (.ref s_CONSUMER), .val (.int (1 : Int32))] [(.int (1 : Int32))])) t
                      exact k
                    obtain ⟨fs, hr, hrun, hended, hW, hsame⟩ := X805.leave (v := some (.int (1 : Int32))) (fun h => by rw [Bd.returns] at h; cases h)
                    refine ⟨_, _, go807 _ (Jvm.RoadKit.retOut X805 hx Bd.returns rfl (Or.inl ⟨rfl, Or.inr (Or.inl rfl), _, rfl⟩) (hb hby at_184) hr), hrun, hended, _, _, rfl, ?_, ⟨_, rfl⟩, hW, hsame.mono (by decide) (by decide)⟩
                    show Q0 _ _ p0 p1 s_SUB s_EMAIL s_GIVEN_NAME s_MIDDLE_NAME s_FAMILY_NAME s_NICKNAME s_BIRTHDATE s_MOBILE_NUMBER s_NHI s_CPN s_RELATIONSHIPS s_CONFIDENCE_LEVEL s_WORKFORCE s_CONSUMER h0 _ (T805.setFrames fs).heap _
                    have hE : (T805.setFrames fs).heap = h609 := e805
                    rw [hE]
                    exact ⟨congrArg (fun z => some (Value.int z)) ((by rw [f0, if_neg hs656, if_neg hs675, if_neg hs694, if_neg hs713, if_neg hs732, if_neg hs751, if_neg hs770, if_pos hs789, if_neg hs793] : (1 : Int32) = (f0 p0 p1 s_WORKFORCE s_CONSUMER)).trans (f0_one p0 p1 s_WORKFORCE s_CONSUMER ne_CW)), N805⟩
                · by_cases hs808 : (v0_1 p0) = (8 : Int32)
                  · have go809 : ∀ t, Steps p.tables e below (T609.setTop (mkF m 108 #[.val (.int p0), .val (.int p1), .val (.int (8 : Int32)), .val (.int (b0_4 p1)), .val (.ref b8), .unset, .unset, .unset] [(.int (8 : Int32)), (.ref b8)])) t → Steps p.tables e below (s₁.setTop (entryFrame m #[(.int p0), (.int p1)] maxLocals)) t := by
                      have q := go655
                      rw [hs808] at q
                      exact q
                    obtain ⟨cl810, Ar810, q810, S810, N810, H810, G810⟩ := id F654
                    have go811 : ∀ t, Steps p.tables e below (T609.setTop (mkF m 112 #[.val (.int p0), .val (.int p1), .val (.int (8 : Int32)), .val (.int (b0_4 p1)), .val (.ref b8), .val (.ref s_NHI), .unset, .unset] [(.int (b0_4 p1))])) t → Steps p.tables e below (s₁.setTop (entryFrame m #[(.int p0), (.int p1)] maxLocals)) t := by
                      intro t k
                      refine go809 _ ?_
                      refine X609.aaload hx (j := (8 : Int32)) (v := (.ref s_NHI)) (by rw [e609]; exact Ar810.1) (State.isArrayOf_alike hZ.alike Ar810.2.1) rfl Ar810.2.2 (inb_of S810 ⟨by decide, by decide⟩) (Has.at H810 (inb_of S810 ⟨by decide, by decide⟩) rfl) (g := (mkF m 108 #[.val (.int p0), .val (.int p1), .val (.int (8 : Int32)), .val (.int (b0_4 p1)), .val (.ref b8), .unset, .unset, .unset] [(.int (8 : Int32)), (.ref b8)])) rfl rfl (hb hby at_108) _ ?_
                      show Steps p.tables e below (T609.setTop (mkF m 109 #[.val (.int p0), .val (.int p1), .val (.int (8 : Int32)), .val (.int (b0_4 p1)), .val (.ref b8), .unset, .unset, .unset] [(.ref s_NHI)])) t
                      refine XS.astore X609.here hx rfl (hb hby at_109) rfl rfl (l' := #[.val (.int p0), .val (.int p1), .val (.int (8 : Int32)), .val (.int (b0_4 p1)), .val (.ref b8), .val (.ref s_NHI), .unset, .unset]) rfl ?_
                      show Steps p.tables e below (T609.setTop (mkF m 111 #[.val (.int p0), .val (.int p1), .val (.int (8 : Int32)), .val (.int (b0_4 p1)), .val (.ref b8), .val (.ref s_NHI), .unset, .unset] [])) t
                      refine XS.iloadN X609.here hx rfl (hb hby at_111) rfl ?_
                      show Steps p.tables e below (T609.setTop (mkF m 112 #[.val (.int p0), .val (.int p1), .val (.int (8 : Int32)), .val (.int (b0_4 p1)), .val (.ref b8), .val (.ref s_NHI), .unset, .unset] [(.int (b0_4 p1))])) t
                      exact k
                    by_cases hs812 : (b0_4 p1) = (0 : Int32)
                    · have go813 : ∀ t, Steps p.tables e below (T609.setTop (mkF m 121 #[.val (.int p0), .val (.int p1), .val (.int (8 : Int32)), .val (.int (b0_4 p1)), .val (.ref b8), .val (.ref s_NHI), .unset, .unset] [])) t → Steps p.tables e below (s₁.setTop (entryFrame m #[(.int p0), (.int p1)] maxLocals)) t := by
                        intro t k
                        refine go811 _ ?_
                        refine XS.ifYes X609.here hx rfl (pc0 := 112) (pc' := 121) rfl (hb hby at_112) rfl (XT.i0_eq_t hs812) (by decide) (by decide) ?_
                        show Steps p.tables e below (T609.setTop (mkF m 121 #[.val (.int p0), .val (.int p1), .val (.int (8 : Int32)), .val (.int (b0_4 p1)), .val (.ref b8), .val (.ref s_NHI), .unset, .unset] [])) t
                        exact k
                      obtain ⟨T814, X814, e814, st814⟩ := getS2 X609 hx hZ hown (host := "") (Or.inl (hw _ (List.mem_of_getElem? (i := 29) rfl))) Via.refl e609 F636 (g := (mkF m 121 #[.val (.int p0), .val (.int p1), .val (.int (8 : Int32)), .val (.int (b0_4 p1)), .val (.ref b8), .val (.ref s_NHI), .unset, .unset] [])) rfl (hb hby at_121)
                      have go815 : ∀ t, Steps p.tables e below (T814.setTop (mkF m 124 #[.val (.int p0), .val (.int p1), .val (.int (8 : Int32)), .val (.int (b0_4 p1)), .val (.ref b8), .val (.ref s_NHI), .unset, .unset] [(.ref s_WORKFORCE)])) t → Steps p.tables e below (s₁.setTop (entryFrame m #[(.int p0), (.int p1)] maxLocals)) t := fun t k => go813 _ (st814 _ k)
                      have go816 : ∀ t, Steps p.tables e below (T814.setTop (mkF m 171 #[.val (.int p0), .val (.int p1), .val (.int (8 : Int32)), .val (.int (b0_4 p1)), .val (.ref b8), .val (.ref s_NHI), .val (.ref s_WORKFORCE), .val (.int (b0_4 p1))] [(.ref s_WORKFORCE), (.ref s_NHI)])) t → Steps p.tables e below (s₁.setTop (entryFrame m #[(.int p0), (.int p1)] maxLocals)) t := by
                        intro t k
                        refine go815 _ ?_
                        refine XS.astore X814.here hx rfl (hb hby at_124) rfl rfl (l' := #[.val (.int p0), .val (.int p1), .val (.int (8 : Int32)), .val (.int (b0_4 p1)), .val (.ref b8), .val (.ref s_NHI), .val (.ref s_WORKFORCE), .unset]) rfl ?_
                        show Steps p.tables e below (T814.setTop (mkF m 126 #[.val (.int p0), .val (.int p1), .val (.int (8 : Int32)), .val (.int (b0_4 p1)), .val (.ref b8), .val (.ref s_NHI), .val (.ref s_WORKFORCE), .unset] [])) t
                        refine XS.iloadN X814.here hx rfl (hb hby at_126) rfl ?_
                        show Steps p.tables e below (T814.setTop (mkF m 127 #[.val (.int p0), .val (.int p1), .val (.int (8 : Int32)), .val (.int (b0_4 p1)), .val (.ref b8), .val (.ref s_NHI), .val (.ref s_WORKFORCE), .unset] [(.int (8 : Int32))])) t
                        refine XS.bipush X814.here hx rfl (hb hby at_127) ?_
                        show Steps p.tables e below (T814.setTop (mkF m 129 #[.val (.int p0), .val (.int p1), .val (.int (8 : Int32)), .val (.int (b0_4 p1)), .val (.ref b8), .val (.ref s_NHI), .val (.ref s_WORKFORCE), .unset] [(.int (8 : Int32)), (.int (8 : Int32))])) t
                        refine XS.icmpYes X814.here hx rfl (pc0 := 129) (pc' := 138) rfl (hb hby at_129) rfl (XT.ii_eq_t (by decide : ((8 : Int32) = (8 : Int32)))) (by decide) (by decide) ?_
                        show Steps p.tables e below (T814.setTop (mkF m 138 #[.val (.int p0), .val (.int p1), .val (.int (8 : Int32)), .val (.int (b0_4 p1)), .val (.ref b8), .val (.ref s_NHI), .val (.ref s_WORKFORCE), .unset] [])) t
                        refine XS.iloadN X814.here hx rfl (hb hby at_138) rfl ?_
                        show Steps p.tables e below (T814.setTop (mkF m 139 #[.val (.int p0), .val (.int p1), .val (.int (8 : Int32)), .val (.int (b0_4 p1)), .val (.ref b8), .val (.ref s_NHI), .val (.ref s_WORKFORCE), .unset] [(.int (b0_4 p1))])) t
                        refine XS.istore X814.here hx rfl (hb hby at_139) rfl (l' := #[.val (.int p0), .val (.int p1), .val (.int (8 : Int32)), .val (.int (b0_4 p1)), .val (.ref b8), .val (.ref s_NHI), .val (.ref s_WORKFORCE), .val (.int (b0_4 p1))]) rfl ?_
                        show Steps p.tables e below (T814.setTop (mkF m 141 #[.val (.int p0), .val (.int p1), .val (.int (8 : Int32)), .val (.int (b0_4 p1)), .val (.ref b8), .val (.ref s_NHI), .val (.ref s_WORKFORCE), .val (.int (b0_4 p1))] [])) t
                        refine XS.goto X814.here hx rfl (pc0 := 141) (pc' := 167) rfl (hb hby at_141) (by decide) (by decide) ?_
                        show Steps p.tables e below (T814.setTop (mkF m 167 #[.val (.int p0), .val (.int p1), .val (.int (8 : Int32)), .val (.int (b0_4 p1)), .val (.ref b8), .val (.ref s_NHI), .val (.ref s_WORKFORCE), .val (.int (b0_4 p1))] [])) t
                        refine XS.aload X814.here hx rfl (hb hby at_167) rfl rfl ?_
                        show Steps p.tables e below (T814.setTop (mkF m 169 #[.val (.int p0), .val (.int p1), .val (.int (8 : Int32)), .val (.int (b0_4 p1)), .val (.ref b8), .val (.ref s_NHI), .val (.ref s_WORKFORCE), .val (.int (b0_4 p1))] [(.ref s_NHI)])) t
                        refine XS.aload X814.here hx rfl (hb hby at_169) rfl rfl ?_
                        show Steps p.tables e below (T814.setTop (mkF m 171 #[.val (.int p0), .val (.int p1), .val (.int (8 : Int32)), .val (.int (b0_4 p1)), .val (.ref b8), .val (.ref s_NHI), .val (.ref s_WORKFORCE), .val (.int (b0_4 p1))] [(.ref s_WORKFORCE), (.ref s_NHI)])) t
                        exact k
                      obtain ⟨cq817, kq817, q817a, q817b, q817c⟩ := isOf hZ e814 F629
                      obtain ⟨_, _, ⟨T817, L817, k817, n817⟩, -, X817, ⟨Lc817, hQ817, l817, y817, z817⟩, st817⟩ := X814.virtualBack hx (y := (⟨"com/example/hauora_id/hauoraid/model/Claim", "heldIn", "(Lcom/example/hauora_id/hauoraid/model/Realm;)Z"⟩ : MethodName)) (z := (⟨"com/example/hauora_id/hauoraid/model/Claim", "heldIn", "(Lcom/example/hauora_id/hauoraid/model/Realm;)Z"⟩ : MethodName)) hown (mvT hZ (hw _ (List.mem_of_getElem? (i := 32) rfl))) (mvT hZ (hw _ (List.mem_of_getElem? (i := 33) rfl))) (notFace_of_selects (args := #[]) (mvT hZ (hw _ (List.mem_of_getElem? (i := 35) rfl)))) (mvT hZ (hw _ (List.mem_of_getElem? (i := 35) rfl))) (mvT hZ (hw _ (List.mem_of_getElem? (i := 34) rfl))) (by decide) (backOf (W := 0) (rm1r l Z aZ hw [] s_NHI s_WORKFORCE s_CONSUMER h609 n0 Zs609 F642) hZ (hw _ (List.mem_of_getElem? (i := 36) rfl)) (hw _ (List.mem_of_getElem? (i := 4) rfl)) (by decide) (by decide)) q817a q817c (g := (mkF m 171 #[.val (.int p0), .val (.int p1), .val (.int (8 : Int32)), .val (.int (b0_4 p1)), .val (.ref b8), .val (.ref s_NHI), .val (.ref s_WORKFORCE), .val (.int (b0_4 p1))] [(.ref s_WORKFORCE), (.ref s_NHI)])) rfl (by rw [hml]; rfl) (Steps.refl _) (argsL := [(.ref s_WORKFORCE)]) (rest := []) (lenOf pd_15 rfl) rfl (by show 2 * 0 + _ ≤ _; exact Nat.le_of_eq rfl) (hb hby at_171) (fun _ _ => ⟨rfl, e814, (by decide : 1 + 0 ≤ _), (by decide : 12 + 0 ≤ _)⟩)
                      dsimp only [Pt.U, Pt.locs, Pt.cells, Pt.slots] at X817 l817 y817 z817 st817 hQ817
                      subst l817 y817 z817
                      obtain ⟨rfl, N817q, e817⟩ := hQ817
                      have N817 := Fr.app N609 N817q
                      have go818 : ∀ t, Steps p.tables e below (T817.setTop (mkF m 174 #[.val (.int p0), .val (.int p1), .val (.int (8 : Int32)), .val (.int (b0_4 p1)), .val (.ref b8), .val (.ref s_NHI), .val (.ref s_WORKFORCE), .val (.int (b0_4 p1))] [(.int (f1r s_WORKFORCE s_CONSUMER))])) t → Steps p.tables e below (s₁.setTop (entryFrame m #[(.int p0), (.int p1)] maxLocals)) t := fun t k => go816 _ (st817.trans k)
                      have go820 : ∀ t, Steps p.tables e below (T817.setTop (mkF m 184 #[.val (.int p0), .val (.int p1), .val (.int (8 : Int32)), .val (.int (b0_4 p1)), .val (.ref b8), .val (.ref s_NHI), .val (.ref s_WORKFORCE), .val (.int (b0_4 p1))] [(.int (b0_821 p1 s_WORKFORCE s_CONSUMER))])) t → Steps p.tables e below (s₁.setTop (entryFrame m #[(.int p0), (.int p1)] maxLocals)) t := by
                        intro t k
                        refine go818 _ ?_
                        refine XS.iload X817.here hx rfl (hb hby at_174) rfl ?_
                        show Steps p.tables e below (T817.setTop (mkF m 176 #[.val (.int p0), .val (.int p1), .val (.int (8 : Int32)), .val (.int (b0_4 p1)), .val (.ref b8), .val (.ref s_NHI), .val (.ref s_WORKFORCE), .val (.int (b0_4 p1))] [(.int (b0_4 p1)), (.int (f1r s_WORKFORCE s_CONSUMER))])) t
                        by_cases hc819 : (f1r s_WORKFORCE s_CONSUMER) = (b0_4 p1)
                        · refine XS.icmpNo X817.here hx rfl (hb hby at_176) rfl (XT.ii_ne_f hc819) ?_
                          show Steps p.tables e below (T817.setTop (mkF m 179 #[.val (.int p0), .val (.int p1), .val (.int (8 : Int32)), .val (.int (b0_4 p1)), .val (.ref b8), .val (.ref s_NHI), .val (.ref s_WORKFORCE), .val (.int (b0_4 p1))] [])) t
                          refine XS.iconst X817.here hx rfl (hb hby at_179) ?_
                          show Steps p.tables e below (T817.setTop (mkF m 180 #[.val (.int p0), .val (.int p1), .val (.int (8 : Int32)), .val (.int (b0_4 p1)), .val (.ref b8), .val (.ref s_NHI), .val (.ref s_WORKFORCE), .val (.int (b0_4 p1))] [(.int (1 : Int32))])) t
                          refine XS.goto X817.here hx rfl (pc0 := 180) (pc' := 184) rfl (hb hby at_180) (by decide) (by decide) ?_
                          show Steps p.tables e below (T817.setTop (mkF m 184 #[.val (.int p0), .val (.int p1), .val (.int (8 : Int32)), .val (.int (b0_4 p1)), .val (.ref b8), .val (.ref s_NHI), .val (.ref s_WORKFORCE), .val (.int (b0_4 p1))] [(.int (1 : Int32))])) t
                          have hq822 : (b0_821 p1 s_WORKFORCE s_CONSUMER) = (1 : Int32) := by rw [b0_821, if_pos hc819]
                          rw [hq822] at k
                          exact k
                        · refine XS.icmpYes X817.here hx rfl (pc0 := 176) (pc' := 183) rfl (hb hby at_176) rfl (XT.ii_ne_t hc819) (by decide) (by decide) ?_
                          show Steps p.tables e below (T817.setTop (mkF m 183 #[.val (.int p0), .val (.int p1), .val (.int (8 : Int32)), .val (.int (b0_4 p1)), .val (.ref b8), .val (.ref s_NHI), .val (.ref s_WORKFORCE), .val (.int (b0_4 p1))] [])) t
                          refine XS.iconst X817.here hx rfl (hb hby at_183) ?_
                          show Steps p.tables e below (T817.setTop (mkF m 184 #[.val (.int p0), .val (.int p1), .val (.int (8 : Int32)), .val (.int (b0_4 p1)), .val (.ref b8), .val (.ref s_NHI), .val (.ref s_WORKFORCE), .val (.int (b0_4 p1))] [(.int (0 : Int32))])) t
                          have hq823 : (b0_821 p1 s_WORKFORCE s_CONSUMER) = (0 : Int32) := by rw [b0_821, if_neg hc819]
                          rw [hq823] at k
                          exact k
                      obtain ⟨fs, hr, hrun, hended, hW, hsame⟩ := X817.leave (v := some (.int (b0_821 p1 s_WORKFORCE s_CONSUMER))) (fun h => by rw [Bd.returns] at h; cases h)
                      refine ⟨_, _, go820 _ (Jvm.RoadKit.retOut X817 hx Bd.returns (own_nz (by unfold b0_821; (repeat' split) <;> first | exact Or.inl rfl | exact Or.inr rfl)) (Or.inl ⟨rfl, Or.inr (Or.inl rfl), _, rfl⟩) (hb hby at_184) hr), hrun, hended, _, _, rfl, ?_, ⟨_, rfl⟩, hW, hsame.mono (by decide) (by decide)⟩
                      show Q0 _ _ p0 p1 s_SUB s_EMAIL s_GIVEN_NAME s_MIDDLE_NAME s_FAMILY_NAME s_NICKNAME s_BIRTHDATE s_MOBILE_NUMBER s_NHI s_CPN s_RELATIONSHIPS s_CONFIDENCE_LEVEL s_WORKFORCE s_CONSUMER h0 _ (T817.setFrames fs).heap _
                      have hE : (T817.setFrames fs).heap = h609 := e817
                      rw [hE]
                      exact ⟨congrArg (fun z => some (Value.int z)) ((by rw [f0, if_neg hs656, if_neg hs675, if_neg hs694, if_neg hs713, if_neg hs732, if_neg hs751, if_neg hs770, if_neg hs789, if_pos hs808, if_pos hs812] : (b0_821 p1 s_WORKFORCE s_CONSUMER) = (f0 p0 p1 s_WORKFORCE s_CONSUMER)).trans (f0_one p0 p1 s_WORKFORCE s_CONSUMER ne_CW)), N817⟩
                    · have go824 : ∀ t, Steps p.tables e below (T609.setTop (mkF m 115 #[.val (.int p0), .val (.int p1), .val (.int (8 : Int32)), .val (.int (b0_4 p1)), .val (.ref b8), .val (.ref s_NHI), .unset, .unset] [])) t → Steps p.tables e below (s₁.setTop (entryFrame m #[(.int p0), (.int p1)] maxLocals)) t := by
                        intro t k
                        refine go811 _ ?_
                        refine XS.ifNo X609.here hx rfl (hb hby at_112) rfl (XT.i0_eq_f hs812) ?_
                        show Steps p.tables e below (T609.setTop (mkF m 115 #[.val (.int p0), .val (.int p1), .val (.int (8 : Int32)), .val (.int (b0_4 p1)), .val (.ref b8), .val (.ref s_NHI), .unset, .unset] [])) t
                        exact k
                      obtain ⟨T825, X825, e825, st825⟩ := getS2 X609 hx hZ hown (host := "") (Or.inl (hw _ (List.mem_of_getElem? (i := 39) rfl))) Via.refl e609 F640 (g := (mkF m 115 #[.val (.int p0), .val (.int p1), .val (.int (8 : Int32)), .val (.int (b0_4 p1)), .val (.ref b8), .val (.ref s_NHI), .unset, .unset] [])) rfl (hb hby at_115)
                      have go826 : ∀ t, Steps p.tables e below (T825.setTop (mkF m 118 #[.val (.int p0), .val (.int p1), .val (.int (8 : Int32)), .val (.int (b0_4 p1)), .val (.ref b8), .val (.ref s_NHI), .unset, .unset] [(.ref s_CONSUMER)])) t → Steps p.tables e below (s₁.setTop (entryFrame m #[(.int p0), (.int p1)] maxLocals)) t := fun t k => go824 _ (st825 _ k)
                      have go827 : ∀ t, Steps p.tables e below (T825.setTop (mkF m 171 #[.val (.int p0), .val (.int p1), .val (.int (8 : Int32)), .val (.int (b0_4 p1)), .val (.ref b8), .val (.ref s_NHI), .val (.ref s_CONSUMER), .val (.int (b0_4 p1))] [(.ref s_CONSUMER), (.ref s_NHI)])) t → Steps p.tables e below (s₁.setTop (entryFrame m #[(.int p0), (.int p1)] maxLocals)) t := by
                        intro t k
                        refine go826 _ ?_
                        refine XS.goto X825.here hx rfl (pc0 := 118) (pc' := 124) rfl (hb hby at_118) (by decide) (by decide) ?_
                        show Steps p.tables e below (T825.setTop (mkF m 124 #[.val (.int p0), .val (.int p1), .val (.int (8 : Int32)), .val (.int (b0_4 p1)), .val (.ref b8), .val (.ref s_NHI), .unset, .unset] [(.ref s_CONSUMER)])) t
                        refine XS.astore X825.here hx rfl (hb hby at_124) rfl rfl (l' := #[.val (.int p0), .val (.int p1), .val (.int (8 : Int32)), .val (.int (b0_4 p1)), .val (.ref b8), .val (.ref s_NHI), .val (.ref s_CONSUMER), .unset]) rfl ?_
                        show Steps p.tables e below (T825.setTop (mkF m 126 #[.val (.int p0), .val (.int p1), .val (.int (8 : Int32)), .val (.int (b0_4 p1)), .val (.ref b8), .val (.ref s_NHI), .val (.ref s_CONSUMER), .unset] [])) t
                        refine XS.iloadN X825.here hx rfl (hb hby at_126) rfl ?_
                        show Steps p.tables e below (T825.setTop (mkF m 127 #[.val (.int p0), .val (.int p1), .val (.int (8 : Int32)), .val (.int (b0_4 p1)), .val (.ref b8), .val (.ref s_NHI), .val (.ref s_CONSUMER), .unset] [(.int (8 : Int32))])) t
                        refine XS.bipush X825.here hx rfl (hb hby at_127) ?_
                        show Steps p.tables e below (T825.setTop (mkF m 129 #[.val (.int p0), .val (.int p1), .val (.int (8 : Int32)), .val (.int (b0_4 p1)), .val (.ref b8), .val (.ref s_NHI), .val (.ref s_CONSUMER), .unset] [(.int (8 : Int32)), (.int (8 : Int32))])) t
                        refine XS.icmpYes X825.here hx rfl (pc0 := 129) (pc' := 138) rfl (hb hby at_129) rfl (XT.ii_eq_t (by decide : ((8 : Int32) = (8 : Int32)))) (by decide) (by decide) ?_
                        show Steps p.tables e below (T825.setTop (mkF m 138 #[.val (.int p0), .val (.int p1), .val (.int (8 : Int32)), .val (.int (b0_4 p1)), .val (.ref b8), .val (.ref s_NHI), .val (.ref s_CONSUMER), .unset] [])) t
                        refine XS.iloadN X825.here hx rfl (hb hby at_138) rfl ?_
                        show Steps p.tables e below (T825.setTop (mkF m 139 #[.val (.int p0), .val (.int p1), .val (.int (8 : Int32)), .val (.int (b0_4 p1)), .val (.ref b8), .val (.ref s_NHI), .val (.ref s_CONSUMER), .unset] [(.int (b0_4 p1))])) t
                        refine XS.istore X825.here hx rfl (hb hby at_139) rfl (l' := #[.val (.int p0), .val (.int p1), .val (.int (8 : Int32)), .val (.int (b0_4 p1)), .val (.ref b8), .val (.ref s_NHI), .val (.ref s_CONSUMER), .val (.int (b0_4 p1))]) rfl ?_
                        show Steps p.tables e below (T825.setTop (mkF m 141 #[.val (.int p0), .val (.int p1), .val (.int (8 : Int32)), .val (.int (b0_4 p1)), .val (.ref b8), .val (.ref s_NHI), .val (.ref s_CONSUMER), .val (.int (b0_4 p1))] [])) t
                        refine XS.goto X825.here hx rfl (pc0 := 141) (pc' := 167) rfl (hb hby at_141) (by decide) (by decide) ?_
                        show Steps p.tables e below (T825.setTop (mkF m 167 #[.val (.int p0), .val (.int p1), .val (.int (8 : Int32)), .val (.int (b0_4 p1)), .val (.ref b8), .val (.ref s_NHI), .val (.ref s_CONSUMER), .val (.int (b0_4 p1))] [])) t
                        refine XS.aload X825.here hx rfl (hb hby at_167) rfl rfl ?_
                        show Steps p.tables e below (T825.setTop (mkF m 169 #[.val (.int p0), .val (.int p1), .val (.int (8 : Int32)), .val (.int (b0_4 p1)), .val (.ref b8), .val (.ref s_NHI), .val (.ref s_CONSUMER), .val (.int (b0_4 p1))] [(.ref s_NHI)])) t
                        refine XS.aload X825.here hx rfl (hb hby at_169) rfl rfl ?_
                        show Steps p.tables e below (T825.setTop (mkF m 171 #[.val (.int p0), .val (.int p1), .val (.int (8 : Int32)), .val (.int (b0_4 p1)), .val (.ref b8), .val (.ref s_NHI), .val (.ref s_CONSUMER), .val (.int (b0_4 p1))] [(.ref s_CONSUMER), (.ref s_NHI)])) t
                        exact k
                      obtain ⟨cq828, kq828, q828a, q828b, q828c⟩ := isOf hZ e825 F629
                      obtain ⟨_, _, ⟨T828, L828, k828, n828⟩, -, X828, ⟨Lc828, hQ828, l828, y828, z828⟩, st828⟩ := X825.virtualBack hx (y := (⟨"com/example/hauora_id/hauoraid/model/Claim", "heldIn", "(Lcom/example/hauora_id/hauoraid/model/Realm;)Z"⟩ : MethodName)) (z := (⟨"com/example/hauora_id/hauoraid/model/Claim", "heldIn", "(Lcom/example/hauora_id/hauoraid/model/Realm;)Z"⟩ : MethodName)) hown (mvT hZ (hw _ (List.mem_of_getElem? (i := 32) rfl))) (mvT hZ (hw _ (List.mem_of_getElem? (i := 33) rfl))) (notFace_of_selects (args := #[]) (mvT hZ (hw _ (List.mem_of_getElem? (i := 35) rfl)))) (mvT hZ (hw _ (List.mem_of_getElem? (i := 35) rfl))) (mvT hZ (hw _ (List.mem_of_getElem? (i := 34) rfl))) (by decide) (backOf (W := 0) (rm1r l Z aZ hw [] s_NHI s_CONSUMER s_CONSUMER h609 n0 Zs609 F642) hZ (hw _ (List.mem_of_getElem? (i := 36) rfl)) (hw _ (List.mem_of_getElem? (i := 4) rfl)) (by decide) (by decide)) q828a q828c (g := (mkF m 171 #[.val (.int p0), .val (.int p1), .val (.int (8 : Int32)), .val (.int (b0_4 p1)), .val (.ref b8), .val (.ref s_NHI), .val (.ref s_CONSUMER), .val (.int (b0_4 p1))] [(.ref s_CONSUMER), (.ref s_NHI)])) rfl (by rw [hml]; rfl) (Steps.refl _) (argsL := [(.ref s_CONSUMER)]) (rest := []) (lenOf pd_15 rfl) rfl (by show 2 * 0 + _ ≤ _; exact Nat.le_of_eq rfl) (hb hby at_171) (fun _ _ => ⟨rfl, e825, (by decide : 1 + 0 ≤ _), (by decide : 12 + 0 ≤ _)⟩)
                      dsimp only [Pt.U, Pt.locs, Pt.cells, Pt.slots] at X828 l828 y828 z828 st828 hQ828
                      subst l828 y828 z828
                      obtain ⟨rfl, N828q, e828⟩ := hQ828
                      have N828 := Fr.app N609 N828q
                      have go829 : ∀ t, Steps p.tables e below (T828.setTop (mkF m 174 #[.val (.int p0), .val (.int p1), .val (.int (8 : Int32)), .val (.int (b0_4 p1)), .val (.ref b8), .val (.ref s_NHI), .val (.ref s_CONSUMER), .val (.int (b0_4 p1))] [(.int (f1r s_CONSUMER s_CONSUMER))])) t → Steps p.tables e below (s₁.setTop (entryFrame m #[(.int p0), (.int p1)] maxLocals)) t := fun t k => go827 _ (st828.trans k)
                      have go831 : ∀ t, Steps p.tables e below (T828.setTop (mkF m 184 #[.val (.int p0), .val (.int p1), .val (.int (8 : Int32)), .val (.int (b0_4 p1)), .val (.ref b8), .val (.ref s_NHI), .val (.ref s_CONSUMER), .val (.int (b0_4 p1))] [(.int (b0_832 p1 s_CONSUMER))])) t → Steps p.tables e below (s₁.setTop (entryFrame m #[(.int p0), (.int p1)] maxLocals)) t := by
                        intro t k
                        refine go829 _ ?_
                        refine XS.iload X828.here hx rfl (hb hby at_174) rfl ?_
                        show Steps p.tables e below (T828.setTop (mkF m 176 #[.val (.int p0), .val (.int p1), .val (.int (8 : Int32)), .val (.int (b0_4 p1)), .val (.ref b8), .val (.ref s_NHI), .val (.ref s_CONSUMER), .val (.int (b0_4 p1))] [(.int (b0_4 p1)), (.int (f1r s_CONSUMER s_CONSUMER))])) t
                        by_cases hc830 : (f1r s_CONSUMER s_CONSUMER) = (b0_4 p1)
                        · refine XS.icmpNo X828.here hx rfl (hb hby at_176) rfl (XT.ii_ne_f hc830) ?_
                          show Steps p.tables e below (T828.setTop (mkF m 179 #[.val (.int p0), .val (.int p1), .val (.int (8 : Int32)), .val (.int (b0_4 p1)), .val (.ref b8), .val (.ref s_NHI), .val (.ref s_CONSUMER), .val (.int (b0_4 p1))] [])) t
                          refine XS.iconst X828.here hx rfl (hb hby at_179) ?_
                          show Steps p.tables e below (T828.setTop (mkF m 180 #[.val (.int p0), .val (.int p1), .val (.int (8 : Int32)), .val (.int (b0_4 p1)), .val (.ref b8), .val (.ref s_NHI), .val (.ref s_CONSUMER), .val (.int (b0_4 p1))] [(.int (1 : Int32))])) t
                          refine XS.goto X828.here hx rfl (pc0 := 180) (pc' := 184) rfl (hb hby at_180) (by decide) (by decide) ?_
                          show Steps p.tables e below (T828.setTop (mkF m 184 #[.val (.int p0), .val (.int p1), .val (.int (8 : Int32)), .val (.int (b0_4 p1)), .val (.ref b8), .val (.ref s_NHI), .val (.ref s_CONSUMER), .val (.int (b0_4 p1))] [(.int (1 : Int32))])) t
                          have hq833 : (b0_832 p1 s_CONSUMER) = (1 : Int32) := by rw [b0_832, if_pos hc830]
                          rw [hq833] at k
                          exact k
                        · refine XS.icmpYes X828.here hx rfl (pc0 := 176) (pc' := 183) rfl (hb hby at_176) rfl (XT.ii_ne_t hc830) (by decide) (by decide) ?_
                          show Steps p.tables e below (T828.setTop (mkF m 183 #[.val (.int p0), .val (.int p1), .val (.int (8 : Int32)), .val (.int (b0_4 p1)), .val (.ref b8), .val (.ref s_NHI), .val (.ref s_CONSUMER), .val (.int (b0_4 p1))] [])) t
                          refine XS.iconst X828.here hx rfl (hb hby at_183) ?_
                          show Steps p.tables e below (T828.setTop (mkF m 184 #[.val (.int p0), .val (.int p1), .val (.int (8 : Int32)), .val (.int (b0_4 p1)), .val (.ref b8), .val (.ref s_NHI), .val (.ref s_CONSUMER), .val (.int (b0_4 p1))] [(.int (0 : Int32))])) t
                          have hq834 : (b0_832 p1 s_CONSUMER) = (0 : Int32) := by rw [b0_832, if_neg hc830]
                          rw [hq834] at k
                          exact k
                      obtain ⟨fs, hr, hrun, hended, hW, hsame⟩ := X828.leave (v := some (.int (b0_832 p1 s_CONSUMER))) (fun h => by rw [Bd.returns] at h; cases h)
                      refine ⟨_, _, go831 _ (Jvm.RoadKit.retOut X828 hx Bd.returns (own_nz (by unfold b0_832; (repeat' split) <;> first | exact Or.inl rfl | exact Or.inr rfl)) (Or.inl ⟨rfl, Or.inr (Or.inl rfl), _, rfl⟩) (hb hby at_184) hr), hrun, hended, _, _, rfl, ?_, ⟨_, rfl⟩, hW, hsame.mono (by decide) (by decide)⟩
                      show Q0 _ _ p0 p1 s_SUB s_EMAIL s_GIVEN_NAME s_MIDDLE_NAME s_FAMILY_NAME s_NICKNAME s_BIRTHDATE s_MOBILE_NUMBER s_NHI s_CPN s_RELATIONSHIPS s_CONFIDENCE_LEVEL s_WORKFORCE s_CONSUMER h0 _ (T828.setFrames fs).heap _
                      have hE : (T828.setFrames fs).heap = h609 := e828
                      rw [hE]
                      exact ⟨congrArg (fun z => some (Value.int z)) ((by rw [f0, if_neg hs656, if_neg hs675, if_neg hs694, if_neg hs713, if_neg hs732, if_neg hs751, if_neg hs770, if_neg hs789, if_pos hs808, if_neg hs812] : (b0_832 p1 s_CONSUMER) = (f0 p0 p1 s_WORKFORCE s_CONSUMER)).trans (f0_one p0 p1 s_WORKFORCE s_CONSUMER ne_CW)), N828⟩
                  · by_cases hs835 : (v0_1 p0) = (9 : Int32)
                    · have go836 : ∀ t, Steps p.tables e below (T609.setTop (mkF m 108 #[.val (.int p0), .val (.int p1), .val (.int (9 : Int32)), .val (.int (b0_4 p1)), .val (.ref b8), .unset, .unset, .unset] [(.int (9 : Int32)), (.ref b8)])) t → Steps p.tables e below (s₁.setTop (entryFrame m #[(.int p0), (.int p1)] maxLocals)) t := by
                        have q := go655
                        rw [hs835] at q
                        exact q
                      obtain ⟨cl837, Ar837, q837, S837, N837, H837, G837⟩ := id F654
                      have go838 : ∀ t, Steps p.tables e below (T609.setTop (mkF m 112 #[.val (.int p0), .val (.int p1), .val (.int (9 : Int32)), .val (.int (b0_4 p1)), .val (.ref b8), .val (.ref s_CPN), .unset, .unset] [(.int (b0_4 p1))])) t → Steps p.tables e below (s₁.setTop (entryFrame m #[(.int p0), (.int p1)] maxLocals)) t := by
                        intro t k
                        refine go836 _ ?_
                        refine X609.aaload hx (j := (9 : Int32)) (v := (.ref s_CPN)) (by rw [e609]; exact Ar837.1) (State.isArrayOf_alike hZ.alike Ar837.2.1) rfl Ar837.2.2 (inb_of S837 ⟨by decide, by decide⟩) (Has.at H837 (inb_of S837 ⟨by decide, by decide⟩) rfl) (g := (mkF m 108 #[.val (.int p0), .val (.int p1), .val (.int (9 : Int32)), .val (.int (b0_4 p1)), .val (.ref b8), .unset, .unset, .unset] [(.int (9 : Int32)), (.ref b8)])) rfl rfl (hb hby at_108) _ ?_
                        show Steps p.tables e below (T609.setTop (mkF m 109 #[.val (.int p0), .val (.int p1), .val (.int (9 : Int32)), .val (.int (b0_4 p1)), .val (.ref b8), .unset, .unset, .unset] [(.ref s_CPN)])) t
                        refine XS.astore X609.here hx rfl (hb hby at_109) rfl rfl (l' := #[.val (.int p0), .val (.int p1), .val (.int (9 : Int32)), .val (.int (b0_4 p1)), .val (.ref b8), .val (.ref s_CPN), .unset, .unset]) rfl ?_
                        show Steps p.tables e below (T609.setTop (mkF m 111 #[.val (.int p0), .val (.int p1), .val (.int (9 : Int32)), .val (.int (b0_4 p1)), .val (.ref b8), .val (.ref s_CPN), .unset, .unset] [])) t
                        refine XS.iloadN X609.here hx rfl (hb hby at_111) rfl ?_
                        show Steps p.tables e below (T609.setTop (mkF m 112 #[.val (.int p0), .val (.int p1), .val (.int (9 : Int32)), .val (.int (b0_4 p1)), .val (.ref b8), .val (.ref s_CPN), .unset, .unset] [(.int (b0_4 p1))])) t
                        exact k
                      by_cases hs839 : (b0_4 p1) = (0 : Int32)
                      · have go840 : ∀ t, Steps p.tables e below (T609.setTop (mkF m 121 #[.val (.int p0), .val (.int p1), .val (.int (9 : Int32)), .val (.int (b0_4 p1)), .val (.ref b8), .val (.ref s_CPN), .unset, .unset] [])) t → Steps p.tables e below (s₁.setTop (entryFrame m #[(.int p0), (.int p1)] maxLocals)) t := by
                          intro t k
                          refine go838 _ ?_
                          refine XS.ifYes X609.here hx rfl (pc0 := 112) (pc' := 121) rfl (hb hby at_112) rfl (XT.i0_eq_t hs839) (by decide) (by decide) ?_
                          show Steps p.tables e below (T609.setTop (mkF m 121 #[.val (.int p0), .val (.int p1), .val (.int (9 : Int32)), .val (.int (b0_4 p1)), .val (.ref b8), .val (.ref s_CPN), .unset, .unset] [])) t
                          exact k
                        obtain ⟨T841, X841, e841, st841⟩ := getS2 X609 hx hZ hown (host := "") (Or.inl (hw _ (List.mem_of_getElem? (i := 29) rfl))) Via.refl e609 F636 (g := (mkF m 121 #[.val (.int p0), .val (.int p1), .val (.int (9 : Int32)), .val (.int (b0_4 p1)), .val (.ref b8), .val (.ref s_CPN), .unset, .unset] [])) rfl (hb hby at_121)
                        have go842 : ∀ t, Steps p.tables e below (T841.setTop (mkF m 124 #[.val (.int p0), .val (.int p1), .val (.int (9 : Int32)), .val (.int (b0_4 p1)), .val (.ref b8), .val (.ref s_CPN), .unset, .unset] [(.ref s_WORKFORCE)])) t → Steps p.tables e below (s₁.setTop (entryFrame m #[(.int p0), (.int p1)] maxLocals)) t := fun t k => go840 _ (st841 _ k)
                        have go843 : ∀ t, Steps p.tables e below (T841.setTop (mkF m 171 #[.val (.int p0), .val (.int p1), .val (.int (9 : Int32)), .val (.int (b0_4 p1)), .val (.ref b8), .val (.ref s_CPN), .val (.ref s_WORKFORCE), .val (.int (1 : Int32))] [(.ref s_WORKFORCE), (.ref s_CPN)])) t → Steps p.tables e below (s₁.setTop (entryFrame m #[(.int p0), (.int p1)] maxLocals)) t := by
                          intro t k
                          refine go842 _ ?_
                          refine XS.astore X841.here hx rfl (hb hby at_124) rfl rfl (l' := #[.val (.int p0), .val (.int p1), .val (.int (9 : Int32)), .val (.int (b0_4 p1)), .val (.ref b8), .val (.ref s_CPN), .val (.ref s_WORKFORCE), .unset]) rfl ?_
                          show Steps p.tables e below (T841.setTop (mkF m 126 #[.val (.int p0), .val (.int p1), .val (.int (9 : Int32)), .val (.int (b0_4 p1)), .val (.ref b8), .val (.ref s_CPN), .val (.ref s_WORKFORCE), .unset] [])) t
                          refine XS.iloadN X841.here hx rfl (hb hby at_126) rfl ?_
                          show Steps p.tables e below (T841.setTop (mkF m 127 #[.val (.int p0), .val (.int p1), .val (.int (9 : Int32)), .val (.int (b0_4 p1)), .val (.ref b8), .val (.ref s_CPN), .val (.ref s_WORKFORCE), .unset] [(.int (9 : Int32))])) t
                          refine XS.bipush X841.here hx rfl (hb hby at_127) ?_
                          show Steps p.tables e below (T841.setTop (mkF m 129 #[.val (.int p0), .val (.int p1), .val (.int (9 : Int32)), .val (.int (b0_4 p1)), .val (.ref b8), .val (.ref s_CPN), .val (.ref s_WORKFORCE), .unset] [(.int (8 : Int32)), (.int (9 : Int32))])) t
                          refine XS.icmpNo X841.here hx rfl (hb hby at_129) rfl (XT.ii_eq_f (by decide : ¬ ((9 : Int32) = (8 : Int32)))) ?_
                          show Steps p.tables e below (T841.setTop (mkF m 132 #[.val (.int p0), .val (.int p1), .val (.int (9 : Int32)), .val (.int (b0_4 p1)), .val (.ref b8), .val (.ref s_CPN), .val (.ref s_WORKFORCE), .unset] [])) t
                          refine XS.iloadN X841.here hx rfl (hb hby at_132) rfl ?_
                          show Steps p.tables e below (T841.setTop (mkF m 133 #[.val (.int p0), .val (.int p1), .val (.int (9 : Int32)), .val (.int (b0_4 p1)), .val (.ref b8), .val (.ref s_CPN), .val (.ref s_WORKFORCE), .unset] [(.int (9 : Int32))])) t
                          refine XS.bipush X841.here hx rfl (hb hby at_133) ?_
                          show Steps p.tables e below (T841.setTop (mkF m 135 #[.val (.int p0), .val (.int p1), .val (.int (9 : Int32)), .val (.int (b0_4 p1)), .val (.ref b8), .val (.ref s_CPN), .val (.ref s_WORKFORCE), .unset] [(.int (10 : Int32)), (.int (9 : Int32))])) t
                          refine XS.icmpYes X841.here hx rfl (pc0 := 135) (pc' := 144) rfl (hb hby at_135) rfl (XT.ii_ne_t (by decide : ¬ ((9 : Int32) = (10 : Int32)))) (by decide) (by decide) ?_
                          show Steps p.tables e below (T841.setTop (mkF m 144 #[.val (.int p0), .val (.int p1), .val (.int (9 : Int32)), .val (.int (b0_4 p1)), .val (.ref b8), .val (.ref s_CPN), .val (.ref s_WORKFORCE), .unset] [])) t
                          refine XS.iloadN X841.here hx rfl (hb hby at_144) rfl ?_
                          show Steps p.tables e below (T841.setTop (mkF m 145 #[.val (.int p0), .val (.int p1), .val (.int (9 : Int32)), .val (.int (b0_4 p1)), .val (.ref b8), .val (.ref s_CPN), .val (.ref s_WORKFORCE), .unset] [(.int (9 : Int32))])) t
                          refine XS.bipush X841.here hx rfl (hb hby at_145) ?_
                          show Steps p.tables e below (T841.setTop (mkF m 147 #[.val (.int p0), .val (.int p1), .val (.int (9 : Int32)), .val (.int (b0_4 p1)), .val (.ref b8), .val (.ref s_CPN), .val (.ref s_WORKFORCE), .unset] [(.int (9 : Int32)), (.int (9 : Int32))])) t
                          refine XS.icmpNo X841.here hx rfl (hb hby at_147) rfl (XT.ii_ne_f (by decide : ((9 : Int32) = (9 : Int32)))) ?_
                          show Steps p.tables e below (T841.setTop (mkF m 150 #[.val (.int p0), .val (.int p1), .val (.int (9 : Int32)), .val (.int (b0_4 p1)), .val (.ref b8), .val (.ref s_CPN), .val (.ref s_WORKFORCE), .unset] [])) t
                          refine XS.iloadN X841.here hx rfl (hb hby at_150) rfl ?_
                          show Steps p.tables e below (T841.setTop (mkF m 151 #[.val (.int p0), .val (.int p1), .val (.int (9 : Int32)), .val (.int (b0_4 p1)), .val (.ref b8), .val (.ref s_CPN), .val (.ref s_WORKFORCE), .unset] [(.int (b0_4 p1))])) t
                          refine XS.ifNo X841.here hx rfl (hb hby at_151) rfl (XT.i0_ne_f hs839) ?_
                          show Steps p.tables e below (T841.setTop (mkF m 154 #[.val (.int p0), .val (.int p1), .val (.int (9 : Int32)), .val (.int (b0_4 p1)), .val (.ref b8), .val (.ref s_CPN), .val (.ref s_WORKFORCE), .unset] [])) t
                          refine XS.iconst X841.here hx rfl (hb hby at_154) ?_
                          show Steps p.tables e below (T841.setTop (mkF m 155 #[.val (.int p0), .val (.int p1), .val (.int (9 : Int32)), .val (.int (b0_4 p1)), .val (.ref b8), .val (.ref s_CPN), .val (.ref s_WORKFORCE), .unset] [(.int (1 : Int32))])) t
                          refine XS.goto X841.here hx rfl (pc0 := 155) (pc' := 159) rfl (hb hby at_155) (by decide) (by decide) ?_
                          show Steps p.tables e below (T841.setTop (mkF m 159 #[.val (.int p0), .val (.int p1), .val (.int (9 : Int32)), .val (.int (b0_4 p1)), .val (.ref b8), .val (.ref s_CPN), .val (.ref s_WORKFORCE), .unset] [(.int (1 : Int32))])) t
                          refine XS.istore X841.here hx rfl (hb hby at_159) rfl (l' := #[.val (.int p0), .val (.int p1), .val (.int (9 : Int32)), .val (.int (b0_4 p1)), .val (.ref b8), .val (.ref s_CPN), .val (.ref s_WORKFORCE), .val (.int (1 : Int32))]) rfl ?_
                          show Steps p.tables e below (T841.setTop (mkF m 161 #[.val (.int p0), .val (.int p1), .val (.int (9 : Int32)), .val (.int (b0_4 p1)), .val (.ref b8), .val (.ref s_CPN), .val (.ref s_WORKFORCE), .val (.int (1 : Int32))] [])) t
                          refine XS.goto X841.here hx rfl (pc0 := 161) (pc' := 167) rfl (hb hby at_161) (by decide) (by decide) ?_
                          show Steps p.tables e below (T841.setTop (mkF m 167 #[.val (.int p0), .val (.int p1), .val (.int (9 : Int32)), .val (.int (b0_4 p1)), .val (.ref b8), .val (.ref s_CPN), .val (.ref s_WORKFORCE), .val (.int (1 : Int32))] [])) t
                          refine XS.aload X841.here hx rfl (hb hby at_167) rfl rfl ?_
                          show Steps p.tables e below (T841.setTop (mkF m 169 #[.val (.int p0), .val (.int p1), .val (.int (9 : Int32)), .val (.int (b0_4 p1)), .val (.ref b8), .val (.ref s_CPN), .val (.ref s_WORKFORCE), .val (.int (1 : Int32))] [(.ref s_CPN)])) t
                          refine XS.aload X841.here hx rfl (hb hby at_169) rfl rfl ?_
                          show Steps p.tables e below (T841.setTop (mkF m 171 #[.val (.int p0), .val (.int p1), .val (.int (9 : Int32)), .val (.int (b0_4 p1)), .val (.ref b8), .val (.ref s_CPN), .val (.ref s_WORKFORCE), .val (.int (1 : Int32))] [(.ref s_WORKFORCE), (.ref s_CPN)])) t
                          exact k
                        obtain ⟨cq844, kq844, q844a, q844b, q844c⟩ := isOf hZ e841 F631
                        obtain ⟨_, _, ⟨T844, L844, k844, n844⟩, -, X844, ⟨Lc844, hQ844, l844, y844, z844⟩, st844⟩ := X841.virtualBack hx (y := (⟨"com/example/hauora_id/hauoraid/model/Claim", "heldIn", "(Lcom/example/hauora_id/hauoraid/model/Realm;)Z"⟩ : MethodName)) (z := (⟨"com/example/hauora_id/hauoraid/model/Claim", "heldIn", "(Lcom/example/hauora_id/hauoraid/model/Realm;)Z"⟩ : MethodName)) hown (mvT hZ (hw _ (List.mem_of_getElem? (i := 32) rfl))) (mvT hZ (hw _ (List.mem_of_getElem? (i := 33) rfl))) (notFace_of_selects (args := #[]) (mvT hZ (hw _ (List.mem_of_getElem? (i := 35) rfl)))) (mvT hZ (hw _ (List.mem_of_getElem? (i := 35) rfl))) (mvT hZ (hw _ (List.mem_of_getElem? (i := 34) rfl))) (by decide) (backOf (W := 0) (rm1r l Z aZ hw [] s_CPN s_WORKFORCE s_WORKFORCE h609 n0 Zs609 F650) hZ (hw _ (List.mem_of_getElem? (i := 36) rfl)) (hw _ (List.mem_of_getElem? (i := 4) rfl)) (by decide) (by decide)) q844a q844c (g := (mkF m 171 #[.val (.int p0), .val (.int p1), .val (.int (9 : Int32)), .val (.int (b0_4 p1)), .val (.ref b8), .val (.ref s_CPN), .val (.ref s_WORKFORCE), .val (.int (1 : Int32))] [(.ref s_WORKFORCE), (.ref s_CPN)])) rfl (by rw [hml]; rfl) (Steps.refl _) (argsL := [(.ref s_WORKFORCE)]) (rest := []) (lenOf pd_15 rfl) rfl (by show 2 * 0 + _ ≤ _; exact Nat.le_of_eq rfl) (hb hby at_171) (fun _ _ => ⟨rfl, e841, (by decide : 1 + 0 ≤ _), (by decide : 12 + 0 ≤ _)⟩)
                        dsimp only [Pt.U, Pt.locs, Pt.cells, Pt.slots] at X844 l844 y844 z844 st844 hQ844
                        subst l844 y844 z844
                        obtain ⟨rfl, N844q, e844⟩ := hQ844
                        have N844 := Fr.app N609 N844q
                        have go845 : ∀ t, Steps p.tables e below (T844.setTop (mkF m 174 #[.val (.int p0), .val (.int p1), .val (.int (9 : Int32)), .val (.int (b0_4 p1)), .val (.ref b8), .val (.ref s_CPN), .val (.ref s_WORKFORCE), .val (.int (1 : Int32))] [(.int (f1r s_WORKFORCE s_WORKFORCE))])) t → Steps p.tables e below (s₁.setTop (entryFrame m #[(.int p0), (.int p1)] maxLocals)) t := fun t k => go843 _ (st844.trans k)
                        have go847 : ∀ t, Steps p.tables e below (T844.setTop (mkF m 184 #[.val (.int p0), .val (.int p1), .val (.int (9 : Int32)), .val (.int (b0_4 p1)), .val (.ref b8), .val (.ref s_CPN), .val (.ref s_WORKFORCE), .val (.int (1 : Int32))] [(.int (b0_848 s_WORKFORCE))])) t → Steps p.tables e below (s₁.setTop (entryFrame m #[(.int p0), (.int p1)] maxLocals)) t := by
                          intro t k
                          refine go845 _ ?_
                          refine XS.iload X844.here hx rfl (hb hby at_174) rfl ?_
                          show Steps p.tables e below (T844.setTop (mkF m 176 #[.val (.int p0), .val (.int p1), .val (.int (9 : Int32)), .val (.int (b0_4 p1)), .val (.ref b8), .val (.ref s_CPN), .val (.ref s_WORKFORCE), .val (.int (1 : Int32))] [(.int (1 : Int32)), (.int (f1r s_WORKFORCE s_WORKFORCE))])) t
                          by_cases hc846 : (f1r s_WORKFORCE s_WORKFORCE) = (1 : Int32)
                          · refine XS.icmpNo X844.here hx rfl (hb hby at_176) rfl (XT.ii_ne_f hc846) ?_
                            show Steps p.tables e below (T844.setTop (mkF m 179 #[.val (.int p0), .val (.int p1), .val (.int (9 : Int32)), .val (.int (b0_4 p1)), .val (.ref b8), .val (.ref s_CPN), .val (.ref s_WORKFORCE), .val (.int (1 : Int32))] [])) t
                            refine XS.iconst X844.here hx rfl (hb hby at_179) ?_
                            show Steps p.tables e below (T844.setTop (mkF m 180 #[.val (.int p0), .val (.int p1), .val (.int (9 : Int32)), .val (.int (b0_4 p1)), .val (.ref b8), .val (.ref s_CPN), .val (.ref s_WORKFORCE), .val (.int (1 : Int32))] [(.int (1 : Int32))])) t
                            refine XS.goto X844.here hx rfl (pc0 := 180) (pc' := 184) rfl (hb hby at_180) (by decide) (by decide) ?_
                            show Steps p.tables e below (T844.setTop (mkF m 184 #[.val (.int p0), .val (.int p1), .val (.int (9 : Int32)), .val (.int (b0_4 p1)), .val (.ref b8), .val (.ref s_CPN), .val (.ref s_WORKFORCE), .val (.int (1 : Int32))] [(.int (1 : Int32))])) t
                            have hq849 : (b0_848 s_WORKFORCE) = (1 : Int32) := by rw [b0_848, if_pos hc846]
                            rw [hq849] at k
                            exact k
                          · refine XS.icmpYes X844.here hx rfl (pc0 := 176) (pc' := 183) rfl (hb hby at_176) rfl (XT.ii_ne_t hc846) (by decide) (by decide) ?_
                            show Steps p.tables e below (T844.setTop (mkF m 183 #[.val (.int p0), .val (.int p1), .val (.int (9 : Int32)), .val (.int (b0_4 p1)), .val (.ref b8), .val (.ref s_CPN), .val (.ref s_WORKFORCE), .val (.int (1 : Int32))] [])) t
                            refine XS.iconst X844.here hx rfl (hb hby at_183) ?_
                            show Steps p.tables e below (T844.setTop (mkF m 184 #[.val (.int p0), .val (.int p1), .val (.int (9 : Int32)), .val (.int (b0_4 p1)), .val (.ref b8), .val (.ref s_CPN), .val (.ref s_WORKFORCE), .val (.int (1 : Int32))] [(.int (0 : Int32))])) t
                            have hq850 : (b0_848 s_WORKFORCE) = (0 : Int32) := by rw [b0_848, if_neg hc846]
                            rw [hq850] at k
                            exact k
                        obtain ⟨fs, hr, hrun, hended, hW, hsame⟩ := X844.leave (v := some (.int (b0_848 s_WORKFORCE))) (fun h => by rw [Bd.returns] at h; cases h)
                        refine ⟨_, _, go847 _ (Jvm.RoadKit.retOut X844 hx Bd.returns (own_nz (by unfold b0_848; (repeat' split) <;> first | exact Or.inl rfl | exact Or.inr rfl)) (Or.inl ⟨rfl, Or.inr (Or.inl rfl), _, rfl⟩) (hb hby at_184) hr), hrun, hended, _, _, rfl, ?_, ⟨_, rfl⟩, hW, hsame.mono (by decide) (by decide)⟩
                        show Q0 _ _ p0 p1 s_SUB s_EMAIL s_GIVEN_NAME s_MIDDLE_NAME s_FAMILY_NAME s_NICKNAME s_BIRTHDATE s_MOBILE_NUMBER s_NHI s_CPN s_RELATIONSHIPS s_CONFIDENCE_LEVEL s_WORKFORCE s_CONSUMER h0 _ (T844.setFrames fs).heap _
                        have hE : (T844.setFrames fs).heap = h609 := e844
                        rw [hE]
                        exact ⟨congrArg (fun z => some (Value.int z)) ((by rw [f0, if_neg hs656, if_neg hs675, if_neg hs694, if_neg hs713, if_neg hs732, if_neg hs751, if_neg hs770, if_neg hs789, if_neg hs808, if_pos hs835, if_pos hs839] : (b0_848 s_WORKFORCE) = (f0 p0 p1 s_WORKFORCE s_CONSUMER)).trans (f0_one p0 p1 s_WORKFORCE s_CONSUMER ne_CW)), N844⟩
                      · have go851 : ∀ t, Steps p.tables e below (T609.setTop (mkF m 115 #[.val (.int p0), .val (.int p1), .val (.int (9 : Int32)), .val (.int (b0_4 p1)), .val (.ref b8), .val (.ref s_CPN), .unset, .unset] [])) t → Steps p.tables e below (s₁.setTop (entryFrame m #[(.int p0), (.int p1)] maxLocals)) t := by
                          intro t k
                          refine go838 _ ?_
                          refine XS.ifNo X609.here hx rfl (hb hby at_112) rfl (XT.i0_eq_f hs839) ?_
                          show Steps p.tables e below (T609.setTop (mkF m 115 #[.val (.int p0), .val (.int p1), .val (.int (9 : Int32)), .val (.int (b0_4 p1)), .val (.ref b8), .val (.ref s_CPN), .unset, .unset] [])) t
                          exact k
                        obtain ⟨T852, X852, e852, st852⟩ := getS2 X609 hx hZ hown (host := "") (Or.inl (hw _ (List.mem_of_getElem? (i := 39) rfl))) Via.refl e609 F640 (g := (mkF m 115 #[.val (.int p0), .val (.int p1), .val (.int (9 : Int32)), .val (.int (b0_4 p1)), .val (.ref b8), .val (.ref s_CPN), .unset, .unset] [])) rfl (hb hby at_115)
                        have go853 : ∀ t, Steps p.tables e below (T852.setTop (mkF m 118 #[.val (.int p0), .val (.int p1), .val (.int (9 : Int32)), .val (.int (b0_4 p1)), .val (.ref b8), .val (.ref s_CPN), .unset, .unset] [(.ref s_CONSUMER)])) t → Steps p.tables e below (s₁.setTop (entryFrame m #[(.int p0), (.int p1)] maxLocals)) t := fun t k => go851 _ (st852 _ k)
                        have go854 : ∀ t, Steps p.tables e below (T852.setTop (mkF m 171 #[.val (.int p0), .val (.int p1), .val (.int (9 : Int32)), .val (.int (b0_4 p1)), .val (.ref b8), .val (.ref s_CPN), .val (.ref s_CONSUMER), .val (.int (0 : Int32))] [(.ref s_CONSUMER), (.ref s_CPN)])) t → Steps p.tables e below (s₁.setTop (entryFrame m #[(.int p0), (.int p1)] maxLocals)) t := by
                          intro t k
                          refine go853 _ ?_
                          refine XS.goto X852.here hx rfl (pc0 := 118) (pc' := 124) rfl (hb hby at_118) (by decide) (by decide) ?_
                          show Steps p.tables e below (T852.setTop (mkF m 124 #[.val (.int p0), .val (.int p1), .val (.int (9 : Int32)), .val (.int (b0_4 p1)), .val (.ref b8), .val (.ref s_CPN), .unset, .unset] [(.ref s_CONSUMER)])) t
                          refine XS.astore X852.here hx rfl (hb hby at_124) rfl rfl (l' := #[.val (.int p0), .val (.int p1), .val (.int (9 : Int32)), .val (.int (b0_4 p1)), .val (.ref b8), .val (.ref s_CPN), .val (.ref s_CONSUMER), .unset]) rfl ?_
                          show Steps p.tables e below (T852.setTop (mkF m 126 #[.val (.int p0), .val (.int p1), .val (.int (9 : Int32)), .val (.int (b0_4 p1)), .val (.ref b8), .val (.ref s_CPN), .val (.ref s_CONSUMER), .unset] [])) t
                          refine XS.iloadN X852.here hx rfl (hb hby at_126) rfl ?_
                          show Steps p.tables e below (T852.setTop (mkF m 127 #[.val (.int p0), .val (.int p1), .val (.int (9 : Int32)), .val (.int (b0_4 p1)), .val (.ref b8), .val (.ref s_CPN), .val (.ref s_CONSUMER), .unset] [(.int (9 : Int32))])) t
                          refine XS.bipush X852.here hx rfl (hb hby at_127) ?_
                          show Steps p.tables e below (T852.setTop (mkF m 129 #[.val (.int p0), .val (.int p1), .val (.int (9 : Int32)), .val (.int (b0_4 p1)), .val (.ref b8), .val (.ref s_CPN), .val (.ref s_CONSUMER), .unset] [(.int (8 : Int32)), (.int (9 : Int32))])) t
                          refine XS.icmpNo X852.here hx rfl (hb hby at_129) rfl (XT.ii_eq_f (by decide : ¬ ((9 : Int32) = (8 : Int32)))) ?_
                          show Steps p.tables e below (T852.setTop (mkF m 132 #[.val (.int p0), .val (.int p1), .val (.int (9 : Int32)), .val (.int (b0_4 p1)), .val (.ref b8), .val (.ref s_CPN), .val (.ref s_CONSUMER), .unset] [])) t
                          refine XS.iloadN X852.here hx rfl (hb hby at_132) rfl ?_
                          show Steps p.tables e below (T852.setTop (mkF m 133 #[.val (.int p0), .val (.int p1), .val (.int (9 : Int32)), .val (.int (b0_4 p1)), .val (.ref b8), .val (.ref s_CPN), .val (.ref s_CONSUMER), .unset] [(.int (9 : Int32))])) t
                          refine XS.bipush X852.here hx rfl (hb hby at_133) ?_
                          show Steps p.tables e below (T852.setTop (mkF m 135 #[.val (.int p0), .val (.int p1), .val (.int (9 : Int32)), .val (.int (b0_4 p1)), .val (.ref b8), .val (.ref s_CPN), .val (.ref s_CONSUMER), .unset] [(.int (10 : Int32)), (.int (9 : Int32))])) t
                          refine XS.icmpYes X852.here hx rfl (pc0 := 135) (pc' := 144) rfl (hb hby at_135) rfl (XT.ii_ne_t (by decide : ¬ ((9 : Int32) = (10 : Int32)))) (by decide) (by decide) ?_
                          show Steps p.tables e below (T852.setTop (mkF m 144 #[.val (.int p0), .val (.int p1), .val (.int (9 : Int32)), .val (.int (b0_4 p1)), .val (.ref b8), .val (.ref s_CPN), .val (.ref s_CONSUMER), .unset] [])) t
                          refine XS.iloadN X852.here hx rfl (hb hby at_144) rfl ?_
                          show Steps p.tables e below (T852.setTop (mkF m 145 #[.val (.int p0), .val (.int p1), .val (.int (9 : Int32)), .val (.int (b0_4 p1)), .val (.ref b8), .val (.ref s_CPN), .val (.ref s_CONSUMER), .unset] [(.int (9 : Int32))])) t
                          refine XS.bipush X852.here hx rfl (hb hby at_145) ?_
                          show Steps p.tables e below (T852.setTop (mkF m 147 #[.val (.int p0), .val (.int p1), .val (.int (9 : Int32)), .val (.int (b0_4 p1)), .val (.ref b8), .val (.ref s_CPN), .val (.ref s_CONSUMER), .unset] [(.int (9 : Int32)), (.int (9 : Int32))])) t
                          refine XS.icmpNo X852.here hx rfl (hb hby at_147) rfl (XT.ii_ne_f (by decide : ((9 : Int32) = (9 : Int32)))) ?_
                          show Steps p.tables e below (T852.setTop (mkF m 150 #[.val (.int p0), .val (.int p1), .val (.int (9 : Int32)), .val (.int (b0_4 p1)), .val (.ref b8), .val (.ref s_CPN), .val (.ref s_CONSUMER), .unset] [])) t
                          refine XS.iloadN X852.here hx rfl (hb hby at_150) rfl ?_
                          show Steps p.tables e below (T852.setTop (mkF m 151 #[.val (.int p0), .val (.int p1), .val (.int (9 : Int32)), .val (.int (b0_4 p1)), .val (.ref b8), .val (.ref s_CPN), .val (.ref s_CONSUMER), .unset] [(.int (b0_4 p1))])) t
                          refine XS.ifYes X852.here hx rfl (pc0 := 151) (pc' := 158) rfl (hb hby at_151) rfl (XT.i0_ne_t hs839) (by decide) (by decide) ?_
                          show Steps p.tables e below (T852.setTop (mkF m 158 #[.val (.int p0), .val (.int p1), .val (.int (9 : Int32)), .val (.int (b0_4 p1)), .val (.ref b8), .val (.ref s_CPN), .val (.ref s_CONSUMER), .unset] [])) t
                          refine XS.iconst X852.here hx rfl (hb hby at_158) ?_
                          show Steps p.tables e below (T852.setTop (mkF m 159 #[.val (.int p0), .val (.int p1), .val (.int (9 : Int32)), .val (.int (b0_4 p1)), .val (.ref b8), .val (.ref s_CPN), .val (.ref s_CONSUMER), .unset] [(.int (0 : Int32))])) t
                          refine XS.istore X852.here hx rfl (hb hby at_159) rfl (l' := #[.val (.int p0), .val (.int p1), .val (.int (9 : Int32)), .val (.int (b0_4 p1)), .val (.ref b8), .val (.ref s_CPN), .val (.ref s_CONSUMER), .val (.int (0 : Int32))]) rfl ?_
                          show Steps p.tables e below (T852.setTop (mkF m 161 #[.val (.int p0), .val (.int p1), .val (.int (9 : Int32)), .val (.int (b0_4 p1)), .val (.ref b8), .val (.ref s_CPN), .val (.ref s_CONSUMER), .val (.int (0 : Int32))] [])) t
                          refine XS.goto X852.here hx rfl (pc0 := 161) (pc' := 167) rfl (hb hby at_161) (by decide) (by decide) ?_
                          show Steps p.tables e below (T852.setTop (mkF m 167 #[.val (.int p0), .val (.int p1), .val (.int (9 : Int32)), .val (.int (b0_4 p1)), .val (.ref b8), .val (.ref s_CPN), .val (.ref s_CONSUMER), .val (.int (0 : Int32))] [])) t
                          refine XS.aload X852.here hx rfl (hb hby at_167) rfl rfl ?_
                          show Steps p.tables e below (T852.setTop (mkF m 169 #[.val (.int p0), .val (.int p1), .val (.int (9 : Int32)), .val (.int (b0_4 p1)), .val (.ref b8), .val (.ref s_CPN), .val (.ref s_CONSUMER), .val (.int (0 : Int32))] [(.ref s_CPN)])) t
                          refine XS.aload X852.here hx rfl (hb hby at_169) rfl rfl ?_
                          show Steps p.tables e below (T852.setTop (mkF m 171 #[.val (.int p0), .val (.int p1), .val (.int (9 : Int32)), .val (.int (b0_4 p1)), .val (.ref b8), .val (.ref s_CPN), .val (.ref s_CONSUMER), .val (.int (0 : Int32))] [(.ref s_CONSUMER), (.ref s_CPN)])) t
                          exact k
                        obtain ⟨cq855, kq855, q855a, q855b, q855c⟩ := isOf hZ e852 F631
                        obtain ⟨_, _, ⟨T855, L855, k855, n855⟩, -, X855, ⟨Lc855, hQ855, l855, y855, z855⟩, st855⟩ := X852.virtualBack hx (y := (⟨"com/example/hauora_id/hauoraid/model/Claim", "heldIn", "(Lcom/example/hauora_id/hauoraid/model/Realm;)Z"⟩ : MethodName)) (z := (⟨"com/example/hauora_id/hauoraid/model/Claim", "heldIn", "(Lcom/example/hauora_id/hauoraid/model/Realm;)Z"⟩ : MethodName)) hown (mvT hZ (hw _ (List.mem_of_getElem? (i := 32) rfl))) (mvT hZ (hw _ (List.mem_of_getElem? (i := 33) rfl))) (notFace_of_selects (args := #[]) (mvT hZ (hw _ (List.mem_of_getElem? (i := 35) rfl)))) (mvT hZ (hw _ (List.mem_of_getElem? (i := 35) rfl))) (mvT hZ (hw _ (List.mem_of_getElem? (i := 34) rfl))) (by decide) (backOf (W := 0) (rm1r l Z aZ hw [] s_CPN s_CONSUMER s_WORKFORCE h609 n0 Zs609 F650) hZ (hw _ (List.mem_of_getElem? (i := 36) rfl)) (hw _ (List.mem_of_getElem? (i := 4) rfl)) (by decide) (by decide)) q855a q855c (g := (mkF m 171 #[.val (.int p0), .val (.int p1), .val (.int (9 : Int32)), .val (.int (b0_4 p1)), .val (.ref b8), .val (.ref s_CPN), .val (.ref s_CONSUMER), .val (.int (0 : Int32))] [(.ref s_CONSUMER), (.ref s_CPN)])) rfl (by rw [hml]; rfl) (Steps.refl _) (argsL := [(.ref s_CONSUMER)]) (rest := []) (lenOf pd_15 rfl) rfl (by show 2 * 0 + _ ≤ _; exact Nat.le_of_eq rfl) (hb hby at_171) (fun _ _ => ⟨rfl, e852, (by decide : 1 + 0 ≤ _), (by decide : 12 + 0 ≤ _)⟩)
                        dsimp only [Pt.U, Pt.locs, Pt.cells, Pt.slots] at X855 l855 y855 z855 st855 hQ855
                        subst l855 y855 z855
                        obtain ⟨rfl, N855q, e855⟩ := hQ855
                        have N855 := Fr.app N609 N855q
                        have go856 : ∀ t, Steps p.tables e below (T855.setTop (mkF m 174 #[.val (.int p0), .val (.int p1), .val (.int (9 : Int32)), .val (.int (b0_4 p1)), .val (.ref b8), .val (.ref s_CPN), .val (.ref s_CONSUMER), .val (.int (0 : Int32))] [(.int (f1r s_CONSUMER s_WORKFORCE))])) t → Steps p.tables e below (s₁.setTop (entryFrame m #[(.int p0), (.int p1)] maxLocals)) t := fun t k => go854 _ (st855.trans k)
                        have go858 : ∀ t, Steps p.tables e below (T855.setTop (mkF m 184 #[.val (.int p0), .val (.int p1), .val (.int (9 : Int32)), .val (.int (b0_4 p1)), .val (.ref b8), .val (.ref s_CPN), .val (.ref s_CONSUMER), .val (.int (0 : Int32))] [(.int (b0_859 s_WORKFORCE s_CONSUMER))])) t → Steps p.tables e below (s₁.setTop (entryFrame m #[(.int p0), (.int p1)] maxLocals)) t := by
                          intro t k
                          refine go856 _ ?_
                          refine XS.iload X855.here hx rfl (hb hby at_174) rfl ?_
                          show Steps p.tables e below (T855.setTop (mkF m 176 #[.val (.int p0), .val (.int p1), .val (.int (9 : Int32)), .val (.int (b0_4 p1)), .val (.ref b8), .val (.ref s_CPN), .val (.ref s_CONSUMER), .val (.int (0 : Int32))] [(.int (0 : Int32)), (.int (f1r s_CONSUMER s_WORKFORCE))])) t
                          by_cases hc857 : (f1r s_CONSUMER s_WORKFORCE) = (0 : Int32)
                          · refine XS.icmpNo X855.here hx rfl (hb hby at_176) rfl (XT.ii_ne_f hc857) ?_
                            show Steps p.tables e below (T855.setTop (mkF m 179 #[.val (.int p0), .val (.int p1), .val (.int (9 : Int32)), .val (.int (b0_4 p1)), .val (.ref b8), .val (.ref s_CPN), .val (.ref s_CONSUMER), .val (.int (0 : Int32))] [])) t
                            refine XS.iconst X855.here hx rfl (hb hby at_179) ?_
                            show Steps p.tables e below (T855.setTop (mkF m 180 #[.val (.int p0), .val (.int p1), .val (.int (9 : Int32)), .val (.int (b0_4 p1)), .val (.ref b8), .val (.ref s_CPN), .val (.ref s_CONSUMER), .val (.int (0 : Int32))] [(.int (1 : Int32))])) t
                            refine XS.goto X855.here hx rfl (pc0 := 180) (pc' := 184) rfl (hb hby at_180) (by decide) (by decide) ?_
                            show Steps p.tables e below (T855.setTop (mkF m 184 #[.val (.int p0), .val (.int p1), .val (.int (9 : Int32)), .val (.int (b0_4 p1)), .val (.ref b8), .val (.ref s_CPN), .val (.ref s_CONSUMER), .val (.int (0 : Int32))] [(.int (1 : Int32))])) t
                            have hq860 : (b0_859 s_WORKFORCE s_CONSUMER) = (1 : Int32) := by rw [b0_859, if_pos hc857]
                            rw [hq860] at k
                            exact k
                          · refine XS.icmpYes X855.here hx rfl (pc0 := 176) (pc' := 183) rfl (hb hby at_176) rfl (XT.ii_ne_t hc857) (by decide) (by decide) ?_
                            show Steps p.tables e below (T855.setTop (mkF m 183 #[.val (.int p0), .val (.int p1), .val (.int (9 : Int32)), .val (.int (b0_4 p1)), .val (.ref b8), .val (.ref s_CPN), .val (.ref s_CONSUMER), .val (.int (0 : Int32))] [])) t
                            refine XS.iconst X855.here hx rfl (hb hby at_183) ?_
                            show Steps p.tables e below (T855.setTop (mkF m 184 #[.val (.int p0), .val (.int p1), .val (.int (9 : Int32)), .val (.int (b0_4 p1)), .val (.ref b8), .val (.ref s_CPN), .val (.ref s_CONSUMER), .val (.int (0 : Int32))] [(.int (0 : Int32))])) t
                            have hq861 : (b0_859 s_WORKFORCE s_CONSUMER) = (0 : Int32) := by rw [b0_859, if_neg hc857]
                            rw [hq861] at k
                            exact k
                        obtain ⟨fs, hr, hrun, hended, hW, hsame⟩ := X855.leave (v := some (.int (b0_859 s_WORKFORCE s_CONSUMER))) (fun h => by rw [Bd.returns] at h; cases h)
                        refine ⟨_, _, go858 _ (Jvm.RoadKit.retOut X855 hx Bd.returns (own_nz (by unfold b0_859; (repeat' split) <;> first | exact Or.inl rfl | exact Or.inr rfl)) (Or.inl ⟨rfl, Or.inr (Or.inl rfl), _, rfl⟩) (hb hby at_184) hr), hrun, hended, _, _, rfl, ?_, ⟨_, rfl⟩, hW, hsame.mono (by decide) (by decide)⟩
                        show Q0 _ _ p0 p1 s_SUB s_EMAIL s_GIVEN_NAME s_MIDDLE_NAME s_FAMILY_NAME s_NICKNAME s_BIRTHDATE s_MOBILE_NUMBER s_NHI s_CPN s_RELATIONSHIPS s_CONFIDENCE_LEVEL s_WORKFORCE s_CONSUMER h0 _ (T855.setFrames fs).heap _
                        have hE : (T855.setFrames fs).heap = h609 := e855
                        rw [hE]
                        exact ⟨congrArg (fun z => some (Value.int z)) ((by rw [f0, if_neg hs656, if_neg hs675, if_neg hs694, if_neg hs713, if_neg hs732, if_neg hs751, if_neg hs770, if_neg hs789, if_neg hs808, if_pos hs835, if_neg hs839] : (b0_859 s_WORKFORCE s_CONSUMER) = (f0 p0 p1 s_WORKFORCE s_CONSUMER)).trans (f0_one p0 p1 s_WORKFORCE s_CONSUMER ne_CW)), N855⟩
                    · by_cases hs862 : (v0_1 p0) = (10 : Int32)
                      · have go863 : ∀ t, Steps p.tables e below (T609.setTop (mkF m 108 #[.val (.int p0), .val (.int p1), .val (.int (10 : Int32)), .val (.int (b0_4 p1)), .val (.ref b8), .unset, .unset, .unset] [(.int (10 : Int32)), (.ref b8)])) t → Steps p.tables e below (s₁.setTop (entryFrame m #[(.int p0), (.int p1)] maxLocals)) t := by
                          have q := go655
                          rw [hs862] at q
                          exact q
                        obtain ⟨cl864, Ar864, q864, S864, N864, H864, G864⟩ := id F654
                        have go865 : ∀ t, Steps p.tables e below (T609.setTop (mkF m 112 #[.val (.int p0), .val (.int p1), .val (.int (10 : Int32)), .val (.int (b0_4 p1)), .val (.ref b8), .val (.ref s_RELATIONSHIPS), .unset, .unset] [(.int (b0_4 p1))])) t → Steps p.tables e below (s₁.setTop (entryFrame m #[(.int p0), (.int p1)] maxLocals)) t := by
                          intro t k
                          refine go863 _ ?_
                          refine X609.aaload hx (j := (10 : Int32)) (v := (.ref s_RELATIONSHIPS)) (by rw [e609]; exact Ar864.1) (State.isArrayOf_alike hZ.alike Ar864.2.1) rfl Ar864.2.2 (inb_of S864 ⟨by decide, by decide⟩) (Has.at H864 (inb_of S864 ⟨by decide, by decide⟩) rfl) (g := (mkF m 108 #[.val (.int p0), .val (.int p1), .val (.int (10 : Int32)), .val (.int (b0_4 p1)), .val (.ref b8), .unset, .unset, .unset] [(.int (10 : Int32)), (.ref b8)])) rfl rfl (hb hby at_108) _ ?_
                          show Steps p.tables e below (T609.setTop (mkF m 109 #[.val (.int p0), .val (.int p1), .val (.int (10 : Int32)), .val (.int (b0_4 p1)), .val (.ref b8), .unset, .unset, .unset] [(.ref s_RELATIONSHIPS)])) t
                          refine XS.astore X609.here hx rfl (hb hby at_109) rfl rfl (l' := #[.val (.int p0), .val (.int p1), .val (.int (10 : Int32)), .val (.int (b0_4 p1)), .val (.ref b8), .val (.ref s_RELATIONSHIPS), .unset, .unset]) rfl ?_
                          show Steps p.tables e below (T609.setTop (mkF m 111 #[.val (.int p0), .val (.int p1), .val (.int (10 : Int32)), .val (.int (b0_4 p1)), .val (.ref b8), .val (.ref s_RELATIONSHIPS), .unset, .unset] [])) t
                          refine XS.iloadN X609.here hx rfl (hb hby at_111) rfl ?_
                          show Steps p.tables e below (T609.setTop (mkF m 112 #[.val (.int p0), .val (.int p1), .val (.int (10 : Int32)), .val (.int (b0_4 p1)), .val (.ref b8), .val (.ref s_RELATIONSHIPS), .unset, .unset] [(.int (b0_4 p1))])) t
                          exact k
                        by_cases hs866 : (b0_4 p1) = (0 : Int32)
                        · have go867 : ∀ t, Steps p.tables e below (T609.setTop (mkF m 121 #[.val (.int p0), .val (.int p1), .val (.int (10 : Int32)), .val (.int (b0_4 p1)), .val (.ref b8), .val (.ref s_RELATIONSHIPS), .unset, .unset] [])) t → Steps p.tables e below (s₁.setTop (entryFrame m #[(.int p0), (.int p1)] maxLocals)) t := by
                            intro t k
                            refine go865 _ ?_
                            refine XS.ifYes X609.here hx rfl (pc0 := 112) (pc' := 121) rfl (hb hby at_112) rfl (XT.i0_eq_t hs866) (by decide) (by decide) ?_
                            show Steps p.tables e below (T609.setTop (mkF m 121 #[.val (.int p0), .val (.int p1), .val (.int (10 : Int32)), .val (.int (b0_4 p1)), .val (.ref b8), .val (.ref s_RELATIONSHIPS), .unset, .unset] [])) t
                            exact k
                          obtain ⟨T868, X868, e868, st868⟩ := getS2 X609 hx hZ hown (host := "") (Or.inl (hw _ (List.mem_of_getElem? (i := 29) rfl))) Via.refl e609 F636 (g := (mkF m 121 #[.val (.int p0), .val (.int p1), .val (.int (10 : Int32)), .val (.int (b0_4 p1)), .val (.ref b8), .val (.ref s_RELATIONSHIPS), .unset, .unset] [])) rfl (hb hby at_121)
                          have go869 : ∀ t, Steps p.tables e below (T868.setTop (mkF m 124 #[.val (.int p0), .val (.int p1), .val (.int (10 : Int32)), .val (.int (b0_4 p1)), .val (.ref b8), .val (.ref s_RELATIONSHIPS), .unset, .unset] [(.ref s_WORKFORCE)])) t → Steps p.tables e below (s₁.setTop (entryFrame m #[(.int p0), (.int p1)] maxLocals)) t := fun t k => go867 _ (st868 _ k)
                          have go870 : ∀ t, Steps p.tables e below (T868.setTop (mkF m 171 #[.val (.int p0), .val (.int p1), .val (.int (10 : Int32)), .val (.int (b0_4 p1)), .val (.ref b8), .val (.ref s_RELATIONSHIPS), .val (.ref s_WORKFORCE), .val (.int (b0_4 p1))] [(.ref s_WORKFORCE), (.ref s_RELATIONSHIPS)])) t → Steps p.tables e below (s₁.setTop (entryFrame m #[(.int p0), (.int p1)] maxLocals)) t := by
                            intro t k
                            refine go869 _ ?_
                            refine XS.astore X868.here hx rfl (hb hby at_124) rfl rfl (l' := #[.val (.int p0), .val (.int p1), .val (.int (10 : Int32)), .val (.int (b0_4 p1)), .val (.ref b8), .val (.ref s_RELATIONSHIPS), .val (.ref s_WORKFORCE), .unset]) rfl ?_
                            show Steps p.tables e below (T868.setTop (mkF m 126 #[.val (.int p0), .val (.int p1), .val (.int (10 : Int32)), .val (.int (b0_4 p1)), .val (.ref b8), .val (.ref s_RELATIONSHIPS), .val (.ref s_WORKFORCE), .unset] [])) t
                            refine XS.iloadN X868.here hx rfl (hb hby at_126) rfl ?_
                            show Steps p.tables e below (T868.setTop (mkF m 127 #[.val (.int p0), .val (.int p1), .val (.int (10 : Int32)), .val (.int (b0_4 p1)), .val (.ref b8), .val (.ref s_RELATIONSHIPS), .val (.ref s_WORKFORCE), .unset] [(.int (10 : Int32))])) t
                            refine XS.bipush X868.here hx rfl (hb hby at_127) ?_
                            show Steps p.tables e below (T868.setTop (mkF m 129 #[.val (.int p0), .val (.int p1), .val (.int (10 : Int32)), .val (.int (b0_4 p1)), .val (.ref b8), .val (.ref s_RELATIONSHIPS), .val (.ref s_WORKFORCE), .unset] [(.int (8 : Int32)), (.int (10 : Int32))])) t
                            refine XS.icmpNo X868.here hx rfl (hb hby at_129) rfl (XT.ii_eq_f (by decide : ¬ ((10 : Int32) = (8 : Int32)))) ?_
                            show Steps p.tables e below (T868.setTop (mkF m 132 #[.val (.int p0), .val (.int p1), .val (.int (10 : Int32)), .val (.int (b0_4 p1)), .val (.ref b8), .val (.ref s_RELATIONSHIPS), .val (.ref s_WORKFORCE), .unset] [])) t
                            refine XS.iloadN X868.here hx rfl (hb hby at_132) rfl ?_
                            show Steps p.tables e below (T868.setTop (mkF m 133 #[.val (.int p0), .val (.int p1), .val (.int (10 : Int32)), .val (.int (b0_4 p1)), .val (.ref b8), .val (.ref s_RELATIONSHIPS), .val (.ref s_WORKFORCE), .unset] [(.int (10 : Int32))])) t
                            refine XS.bipush X868.here hx rfl (hb hby at_133) ?_
                            show Steps p.tables e below (T868.setTop (mkF m 135 #[.val (.int p0), .val (.int p1), .val (.int (10 : Int32)), .val (.int (b0_4 p1)), .val (.ref b8), .val (.ref s_RELATIONSHIPS), .val (.ref s_WORKFORCE), .unset] [(.int (10 : Int32)), (.int (10 : Int32))])) t
                            refine XS.icmpNo X868.here hx rfl (hb hby at_135) rfl (XT.ii_ne_f (by decide : ((10 : Int32) = (10 : Int32)))) ?_
                            show Steps p.tables e below (T868.setTop (mkF m 138 #[.val (.int p0), .val (.int p1), .val (.int (10 : Int32)), .val (.int (b0_4 p1)), .val (.ref b8), .val (.ref s_RELATIONSHIPS), .val (.ref s_WORKFORCE), .unset] [])) t
                            refine XS.iloadN X868.here hx rfl (hb hby at_138) rfl ?_
                            show Steps p.tables e below (T868.setTop (mkF m 139 #[.val (.int p0), .val (.int p1), .val (.int (10 : Int32)), .val (.int (b0_4 p1)), .val (.ref b8), .val (.ref s_RELATIONSHIPS), .val (.ref s_WORKFORCE), .unset] [(.int (b0_4 p1))])) t
                            refine XS.istore X868.here hx rfl (hb hby at_139) rfl (l' := #[.val (.int p0), .val (.int p1), .val (.int (10 : Int32)), .val (.int (b0_4 p1)), .val (.ref b8), .val (.ref s_RELATIONSHIPS), .val (.ref s_WORKFORCE), .val (.int (b0_4 p1))]) rfl ?_
                            show Steps p.tables e below (T868.setTop (mkF m 141 #[.val (.int p0), .val (.int p1), .val (.int (10 : Int32)), .val (.int (b0_4 p1)), .val (.ref b8), .val (.ref s_RELATIONSHIPS), .val (.ref s_WORKFORCE), .val (.int (b0_4 p1))] [])) t
                            refine XS.goto X868.here hx rfl (pc0 := 141) (pc' := 167) rfl (hb hby at_141) (by decide) (by decide) ?_
                            show Steps p.tables e below (T868.setTop (mkF m 167 #[.val (.int p0), .val (.int p1), .val (.int (10 : Int32)), .val (.int (b0_4 p1)), .val (.ref b8), .val (.ref s_RELATIONSHIPS), .val (.ref s_WORKFORCE), .val (.int (b0_4 p1))] [])) t
                            refine XS.aload X868.here hx rfl (hb hby at_167) rfl rfl ?_
                            show Steps p.tables e below (T868.setTop (mkF m 169 #[.val (.int p0), .val (.int p1), .val (.int (10 : Int32)), .val (.int (b0_4 p1)), .val (.ref b8), .val (.ref s_RELATIONSHIPS), .val (.ref s_WORKFORCE), .val (.int (b0_4 p1))] [(.ref s_RELATIONSHIPS)])) t
                            refine XS.aload X868.here hx rfl (hb hby at_169) rfl rfl ?_
                            show Steps p.tables e below (T868.setTop (mkF m 171 #[.val (.int p0), .val (.int p1), .val (.int (10 : Int32)), .val (.int (b0_4 p1)), .val (.ref b8), .val (.ref s_RELATIONSHIPS), .val (.ref s_WORKFORCE), .val (.int (b0_4 p1))] [(.ref s_WORKFORCE), (.ref s_RELATIONSHIPS)])) t
                            exact k
                          obtain ⟨cq871, kq871, q871a, q871b, q871c⟩ := isOf hZ e868 F633
                          obtain ⟨_, _, ⟨T871, L871, k871, n871⟩, -, X871, ⟨Lc871, hQ871, l871, y871, z871⟩, st871⟩ := X868.virtualBack hx (y := (⟨"com/example/hauora_id/hauoraid/model/Claim", "heldIn", "(Lcom/example/hauora_id/hauoraid/model/Realm;)Z"⟩ : MethodName)) (z := (⟨"com/example/hauora_id/hauoraid/model/Claim", "heldIn", "(Lcom/example/hauora_id/hauoraid/model/Realm;)Z"⟩ : MethodName)) hown (mvT hZ (hw _ (List.mem_of_getElem? (i := 32) rfl))) (mvT hZ (hw _ (List.mem_of_getElem? (i := 33) rfl))) (notFace_of_selects (args := #[]) (mvT hZ (hw _ (List.mem_of_getElem? (i := 35) rfl)))) (mvT hZ (hw _ (List.mem_of_getElem? (i := 35) rfl))) (mvT hZ (hw _ (List.mem_of_getElem? (i := 34) rfl))) (by decide) (backOf (W := 0) (rm1r l Z aZ hw [] s_RELATIONSHIPS s_WORKFORCE s_CONSUMER h609 n0 Zs609 F652) hZ (hw _ (List.mem_of_getElem? (i := 36) rfl)) (hw _ (List.mem_of_getElem? (i := 4) rfl)) (by decide) (by decide)) q871a q871c (g := (mkF m 171 #[.val (.int p0), .val (.int p1), .val (.int (10 : Int32)), .val (.int (b0_4 p1)), .val (.ref b8), .val (.ref s_RELATIONSHIPS), .val (.ref s_WORKFORCE), .val (.int (b0_4 p1))] [(.ref s_WORKFORCE), (.ref s_RELATIONSHIPS)])) rfl (by rw [hml]; rfl) (Steps.refl _) (argsL := [(.ref s_WORKFORCE)]) (rest := []) (lenOf pd_15 rfl) rfl (by show 2 * 0 + _ ≤ _; exact Nat.le_of_eq rfl) (hb hby at_171) (fun _ _ => ⟨rfl, e868, (by decide : 1 + 0 ≤ _), (by decide : 12 + 0 ≤ _)⟩)
                          dsimp only [Pt.U, Pt.locs, Pt.cells, Pt.slots] at X871 l871 y871 z871 st871 hQ871
                          subst l871 y871 z871
                          obtain ⟨rfl, N871q, e871⟩ := hQ871
                          have N871 := Fr.app N609 N871q
                          have go872 : ∀ t, Steps p.tables e below (T871.setTop (mkF m 174 #[.val (.int p0), .val (.int p1), .val (.int (10 : Int32)), .val (.int (b0_4 p1)), .val (.ref b8), .val (.ref s_RELATIONSHIPS), .val (.ref s_WORKFORCE), .val (.int (b0_4 p1))] [(.int (f1r s_WORKFORCE s_CONSUMER))])) t → Steps p.tables e below (s₁.setTop (entryFrame m #[(.int p0), (.int p1)] maxLocals)) t := fun t k => go870 _ (st871.trans k)
                          have go874 : ∀ t, Steps p.tables e below (T871.setTop (mkF m 184 #[.val (.int p0), .val (.int p1), .val (.int (10 : Int32)), .val (.int (b0_4 p1)), .val (.ref b8), .val (.ref s_RELATIONSHIPS), .val (.ref s_WORKFORCE), .val (.int (b0_4 p1))] [(.int (b0_821 p1 s_WORKFORCE s_CONSUMER))])) t → Steps p.tables e below (s₁.setTop (entryFrame m #[(.int p0), (.int p1)] maxLocals)) t := by
                            intro t k
                            refine go872 _ ?_
                            refine XS.iload X871.here hx rfl (hb hby at_174) rfl ?_
                            show Steps p.tables e below (T871.setTop (mkF m 176 #[.val (.int p0), .val (.int p1), .val (.int (10 : Int32)), .val (.int (b0_4 p1)), .val (.ref b8), .val (.ref s_RELATIONSHIPS), .val (.ref s_WORKFORCE), .val (.int (b0_4 p1))] [(.int (b0_4 p1)), (.int (f1r s_WORKFORCE s_CONSUMER))])) t
                            by_cases hc873 : (f1r s_WORKFORCE s_CONSUMER) = (b0_4 p1)
                            · refine XS.icmpNo X871.here hx rfl (hb hby at_176) rfl (XT.ii_ne_f hc873) ?_
                              show Steps p.tables e below (T871.setTop (mkF m 179 #[.val (.int p0), .val (.int p1), .val (.int (10 : Int32)), .val (.int (b0_4 p1)), .val (.ref b8), .val (.ref s_RELATIONSHIPS), .val (.ref s_WORKFORCE), .val (.int (b0_4 p1))] [])) t
                              refine XS.iconst X871.here hx rfl (hb hby at_179) ?_
                              show Steps p.tables e below (T871.setTop (mkF m 180 #[.val (.int p0), .val (.int p1), .val (.int (10 : Int32)), .val (.int (b0_4 p1)), .val (.ref b8), .val (.ref s_RELATIONSHIPS), .val (.ref s_WORKFORCE), .val (.int (b0_4 p1))] [(.int (1 : Int32))])) t
                              refine XS.goto X871.here hx rfl (pc0 := 180) (pc' := 184) rfl (hb hby at_180) (by decide) (by decide) ?_
                              show Steps p.tables e below (T871.setTop (mkF m 184 #[.val (.int p0), .val (.int p1), .val (.int (10 : Int32)), .val (.int (b0_4 p1)), .val (.ref b8), .val (.ref s_RELATIONSHIPS), .val (.ref s_WORKFORCE), .val (.int (b0_4 p1))] [(.int (1 : Int32))])) t
                              have hq875 : (b0_821 p1 s_WORKFORCE s_CONSUMER) = (1 : Int32) := by rw [b0_821, if_pos hc873]
                              rw [hq875] at k
                              exact k
                            · refine XS.icmpYes X871.here hx rfl (pc0 := 176) (pc' := 183) rfl (hb hby at_176) rfl (XT.ii_ne_t hc873) (by decide) (by decide) ?_
                              show Steps p.tables e below (T871.setTop (mkF m 183 #[.val (.int p0), .val (.int p1), .val (.int (10 : Int32)), .val (.int (b0_4 p1)), .val (.ref b8), .val (.ref s_RELATIONSHIPS), .val (.ref s_WORKFORCE), .val (.int (b0_4 p1))] [])) t
                              refine XS.iconst X871.here hx rfl (hb hby at_183) ?_
                              show Steps p.tables e below (T871.setTop (mkF m 184 #[.val (.int p0), .val (.int p1), .val (.int (10 : Int32)), .val (.int (b0_4 p1)), .val (.ref b8), .val (.ref s_RELATIONSHIPS), .val (.ref s_WORKFORCE), .val (.int (b0_4 p1))] [(.int (0 : Int32))])) t
                              have hq876 : (b0_821 p1 s_WORKFORCE s_CONSUMER) = (0 : Int32) := by rw [b0_821, if_neg hc873]
                              rw [hq876] at k
                              exact k
                          obtain ⟨fs, hr, hrun, hended, hW, hsame⟩ := X871.leave (v := some (.int (b0_821 p1 s_WORKFORCE s_CONSUMER))) (fun h => by rw [Bd.returns] at h; cases h)
                          refine ⟨_, _, go874 _ (Jvm.RoadKit.retOut X871 hx Bd.returns (own_nz (by unfold b0_821; (repeat' split) <;> first | exact Or.inl rfl | exact Or.inr rfl)) (Or.inl ⟨rfl, Or.inr (Or.inl rfl), _, rfl⟩) (hb hby at_184) hr), hrun, hended, _, _, rfl, ?_, ⟨_, rfl⟩, hW, hsame.mono (by decide) (by decide)⟩
                          show Q0 _ _ p0 p1 s_SUB s_EMAIL s_GIVEN_NAME s_MIDDLE_NAME s_FAMILY_NAME s_NICKNAME s_BIRTHDATE s_MOBILE_NUMBER s_NHI s_CPN s_RELATIONSHIPS s_CONFIDENCE_LEVEL s_WORKFORCE s_CONSUMER h0 _ (T871.setFrames fs).heap _
                          have hE : (T871.setFrames fs).heap = h609 := e871
                          rw [hE]
                          exact ⟨congrArg (fun z => some (Value.int z)) ((by rw [f0, if_neg hs656, if_neg hs675, if_neg hs694, if_neg hs713, if_neg hs732, if_neg hs751, if_neg hs770, if_neg hs789, if_neg hs808, if_neg hs835, if_pos hs862, if_pos hs866] : (b0_821 p1 s_WORKFORCE s_CONSUMER) = (f0 p0 p1 s_WORKFORCE s_CONSUMER)).trans (f0_one p0 p1 s_WORKFORCE s_CONSUMER ne_CW)), N871⟩
                        · have go877 : ∀ t, Steps p.tables e below (T609.setTop (mkF m 115 #[.val (.int p0), .val (.int p1), .val (.int (10 : Int32)), .val (.int (b0_4 p1)), .val (.ref b8), .val (.ref s_RELATIONSHIPS), .unset, .unset] [])) t → Steps p.tables e below (s₁.setTop (entryFrame m #[(.int p0), (.int p1)] maxLocals)) t := by
                            intro t k
                            refine go865 _ ?_
                            refine XS.ifNo X609.here hx rfl (hb hby at_112) rfl (XT.i0_eq_f hs866) ?_
                            show Steps p.tables e below (T609.setTop (mkF m 115 #[.val (.int p0), .val (.int p1), .val (.int (10 : Int32)), .val (.int (b0_4 p1)), .val (.ref b8), .val (.ref s_RELATIONSHIPS), .unset, .unset] [])) t
                            exact k
                          obtain ⟨T878, X878, e878, st878⟩ := getS2 X609 hx hZ hown (host := "") (Or.inl (hw _ (List.mem_of_getElem? (i := 39) rfl))) Via.refl e609 F640 (g := (mkF m 115 #[.val (.int p0), .val (.int p1), .val (.int (10 : Int32)), .val (.int (b0_4 p1)), .val (.ref b8), .val (.ref s_RELATIONSHIPS), .unset, .unset] [])) rfl (hb hby at_115)
                          have go879 : ∀ t, Steps p.tables e below (T878.setTop (mkF m 118 #[.val (.int p0), .val (.int p1), .val (.int (10 : Int32)), .val (.int (b0_4 p1)), .val (.ref b8), .val (.ref s_RELATIONSHIPS), .unset, .unset] [(.ref s_CONSUMER)])) t → Steps p.tables e below (s₁.setTop (entryFrame m #[(.int p0), (.int p1)] maxLocals)) t := fun t k => go877 _ (st878 _ k)
                          have go880 : ∀ t, Steps p.tables e below (T878.setTop (mkF m 171 #[.val (.int p0), .val (.int p1), .val (.int (10 : Int32)), .val (.int (b0_4 p1)), .val (.ref b8), .val (.ref s_RELATIONSHIPS), .val (.ref s_CONSUMER), .val (.int (b0_4 p1))] [(.ref s_CONSUMER), (.ref s_RELATIONSHIPS)])) t → Steps p.tables e below (s₁.setTop (entryFrame m #[(.int p0), (.int p1)] maxLocals)) t := by
                            intro t k
                            refine go879 _ ?_
                            refine XS.goto X878.here hx rfl (pc0 := 118) (pc' := 124) rfl (hb hby at_118) (by decide) (by decide) ?_
                            show Steps p.tables e below (T878.setTop (mkF m 124 #[.val (.int p0), .val (.int p1), .val (.int (10 : Int32)), .val (.int (b0_4 p1)), .val (.ref b8), .val (.ref s_RELATIONSHIPS), .unset, .unset] [(.ref s_CONSUMER)])) t
                            refine XS.astore X878.here hx rfl (hb hby at_124) rfl rfl (l' := #[.val (.int p0), .val (.int p1), .val (.int (10 : Int32)), .val (.int (b0_4 p1)), .val (.ref b8), .val (.ref s_RELATIONSHIPS), .val (.ref s_CONSUMER), .unset]) rfl ?_
                            show Steps p.tables e below (T878.setTop (mkF m 126 #[.val (.int p0), .val (.int p1), .val (.int (10 : Int32)), .val (.int (b0_4 p1)), .val (.ref b8), .val (.ref s_RELATIONSHIPS), .val (.ref s_CONSUMER), .unset] [])) t
                            refine XS.iloadN X878.here hx rfl (hb hby at_126) rfl ?_
                            show Steps p.tables e below (T878.setTop (mkF m 127 #[.val (.int p0), .val (.int p1), .val (.int (10 : Int32)), .val (.int (b0_4 p1)), .val (.ref b8), .val (.ref s_RELATIONSHIPS), .val (.ref s_CONSUMER), .unset] [(.int (10 : Int32))])) t
                            refine XS.bipush X878.here hx rfl (hb hby at_127) ?_
                            show Steps p.tables e below (T878.setTop (mkF m 129 #[.val (.int p0), .val (.int p1), .val (.int (10 : Int32)), .val (.int (b0_4 p1)), .val (.ref b8), .val (.ref s_RELATIONSHIPS), .val (.ref s_CONSUMER), .unset] [(.int (8 : Int32)), (.int (10 : Int32))])) t
                            refine XS.icmpNo X878.here hx rfl (hb hby at_129) rfl (XT.ii_eq_f (by decide : ¬ ((10 : Int32) = (8 : Int32)))) ?_
                            show Steps p.tables e below (T878.setTop (mkF m 132 #[.val (.int p0), .val (.int p1), .val (.int (10 : Int32)), .val (.int (b0_4 p1)), .val (.ref b8), .val (.ref s_RELATIONSHIPS), .val (.ref s_CONSUMER), .unset] [])) t
                            refine XS.iloadN X878.here hx rfl (hb hby at_132) rfl ?_
                            show Steps p.tables e below (T878.setTop (mkF m 133 #[.val (.int p0), .val (.int p1), .val (.int (10 : Int32)), .val (.int (b0_4 p1)), .val (.ref b8), .val (.ref s_RELATIONSHIPS), .val (.ref s_CONSUMER), .unset] [(.int (10 : Int32))])) t
                            refine XS.bipush X878.here hx rfl (hb hby at_133) ?_
                            show Steps p.tables e below (T878.setTop (mkF m 135 #[.val (.int p0), .val (.int p1), .val (.int (10 : Int32)), .val (.int (b0_4 p1)), .val (.ref b8), .val (.ref s_RELATIONSHIPS), .val (.ref s_CONSUMER), .unset] [(.int (10 : Int32)), (.int (10 : Int32))])) t
                            refine XS.icmpNo X878.here hx rfl (hb hby at_135) rfl (XT.ii_ne_f (by decide : ((10 : Int32) = (10 : Int32)))) ?_
                            show Steps p.tables e below (T878.setTop (mkF m 138 #[.val (.int p0), .val (.int p1), .val (.int (10 : Int32)), .val (.int (b0_4 p1)), .val (.ref b8), .val (.ref s_RELATIONSHIPS), .val (.ref s_CONSUMER), .unset] [])) t
                            refine XS.iloadN X878.here hx rfl (hb hby at_138) rfl ?_
                            show Steps p.tables e below (T878.setTop (mkF m 139 #[.val (.int p0), .val (.int p1), .val (.int (10 : Int32)), .val (.int (b0_4 p1)), .val (.ref b8), .val (.ref s_RELATIONSHIPS), .val (.ref s_CONSUMER), .unset] [(.int (b0_4 p1))])) t
                            refine XS.istore X878.here hx rfl (hb hby at_139) rfl (l' := #[.val (.int p0), .val (.int p1), .val (.int (10 : Int32)), .val (.int (b0_4 p1)), .val (.ref b8), .val (.ref s_RELATIONSHIPS), .val (.ref s_CONSUMER), .val (.int (b0_4 p1))]) rfl ?_
                            show Steps p.tables e below (T878.setTop (mkF m 141 #[.val (.int p0), .val (.int p1), .val (.int (10 : Int32)), .val (.int (b0_4 p1)), .val (.ref b8), .val (.ref s_RELATIONSHIPS), .val (.ref s_CONSUMER), .val (.int (b0_4 p1))] [])) t
                            refine XS.goto X878.here hx rfl (pc0 := 141) (pc' := 167) rfl (hb hby at_141) (by decide) (by decide) ?_
                            show Steps p.tables e below (T878.setTop (mkF m 167 #[.val (.int p0), .val (.int p1), .val (.int (10 : Int32)), .val (.int (b0_4 p1)), .val (.ref b8), .val (.ref s_RELATIONSHIPS), .val (.ref s_CONSUMER), .val (.int (b0_4 p1))] [])) t
                            refine XS.aload X878.here hx rfl (hb hby at_167) rfl rfl ?_
                            show Steps p.tables e below (T878.setTop (mkF m 169 #[.val (.int p0), .val (.int p1), .val (.int (10 : Int32)), .val (.int (b0_4 p1)), .val (.ref b8), .val (.ref s_RELATIONSHIPS), .val (.ref s_CONSUMER), .val (.int (b0_4 p1))] [(.ref s_RELATIONSHIPS)])) t
                            refine XS.aload X878.here hx rfl (hb hby at_169) rfl rfl ?_
                            show Steps p.tables e below (T878.setTop (mkF m 171 #[.val (.int p0), .val (.int p1), .val (.int (10 : Int32)), .val (.int (b0_4 p1)), .val (.ref b8), .val (.ref s_RELATIONSHIPS), .val (.ref s_CONSUMER), .val (.int (b0_4 p1))] [(.ref s_CONSUMER), (.ref s_RELATIONSHIPS)])) t
                            exact k
                          obtain ⟨cq881, kq881, q881a, q881b, q881c⟩ := isOf hZ e878 F633
                          obtain ⟨_, _, ⟨T881, L881, k881, n881⟩, -, X881, ⟨Lc881, hQ881, l881, y881, z881⟩, st881⟩ := X878.virtualBack hx (y := (⟨"com/example/hauora_id/hauoraid/model/Claim", "heldIn", "(Lcom/example/hauora_id/hauoraid/model/Realm;)Z"⟩ : MethodName)) (z := (⟨"com/example/hauora_id/hauoraid/model/Claim", "heldIn", "(Lcom/example/hauora_id/hauoraid/model/Realm;)Z"⟩ : MethodName)) hown (mvT hZ (hw _ (List.mem_of_getElem? (i := 32) rfl))) (mvT hZ (hw _ (List.mem_of_getElem? (i := 33) rfl))) (notFace_of_selects (args := #[]) (mvT hZ (hw _ (List.mem_of_getElem? (i := 35) rfl)))) (mvT hZ (hw _ (List.mem_of_getElem? (i := 35) rfl))) (mvT hZ (hw _ (List.mem_of_getElem? (i := 34) rfl))) (by decide) (backOf (W := 0) (rm1r l Z aZ hw [] s_RELATIONSHIPS s_CONSUMER s_CONSUMER h609 n0 Zs609 F652) hZ (hw _ (List.mem_of_getElem? (i := 36) rfl)) (hw _ (List.mem_of_getElem? (i := 4) rfl)) (by decide) (by decide)) q881a q881c (g := (mkF m 171 #[.val (.int p0), .val (.int p1), .val (.int (10 : Int32)), .val (.int (b0_4 p1)), .val (.ref b8), .val (.ref s_RELATIONSHIPS), .val (.ref s_CONSUMER), .val (.int (b0_4 p1))] [(.ref s_CONSUMER), (.ref s_RELATIONSHIPS)])) rfl (by rw [hml]; rfl) (Steps.refl _) (argsL := [(.ref s_CONSUMER)]) (rest := []) (lenOf pd_15 rfl) rfl (by show 2 * 0 + _ ≤ _; exact Nat.le_of_eq rfl) (hb hby at_171) (fun _ _ => ⟨rfl, e878, (by decide : 1 + 0 ≤ _), (by decide : 12 + 0 ≤ _)⟩)
                          dsimp only [Pt.U, Pt.locs, Pt.cells, Pt.slots] at X881 l881 y881 z881 st881 hQ881
                          subst l881 y881 z881
                          obtain ⟨rfl, N881q, e881⟩ := hQ881
                          have N881 := Fr.app N609 N881q
                          have go882 : ∀ t, Steps p.tables e below (T881.setTop (mkF m 174 #[.val (.int p0), .val (.int p1), .val (.int (10 : Int32)), .val (.int (b0_4 p1)), .val (.ref b8), .val (.ref s_RELATIONSHIPS), .val (.ref s_CONSUMER), .val (.int (b0_4 p1))] [(.int (f1r s_CONSUMER s_CONSUMER))])) t → Steps p.tables e below (s₁.setTop (entryFrame m #[(.int p0), (.int p1)] maxLocals)) t := fun t k => go880 _ (st881.trans k)
                          have go884 : ∀ t, Steps p.tables e below (T881.setTop (mkF m 184 #[.val (.int p0), .val (.int p1), .val (.int (10 : Int32)), .val (.int (b0_4 p1)), .val (.ref b8), .val (.ref s_RELATIONSHIPS), .val (.ref s_CONSUMER), .val (.int (b0_4 p1))] [(.int (b0_832 p1 s_CONSUMER))])) t → Steps p.tables e below (s₁.setTop (entryFrame m #[(.int p0), (.int p1)] maxLocals)) t := by
                            intro t k
                            refine go882 _ ?_
                            refine XS.iload X881.here hx rfl (hb hby at_174) rfl ?_
                            show Steps p.tables e below (T881.setTop (mkF m 176 #[.val (.int p0), .val (.int p1), .val (.int (10 : Int32)), .val (.int (b0_4 p1)), .val (.ref b8), .val (.ref s_RELATIONSHIPS), .val (.ref s_CONSUMER), .val (.int (b0_4 p1))] [(.int (b0_4 p1)), (.int (f1r s_CONSUMER s_CONSUMER))])) t
                            by_cases hc883 : (f1r s_CONSUMER s_CONSUMER) = (b0_4 p1)
                            · refine XS.icmpNo X881.here hx rfl (hb hby at_176) rfl (XT.ii_ne_f hc883) ?_
                              show Steps p.tables e below (T881.setTop (mkF m 179 #[.val (.int p0), .val (.int p1), .val (.int (10 : Int32)), .val (.int (b0_4 p1)), .val (.ref b8), .val (.ref s_RELATIONSHIPS), .val (.ref s_CONSUMER), .val (.int (b0_4 p1))] [])) t
                              refine XS.iconst X881.here hx rfl (hb hby at_179) ?_
                              show Steps p.tables e below (T881.setTop (mkF m 180 #[.val (.int p0), .val (.int p1), .val (.int (10 : Int32)), .val (.int (b0_4 p1)), .val (.ref b8), .val (.ref s_RELATIONSHIPS), .val (.ref s_CONSUMER), .val (.int (b0_4 p1))] [(.int (1 : Int32))])) t
                              refine XS.goto X881.here hx rfl (pc0 := 180) (pc' := 184) rfl (hb hby at_180) (by decide) (by decide) ?_
                              show Steps p.tables e below (T881.setTop (mkF m 184 #[.val (.int p0), .val (.int p1), .val (.int (10 : Int32)), .val (.int (b0_4 p1)), .val (.ref b8), .val (.ref s_RELATIONSHIPS), .val (.ref s_CONSUMER), .val (.int (b0_4 p1))] [(.int (1 : Int32))])) t
                              have hq885 : (b0_832 p1 s_CONSUMER) = (1 : Int32) := by rw [b0_832, if_pos hc883]
                              rw [hq885] at k
                              exact k
                            · refine XS.icmpYes X881.here hx rfl (pc0 := 176) (pc' := 183) rfl (hb hby at_176) rfl (XT.ii_ne_t hc883) (by decide) (by decide) ?_
                              show Steps p.tables e below (T881.setTop (mkF m 183 #[.val (.int p0), .val (.int p1), .val (.int (10 : Int32)), .val (.int (b0_4 p1)), .val (.ref b8), .val (.ref s_RELATIONSHIPS), .val (.ref s_CONSUMER), .val (.int (b0_4 p1))] [])) t
                              refine XS.iconst X881.here hx rfl (hb hby at_183) ?_
                              show Steps p.tables e below (T881.setTop (mkF m 184 #[.val (.int p0), .val (.int p1), .val (.int (10 : Int32)), .val (.int (b0_4 p1)), .val (.ref b8), .val (.ref s_RELATIONSHIPS), .val (.ref s_CONSUMER), .val (.int (b0_4 p1))] [(.int (0 : Int32))])) t
                              have hq886 : (b0_832 p1 s_CONSUMER) = (0 : Int32) := by rw [b0_832, if_neg hc883]
                              rw [hq886] at k
                              exact k
                          obtain ⟨fs, hr, hrun, hended, hW, hsame⟩ := X881.leave (v := some (.int (b0_832 p1 s_CONSUMER))) (fun h => by rw [Bd.returns] at h; cases h)
                          refine ⟨_, _, go884 _ (Jvm.RoadKit.retOut X881 hx Bd.returns (own_nz (by unfold b0_832; (repeat' split) <;> first | exact Or.inl rfl | exact Or.inr rfl)) (Or.inl ⟨rfl, Or.inr (Or.inl rfl), _, rfl⟩) (hb hby at_184) hr), hrun, hended, _, _, rfl, ?_, ⟨_, rfl⟩, hW, hsame.mono (by decide) (by decide)⟩
                          show Q0 _ _ p0 p1 s_SUB s_EMAIL s_GIVEN_NAME s_MIDDLE_NAME s_FAMILY_NAME s_NICKNAME s_BIRTHDATE s_MOBILE_NUMBER s_NHI s_CPN s_RELATIONSHIPS s_CONFIDENCE_LEVEL s_WORKFORCE s_CONSUMER h0 _ (T881.setFrames fs).heap _
                          have hE : (T881.setFrames fs).heap = h609 := e881
                          rw [hE]
                          exact ⟨congrArg (fun z => some (Value.int z)) ((by rw [f0, if_neg hs656, if_neg hs675, if_neg hs694, if_neg hs713, if_neg hs732, if_neg hs751, if_neg hs770, if_neg hs789, if_neg hs808, if_neg hs835, if_pos hs862, if_neg hs866] : (b0_832 p1 s_CONSUMER) = (f0 p0 p1 s_WORKFORCE s_CONSUMER)).trans (f0_one p0 p1 s_WORKFORCE s_CONSUMER ne_CW)), N881⟩
                      · by_cases hs887 : (v0_1 p0) = (11 : Int32)
                        · have go888 : ∀ t, Steps p.tables e below (T609.setTop (mkF m 108 #[.val (.int p0), .val (.int p1), .val (.int (11 : Int32)), .val (.int (b0_4 p1)), .val (.ref b8), .unset, .unset, .unset] [(.int (11 : Int32)), (.ref b8)])) t → Steps p.tables e below (s₁.setTop (entryFrame m #[(.int p0), (.int p1)] maxLocals)) t := by
                            have q := go655
                            rw [hs887] at q
                            exact q
                          obtain ⟨cl889, Ar889, q889, S889, N889, H889, G889⟩ := id F654
                          have go890 : ∀ t, Steps p.tables e below (T609.setTop (mkF m 112 #[.val (.int p0), .val (.int p1), .val (.int (11 : Int32)), .val (.int (b0_4 p1)), .val (.ref b8), .val (.ref s_CONFIDENCE_LEVEL), .unset, .unset] [(.int (b0_4 p1))])) t → Steps p.tables e below (s₁.setTop (entryFrame m #[(.int p0), (.int p1)] maxLocals)) t := by
                            intro t k
                            refine go888 _ ?_
                            refine X609.aaload hx (j := (11 : Int32)) (v := (.ref s_CONFIDENCE_LEVEL)) (by rw [e609]; exact Ar889.1) (State.isArrayOf_alike hZ.alike Ar889.2.1) rfl Ar889.2.2 (inb_of S889 ⟨by decide, by decide⟩) (Has.at H889 (inb_of S889 ⟨by decide, by decide⟩) rfl) (g := (mkF m 108 #[.val (.int p0), .val (.int p1), .val (.int (11 : Int32)), .val (.int (b0_4 p1)), .val (.ref b8), .unset, .unset, .unset] [(.int (11 : Int32)), (.ref b8)])) rfl rfl (hb hby at_108) _ ?_
                            show Steps p.tables e below (T609.setTop (mkF m 109 #[.val (.int p0), .val (.int p1), .val (.int (11 : Int32)), .val (.int (b0_4 p1)), .val (.ref b8), .unset, .unset, .unset] [(.ref s_CONFIDENCE_LEVEL)])) t
                            refine XS.astore X609.here hx rfl (hb hby at_109) rfl rfl (l' := #[.val (.int p0), .val (.int p1), .val (.int (11 : Int32)), .val (.int (b0_4 p1)), .val (.ref b8), .val (.ref s_CONFIDENCE_LEVEL), .unset, .unset]) rfl ?_
                            show Steps p.tables e below (T609.setTop (mkF m 111 #[.val (.int p0), .val (.int p1), .val (.int (11 : Int32)), .val (.int (b0_4 p1)), .val (.ref b8), .val (.ref s_CONFIDENCE_LEVEL), .unset, .unset] [])) t
                            refine XS.iloadN X609.here hx rfl (hb hby at_111) rfl ?_
                            show Steps p.tables e below (T609.setTop (mkF m 112 #[.val (.int p0), .val (.int p1), .val (.int (11 : Int32)), .val (.int (b0_4 p1)), .val (.ref b8), .val (.ref s_CONFIDENCE_LEVEL), .unset, .unset] [(.int (b0_4 p1))])) t
                            exact k
                          by_cases hs891 : (b0_4 p1) = (0 : Int32)
                          · have go892 : ∀ t, Steps p.tables e below (T609.setTop (mkF m 121 #[.val (.int p0), .val (.int p1), .val (.int (11 : Int32)), .val (.int (b0_4 p1)), .val (.ref b8), .val (.ref s_CONFIDENCE_LEVEL), .unset, .unset] [])) t → Steps p.tables e below (s₁.setTop (entryFrame m #[(.int p0), (.int p1)] maxLocals)) t := by
                              intro t k
                              refine go890 _ ?_
                              refine XS.ifYes X609.here hx rfl (pc0 := 112) (pc' := 121) rfl (hb hby at_112) rfl (XT.i0_eq_t hs891) (by decide) (by decide) ?_
                              show Steps p.tables e below (T609.setTop (mkF m 121 #[.val (.int p0), .val (.int p1), .val (.int (11 : Int32)), .val (.int (b0_4 p1)), .val (.ref b8), .val (.ref s_CONFIDENCE_LEVEL), .unset, .unset] [])) t
                              exact k
                            obtain ⟨T893, X893, e893, st893⟩ := getS2 X609 hx hZ hown (host := "") (Or.inl (hw _ (List.mem_of_getElem? (i := 29) rfl))) Via.refl e609 F636 (g := (mkF m 121 #[.val (.int p0), .val (.int p1), .val (.int (11 : Int32)), .val (.int (b0_4 p1)), .val (.ref b8), .val (.ref s_CONFIDENCE_LEVEL), .unset, .unset] [])) rfl (hb hby at_121)
                            have go894 : ∀ t, Steps p.tables e below (T893.setTop (mkF m 124 #[.val (.int p0), .val (.int p1), .val (.int (11 : Int32)), .val (.int (b0_4 p1)), .val (.ref b8), .val (.ref s_CONFIDENCE_LEVEL), .unset, .unset] [(.ref s_WORKFORCE)])) t → Steps p.tables e below (s₁.setTop (entryFrame m #[(.int p0), (.int p1)] maxLocals)) t := fun t k => go892 _ (st893 _ k)
                            have go895 : ∀ t, Steps p.tables e below (T893.setTop (mkF m 171 #[.val (.int p0), .val (.int p1), .val (.int (11 : Int32)), .val (.int (b0_4 p1)), .val (.ref b8), .val (.ref s_CONFIDENCE_LEVEL), .val (.ref s_WORKFORCE), .val (.int (1 : Int32))] [(.ref s_WORKFORCE), (.ref s_CONFIDENCE_LEVEL)])) t → Steps p.tables e below (s₁.setTop (entryFrame m #[(.int p0), (.int p1)] maxLocals)) t := by
                              intro t k
                              refine go894 _ ?_
                              refine XS.astore X893.here hx rfl (hb hby at_124) rfl rfl (l' := #[.val (.int p0), .val (.int p1), .val (.int (11 : Int32)), .val (.int (b0_4 p1)), .val (.ref b8), .val (.ref s_CONFIDENCE_LEVEL), .val (.ref s_WORKFORCE), .unset]) rfl ?_
                              show Steps p.tables e below (T893.setTop (mkF m 126 #[.val (.int p0), .val (.int p1), .val (.int (11 : Int32)), .val (.int (b0_4 p1)), .val (.ref b8), .val (.ref s_CONFIDENCE_LEVEL), .val (.ref s_WORKFORCE), .unset] [])) t
                              refine XS.iloadN X893.here hx rfl (hb hby at_126) rfl ?_
                              show Steps p.tables e below (T893.setTop (mkF m 127 #[.val (.int p0), .val (.int p1), .val (.int (11 : Int32)), .val (.int (b0_4 p1)), .val (.ref b8), .val (.ref s_CONFIDENCE_LEVEL), .val (.ref s_WORKFORCE), .unset] [(.int (11 : Int32))])) t
                              refine XS.bipush X893.here hx rfl (hb hby at_127) ?_
                              show Steps p.tables e below (T893.setTop (mkF m 129 #[.val (.int p0), .val (.int p1), .val (.int (11 : Int32)), .val (.int (b0_4 p1)), .val (.ref b8), .val (.ref s_CONFIDENCE_LEVEL), .val (.ref s_WORKFORCE), .unset] [(.int (8 : Int32)), (.int (11 : Int32))])) t
                              refine XS.icmpNo X893.here hx rfl (hb hby at_129) rfl (XT.ii_eq_f (by decide : ¬ ((11 : Int32) = (8 : Int32)))) ?_
                              show Steps p.tables e below (T893.setTop (mkF m 132 #[.val (.int p0), .val (.int p1), .val (.int (11 : Int32)), .val (.int (b0_4 p1)), .val (.ref b8), .val (.ref s_CONFIDENCE_LEVEL), .val (.ref s_WORKFORCE), .unset] [])) t
                              refine XS.iloadN X893.here hx rfl (hb hby at_132) rfl ?_
                              show Steps p.tables e below (T893.setTop (mkF m 133 #[.val (.int p0), .val (.int p1), .val (.int (11 : Int32)), .val (.int (b0_4 p1)), .val (.ref b8), .val (.ref s_CONFIDENCE_LEVEL), .val (.ref s_WORKFORCE), .unset] [(.int (11 : Int32))])) t
                              refine XS.bipush X893.here hx rfl (hb hby at_133) ?_
                              show Steps p.tables e below (T893.setTop (mkF m 135 #[.val (.int p0), .val (.int p1), .val (.int (11 : Int32)), .val (.int (b0_4 p1)), .val (.ref b8), .val (.ref s_CONFIDENCE_LEVEL), .val (.ref s_WORKFORCE), .unset] [(.int (10 : Int32)), (.int (11 : Int32))])) t
                              refine XS.icmpYes X893.here hx rfl (pc0 := 135) (pc' := 144) rfl (hb hby at_135) rfl (XT.ii_ne_t (by decide : ¬ ((11 : Int32) = (10 : Int32)))) (by decide) (by decide) ?_
                              show Steps p.tables e below (T893.setTop (mkF m 144 #[.val (.int p0), .val (.int p1), .val (.int (11 : Int32)), .val (.int (b0_4 p1)), .val (.ref b8), .val (.ref s_CONFIDENCE_LEVEL), .val (.ref s_WORKFORCE), .unset] [])) t
                              refine XS.iloadN X893.here hx rfl (hb hby at_144) rfl ?_
                              show Steps p.tables e below (T893.setTop (mkF m 145 #[.val (.int p0), .val (.int p1), .val (.int (11 : Int32)), .val (.int (b0_4 p1)), .val (.ref b8), .val (.ref s_CONFIDENCE_LEVEL), .val (.ref s_WORKFORCE), .unset] [(.int (11 : Int32))])) t
                              refine XS.bipush X893.here hx rfl (hb hby at_145) ?_
                              show Steps p.tables e below (T893.setTop (mkF m 147 #[.val (.int p0), .val (.int p1), .val (.int (11 : Int32)), .val (.int (b0_4 p1)), .val (.ref b8), .val (.ref s_CONFIDENCE_LEVEL), .val (.ref s_WORKFORCE), .unset] [(.int (9 : Int32)), (.int (11 : Int32))])) t
                              refine XS.icmpYes X893.here hx rfl (pc0 := 147) (pc' := 164) rfl (hb hby at_147) rfl (XT.ii_ne_t (by decide : ¬ ((11 : Int32) = (9 : Int32)))) (by decide) (by decide) ?_
                              show Steps p.tables e below (T893.setTop (mkF m 164 #[.val (.int p0), .val (.int p1), .val (.int (11 : Int32)), .val (.int (b0_4 p1)), .val (.ref b8), .val (.ref s_CONFIDENCE_LEVEL), .val (.ref s_WORKFORCE), .unset] [])) t
                              refine XS.iconst X893.here hx rfl (hb hby at_164) ?_
                              show Steps p.tables e below (T893.setTop (mkF m 165 #[.val (.int p0), .val (.int p1), .val (.int (11 : Int32)), .val (.int (b0_4 p1)), .val (.ref b8), .val (.ref s_CONFIDENCE_LEVEL), .val (.ref s_WORKFORCE), .unset] [(.int (1 : Int32))])) t
                              refine XS.istore X893.here hx rfl (hb hby at_165) rfl (l' := #[.val (.int p0), .val (.int p1), .val (.int (11 : Int32)), .val (.int (b0_4 p1)), .val (.ref b8), .val (.ref s_CONFIDENCE_LEVEL), .val (.ref s_WORKFORCE), .val (.int (1 : Int32))]) rfl ?_
                              show Steps p.tables e below (T893.setTop (mkF m 167 #[.val (.int p0), .val (.int p1), .val (.int (11 : Int32)), .val (.int (b0_4 p1)), .val (.ref b8), .val (.ref s_CONFIDENCE_LEVEL), .val (.ref s_WORKFORCE), .val (.int (1 : Int32))] [])) t
                              refine XS.aload X893.here hx rfl (hb hby at_167) rfl rfl ?_
                              show Steps p.tables e below (T893.setTop (mkF m 169 #[.val (.int p0), .val (.int p1), .val (.int (11 : Int32)), .val (.int (b0_4 p1)), .val (.ref b8), .val (.ref s_CONFIDENCE_LEVEL), .val (.ref s_WORKFORCE), .val (.int (1 : Int32))] [(.ref s_CONFIDENCE_LEVEL)])) t
                              refine XS.aload X893.here hx rfl (hb hby at_169) rfl rfl ?_
                              show Steps p.tables e below (T893.setTop (mkF m 171 #[.val (.int p0), .val (.int p1), .val (.int (11 : Int32)), .val (.int (b0_4 p1)), .val (.ref b8), .val (.ref s_CONFIDENCE_LEVEL), .val (.ref s_WORKFORCE), .val (.int (1 : Int32))] [(.ref s_WORKFORCE), (.ref s_CONFIDENCE_LEVEL)])) t
                              exact k
                            obtain ⟨cq896, kq896, q896a, q896b, q896c⟩ := isOf hZ e893 F635
                            obtain ⟨_, _, ⟨T896, L896, k896, n896⟩, -, X896, ⟨Lc896, hQ896, l896, y896, z896⟩, st896⟩ := X893.virtualBack hx (y := (⟨"com/example/hauora_id/hauoraid/model/Claim", "heldIn", "(Lcom/example/hauora_id/hauoraid/model/Realm;)Z"⟩ : MethodName)) (z := (⟨"com/example/hauora_id/hauoraid/model/Claim", "heldIn", "(Lcom/example/hauora_id/hauoraid/model/Realm;)Z"⟩ : MethodName)) hown (mvT hZ (hw _ (List.mem_of_getElem? (i := 32) rfl))) (mvT hZ (hw _ (List.mem_of_getElem? (i := 33) rfl))) (notFace_of_selects (args := #[]) (mvT hZ (hw _ (List.mem_of_getElem? (i := 35) rfl)))) (mvT hZ (hw _ (List.mem_of_getElem? (i := 35) rfl))) (mvT hZ (hw _ (List.mem_of_getElem? (i := 34) rfl))) (by decide) (backOf (W := 0) (rm1n l Z aZ hw [] s_CONFIDENCE_LEVEL s_WORKFORCE h609 n0 Zs609 F648) hZ (hw _ (List.mem_of_getElem? (i := 36) rfl)) (hw _ (List.mem_of_getElem? (i := 4) rfl)) (by decide) (by decide)) q896a q896c (g := (mkF m 171 #[.val (.int p0), .val (.int p1), .val (.int (11 : Int32)), .val (.int (b0_4 p1)), .val (.ref b8), .val (.ref s_CONFIDENCE_LEVEL), .val (.ref s_WORKFORCE), .val (.int (1 : Int32))] [(.ref s_WORKFORCE), (.ref s_CONFIDENCE_LEVEL)])) rfl (by rw [hml]; rfl) (Steps.refl _) (argsL := [(.ref s_WORKFORCE)]) (rest := []) (lenOf pd_15 rfl) rfl (by show 2 * 0 + _ ≤ _; exact Nat.le_of_eq rfl) (hb hby at_171) (fun _ _ => ⟨rfl, e893, (by decide : 1 + 0 ≤ _), (by decide : 12 + 0 ≤ _)⟩)
                            dsimp only [Pt.U, Pt.locs, Pt.cells, Pt.slots] at X896 l896 y896 z896 st896 hQ896
                            subst l896 y896 z896
                            obtain ⟨rfl, N896q, e896⟩ := hQ896
                            have N896 := Fr.app N609 N896q
                            have go897 : ∀ t, Steps p.tables e below (T896.setTop (mkF m 174 #[.val (.int p0), .val (.int p1), .val (.int (11 : Int32)), .val (.int (b0_4 p1)), .val (.ref b8), .val (.ref s_CONFIDENCE_LEVEL), .val (.ref s_WORKFORCE), .val (.int (1 : Int32))] [(.int (1 : Int32))])) t → Steps p.tables e below (s₁.setTop (entryFrame m #[(.int p0), (.int p1)] maxLocals)) t := fun t k => go895 _ (st896.trans k)
                            have go898 : ∀ t, Steps p.tables e below (T896.setTop (mkF m 184 #[.val (.int p0), .val (.int p1), .val (.int (11 : Int32)), .val (.int (b0_4 p1)), .val (.ref b8), .val (.ref s_CONFIDENCE_LEVEL), .val (.ref s_WORKFORCE), .val (.int (1 : Int32))] [(.int (1 : Int32))])) t → Steps p.tables e below (s₁.setTop (entryFrame m #[(.int p0), (.int p1)] maxLocals)) t := by
                              intro t k
                              refine go897 _ ?_
                              refine XS.iload X896.here hx rfl (hb hby at_174) rfl ?_
                              show Steps p.tables e below (T896.setTop (mkF m 176 #[.val (.int p0), .val (.int p1), .val (.int (11 : Int32)), .val (.int (b0_4 p1)), .val (.ref b8), .val (.ref s_CONFIDENCE_LEVEL), .val (.ref s_WORKFORCE), .val (.int (1 : Int32))] [(.int (1 : Int32)), (.int (1 : Int32))])) t
                              refine XS.icmpNo X896.here hx rfl (hb hby at_176) rfl (XT.ii_ne_f (by decide : ((1 : Int32) = (1 : Int32)))) ?_
                              show Steps p.tables e below (T896.setTop (mkF m 179 #[.val (.int p0), .val (.int p1), .val (.int (11 : Int32)), .val (.int (b0_4 p1)), .val (.ref b8), .val (.ref s_CONFIDENCE_LEVEL), .val (.ref s_WORKFORCE), .val (.int (1 : Int32))] [])) t
                              refine XS.iconst X896.here hx rfl (hb hby at_179) ?_
                              show Steps p.tables e below (T896.setTop (mkF m 180 #[.val (.int p0), .val (.int p1), .val (.int (11 : Int32)), .val (.int (b0_4 p1)), .val (.ref b8), .val (.ref s_CONFIDENCE_LEVEL), .val (.ref s_WORKFORCE), .val (.int (1 : Int32))] [(.int (1 : Int32))])) t
                              refine XS.goto X896.here hx rfl (pc0 := 180) (pc' := 184) rfl (hb hby at_180) (by decide) (by decide) ?_
                              show Steps p.tables e below (T896.setTop (mkF m 184 #[.val (.int p0), .val (.int p1), .val (.int (11 : Int32)), .val (.int (b0_4 p1)), .val (.ref b8), .val (.ref s_CONFIDENCE_LEVEL), .val (.ref s_WORKFORCE), .val (.int (1 : Int32))] [(.int (1 : Int32))])) t
                              exact k
                            obtain ⟨fs, hr, hrun, hended, hW, hsame⟩ := X896.leave (v := some (.int (1 : Int32))) (fun h => by rw [Bd.returns] at h; cases h)
                            refine ⟨_, _, go898 _ (Jvm.RoadKit.retOut X896 hx Bd.returns rfl (Or.inl ⟨rfl, Or.inr (Or.inl rfl), _, rfl⟩) (hb hby at_184) hr), hrun, hended, _, _, rfl, ?_, ⟨_, rfl⟩, hW, hsame.mono (by decide) (by decide)⟩
                            show Q0 _ _ p0 p1 s_SUB s_EMAIL s_GIVEN_NAME s_MIDDLE_NAME s_FAMILY_NAME s_NICKNAME s_BIRTHDATE s_MOBILE_NUMBER s_NHI s_CPN s_RELATIONSHIPS s_CONFIDENCE_LEVEL s_WORKFORCE s_CONSUMER h0 _ (T896.setFrames fs).heap _
                            have hE : (T896.setFrames fs).heap = h609 := e896
                            rw [hE]
                            exact ⟨congrArg (fun z => some (Value.int z)) ((by rw [f0, if_neg hs656, if_neg hs675, if_neg hs694, if_neg hs713, if_neg hs732, if_neg hs751, if_neg hs770, if_neg hs789, if_neg hs808, if_neg hs835, if_neg hs862, if_pos hs887, if_pos hs891] : (1 : Int32) = (f0 p0 p1 s_WORKFORCE s_CONSUMER)).trans (f0_one p0 p1 s_WORKFORCE s_CONSUMER ne_CW)), N896⟩
                          · have go899 : ∀ t, Steps p.tables e below (T609.setTop (mkF m 115 #[.val (.int p0), .val (.int p1), .val (.int (11 : Int32)), .val (.int (b0_4 p1)), .val (.ref b8), .val (.ref s_CONFIDENCE_LEVEL), .unset, .unset] [])) t → Steps p.tables e below (s₁.setTop (entryFrame m #[(.int p0), (.int p1)] maxLocals)) t := by
                              intro t k
                              refine go890 _ ?_
                              refine XS.ifNo X609.here hx rfl (hb hby at_112) rfl (XT.i0_eq_f hs891) ?_
                              show Steps p.tables e below (T609.setTop (mkF m 115 #[.val (.int p0), .val (.int p1), .val (.int (11 : Int32)), .val (.int (b0_4 p1)), .val (.ref b8), .val (.ref s_CONFIDENCE_LEVEL), .unset, .unset] [])) t
                              exact k
                            obtain ⟨T900, X900, e900, st900⟩ := getS2 X609 hx hZ hown (host := "") (Or.inl (hw _ (List.mem_of_getElem? (i := 39) rfl))) Via.refl e609 F640 (g := (mkF m 115 #[.val (.int p0), .val (.int p1), .val (.int (11 : Int32)), .val (.int (b0_4 p1)), .val (.ref b8), .val (.ref s_CONFIDENCE_LEVEL), .unset, .unset] [])) rfl (hb hby at_115)
                            have go901 : ∀ t, Steps p.tables e below (T900.setTop (mkF m 118 #[.val (.int p0), .val (.int p1), .val (.int (11 : Int32)), .val (.int (b0_4 p1)), .val (.ref b8), .val (.ref s_CONFIDENCE_LEVEL), .unset, .unset] [(.ref s_CONSUMER)])) t → Steps p.tables e below (s₁.setTop (entryFrame m #[(.int p0), (.int p1)] maxLocals)) t := fun t k => go899 _ (st900 _ k)
                            have go902 : ∀ t, Steps p.tables e below (T900.setTop (mkF m 171 #[.val (.int p0), .val (.int p1), .val (.int (11 : Int32)), .val (.int (b0_4 p1)), .val (.ref b8), .val (.ref s_CONFIDENCE_LEVEL), .val (.ref s_CONSUMER), .val (.int (1 : Int32))] [(.ref s_CONSUMER), (.ref s_CONFIDENCE_LEVEL)])) t → Steps p.tables e below (s₁.setTop (entryFrame m #[(.int p0), (.int p1)] maxLocals)) t := by
                              intro t k
                              refine go901 _ ?_
                              refine XS.goto X900.here hx rfl (pc0 := 118) (pc' := 124) rfl (hb hby at_118) (by decide) (by decide) ?_
                              show Steps p.tables e below (T900.setTop (mkF m 124 #[.val (.int p0), .val (.int p1), .val (.int (11 : Int32)), .val (.int (b0_4 p1)), .val (.ref b8), .val (.ref s_CONFIDENCE_LEVEL), .unset, .unset] [(.ref s_CONSUMER)])) t
                              refine XS.astore X900.here hx rfl (hb hby at_124) rfl rfl (l' := #[.val (.int p0), .val (.int p1), .val (.int (11 : Int32)), .val (.int (b0_4 p1)), .val (.ref b8), .val (.ref s_CONFIDENCE_LEVEL), .val (.ref s_CONSUMER), .unset]) rfl ?_
                              show Steps p.tables e below (T900.setTop (mkF m 126 #[.val (.int p0), .val (.int p1), .val (.int (11 : Int32)), .val (.int (b0_4 p1)), .val (.ref b8), .val (.ref s_CONFIDENCE_LEVEL), .val (.ref s_CONSUMER), .unset] [])) t
                              refine XS.iloadN X900.here hx rfl (hb hby at_126) rfl ?_
                              show Steps p.tables e below (T900.setTop (mkF m 127 #[.val (.int p0), .val (.int p1), .val (.int (11 : Int32)), .val (.int (b0_4 p1)), .val (.ref b8), .val (.ref s_CONFIDENCE_LEVEL), .val (.ref s_CONSUMER), .unset] [(.int (11 : Int32))])) t
                              refine XS.bipush X900.here hx rfl (hb hby at_127) ?_
                              show Steps p.tables e below (T900.setTop (mkF m 129 #[.val (.int p0), .val (.int p1), .val (.int (11 : Int32)), .val (.int (b0_4 p1)), .val (.ref b8), .val (.ref s_CONFIDENCE_LEVEL), .val (.ref s_CONSUMER), .unset] [(.int (8 : Int32)), (.int (11 : Int32))])) t
                              refine XS.icmpNo X900.here hx rfl (hb hby at_129) rfl (XT.ii_eq_f (by decide : ¬ ((11 : Int32) = (8 : Int32)))) ?_
                              show Steps p.tables e below (T900.setTop (mkF m 132 #[.val (.int p0), .val (.int p1), .val (.int (11 : Int32)), .val (.int (b0_4 p1)), .val (.ref b8), .val (.ref s_CONFIDENCE_LEVEL), .val (.ref s_CONSUMER), .unset] [])) t
                              refine XS.iloadN X900.here hx rfl (hb hby at_132) rfl ?_
                              show Steps p.tables e below (T900.setTop (mkF m 133 #[.val (.int p0), .val (.int p1), .val (.int (11 : Int32)), .val (.int (b0_4 p1)), .val (.ref b8), .val (.ref s_CONFIDENCE_LEVEL), .val (.ref s_CONSUMER), .unset] [(.int (11 : Int32))])) t
                              refine XS.bipush X900.here hx rfl (hb hby at_133) ?_
                              show Steps p.tables e below (T900.setTop (mkF m 135 #[.val (.int p0), .val (.int p1), .val (.int (11 : Int32)), .val (.int (b0_4 p1)), .val (.ref b8), .val (.ref s_CONFIDENCE_LEVEL), .val (.ref s_CONSUMER), .unset] [(.int (10 : Int32)), (.int (11 : Int32))])) t
                              refine XS.icmpYes X900.here hx rfl (pc0 := 135) (pc' := 144) rfl (hb hby at_135) rfl (XT.ii_ne_t (by decide : ¬ ((11 : Int32) = (10 : Int32)))) (by decide) (by decide) ?_
                              show Steps p.tables e below (T900.setTop (mkF m 144 #[.val (.int p0), .val (.int p1), .val (.int (11 : Int32)), .val (.int (b0_4 p1)), .val (.ref b8), .val (.ref s_CONFIDENCE_LEVEL), .val (.ref s_CONSUMER), .unset] [])) t
                              refine XS.iloadN X900.here hx rfl (hb hby at_144) rfl ?_
                              show Steps p.tables e below (T900.setTop (mkF m 145 #[.val (.int p0), .val (.int p1), .val (.int (11 : Int32)), .val (.int (b0_4 p1)), .val (.ref b8), .val (.ref s_CONFIDENCE_LEVEL), .val (.ref s_CONSUMER), .unset] [(.int (11 : Int32))])) t
                              refine XS.bipush X900.here hx rfl (hb hby at_145) ?_
                              show Steps p.tables e below (T900.setTop (mkF m 147 #[.val (.int p0), .val (.int p1), .val (.int (11 : Int32)), .val (.int (b0_4 p1)), .val (.ref b8), .val (.ref s_CONFIDENCE_LEVEL), .val (.ref s_CONSUMER), .unset] [(.int (9 : Int32)), (.int (11 : Int32))])) t
                              refine XS.icmpYes X900.here hx rfl (pc0 := 147) (pc' := 164) rfl (hb hby at_147) rfl (XT.ii_ne_t (by decide : ¬ ((11 : Int32) = (9 : Int32)))) (by decide) (by decide) ?_
                              show Steps p.tables e below (T900.setTop (mkF m 164 #[.val (.int p0), .val (.int p1), .val (.int (11 : Int32)), .val (.int (b0_4 p1)), .val (.ref b8), .val (.ref s_CONFIDENCE_LEVEL), .val (.ref s_CONSUMER), .unset] [])) t
                              refine XS.iconst X900.here hx rfl (hb hby at_164) ?_
                              show Steps p.tables e below (T900.setTop (mkF m 165 #[.val (.int p0), .val (.int p1), .val (.int (11 : Int32)), .val (.int (b0_4 p1)), .val (.ref b8), .val (.ref s_CONFIDENCE_LEVEL), .val (.ref s_CONSUMER), .unset] [(.int (1 : Int32))])) t
                              refine XS.istore X900.here hx rfl (hb hby at_165) rfl (l' := #[.val (.int p0), .val (.int p1), .val (.int (11 : Int32)), .val (.int (b0_4 p1)), .val (.ref b8), .val (.ref s_CONFIDENCE_LEVEL), .val (.ref s_CONSUMER), .val (.int (1 : Int32))]) rfl ?_
                              show Steps p.tables e below (T900.setTop (mkF m 167 #[.val (.int p0), .val (.int p1), .val (.int (11 : Int32)), .val (.int (b0_4 p1)), .val (.ref b8), .val (.ref s_CONFIDENCE_LEVEL), .val (.ref s_CONSUMER), .val (.int (1 : Int32))] [])) t
                              refine XS.aload X900.here hx rfl (hb hby at_167) rfl rfl ?_
                              show Steps p.tables e below (T900.setTop (mkF m 169 #[.val (.int p0), .val (.int p1), .val (.int (11 : Int32)), .val (.int (b0_4 p1)), .val (.ref b8), .val (.ref s_CONFIDENCE_LEVEL), .val (.ref s_CONSUMER), .val (.int (1 : Int32))] [(.ref s_CONFIDENCE_LEVEL)])) t
                              refine XS.aload X900.here hx rfl (hb hby at_169) rfl rfl ?_
                              show Steps p.tables e below (T900.setTop (mkF m 171 #[.val (.int p0), .val (.int p1), .val (.int (11 : Int32)), .val (.int (b0_4 p1)), .val (.ref b8), .val (.ref s_CONFIDENCE_LEVEL), .val (.ref s_CONSUMER), .val (.int (1 : Int32))] [(.ref s_CONSUMER), (.ref s_CONFIDENCE_LEVEL)])) t
                              exact k
                            obtain ⟨cq903, kq903, q903a, q903b, q903c⟩ := isOf hZ e900 F635
                            obtain ⟨_, _, ⟨T903, L903, k903, n903⟩, -, X903, ⟨Lc903, hQ903, l903, y903, z903⟩, st903⟩ := X900.virtualBack hx (y := (⟨"com/example/hauora_id/hauoraid/model/Claim", "heldIn", "(Lcom/example/hauora_id/hauoraid/model/Realm;)Z"⟩ : MethodName)) (z := (⟨"com/example/hauora_id/hauoraid/model/Claim", "heldIn", "(Lcom/example/hauora_id/hauoraid/model/Realm;)Z"⟩ : MethodName)) hown (mvT hZ (hw _ (List.mem_of_getElem? (i := 32) rfl))) (mvT hZ (hw _ (List.mem_of_getElem? (i := 33) rfl))) (notFace_of_selects (args := #[]) (mvT hZ (hw _ (List.mem_of_getElem? (i := 35) rfl)))) (mvT hZ (hw _ (List.mem_of_getElem? (i := 35) rfl))) (mvT hZ (hw _ (List.mem_of_getElem? (i := 34) rfl))) (by decide) (backOf (W := 0) (rm1n l Z aZ hw [] s_CONFIDENCE_LEVEL s_CONSUMER h609 n0 Zs609 F648) hZ (hw _ (List.mem_of_getElem? (i := 36) rfl)) (hw _ (List.mem_of_getElem? (i := 4) rfl)) (by decide) (by decide)) q903a q903c (g := (mkF m 171 #[.val (.int p0), .val (.int p1), .val (.int (11 : Int32)), .val (.int (b0_4 p1)), .val (.ref b8), .val (.ref s_CONFIDENCE_LEVEL), .val (.ref s_CONSUMER), .val (.int (1 : Int32))] [(.ref s_CONSUMER), (.ref s_CONFIDENCE_LEVEL)])) rfl (by rw [hml]; rfl) (Steps.refl _) (argsL := [(.ref s_CONSUMER)]) (rest := []) (lenOf pd_15 rfl) rfl (by show 2 * 0 + _ ≤ _; exact Nat.le_of_eq rfl) (hb hby at_171) (fun _ _ => ⟨rfl, e900, (by decide : 1 + 0 ≤ _), (by decide : 12 + 0 ≤ _)⟩)
                            dsimp only [Pt.U, Pt.locs, Pt.cells, Pt.slots] at X903 l903 y903 z903 st903 hQ903
                            subst l903 y903 z903
                            obtain ⟨rfl, N903q, e903⟩ := hQ903
                            have N903 := Fr.app N609 N903q
                            have go904 : ∀ t, Steps p.tables e below (T903.setTop (mkF m 174 #[.val (.int p0), .val (.int p1), .val (.int (11 : Int32)), .val (.int (b0_4 p1)), .val (.ref b8), .val (.ref s_CONFIDENCE_LEVEL), .val (.ref s_CONSUMER), .val (.int (1 : Int32))] [(.int (1 : Int32))])) t → Steps p.tables e below (s₁.setTop (entryFrame m #[(.int p0), (.int p1)] maxLocals)) t := fun t k => go902 _ (st903.trans k)
                            have go905 : ∀ t, Steps p.tables e below (T903.setTop (mkF m 184 #[.val (.int p0), .val (.int p1), .val (.int (11 : Int32)), .val (.int (b0_4 p1)), .val (.ref b8), .val (.ref s_CONFIDENCE_LEVEL), .val (.ref s_CONSUMER), .val (.int (1 : Int32))] [(.int (1 : Int32))])) t → Steps p.tables e below (s₁.setTop (entryFrame m #[(.int p0), (.int p1)] maxLocals)) t := by
                              intro t k
                              refine go904 _ ?_
                              refine XS.iload X903.here hx rfl (hb hby at_174) rfl ?_
                              show Steps p.tables e below (T903.setTop (mkF m 176 #[.val (.int p0), .val (.int p1), .val (.int (11 : Int32)), .val (.int (b0_4 p1)), .val (.ref b8), .val (.ref s_CONFIDENCE_LEVEL), .val (.ref s_CONSUMER), .val (.int (1 : Int32))] [(.int (1 : Int32)), (.int (1 : Int32))])) t
                              refine XS.icmpNo X903.here hx rfl (hb hby at_176) rfl (XT.ii_ne_f (by decide : ((1 : Int32) = (1 : Int32)))) ?_
                              show Steps p.tables e below (T903.setTop (mkF m 179 #[.val (.int p0), .val (.int p1), .val (.int (11 : Int32)), .val (.int (b0_4 p1)), .val (.ref b8), .val (.ref s_CONFIDENCE_LEVEL), .val (.ref s_CONSUMER), .val (.int (1 : Int32))] [])) t
                              refine XS.iconst X903.here hx rfl (hb hby at_179) ?_
                              show Steps p.tables e below (T903.setTop (mkF m 180 #[.val (.int p0), .val (.int p1), .val (.int (11 : Int32)), .val (.int (b0_4 p1)), .val (.ref b8), .val (.ref s_CONFIDENCE_LEVEL), .val (.ref s_CONSUMER), .val (.int (1 : Int32))] [(.int (1 : Int32))])) t
                              refine XS.goto X903.here hx rfl (pc0 := 180) (pc' := 184) rfl (hb hby at_180) (by decide) (by decide) ?_
                              show Steps p.tables e below (T903.setTop (mkF m 184 #[.val (.int p0), .val (.int p1), .val (.int (11 : Int32)), .val (.int (b0_4 p1)), .val (.ref b8), .val (.ref s_CONFIDENCE_LEVEL), .val (.ref s_CONSUMER), .val (.int (1 : Int32))] [(.int (1 : Int32))])) t
                              exact k
                            obtain ⟨fs, hr, hrun, hended, hW, hsame⟩ := X903.leave (v := some (.int (1 : Int32))) (fun h => by rw [Bd.returns] at h; cases h)
                            refine ⟨_, _, go905 _ (Jvm.RoadKit.retOut X903 hx Bd.returns rfl (Or.inl ⟨rfl, Or.inr (Or.inl rfl), _, rfl⟩) (hb hby at_184) hr), hrun, hended, _, _, rfl, ?_, ⟨_, rfl⟩, hW, hsame.mono (by decide) (by decide)⟩
                            show Q0 _ _ p0 p1 s_SUB s_EMAIL s_GIVEN_NAME s_MIDDLE_NAME s_FAMILY_NAME s_NICKNAME s_BIRTHDATE s_MOBILE_NUMBER s_NHI s_CPN s_RELATIONSHIPS s_CONFIDENCE_LEVEL s_WORKFORCE s_CONSUMER h0 _ (T903.setFrames fs).heap _
                            have hE : (T903.setFrames fs).heap = h609 := e903
                            rw [hE]
                            exact ⟨congrArg (fun z => some (Value.int z)) ((by rw [f0, if_neg hs656, if_neg hs675, if_neg hs694, if_neg hs713, if_neg hs732, if_neg hs751, if_neg hs770, if_neg hs789, if_neg hs808, if_neg hs835, if_neg hs862, if_pos hs887, if_neg hs891] : (1 : Int32) = (f0 p0 p1 s_WORKFORCE s_CONSUMER)).trans (f0_one p0 p1 s_WORKFORCE s_CONSUMER ne_CW)), N903⟩
                        · exact (own_dead12 p0 hs656 hs675 hs694 hs713 hs732 hs751 hs770 hs789 hs808 hs835 hs862 hs887).elim
set_option maxRecDepth 65536 in
set_option maxHeartbeats 40000000 in
theorem comes_1 {Post : Tables → Env → Array Value → State → Outcome → State → Prop} (hpost : ∀ tb e args s v u, (limb_1_1.after args s (.returned v) u = true ∧ limb_1_2.after args s (.returned v) u = true ∧ True) → FrameEnd s (.returned v) u (Jvm.fieldLocs frame_1_writes args s ++ Jvm.arrayLocs frame_1_arrays args s ++ Jvm.staticLocs frame_1_statics s) 16 128 → Post tb e args s (.returned v) u) :
    ArmFor flags0 classFile x code maxLocals ret World_1 tables_1 room_1 Calls_1 rest_1 Pre_1 Post := by
  intro l hfl _ _ p e ha hc hk s m args below hf hA hF happ hP
  obtain ⟨hcalls, hrest, hpre⟩ := hP
  obtain ⟨-, -, -, hnamed, -, -, -, hat⟩ := (Spec.applies_iff hf).mp happ
  obtain ⟨hg, hn⟩ := and_e (Cond.before_iff.mp (show (Jvm.Cond.and given_1 narrow_1).before args s = true from hpre))
  obtain ⟨hcount, hg1⟩ := and_e hg
  obtain ⟨ha0, hb0⟩ := and_e hg1
  obtain ⟨w0, w1, rfl⟩ : ∃ w0 w1 : Value, args = #[w0, w1] := by
    have hs : args.size = 2 := by simpa [Cond.value, given_1] using hcount
    obtain ⟨L⟩ := args
    match L, hs with
    | [w0, w1], _ => exact ⟨w0, w1, rfl⟩
  have hw := fun d (hd : d ∈ tables_1) => atoms_spec (ws := Jvm.Cond.code x code maxLocals ret :: tables_1) hat d (List.mem_cons_of_mem _ hd)
  have hfit : Fit s := fun {y c} hc i hi => by
    obtain ⟨ha, rfl⟩ := Array.getElem?_eq_some_iff.mp hc
    have q := List.all_eq_true.mp ((Array.all_eq_true_iff_forall_mem.mp hF) _ (Array.getElem_mem ha)) i (List.mem_range.mpr hi)
    simpa [Array.getElem?_eq_getElem hi] using q
  obtain ⟨i0, ei0⟩ := is_v ha0
  obtain rfl : w0 = (.int i0) := Option.some.inj ei0
  obtain ⟨i1, ei1⟩ := is_v hb0
  obtain rfl : w1 = (.int i1) := Option.some.inj ei1
  obtain ⟨na0, nb0⟩ := and_e hn
  obtain ⟨na1, nb1⟩ := and_e nb0
  obtain ⟨na2, nb2⟩ := and_e nb1
  obtain ⟨na3, nb3⟩ := and_e nb2
  obtain ⟨na4, nb4⟩ := and_e nb3
  obtain ⟨na5, nb5⟩ := and_e nb4
  obtain ⟨na6, nb6⟩ := and_e nb5
  obtain ⟨na7, nb7⟩ := and_e nb6
  obtain ⟨na8, nb8⟩ := and_e nb7
  obtain ⟨na9, nb9⟩ := and_e nb8
  obtain ⟨na10, nb10⟩ := and_e nb9
  obtain ⟨na11, nb11⟩ := and_e nb10
  obtain ⟨na12, nb12⟩ := and_e nb11
  obtain ⟨na13, nb13⟩ := and_e nb12
  obtain ⟨na14, nb14⟩ := and_e nb13
  obtain ⟨na15, nb15⟩ := and_e nb14
  obtain ⟨na16, nb16⟩ := and_e nb15
  obtain ⟨na17, nb17⟩ := and_e nb16
  obtain ⟨na18, nb18⟩ := and_e nb17
  obtain ⟨na19, nb19⟩ := and_e nb18
  obtain ⟨na20, nb20⟩ := and_e nb19
  obtain ⟨na21, nb21⟩ := and_e nb20
  obtain ⟨na22, nb22⟩ := and_e nb21
  obtain ⟨na23, nb23⟩ := and_e nb22
  obtain ⟨na24, nb24⟩ := and_e nb23
  obtain ⟨na25, nb25⟩ := and_e nb24
  obtain ⟨na26, nb26⟩ := and_e nb25
  obtain ⟨s_SUB, ev_s_SUB⟩ := exa_v na0
  have S_SUB : Sta s s.heap "com/example/hauora_id/hauoraid/model/Claim" "SUB" "Lcom/example/hauora_id/hauoraid/model/Claim;" (.ref s_SUB) := Sta.start ev_s_SUB (Or.inr ⟨(hw _ (List.mem_of_getElem? (i := 4) rfl)), (hw _ (List.mem_of_getElem? (i := 5) rfl))⟩)
  have E_SUB : Exa s s.heap s_SUB "com/example/hauora_id/hauoraid/model/Claim" := Exa.start ev_s_SUB na0
  obtain ⟨s_EMAIL, ev_s_EMAIL⟩ := exa_v na1
  have S_EMAIL : Sta s s.heap "com/example/hauora_id/hauoraid/model/Claim" "EMAIL" "Lcom/example/hauora_id/hauoraid/model/Claim;" (.ref s_EMAIL) := Sta.start ev_s_EMAIL (Or.inr ⟨(hw _ (List.mem_of_getElem? (i := 4) rfl)), (hw _ (List.mem_of_getElem? (i := 8) rfl))⟩)
  have E_EMAIL : Exa s s.heap s_EMAIL "com/example/hauora_id/hauoraid/model/Claim" := Exa.start ev_s_EMAIL na1
  obtain ⟨s_GIVEN_NAME, ev_s_GIVEN_NAME⟩ := exa_v na2
  have S_GIVEN_NAME : Sta s s.heap "com/example/hauora_id/hauoraid/model/Claim" "GIVEN_NAME" "Lcom/example/hauora_id/hauoraid/model/Claim;" (.ref s_GIVEN_NAME) := Sta.start ev_s_GIVEN_NAME (Or.inr ⟨(hw _ (List.mem_of_getElem? (i := 4) rfl)), (hw _ (List.mem_of_getElem? (i := 10) rfl))⟩)
  have E_GIVEN_NAME : Exa s s.heap s_GIVEN_NAME "com/example/hauora_id/hauoraid/model/Claim" := Exa.start ev_s_GIVEN_NAME na2
  obtain ⟨s_MIDDLE_NAME, ev_s_MIDDLE_NAME⟩ := exa_v na3
  have S_MIDDLE_NAME : Sta s s.heap "com/example/hauora_id/hauoraid/model/Claim" "MIDDLE_NAME" "Lcom/example/hauora_id/hauoraid/model/Claim;" (.ref s_MIDDLE_NAME) := Sta.start ev_s_MIDDLE_NAME (Or.inr ⟨(hw _ (List.mem_of_getElem? (i := 4) rfl)), (hw _ (List.mem_of_getElem? (i := 12) rfl))⟩)
  have E_MIDDLE_NAME : Exa s s.heap s_MIDDLE_NAME "com/example/hauora_id/hauoraid/model/Claim" := Exa.start ev_s_MIDDLE_NAME na3
  obtain ⟨s_FAMILY_NAME, ev_s_FAMILY_NAME⟩ := exa_v na4
  have S_FAMILY_NAME : Sta s s.heap "com/example/hauora_id/hauoraid/model/Claim" "FAMILY_NAME" "Lcom/example/hauora_id/hauoraid/model/Claim;" (.ref s_FAMILY_NAME) := Sta.start ev_s_FAMILY_NAME (Or.inr ⟨(hw _ (List.mem_of_getElem? (i := 4) rfl)), (hw _ (List.mem_of_getElem? (i := 14) rfl))⟩)
  have E_FAMILY_NAME : Exa s s.heap s_FAMILY_NAME "com/example/hauora_id/hauoraid/model/Claim" := Exa.start ev_s_FAMILY_NAME na4
  obtain ⟨s_NICKNAME, ev_s_NICKNAME⟩ := exa_v na5
  have S_NICKNAME : Sta s s.heap "com/example/hauora_id/hauoraid/model/Claim" "NICKNAME" "Lcom/example/hauora_id/hauoraid/model/Claim;" (.ref s_NICKNAME) := Sta.start ev_s_NICKNAME (Or.inr ⟨(hw _ (List.mem_of_getElem? (i := 4) rfl)), (hw _ (List.mem_of_getElem? (i := 16) rfl))⟩)
  have E_NICKNAME : Exa s s.heap s_NICKNAME "com/example/hauora_id/hauoraid/model/Claim" := Exa.start ev_s_NICKNAME na5
  obtain ⟨s_BIRTHDATE, ev_s_BIRTHDATE⟩ := exa_v na6
  have S_BIRTHDATE : Sta s s.heap "com/example/hauora_id/hauoraid/model/Claim" "BIRTHDATE" "Lcom/example/hauora_id/hauoraid/model/Claim;" (.ref s_BIRTHDATE) := Sta.start ev_s_BIRTHDATE (Or.inr ⟨(hw _ (List.mem_of_getElem? (i := 4) rfl)), (hw _ (List.mem_of_getElem? (i := 18) rfl))⟩)
  have E_BIRTHDATE : Exa s s.heap s_BIRTHDATE "com/example/hauora_id/hauoraid/model/Claim" := Exa.start ev_s_BIRTHDATE na6
  obtain ⟨s_MOBILE_NUMBER, ev_s_MOBILE_NUMBER⟩ := exa_v na7
  have S_MOBILE_NUMBER : Sta s s.heap "com/example/hauora_id/hauoraid/model/Claim" "MOBILE_NUMBER" "Lcom/example/hauora_id/hauoraid/model/Claim;" (.ref s_MOBILE_NUMBER) := Sta.start ev_s_MOBILE_NUMBER (Or.inr ⟨(hw _ (List.mem_of_getElem? (i := 4) rfl)), (hw _ (List.mem_of_getElem? (i := 20) rfl))⟩)
  have E_MOBILE_NUMBER : Exa s s.heap s_MOBILE_NUMBER "com/example/hauora_id/hauoraid/model/Claim" := Exa.start ev_s_MOBILE_NUMBER na7
  obtain ⟨s_NHI, ev_s_NHI⟩ := exa_v na8
  have S_NHI : Sta s s.heap "com/example/hauora_id/hauoraid/model/Claim" "NHI" "Lcom/example/hauora_id/hauoraid/model/Claim;" (.ref s_NHI) := Sta.start ev_s_NHI (Or.inr ⟨(hw _ (List.mem_of_getElem? (i := 4) rfl)), (hw _ (List.mem_of_getElem? (i := 22) rfl))⟩)
  have E_NHI : Exa s s.heap s_NHI "com/example/hauora_id/hauoraid/model/Claim" := Exa.start ev_s_NHI na8
  obtain ⟨s_CPN, ev_s_CPN⟩ := exa_v na9
  have S_CPN : Sta s s.heap "com/example/hauora_id/hauoraid/model/Claim" "CPN" "Lcom/example/hauora_id/hauoraid/model/Claim;" (.ref s_CPN) := Sta.start ev_s_CPN (Or.inr ⟨(hw _ (List.mem_of_getElem? (i := 4) rfl)), (hw _ (List.mem_of_getElem? (i := 24) rfl))⟩)
  have E_CPN : Exa s s.heap s_CPN "com/example/hauora_id/hauoraid/model/Claim" := Exa.start ev_s_CPN na9
  obtain ⟨s_RELATIONSHIPS, ev_s_RELATIONSHIPS⟩ := exa_v na10
  have S_RELATIONSHIPS : Sta s s.heap "com/example/hauora_id/hauoraid/model/Claim" "RELATIONSHIPS" "Lcom/example/hauora_id/hauoraid/model/Claim;" (.ref s_RELATIONSHIPS) := Sta.start ev_s_RELATIONSHIPS (Or.inr ⟨(hw _ (List.mem_of_getElem? (i := 4) rfl)), (hw _ (List.mem_of_getElem? (i := 26) rfl))⟩)
  have E_RELATIONSHIPS : Exa s s.heap s_RELATIONSHIPS "com/example/hauora_id/hauoraid/model/Claim" := Exa.start ev_s_RELATIONSHIPS na10
  obtain ⟨s_CONFIDENCE_LEVEL, ev_s_CONFIDENCE_LEVEL⟩ := exa_v na11
  have S_CONFIDENCE_LEVEL : Sta s s.heap "com/example/hauora_id/hauoraid/model/Claim" "CONFIDENCE_LEVEL" "Lcom/example/hauora_id/hauoraid/model/Claim;" (.ref s_CONFIDENCE_LEVEL) := Sta.start ev_s_CONFIDENCE_LEVEL (Or.inr ⟨(hw _ (List.mem_of_getElem? (i := 4) rfl)), (hw _ (List.mem_of_getElem? (i := 28) rfl))⟩)
  have E_CONFIDENCE_LEVEL : Exa s s.heap s_CONFIDENCE_LEVEL "com/example/hauora_id/hauoraid/model/Claim" := Exa.start ev_s_CONFIDENCE_LEVEL na11
  obtain ⟨s_WORKFORCE, ev_s_WORKFORCE⟩ := exa_v na12
  have S_WORKFORCE : Sta s s.heap "com/example/hauora_id/hauoraid/model/Realm" "WORKFORCE" "Lcom/example/hauora_id/hauoraid/model/Realm;" (.ref s_WORKFORCE) := Sta.start ev_s_WORKFORCE (Or.inr ⟨(hw _ (List.mem_of_getElem? (i := 30) rfl)), (hw _ (List.mem_of_getElem? (i := 31) rfl))⟩)
  have E_WORKFORCE : Exa s s.heap s_WORKFORCE "com/example/hauora_id/hauoraid/model/Realm" := Exa.start ev_s_WORKFORCE na12
  have F_SUB_only : Fld s s.heap s_SUB "com/example/hauora_id/hauoraid/model/Claim" "only" "Lcom/example/hauora_id/hauoraid/model/Realm;" .null := Fld.start ((fld_at ev_s_SUB).symm.trans (null_v na13))
  have F_GIVEN_NAME_only : Fld s s.heap s_GIVEN_NAME "com/example/hauora_id/hauoraid/model/Claim" "only" "Lcom/example/hauora_id/hauoraid/model/Realm;" .null := Fld.start ((fld_at ev_s_GIVEN_NAME).symm.trans (null_v na14))
  obtain ⟨s_CONSUMER, ev_s_CONSUMER⟩ := exa_v na15
  have S_CONSUMER : Sta s s.heap "com/example/hauora_id/hauoraid/model/Realm" "CONSUMER" "Lcom/example/hauora_id/hauoraid/model/Realm;" (.ref s_CONSUMER) := Sta.start ev_s_CONSUMER (Or.inr ⟨(hw _ (List.mem_of_getElem? (i := 30) rfl)), (hw _ (List.mem_of_getElem? (i := 40) rfl))⟩)
  have E_CONSUMER : Exa s s.heap s_CONSUMER "com/example/hauora_id/hauoraid/model/Realm" := Exa.start ev_s_CONSUMER na15
  have F_NHI_only : Fld s s.heap s_NHI "com/example/hauora_id/hauoraid/model/Claim" "only" "Lcom/example/hauora_id/hauoraid/model/Realm;" (.ref s_CONSUMER) := Fld.start ((fld_at ev_s_NHI).symm.trans (own_eqr ev_s_CONSUMER na16))
  have F_FAMILY_NAME_only : Fld s s.heap s_FAMILY_NAME "com/example/hauora_id/hauoraid/model/Claim" "only" "Lcom/example/hauora_id/hauoraid/model/Realm;" .null := Fld.start ((fld_at ev_s_FAMILY_NAME).symm.trans (null_v na17))
  have F_EMAIL_only : Fld s s.heap s_EMAIL "com/example/hauora_id/hauoraid/model/Claim" "only" "Lcom/example/hauora_id/hauoraid/model/Realm;" .null := Fld.start ((fld_at ev_s_EMAIL).symm.trans (null_v na18))
  have F_BIRTHDATE_only : Fld s s.heap s_BIRTHDATE "com/example/hauora_id/hauoraid/model/Claim" "only" "Lcom/example/hauora_id/hauoraid/model/Realm;" .null := Fld.start ((fld_at ev_s_BIRTHDATE).symm.trans (null_v na19))
  have F_CONSUMER_ordinal : Fld s s.heap s_CONSUMER "java/lang/Enum" "ordinal" "I" (.int (0 : Int32)) := Fld.start ((fld_at ev_s_CONSUMER).symm.trans (own_eqi na20))
  have F_WORKFORCE_ordinal : Fld s s.heap s_WORKFORCE "java/lang/Enum" "ordinal" "I" (.int (1 : Int32)) := Fld.start ((fld_at ev_s_WORKFORCE).symm.trans (own_eqi na21))
  have F_CONFIDENCE_LEVEL_only : Fld s s.heap s_CONFIDENCE_LEVEL "com/example/hauora_id/hauoraid/model/Claim" "only" "Lcom/example/hauora_id/hauoraid/model/Realm;" .null := Fld.start ((fld_at ev_s_CONFIDENCE_LEVEL).symm.trans (null_v na22))
  have F_MIDDLE_NAME_only : Fld s s.heap s_MIDDLE_NAME "com/example/hauora_id/hauoraid/model/Claim" "only" "Lcom/example/hauora_id/hauoraid/model/Realm;" .null := Fld.start ((fld_at ev_s_MIDDLE_NAME).symm.trans (null_v na23))
  have F_CPN_only : Fld s s.heap s_CPN "com/example/hauora_id/hauoraid/model/Claim" "only" "Lcom/example/hauora_id/hauoraid/model/Realm;" (.ref s_WORKFORCE) := Fld.start ((fld_at ev_s_CPN).symm.trans (own_eqr ev_s_WORKFORCE na24))
  have F_MOBILE_NUMBER_only : Fld s s.heap s_MOBILE_NUMBER "com/example/hauora_id/hauoraid/model/Claim" "only" "Lcom/example/hauora_id/hauoraid/model/Realm;" .null := Fld.start ((fld_at ev_s_MOBILE_NUMBER).symm.trans (null_v na25))
  have F_RELATIONSHIPS_only : Fld s s.heap s_RELATIONSHIPS "com/example/hauora_id/hauoraid/model/Claim" "only" "Lcom/example/hauora_id/hauoraid/model/Realm;" (.ref s_CONSUMER) := Fld.start ((fld_at ev_s_RELATIONSHIPS).symm.trans (own_eqr ev_s_CONSUMER na26))
  have F_NICKNAME_only : Fld s s.heap s_NICKNAME "com/example/hauora_id/hauoraid/model/Claim" "only" "Lcom/example/hauora_id/hauoraid/model/Realm;" .null := Fld.start ((fld_at ev_s_NICKNAME).symm.trans (null_v nb26))
  obtain ⟨n, o, h1, h2, h3, _, L, rfl, ⟨rfl, N⟩, hq⟩ := rm0 l s _ hw tables_1 i0 i1 s_SUB s_EMAIL s_GIVEN_NAME s_MIDDLE_NAME s_FAMILY_NAME s_NICKNAME s_BIRTHDATE s_MOBILE_NUMBER s_NHI s_CPN s_RELATIONSHIPS s_CONFIDENCE_LEVEL s_WORKFORCE s_CONSUMER s.heap s.heap.size (Nat.le_refl _) S_SUB E_SUB S_EMAIL E_EMAIL S_GIVEN_NAME E_GIVEN_NAME S_MIDDLE_NAME E_MIDDLE_NAME S_FAMILY_NAME E_FAMILY_NAME S_NICKNAME E_NICKNAME S_BIRTHDATE E_BIRTHDATE S_MOBILE_NUMBER E_MOBILE_NUMBER S_NHI E_NHI S_CPN E_CPN S_RELATIONSHIPS E_RELATIONSHIPS S_CONFIDENCE_LEVEL E_CONFIDENCE_LEVEL S_WORKFORCE E_WORKFORCE F_SUB_only F_GIVEN_NAME_only S_CONSUMER E_CONSUMER F_NHI_only F_FAMILY_NAME_only F_EMAIL_only F_BIRTHDATE_only F_CONSUMER_ordinal F_WORKFORCE_ordinal F_CONFIDENCE_LEVEL_only F_MIDDLE_NAME_only F_CPN_only F_MOBILE_NUMBER_only F_RELATIONSHIPS_only F_NICKNAME_only p e ha hc hk s m _ below hf ((Spec.applies_iff_loose hf).mp happ).1 ⟨rfl, State.Warmed39.refl s, rfl⟩ trivial
  refine ⟨n, _, h1, h2, h3, hpost _ _ _ _ _ _ ⟨Cond.after_iff.mpr rfl, Cond.after_iff.mpr (eq_i res_at (Term.int_eval (1)) rfl), trivial⟩ ⟨hq.1, hq.2.1, (hq.2.2.sift fun y hy => Or.inr (N y hy)).mono (by decide) (by decide)⟩⟩
theorem main_1_1 : Claimed_1_1 := comes_1 fun _ _ _ _ _ _ h hF => ⟨h.1, hF⟩
theorem main_1_2 : Claimed_1_2 := comes_1 fun _ _ _ _ _ _ h hF => ⟨h.2.1, hF⟩
end Jvm.Pilot.@@N@@
namespace Jvm.Pilot.@@N@@
open Jvm Jvm.ClassFile Sem Op Lib Jvm.Free Jvm.Stand Jvm.Pilot.@@N@@.Jvm.D
/-! MADE BY PROGRAM (witnessworld.py) out of the Statement's table words and the real class files: 14 classes; the members and pool entries that the words name. The judged class is class 1, her method 1. -/
namespace start1
open Jvm.ClassFile
def u (s : String) : CpInfo := .utf8 (stringToUtf16 s)
/-- a pool by its gaps: so many unusable entries, then the entry; so many at the end -/
def gap : Nat → List CpInfo → List CpInfo
  | 0, r => r
  | n + 1, r => .unusable :: gap n r
def poolList (es : List (Nat × CpInfo)) (last : Nat) : List CpInfo := es.foldr (fun e r => gap e.1 (e.2 :: r)) (gap last [])
def pool (es : List (Nat × CpInfo)) (last : Nat) : Array CpInfo := ⟨poolList es last⟩
def fileOf (pool : Array CpInfo) (this : Nat) (attrs : Array Attribute := #[]) (ms : Array MethodInfo := #[]) (fl : Nat := 33) (sup : Nat := 0) (ifs : Array Nat := #[]) (fds : Array FieldInfo := #[]) : ClassFile where
  minorVersion := 0
  majorVersion := 65
  constantPool := pool
  accessFlags := fl
  thisClass := this
  superClass := sup
  interfaces := ifs
  fields := fds
  methods := ms
  attributes := attrs
def plain (name : String) (sup : Option ClassId) : Class where
  name := name
  kind := .ordinary
  loader := none
  accessFlags := 33
  super := sup
  interfaces := #[]
  cf := none
  fields := #[]
  methods := #[]
  instanceTypes := #[]
  staticTypes := #[]
  resolved := #[]
  callSites := []
  init := .initialized
  statics := none
  mirror := none

def pool0 : Array CpInfo := pool [(5, u "<init>"), (0, u "()V"), (1, .class_ 10), (1, u "java/lang/Object")] 113

def k0m0 : Method := { name := "<init>", desc := "()V", sig := { parameters := [], returnType := none }, accessFlags := 1, code := none }
/-- java/lang/Object -/
def k0 : Class := { plain "java/lang/Object" none with
  accessFlags := 33
  interfaces := #[]
  cf := some (fileOf pool0 8 #[] #[{ accessFlags := 1, nameIndex := 5, descriptorIndex := 6, attributes := #[] }] 33 0 #[] #[])
  fields := #[]
  methods := #[k0m0]
  instanceTypes := #[]
  staticTypes := #[]
  resolved := Array.replicate 124 none
  statics := none }

def pool1 : Array CpInfo := pool [(2, .class_ 4), (1, u "java/lang/Object"), (0, u "<init>"), (0, u "()V"), (0, .integer 2147483647), (0, .class_ 9), (0, u "com/example/hauora_id/hauoraid/model/Claim"), (0, .fieldref 8 11), (0, .nameAndType 12 13), (0, u "SUB"), (0, u "Lcom/example/hauora_id/hauoraid/model/Claim;"), (0, .fieldref 8 15), (0, .nameAndType 16 13), (0, u "EMAIL"), (0, .fieldref 8 18), (0, .nameAndType 19 13), (0, u "GIVEN_NAME"), (0, .fieldref 8 21), (0, .nameAndType 22 13), (0, u "MIDDLE_NAME"), (0, .fieldref 8 24), (0, .nameAndType 25 13), (0, u "FAMILY_NAME"), (0, .fieldref 8 27), (0, .nameAndType 28 13), (0, u "NICKNAME"), (0, .fieldref 8 30), (0, .nameAndType 31 13), (0, u "BIRTHDATE"), (0, .fieldref 8 33), (0, .nameAndType 34 13), (0, u "MOBILE_NUMBER"), (0, .fieldref 8 36), (0, .nameAndType 37 13), (0, u "NHI"), (0, .fieldref 8 39), (0, .nameAndType 40 13), (0, u "CPN"), (0, .fieldref 8 42), (0, .nameAndType 43 13), (0, u "RELATIONSHIPS"), (0, .fieldref 8 45), (0, .nameAndType 46 13), (0, u "CONFIDENCE_LEVEL"), (0, .fieldref 48 49), (0, .class_ 50), (0, .nameAndType 51 52), (0, u "com/example/hauora_id/hauoraid/model/Realm"), (0, u "CONSUMER"), (0, u "Lcom/example/hauora_id/hauoraid/model/Realm;"), (0, .fieldref 48 54), (0, .nameAndType 55 52), (0, u "WORKFORCE"), (0, .methodref 8 57), (0, .nameAndType 58 59), (0, u "heldIn"), (0, u "(Lcom/example/hauora_id/hauoraid/model/Realm;)Z"), (0, .class_ 61), (0, u "com/example/hauora_id/hauoraid/model/ClaimHeldInPinLaw"), (2, u "law"), (0, u "(II)Z")] 5

def k1m0 : Method := { name := "<init>", desc := "()V", sig := { parameters := [], returnType := none }, accessFlags := 1, code := none }
def k1c1 : Code := { maxStack := 4, maxLocals := 8, code := code, exceptionTable := #[], attributes := #[] }
def k1m1 : Method := { name := "law", desc := "(II)Z", sig := { parameters := [.int, .int], returnType := some .boolean }, accessFlags := 9, code := some k1c1 }
/-- com/example/hauora_id/hauoraid/model/ClaimHeldInPinLaw -/
def k1 : Class := { plain "com/example/hauora_id/hauoraid/model/ClaimHeldInPinLaw" (some 0) with
  accessFlags := 49
  interfaces := #[]
  cf := some (fileOf pool1 60 #[] #[{ accessFlags := 1, nameIndex := 5, descriptorIndex := 6, attributes := #[] }, { accessFlags := 9, nameIndex := 64, descriptorIndex := 65, attributes := #[] }] 49 2 #[] #[])
  fields := #[]
  methods := #[k1m0, k1m1]
  instanceTypes := #[]
  staticTypes := #[]
  resolved := Array.replicate 71 none
  statics := none }

def pool2 : Array CpInfo := pool [(1, .class_ 2), (0, u "java/lang/constant/Constable"), (0, .class_ 4), (0, u "java/lang/Object")] 6

/-- java/lang/constant/Constable -/
def k2 : Class := { plain "java/lang/constant/Constable" (some 0) with
  accessFlags := 1537
  interfaces := #[]
  cf := some (fileOf pool2 1 #[] #[] 1537 3 #[] #[])
  fields := #[]
  methods := #[]
  instanceTypes := #[]
  staticTypes := #[]
  resolved := Array.replicate 11 none
  statics := none }

def pool3 : Array CpInfo := pool [(1, .class_ 2), (0, u "java/lang/Comparable"), (0, .class_ 4), (0, u "java/lang/Object")] 7

/-- java/lang/Comparable -/
def k3 : Class := { plain "java/lang/Comparable" (some 0) with
  accessFlags := 1537
  interfaces := #[]
  cf := some (fileOf pool3 1 #[] #[] 1537 3 #[] #[])
  fields := #[]
  methods := #[]
  instanceTypes := #[]
  staticTypes := #[]
  resolved := Array.replicate 12 none
  statics := none }

def pool4 : Array CpInfo := pool [(1, .class_ 2), (0, u "java/io/Serializable"), (0, .class_ 4), (0, u "java/lang/Object")] 2

/-- java/io/Serializable -/
def k4 : Class := { plain "java/io/Serializable" (some 0) with
  accessFlags := 1537
  interfaces := #[]
  cf := some (fileOf pool4 1 #[] #[] 1537 3 #[] #[])
  fields := #[]
  methods := #[]
  instanceTypes := #[]
  staticTypes := #[]
  resolved := Array.replicate 7 none
  statics := none }

def pool5 : Array CpInfo := pool [(2, .class_ 4), (1, u "java/lang/Enum"), (0, u "name"), (0, u "Ljava/lang/String;"), (2, u "ordinal"), (0, u "I"), (1, .class_ 14), (1, u "java/lang/Object"), (4, u "hash"), (86, .class_ 108), (1, u "java/lang/Enum$EnumDesc"), (2, .class_ 112), (0, u "java/lang/constant/Constable"), (0, .class_ 114), (0, u "java/lang/Comparable"), (0, .class_ 116), (0, u "java/io/Serializable")] 87

/-- java/lang/Enum -/
def k5 : Class := { plain "java/lang/Enum" (some 0) with
  accessFlags := 1057
  interfaces := #[2, 3, 4]
  cf := some (fileOf pool5 2 #[.nestMembers #[106]] #[] 1057 12 #[111, 113, 115] #[{ accessFlags := 18, nameIndex := 5, descriptorIndex := 6, attributes := #[] }, { accessFlags := 18, nameIndex := 9, descriptorIndex := 10, attributes := #[] }, { accessFlags := 2, nameIndex := 19, descriptorIndex := 10, attributes := #[] }])
  fields := #[{ name := "name", type := (.object "java/lang/String"), accessFlags := 18, slot := 0, constantValue := 0 }, { name := "ordinal", type := .int, accessFlags := 18, slot := 1, constantValue := 0 }, { name := "hash", type := .int, accessFlags := 2, slot := 2, constantValue := 0 }]
  methods := #[]
  instanceTypes := #[(.object "java/lang/String"), .int, .int]
  staticTypes := #[]
  resolved := Array.replicate 204 none
  statics := none }

def pool6 : Array CpInfo := pool [(1, .class_ 2), (0, u "com/example/hauora_id/hauoraid/model/Claim"), (2, u "SUB"), (0, u "Lcom/example/hauora_id/hauoraid/model/Claim;"), (2, u "EMAIL"), (2, u "GIVEN_NAME"), (2, u "MIDDLE_NAME"), (2, u "FAMILY_NAME"), (2, u "NICKNAME"), (2, u "BIRTHDATE"), (2, u "MOBILE_NUMBER"), (2, u "NHI"), (2, u "CPN"), (2, u "RELATIONSHIPS"), (2, u "CONFIDENCE_LEVEL"), (2, u "$VALUES"), (0, u "[Lcom/example/hauora_id/hauoraid/model/Claim;"), (6, .class_ 52), (1, u "java/lang/Enum"), (8, u "claimName"), (0, u "Ljava/lang/String;"), (2, u "label"), (0, .fieldref 1 67), (0, .nameAndType 68 69), (0, u "only"), (0, u "Lcom/example/hauora_id/hauoraid/model/Realm;"), (2, u "lowest"), (0, u "Lcom/example/hauora_id/hauoraid/model/ConfidenceLevel;"), (2, u "release"), (0, u "Lcom/example/hauora_id/hauoraid/model/Claim$Release;"), (25, .class_ 105), (1, u "com/example/hauora_id/hauoraid/model/Claim$Release"), (107, u "heldIn"), (0, u "(Lcom/example/hauora_id/hauoraid/model/Realm;)Z")] 34

def k6c0 : Code := { maxStack := 2, maxLocals := 2, code := prog_3_method_7_code, exceptionTable := #[], attributes := #[] }
def k6m0 : Method := { name := "heldIn", desc := "(Lcom/example/hauora_id/hauoraid/model/Realm;)Z", sig := { parameters := [(.object "com/example/hauora_id/hauoraid/model/Realm")], returnType := some .boolean }, accessFlags := 1, code := some k6c0 }
/-- com/example/hauora_id/hauoraid/model/Claim -/
def k6 : Class := { plain "com/example/hauora_id/hauoraid/model/Claim" (some 5) with
  accessFlags := 16433
  interfaces := #[]
  cf := some (fileOf pool6 1 #[.nestMembers #[103]] #[{ accessFlags := 1, nameIndex := 213, descriptorIndex := 214, attributes := #[] }] 16433 50 #[] #[{ accessFlags := 16409, nameIndex := 5, descriptorIndex := 6, attributes := #[] }, { accessFlags := 16409, nameIndex := 9, descriptorIndex := 6, attributes := #[] }, { accessFlags := 16409, nameIndex := 12, descriptorIndex := 6, attributes := #[] }, { accessFlags := 16409, nameIndex := 15, descriptorIndex := 6, attributes := #[] }, { accessFlags := 16409, nameIndex := 18, descriptorIndex := 6, attributes := #[] }, { accessFlags := 16409, nameIndex := 21, descriptorIndex := 6, attributes := #[] }, { accessFlags := 16409, nameIndex := 24, descriptorIndex := 6, attributes := #[] }, { accessFlags := 16409, nameIndex := 27, descriptorIndex := 6, attributes := #[] }, { accessFlags := 16409, nameIndex := 30, descriptorIndex := 6, attributes := #[] }, { accessFlags := 16409, nameIndex := 33, descriptorIndex := 6, attributes := #[] }, { accessFlags := 16409, nameIndex := 36, descriptorIndex := 6, attributes := #[] }, { accessFlags := 16409, nameIndex := 39, descriptorIndex := 6, attributes := #[] }, { accessFlags := 18, nameIndex := 61, descriptorIndex := 62, attributes := #[] }, { accessFlags := 18, nameIndex := 65, descriptorIndex := 62, attributes := #[] }, { accessFlags := 18, nameIndex := 68, descriptorIndex := 69, attributes := #[] }, { accessFlags := 18, nameIndex := 72, descriptorIndex := 73, attributes := #[] }, { accessFlags := 18, nameIndex := 76, descriptorIndex := 77, attributes := #[] }, { accessFlags := 4122, nameIndex := 42, descriptorIndex := 43, attributes := #[] }])
  fields := #[{ name := "SUB", type := (.object "com/example/hauora_id/hauoraid/model/Claim"), accessFlags := 16409, slot := 0, constantValue := 0 }, { name := "EMAIL", type := (.object "com/example/hauora_id/hauoraid/model/Claim"), accessFlags := 16409, slot := 1, constantValue := 0 }, { name := "GIVEN_NAME", type := (.object "com/example/hauora_id/hauoraid/model/Claim"), accessFlags := 16409, slot := 2, constantValue := 0 }, { name := "MIDDLE_NAME", type := (.object "com/example/hauora_id/hauoraid/model/Claim"), accessFlags := 16409, slot := 3, constantValue := 0 }, { name := "FAMILY_NAME", type := (.object "com/example/hauora_id/hauoraid/model/Claim"), accessFlags := 16409, slot := 4, constantValue := 0 }, { name := "NICKNAME", type := (.object "com/example/hauora_id/hauoraid/model/Claim"), accessFlags := 16409, slot := 5, constantValue := 0 }, { name := "BIRTHDATE", type := (.object "com/example/hauora_id/hauoraid/model/Claim"), accessFlags := 16409, slot := 6, constantValue := 0 }, { name := "MOBILE_NUMBER", type := (.object "com/example/hauora_id/hauoraid/model/Claim"), accessFlags := 16409, slot := 7, constantValue := 0 }, { name := "NHI", type := (.object "com/example/hauora_id/hauoraid/model/Claim"), accessFlags := 16409, slot := 8, constantValue := 0 }, { name := "CPN", type := (.object "com/example/hauora_id/hauoraid/model/Claim"), accessFlags := 16409, slot := 9, constantValue := 0 }, { name := "RELATIONSHIPS", type := (.object "com/example/hauora_id/hauoraid/model/Claim"), accessFlags := 16409, slot := 10, constantValue := 0 }, { name := "CONFIDENCE_LEVEL", type := (.object "com/example/hauora_id/hauoraid/model/Claim"), accessFlags := 16409, slot := 11, constantValue := 0 }, { name := "claimName", type := (.object "java/lang/String"), accessFlags := 18, slot := 3, constantValue := 0 }, { name := "label", type := (.object "java/lang/String"), accessFlags := 18, slot := 4, constantValue := 0 }, { name := "only", type := (.object "com/example/hauora_id/hauoraid/model/Realm"), accessFlags := 18, slot := 5, constantValue := 0 }, { name := "lowest", type := (.object "com/example/hauora_id/hauoraid/model/ConfidenceLevel"), accessFlags := 18, slot := 6, constantValue := 0 }, { name := "release", type := (.object "com/example/hauora_id/hauoraid/model/Claim$Release"), accessFlags := 18, slot := 7, constantValue := 0 }, { name := "$VALUES", type := (.array (.object "com/example/hauora_id/hauoraid/model/Claim")), accessFlags := 4122, slot := 12, constantValue := 0 }]
  methods := #[k6m0]
  instanceTypes := #[(.object "java/lang/String"), .int, .int, (.object "java/lang/String"), (.object "java/lang/String"), (.object "com/example/hauora_id/hauoraid/model/Realm"), (.object "com/example/hauora_id/hauoraid/model/ConfidenceLevel"), (.object "com/example/hauora_id/hauoraid/model/Claim$Release")]
  staticTypes := #[(.object "com/example/hauora_id/hauoraid/model/Claim"), (.object "com/example/hauora_id/hauoraid/model/Claim"), (.object "com/example/hauora_id/hauoraid/model/Claim"), (.object "com/example/hauora_id/hauoraid/model/Claim"), (.object "com/example/hauora_id/hauoraid/model/Claim"), (.object "com/example/hauora_id/hauoraid/model/Claim"), (.object "com/example/hauora_id/hauoraid/model/Claim"), (.object "com/example/hauora_id/hauoraid/model/Claim"), (.object "com/example/hauora_id/hauoraid/model/Claim"), (.object "com/example/hauora_id/hauoraid/model/Claim"), (.object "com/example/hauora_id/hauoraid/model/Claim"), (.object "com/example/hauora_id/hauoraid/model/Claim"), (.array (.object "com/example/hauora_id/hauoraid/model/Claim"))]
  resolved := Array.replicate 249 none
  statics := some 0 }

def pool7 : Array CpInfo := pool [(1, .class_ 2), (0, u "com/example/hauora_id/hauoraid/model/Realm"), (2, u "CONSUMER"), (0, u "Lcom/example/hauora_id/hauoraid/model/Realm;"), (2, u "WORKFORCE"), (2, u "$VALUES"), (0, u "[Lcom/example/hauora_id/hauoraid/model/Realm;"), (6, .class_ 22), (1, u "java/lang/Enum"), (8, u "id"), (0, u "Ljava/lang/String;"), (2, u "levels"), (0, u "Ljava/util/Set;")] 127

/-- com/example/hauora_id/hauoraid/model/Realm -/
def k7 : Class := { plain "com/example/hauora_id/hauoraid/model/Realm" (some 5) with
  accessFlags := 16433
  interfaces := #[]
  cf := some (fileOf pool7 1 #[] #[] 16433 20 #[] #[{ accessFlags := 16409, nameIndex := 5, descriptorIndex := 6, attributes := #[] }, { accessFlags := 16409, nameIndex := 9, descriptorIndex := 6, attributes := #[] }, { accessFlags := 18, nameIndex := 31, descriptorIndex := 32, attributes := #[] }, { accessFlags := 18, nameIndex := 35, descriptorIndex := 36, attributes := #[] }, { accessFlags := 4122, nameIndex := 12, descriptorIndex := 13, attributes := #[] }])
  fields := #[{ name := "CONSUMER", type := (.object "com/example/hauora_id/hauoraid/model/Realm"), accessFlags := 16409, slot := 0, constantValue := 0 }, { name := "WORKFORCE", type := (.object "com/example/hauora_id/hauoraid/model/Realm"), accessFlags := 16409, slot := 1, constantValue := 0 }, { name := "id", type := (.object "java/lang/String"), accessFlags := 18, slot := 3, constantValue := 0 }, { name := "levels", type := (.object "java/util/Set"), accessFlags := 18, slot := 4, constantValue := 0 }, { name := "$VALUES", type := (.array (.object "com/example/hauora_id/hauoraid/model/Realm")), accessFlags := 4122, slot := 2, constantValue := 0 }]
  methods := #[]
  instanceTypes := #[(.object "java/lang/String"), .int, .int, (.object "java/lang/String"), (.object "java/util/Set")]
  staticTypes := #[(.object "com/example/hauora_id/hauoraid/model/Realm"), (.object "com/example/hauora_id/hauoraid/model/Realm"), (.array (.object "com/example/hauora_id/hauoraid/model/Realm"))]
  resolved := Array.replicate 164 none
  statics := some 1 }

def pool8 : Array CpInfo := pool [(1, u "java/lang/Cloneable"), (0, .class_ 1), (0, u "java/lang/Object"), (0, .class_ 3)] 3

/-- java/lang/Cloneable -/
def k8 : Class := { plain "java/lang/Cloneable" (some 0) with
  accessFlags := 1537
  interfaces := #[]
  cf := some (fileOf pool8 2 #[] #[] 1537 4 #[] #[])
  fields := #[]
  methods := #[]
  instanceTypes := #[]
  staticTypes := #[]
  resolved := Array.replicate 8 none
  statics := none }

/-- the primitive byte -/
def k9 : Class := { plain "byte" none with kind := .primitive 'B', accessFlags := 0x411 }
/-- [B -/
def k10 : Class := { plain "[B" (some 0) with kind := .array 9 .byte, interfaces := #[8, 4], accessFlags := 1041 }

/-- the primitive int -/
def k11 : Class := { plain "int" none with kind := .primitive 'I', accessFlags := 0x411 }
/-- [I -/
def k12 : Class := { plain "[I" (some 0) with kind := .array 11 .int, interfaces := #[8, 4], accessFlags := 1041 }

/-- [Lcom/example/hauora_id/hauoraid/model/Claim; -/
def k13 : Class := { plain "[Lcom/example/hauora_id/hauoraid/model/Claim;" (some 0) with kind := .array 6 (.object "com/example/hauora_id/hauoraid/model/Claim"), interfaces := #[8, 4], accessFlags := 1041 }

def heap : Heap := #[{ cls := 6, slots := #[.ref 2, .ref 3, .ref 4, .ref 5, .ref 6, .ref 7, .ref 8, .ref 9, .ref 10, .ref 11, .ref 12, .ref 13, .null], vm := .statics 6 },
  { cls := 7, slots := #[.ref 15, .ref 14, .null], vm := .statics 7 },
  { cls := 6, slots := #[.null, .int 0, .int 0, .null, .null, .null, .null, .null], vm := .none },
  { cls := 6, slots := #[.null, .int 0, .int 0, .null, .null, .null, .null, .null], vm := .none },
  { cls := 6, slots := #[.null, .int 0, .int 0, .null, .null, .null, .null, .null], vm := .none },
  { cls := 6, slots := #[.null, .int 0, .int 0, .null, .null, .null, .null, .null], vm := .none },
  { cls := 6, slots := #[.null, .int 0, .int 0, .null, .null, .null, .null, .null], vm := .none },
  { cls := 6, slots := #[.null, .int 0, .int 0, .null, .null, .null, .null, .null], vm := .none },
  { cls := 6, slots := #[.null, .int 0, .int 0, .null, .null, .null, .null, .null], vm := .none },
  { cls := 6, slots := #[.null, .int 0, .int 0, .null, .null, .null, .null, .null], vm := .none },
  { cls := 6, slots := #[.null, .int 0, .int 0, .null, .null, .ref 15, .null, .null], vm := .none },
  { cls := 6, slots := #[.null, .int 0, .int 0, .null, .null, .ref 14, .null, .null], vm := .none },
  { cls := 6, slots := #[.null, .int 0, .int 0, .null, .null, .ref 15, .null, .null], vm := .none },
  { cls := 6, slots := #[.null, .int 0, .int 0, .null, .null, .null, .null, .null], vm := .none },
  { cls := 7, slots := #[.null, .int (1), .int 0, .null, .null], vm := .none },
  { cls := 7, slots := #[.null, .int (0), .int 0, .null, .null], vm := .none }]
def classes : Array Class := #[k0, k1, k2, k3, k4, k5, k6, k7, k8, k9, k10, k11, k12, k13]
def interned : List (Array UInt16 × Addr) := []
def slotsUsed : Nat := 122
def theMethod : MethodId := ⟨1, 1⟩
def args0 : Array Value := #[.int 5, .int 3]
def aboutOver (below : List Frame) : State where
  vm := { classes := classes, interned := interned.toArray }
  heap := heap
  slotsUsed := slotsUsed
  threads := #[{ frames := .invoking theMethod args0 :: below }]
def below0 : List Frame := [.native { method := ⟨0, 0⟩, args := #[] }]
def about1 : State := aboutOver below0
def p0 : Program := .bare "" "" ""
def e0 : Env := launch0.env 0 0 0
theorem w_frames : about1.frames = Frame.invoking theMethod args0 :: below0 := rfl
set_option maxRecDepth 65536 in
theorem w_args : argsFit about1.vm theMethod args0 = true := by decide +kernel
set_option maxRecDepth 65536 in
theorem w_heap : heapFits about1 = true := by decide +kernel
set_option maxRecDepth 65536 in
theorem w_runnable : about1.curStatus? = some .runnable := by decide +kernel
set_option maxRecDepth 65536 in
theorem w_alone : about1.alone = true := by decide +kernel
set_option maxRecDepth 65536 in
theorem w_named : about1.methodNamed? x = some theMethod := by decide +kernel
set_option maxRecDepth 65536 in
theorem w_hears : about1.hears theMethod below0 = true := by decide +kernel
set_option maxRecDepth 65536 in
theorem w_ripe : about1.ripe theMethod args0 below0 = true := by decide +kernel
theorem w_running : about1.status = .running := rfl
set_option maxRecDepth 65536 in
theorem w_room : about1.hasRoom e0.platform room_1 = true :=
  launch0.hasRoom_least _ room_1 (by decide +kernel) (by decide +kernel) (by decide +kernel) (by decide +kernel) (by decide +kernel) (by decide +kernel)
theorem allAtoms_all (ts : List Jvm.Cond) (a : Array Jvm.Value) (st : Jvm.State) : (allAtoms ts).before a st = ts.all (fun c => c.before a st) := by
  induction ts with
  | nil => rfl
  | cons c t ih =>
    show (Jvm.Cond.and c (allAtoms t)).before a st = _
    rw [Jvm.Cond.before_and, ih, List.all_cons]
def words1 : List Jvm.Cond := Jvm.Cond.code x code maxLocals ret :: tables_1
/-- a 'code' word, met by the world's own term for the bytes: nothing is compared byte by byte -/
theorem code_word {y : MethodName} {bytes : ByteArray} {mx : Nat} {rt : Option FieldType} {a : Array Value} {s : State} {m : MethodId} {meth : Method} {c : Code} (h1 : s.methodNamed? y = some m) (h2 : s.vm.method? m = some meth) (h3 : meth.code = some c) (h4 : c.code = bytes)
    (h5 : (c.maxLocals == mx && c.exceptionTable.isEmpty && decide (c.maxStack ≤ mostOperands) && decide (meth.sig.returnType = rt) && !meth.locks && decide (parseMethodDescriptor y.desc = some meth.sig)) = true) : (Jvm.Cond.code y bytes mx rt).before a s = true := by
  simp only [Bool.and_eq_true, beq_iff_eq, Bool.not_eq_true', decide_eq_true_eq] at h5
  obtain ⟨⟨⟨⟨⟨g1, g2⟩, g3⟩, g4⟩, g5⟩, g6⟩ := h5
  simp [Cond.before, Cond.holds, Cond.value, h1, h2, h3, h4, g1, g2, g3, g4, g5, g6]
def isCode : Jvm.Cond → Bool
  | .code _ _ _ _ => true
  | _ => false
theorem all_split {L : List Jvm.Cond} {P : Jvm.Cond → Bool} (h1 : L.all (fun c => isCode c || P c) = true) (h2 : ∀ c ∈ L.filter isCode, P c = true) : L.all P = true := by
  refine List.all_eq_true.mpr fun c hc => ?_
  have h := List.all_eq_true.mp h1 c hc
  rcases Bool.eq_false_or_eq_true (isCode c) with hi | hi
  · exact h2 c (List.mem_filter.mpr ⟨hc, hi⟩)
  · simpa [hi] using h
set_option maxRecDepth 65536 in
theorem w_c0 : (Jvm.Cond.code x code maxLocals ret).before args0 about1 = true := code_word (m := ⟨1, 1⟩) (meth := k1m1) (c := k1c1) (by decide +kernel) rfl rfl rfl (by decide +kernel)
set_option maxRecDepth 65536 in
theorem w_c1 : (Jvm.Cond.code ({ cls := "com/example/hauora_id/hauoraid/model/Claim", name := "heldIn", desc := "(Lcom/example/hauora_id/hauoraid/model/Realm;)Z" } : Jvm.MethodName) prog_3_method_7_code (2 : Nat) (Option.some Jvm.ClassFile.FieldType.boolean)).before args0 about1 = true := code_word (m := ⟨6, 0⟩) (meth := k6m0) (c := k6c0) (by decide +kernel) rfl rfl rfl (by decide +kernel)
def codes1 : List Jvm.Cond := [Jvm.Cond.code x code maxLocals ret, Jvm.Cond.code ({ cls := "com/example/hauora_id/hauoraid/model/Claim", name := "heldIn", desc := "(Lcom/example/hauora_id/hauoraid/model/Realm;)Z" } : Jvm.MethodName) prog_3_method_7_code (2 : Nat) (Option.some Jvm.ClassFile.FieldType.boolean)]
set_option maxRecDepth 65536 in
theorem codes_eq : words1.filter isCode = codes1 := rfl
theorem w_codes : ∀ c ∈ words1.filter isCode, c.before args0 about1 = true := by
  rw [codes_eq]
  intro c hc
  simp only [codes1, List.mem_cons, List.not_mem_nil, or_false] at hc
  rcases hc with rfl | rfl
  · exact w_c0
  · exact w_c1
set_option maxRecDepth 65536 in
theorem w_t1 : (words1.take 24).all (fun c => isCode c || c.before args0 about1) = true := by decide +kernel
set_option maxRecDepth 65536 in
theorem w_t2 : (words1.drop 24).all (fun c => isCode c || c.before args0 about1) = true := by decide +kernel
theorem w_tables : (allAtoms (Jvm.Cond.code x code maxLocals ret :: tables_1)).before args0 about1 = true := by
  rw [allAtoms_all]
  show words1.all (fun c => c.before args0 about1) = true
  refine all_split ?_ w_codes
  rw [← List.take_append_drop 24 words1, List.all_append, w_t1, w_t2]
  rfl
set_option maxRecDepth 65536 in
theorem w_case : (Jvm.Cond.and given_1 narrow_1).before args0 about1 = true := by decide +kernel
theorem w_applies : (headSpec (Jvm.Cond.code x code maxLocals ret :: tables_1) room_1).applies x e0.platform about1 = true :=
  (Spec.applies_iff w_frames).mpr ⟨w_running, w_runnable, w_alone, w_named, w_hears, w_ripe, w_room, w_tables⟩
theorem atStart : AtStart classFile x code maxLocals ret World_1 tables_1 room_1 Calls_1 rest_1 Pre_1 launch0 p0 e0 about1 theMethod args0 below0 :=
  ⟨lists_1, trivial, launch0.admits_env _ _ _, launch0.least_env, fairChoices_fair.cas, fairChoices_fair.clock, w_frames, w_args, w_heap, w_applies, trivial, trivial, w_case⟩
end start1
theorem witness_1 : WitnessClaimed_1 := ⟨start1.p0, start1.e0, start1.about1, start1.theMethod, start1.args0, start1.below0, start1.atStart⟩
end Jvm.Pilot.@@N@@
