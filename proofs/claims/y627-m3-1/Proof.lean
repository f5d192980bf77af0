import JvmDerived
import JvmDerived.Pilot.@@N@@Statement
import JvmDerived.Pilot.@@N@@Code
set_option linter.unusedVariables false
set_option linter.unusedSimpArgs false
namespace Jvm.Pilot.@@N@@
open Jvm Jvm.ClassFile Sem Op Lib Jvm.Free Jvm.Stand Jvm.LawKit Jvm.RoadKit Bundle Jvm.Pilot.@@N@@.Jvm.D
theorem own_exa_ns {Z : State} {h : Heap} {a : Addr} {C : String} (E : Exa Z h a C) : ∀ c : Cell, h[a]? = some c → c.vm.isStatics = false := fun c hc => by
  obtain ⟨cell, k, h1, -, -, h4, -⟩ := E
  rw [h1] at hc; cases hc; exact h4
theorem own_sta_keep {Z : State} {h h' : Heap} {C n d : String} {v : Value} {ws : List Addr} (F : Sta Z h C n d v) (K : Keep h h' ws) (q : ∀ x ∈ ws, ∀ c : Cell, h[x]? = some c → c.vm.isStatics = false) : Sta Z h' C n d v := by
  obtain ⟨cf, i, k, f, st, cell, h1, h2, h3, h4, h5, h6, h7⟩ := F
  exact ⟨cf, i, k, f, st, cell, h1, h2, h3, h4, K.2.1 st cell h5 (fun hm => by have := q st hm cell h5; rw [h6] at this; cases this), h6, h7⟩
theorem own_ins_keep {Z : State} {h h' : Heap} {a : Addr} {C : String} {b : Bool} {ws : List Addr} (F : Ins Z h a C b) (K : Keep h h' ws) : Ins Z h' a C b := by
  obtain ⟨cell, cT, h1, h2, h3⟩ := F
  obtain ⟨c', q1, q2, q3, -⟩ := K.2.2 a cell h1
  exact ⟨c', cT, q1, h2, by rw [q3, q2]; exact h3⟩
theorem own_ne {r c : Int32} (k : Int) (hc : c.toInt = k) (h : ¬ r = c) : ¬ r.toInt = k := fun e => h (Int32.toInt_inj.mp (e.trans hc.symm))
theorem own_nz {z : Int32} (h : z = 0 ∨ z = 1) : narrow .boolean (.int z) = .int z := by rcases h with rfl | rfl <;> rfl
theorem d3_0 : decode prog_10_method_1_code 0 = .ok (.aload_n 0, 1) := by decide +kernel
theorem d3_1 : decode prog_10_method_1_code 1 = .ok (.invokespecial 3, 3) := by decide +kernel
theorem d3_4 : decode prog_10_method_1_code 4 = .ok (.aload_n 0, 1) := by decide +kernel
theorem d3_5 : decode prog_10_method_1_code 5 = .ok (.iload_n 1, 1) := by decide +kernel
theorem d3_6 : decode prog_10_method_1_code 6 = .ok (.putfield 9, 3) := by decide +kernel
theorem d3_9 : decode prog_10_method_1_code 9 = .ok (.aload_n 0, 1) := by decide +kernel
theorem d3_10 : decode prog_10_method_1_code 10 = .ok (.iload_n 2, 1) := by decide +kernel
theorem d3_11 : decode prog_10_method_1_code 11 = .ok (.putfield 15, 3) := by decide +kernel
theorem d3_14 : decode prog_10_method_1_code 14 = .ok (.return_, 1) := by decide +kernel
theorem pn_9 : plainName "com/example/nephele/nephele/VerificationMode" = true := by first | (simp [plainName, overriddenIn]; done) | decide +kernel
def Q3 (Z : State) (n0 : Nat) (a0 : Addr) (p1 : Int32) (p2 : Int32) (w_a0_least : Value) (w_a0_most : Value) (h0 : Heap) (v : Option Value) (h : Heap) (L : List Loc) : Prop := v = none ∧ Fr n0 L ∧ Keep h0 h [a0] ∧ Exa Z h a0 "com/example/nephele/nephele/VerificationMode" ∧ Fld Z h a0 "com/example/nephele/nephele/VerificationMode" "least" "I" (.int p1) ∧ Fld Z h a0 "com/example/nephele/nephele/VerificationMode" "most" "I" (.int p2)
theorem ef3 (m : MethodId) (a0 : Addr) (p1 : Int32) (p2 : Int32) : entryFrame m #[(.ref a0), (.int p1), (.int p2)] 3 = mkF m 0 #[.val (.ref a0), .val (.int p1), .val (.int p2)] [] := by first | (simp [entryFrame, mkF, argsToLocals, Value.category]; done) | rfl
set_option maxRecDepth 65536 in
set_option maxHeartbeats 40000000 in
theorem rm3 (l : Launch) (Z : State) (aZ : Array Value) (hw : ∀ d ∈ tables_1, d.before aZ Z = true) (ws : List Jvm.Cond) (a0 : Addr) (p1 : Int32) (p2 : Int32) (w_a0_least : Value) (w_a0_most : Value) (h0 : Heap) (n0 : Nat) (Z0 : n0 ≤ h0.size) (E_a0 : Exa Z h0 a0 "com/example/nephele/nephele/VerificationMode") (F_a0_least : Fld Z h0 a0 "com/example/nephele/nephele/VerificationMode" "least" "I" w_a0_least) (F_a0_most : Fld Z h0 a0 "com/example/nephele/nephele/VerificationMode" "most" "I" w_a0_most) (g_a0 : n0 ≤ a0) :
    MetFree l (⟨"com/example/nephele/nephele/VerificationMode", "<init>", "(II)V"⟩ : MethodName) (head1 (Jvm.Cond.code (⟨"com/example/nephele/nephele/VerificationMode", "<init>", "(II)V"⟩ : MethodName) prog_10_method_1_code 3 none :: ws) ({ frames := 1, cells := 0, slots := 0, locals := 12 } : Room)) (fun a U => a = #[(.ref a0), (.int p1), (.int p2)] ∧ Z.Warmed39 U.vm ∧ U.heap = h0) (fun _ _ _ _ _ => True) (fun _ U o U' => ∃ v L, o = .returned v ∧ Q3 Z n0 a0 p1 p2 w_a0_least w_a0_most h0 v U'.heap L ∧ FrameEnd U o U' L ({ frames := 1, cells := 0, slots := 0, locals := 12 } : Room).cells ({ frames := 1, cells := 0, slots := 0, locals := 12 } : Room).slots) := by
  refine MetFree.of_bodySF (plainFor_of_name pn_9) hisR ?_
  intro p e s m args below meth c s₁ Bd hml0 hP hK
  obtain ⟨rfl, hZ, hh⟩ := hP
  have hx := Bd.exec
  have hby := Bd.bytes
  have hml : c.maxLocals = 3 := hml0
  have hown : s.vm.findClass "com/example/nephele/nephele/VerificationMode" = some m.cls := findClass_of_methodNamed Bd.named
  have hnm := (name_of_methodNamed Bd.named Bd.method).1
  have X0 : Stand p l e ({ frames := 1, cells := 0, slots := 0, locals := 12 } : Room) s m #[(.ref a0), (.int p1), (.int p2)] below meth c s₁ [] 0 0 := Stand.of_body Bd
  have e0 : s₁.heap = h0 := by rw [← hh, Bd.state]; rfl
  have N0 := Fr.nil n0
  have K0 : Keep h0 h0 [a0] := Keep.refl _ _
  have go0 : ∀ t, Steps p.tables e below (s₁.setTop (mkF m 0 #[.val (.ref a0), .val (.int p1), .val (.int p2)] [])) t → Steps p.tables e below (s₁.setTop (entryFrame m #[(.ref a0), (.int p1), (.int p2)] 3)) t := fun t k => castTop (ef3 m a0 p1 p2) k
  have go1 : ∀ t, Steps p.tables e below (s₁.setTop (mkF m 1 #[.val (.ref a0), .val (.int p1), .val (.int p2)] [(.ref a0)])) t → Steps p.tables e below (s₁.setTop (entryFrame m #[(.ref a0), (.int p1), (.int p2)] 3)) t := by
    intro t k
    refine go0 _ ?_
    refine XS.aloadN X0.here hx rfl (hb hby d3_0) rfl rfl ?_
    show Steps p.tables e below (s₁.setTop (mkF m 1 #[.val (.ref a0), .val (.int p1), .val (.int p2)] [(.ref a0)])) t
    exact k
  obtain ⟨T2, X2, e2, st2⟩ := initO X0 hx hZ hown (hw _ (List.mem_of_getElem? (i := 22) rfl)) (hw _ (List.mem_of_getElem? (i := 23) rfl)) (hw _ (List.mem_of_getElem? (i := 24) rfl)) e0 (g := (mkF m 1 #[.val (.ref a0), .val (.int p1), .val (.int p2)] [(.ref a0)])) rfl (by rw [hml]; rfl) rfl (hb hby d3_1) (by decide) (W := 0) (by show 2 * 0 + _ ≤ _; exact Nat.le_of_eq rfl) (by decide)
  have go3 : ∀ t, Steps p.tables e below (T2.setTop (mkF m 4 #[.val (.ref a0), .val (.int p1), .val (.int p2)] [])) t → Steps p.tables e below (s₁.setTop (entryFrame m #[(.ref a0), (.int p1), (.int p2)] 3)) t := fun t k => go1 _ (st2 _ k)
  have go4 : ∀ t, Steps p.tables e below (T2.setTop (mkF m 6 #[.val (.ref a0), .val (.int p1), .val (.int p2)] [(.int p1), (.ref a0)])) t → Steps p.tables e below (s₁.setTop (entryFrame m #[(.ref a0), (.int p1), (.int p2)] 3)) t := by
    intro t k
    refine go3 _ ?_
    refine XS.aloadN X2.here hx rfl (hb hby d3_4) rfl rfl ?_
    show Steps p.tables e below (T2.setTop (mkF m 5 #[.val (.ref a0), .val (.int p1), .val (.int p2)] [(.ref a0)])) t
    refine XS.iloadN X2.here hx rfl (hb hby d3_5) rfl ?_
    show Steps p.tables e below (T2.setTop (mkF m 6 #[.val (.ref a0), .val (.int p1), .val (.int p2)] [(.int p1), (.ref a0)])) t
    exact k
  obtain ⟨T5, h5, X5, e5, W5, st5⟩ := putF X2 hx hZ hown (host := "") (Or.inl (hw _ (List.mem_of_getElem? (i := 25) rfl))) Via.refl e2 F_a0_least E_a0 (Or.inr ⟨(hw _ (List.mem_of_getElem? (i := 26) rfl)), rfl, hnm⟩) (hw _ (List.mem_of_getElem? (i := 17) rfl)) (ty := .int) (by decide) rfl rfl (g := (mkF m 6 #[.val (.ref a0), .val (.int p1), .val (.int p2)] [(.int p1), (.ref a0)])) rfl rfl (hb hby d3_6)
  have go6 : ∀ t, Steps p.tables e below (T5.setTop (mkF m 9 #[.val (.ref a0), .val (.int p1), .val (.int p2)] [])) t → Steps p.tables e below (s₁.setTop (entryFrame m #[(.ref a0), (.int p1), (.int p2)] 3)) t := fun t k => go4 _ (st5 _ k)
  have N5 := Fr.snoc X5 N0 g_a0
  have K5 : Keep h0 h5 [a0] := K0.wr W5 (Or.inl (List.mem_of_getElem? (i := 0) rfl))
  have Zs5 : n0 ≤ h5.size := Nat.le_trans Z0 (Keep.of_wr W5).1
  have F7 : Exa Z h5 a0 "com/example/nephele/nephele/VerificationMode" := E_a0.wr W5
  have F8 : Fld Z h5 a0 "com/example/nephele/nephele/VerificationMode" "least" "I" (.int p1) := F_a0_least.same W5
  have F9 : Fld Z h5 a0 "com/example/nephele/nephele/VerificationMode" "most" "I" w_a0_most := F_a0_most.other W5 (Or.inr (slot_ne (Or.inr (hw _ (List.mem_of_getElem? (i := 28) rfl))) (Or.inr (hw _ (List.mem_of_getElem? (i := 26) rfl))) (by decide) (t := .int) (t' := .int) (by decide) (by decide)))
  have go10 : ∀ t, Steps p.tables e below (T5.setTop (mkF m 11 #[.val (.ref a0), .val (.int p1), .val (.int p2)] [(.int p2), (.ref a0)])) t → Steps p.tables e below (s₁.setTop (entryFrame m #[(.ref a0), (.int p1), (.int p2)] 3)) t := by
    intro t k
    refine go6 _ ?_
    refine XS.aloadN X5.here hx rfl (hb hby d3_9) rfl rfl ?_
    show Steps p.tables e below (T5.setTop (mkF m 10 #[.val (.ref a0), .val (.int p1), .val (.int p2)] [(.ref a0)])) t
    refine XS.iloadN X5.here hx rfl (hb hby d3_10) rfl ?_
    show Steps p.tables e below (T5.setTop (mkF m 11 #[.val (.ref a0), .val (.int p1), .val (.int p2)] [(.int p2), (.ref a0)])) t
    exact k
  obtain ⟨T11, h11, X11, e11, W11, st11⟩ := putF X5 hx hZ hown (host := "") (Or.inl (hw _ (List.mem_of_getElem? (i := 27) rfl))) Via.refl e5 F9 F7 (Or.inr ⟨(hw _ (List.mem_of_getElem? (i := 28) rfl)), rfl, hnm⟩) (hw _ (List.mem_of_getElem? (i := 17) rfl)) (ty := .int) (by decide) rfl rfl (g := (mkF m 11 #[.val (.ref a0), .val (.int p1), .val (.int p2)] [(.int p2), (.ref a0)])) rfl rfl (hb hby d3_11)
  have go12 : ∀ t, Steps p.tables e below (T11.setTop (mkF m 14 #[.val (.ref a0), .val (.int p1), .val (.int p2)] [])) t → Steps p.tables e below (s₁.setTop (entryFrame m #[(.ref a0), (.int p1), (.int p2)] 3)) t := fun t k => go10 _ (st11 _ k)
  have N11 := Fr.snoc X11 N5 g_a0
  have K11 : Keep h0 h11 [a0] := K5.wr W11 (Or.inl (List.mem_of_getElem? (i := 0) rfl))
  have Zs11 : n0 ≤ h11.size := Nat.le_trans Zs5 (Keep.of_wr W11).1
  have F13 : Exa Z h11 a0 "com/example/nephele/nephele/VerificationMode" := F7.wr W11
  have F14 : Fld Z h11 a0 "com/example/nephele/nephele/VerificationMode" "least" "I" (.int p1) := F8.other W11 (Or.inr (slot_ne (Or.inr (hw _ (List.mem_of_getElem? (i := 26) rfl))) (Or.inr (hw _ (List.mem_of_getElem? (i := 28) rfl))) (by decide) (t := .int) (t' := .int) (by decide) (by decide)))
  have F15 : Fld Z h11 a0 "com/example/nephele/nephele/VerificationMode" "most" "I" (.int p2) := F9.same W11
  obtain ⟨fs, hr, hrun, hended, hW, hsame⟩ := X11.leave (v := none) (fun _ => rfl)
  refine ⟨_, _, go12 _ (X11.returnOut hx Bd.returns (hb hby d3_14) hr), hrun, hended, _, _, rfl, ?_, ⟨_, rfl⟩, hW, hsame.mono (by decide) (by decide)⟩
  show Q3 _ _ a0 p1 p2 w_a0_least w_a0_most h0 _ (T11.setFrames fs).heap _
  have hE : (T11.setFrames fs).heap = h11 := e11
  rw [hE]
  exact ⟨rfl, N11, K11, F13, F14, F15⟩
theorem d2_0 : decode prog_10_method_8_code 0 = .ok (.iload_n 1, 1) := by decide +kernel
theorem d2_1 : decode prog_10_method_8_code 1 = .ok (.ifCond .ge 18, 3) := by decide +kernel
theorem d2_19 : decode prog_10_method_8_code 19 = .ok (.return_, 1) := by decide +kernel
def Q2 (Z : State) (n0 : Nat) (a0 : Addr) (p1 : Int32) (h0 : Heap) (v : Option Value) (h : Heap) (L : List Loc) : Prop := v = none ∧ Fr n0 L ∧ h = h0
theorem ef2 (m : MethodId) (a0 : Addr) (p1 : Int32) : entryFrame m #[(.ref a0), (.int p1)] 2 = mkF m 0 #[.val (.ref a0), .val (.int p1)] [] := by first | (simp [entryFrame, mkF, argsToLocals, Value.category]; done) | rfl
set_option maxRecDepth 65536 in
set_option maxHeartbeats 40000000 in
theorem rm2 (l : Launch) (Z : State) (aZ : Array Value) (hw : ∀ d ∈ tables_1, d.before aZ Z = true) (ws : List Jvm.Cond) (a0 : Addr) (p1 : Int32) (h0 : Heap) (n0 : Nat) (Z0 : n0 ≤ h0.size) (hp : ¬ p1 < (0 : Int32)) :
    MetFree l (⟨"com/example/nephele/nephele/VerificationMode", "checkCount", "(Ljava/lang/String;I)V"⟩ : MethodName) (head1 (Jvm.Cond.code (⟨"com/example/nephele/nephele/VerificationMode", "checkCount", "(Ljava/lang/String;I)V"⟩ : MethodName) prog_10_method_8_code 2 none :: ws) ({ frames := 0, cells := 0, slots := 0, locals := 0 } : Room)) (fun a U => a = #[(.ref a0), (.int p1)] ∧ Z.Warmed39 U.vm ∧ U.heap = h0) (fun _ _ _ _ _ => True) (fun _ U o U' => ∃ v L, o = .returned v ∧ Q2 Z n0 a0 p1 h0 v U'.heap L ∧ FrameEnd U o U' L ({ frames := 0, cells := 0, slots := 0, locals := 0 } : Room).cells ({ frames := 0, cells := 0, slots := 0, locals := 0 } : Room).slots) := by
  refine MetFree.of_bodySF (plainFor_of_name pn_9) hisR ?_
  intro p e s m args below meth c s₁ Bd hml0 hP hK
  obtain ⟨rfl, hZ, hh⟩ := hP
  have hx := Bd.exec
  have hby := Bd.bytes
  have hml : c.maxLocals = 2 := hml0
  have hown : s.vm.findClass "com/example/nephele/nephele/VerificationMode" = some m.cls := findClass_of_methodNamed Bd.named
  have hnm := (name_of_methodNamed Bd.named Bd.method).1
  have X0 : Stand p l e ({ frames := 0, cells := 0, slots := 0, locals := 0 } : Room) s m #[(.ref a0), (.int p1)] below meth c s₁ [] 0 0 := Stand.of_body Bd
  have e0 : s₁.heap = h0 := by rw [← hh, Bd.state]; rfl
  have N0 := Fr.nil n0
  have K0 : Keep h0 h0 [] := Keep.refl _ _
  have go0 : ∀ t, Steps p.tables e below (s₁.setTop (mkF m 0 #[.val (.ref a0), .val (.int p1)] [])) t → Steps p.tables e below (s₁.setTop (entryFrame m #[(.ref a0), (.int p1)] 2)) t := fun t k => castTop (ef2 m a0 p1) k
  have go1 : ∀ t, Steps p.tables e below (s₁.setTop (mkF m 19 #[.val (.ref a0), .val (.int p1)] [])) t → Steps p.tables e below (s₁.setTop (entryFrame m #[(.ref a0), (.int p1)] 2)) t := by
    intro t k
    refine go0 _ ?_
    refine XS.iloadN X0.here hx rfl (hb hby d2_0) rfl ?_
    show Steps p.tables e below (s₁.setTop (mkF m 1 #[.val (.ref a0), .val (.int p1)] [(.int p1)])) t
    refine XS.ifYes X0.here hx rfl (pc0 := 1) (pc' := 19) rfl (hb hby d2_1) rfl (XT.i0_ge_t hp) (by decide) (by decide) ?_
    show Steps p.tables e below (s₁.setTop (mkF m 19 #[.val (.ref a0), .val (.int p1)] [])) t
    exact k
  obtain ⟨fs, hr, hrun, hended, hW, hsame⟩ := X0.leave (v := none) (fun _ => rfl)
  refine ⟨_, _, go1 _ (X0.returnOut hx Bd.returns (hb hby d2_19) hr), hrun, hended, _, _, rfl, ?_, ⟨_, rfl⟩, hW, hsame.mono (by decide) (by decide)⟩
  show Q2 _ _ a0 p1 h0 _ (s₁.setFrames fs).heap _
  have hE : (s₁.setFrames fs).heap = h0 := e0
  rw [hE]
  exact ⟨rfl, N0, rfl⟩
theorem d1_0 : decode prog_10_method_3_code 0 = .ok (.ldc 27, 2) := by decide +kernel
theorem own_sa : ∀ a ∈ Bundle.stringAtoms, a ∈ tables_1 := by decide +kernel
theorem d1_2 : decode prog_10_method_3_code 2 = .ok (.iload_n 0, 1) := by decide +kernel
theorem d1_3 : decode prog_10_method_3_code 3 = .ok (.invokestatic 20, 3) := by decide +kernel
theorem pd_17 : parseMethodDescriptor "(Ljava/lang/String;I)V" = some ⟨[(.object "java/lang/String"), .int], none⟩ := by decide +kernel
theorem d1_6 : decode prog_10_method_3_code 6 = .ok (.new 10, 3) := by decide +kernel
theorem d1_9 : decode prog_10_method_3_code 9 = .ok (.dup, 1) := by decide +kernel
theorem d1_10 : decode prog_10_method_3_code 10 = .ok (.iload_n 0, 1) := by decide +kernel
theorem d1_11 : decode prog_10_method_3_code 11 = .ok (.ldc 29, 2) := by decide +kernel
theorem d1_13 : decode prog_10_method_3_code 13 = .ok (.invokespecial 24, 3) := by decide +kernel
theorem pd_23 : parseMethodDescriptor "(II)V" = some ⟨[.int, .int], none⟩ := by decide +kernel
theorem d1_16 : decode prog_10_method_3_code 16 = .ok (.areturn, 1) := by decide +kernel
def Q1 (Z : State) (n0 : Nat) (p0 : Int32) (h0 : Heap) (v : Option Value) (h : Heap) (L : List Loc) : Prop := ∃ b : Addr, v = some (.ref b) ∧ Fr n0 L ∧ Keep h0 h [] ∧ h0.size ≤ b ∧ Exa Z h b "com/example/nephele/nephele/VerificationMode" ∧ Fld Z h b "com/example/nephele/nephele/VerificationMode" "least" "I" (.int p0) ∧ Fld Z h b "com/example/nephele/nephele/VerificationMode" "most" "I" (.int (2147483647 : Int32))
theorem ef1 (m : MethodId) (p0 : Int32) : entryFrame m #[(.int p0)] 1 = mkF m 0 #[.val (.int p0)] [] := by first | (simp [entryFrame, mkF, argsToLocals, Value.category]; done) | rfl
set_option maxRecDepth 65536 in
set_option maxHeartbeats 40000000 in
theorem rm1 (l : Launch) (Z : State) (aZ : Array Value) (hw : ∀ d ∈ tables_1, d.before aZ Z = true) (ws : List Jvm.Cond) (p0 : Int32) (h0 : Heap) (n0 : Nat) (Z0 : n0 ≤ h0.size) (hp : ¬ p0 < (0 : Int32)) :
    MetFree l (⟨"com/example/nephele/nephele/VerificationMode", "atLeast", "(I)Lcom/example/nephele/nephele/VerificationMode;"⟩ : MethodName) (head1 (Jvm.Cond.code (⟨"com/example/nephele/nephele/VerificationMode", "atLeast", "(I)Lcom/example/nephele/nephele/VerificationMode;"⟩ : MethodName) prog_10_method_3_code 1 (some (.object "com/example/nephele/nephele/VerificationMode")) :: ws) ({ frames := 2, cells := 3, slots := 34, locals := 27 } : Room)) (fun a U => a = #[(.int p0)] ∧ Z.Warmed39 U.vm ∧ U.heap = h0) (fun _ _ _ _ _ => True) (fun _ U o U' => ∃ v L, o = .returned v ∧ Q1 Z n0 p0 h0 v U'.heap L ∧ ReturnedEndW U o U' L ({ frames := 2, cells := 3, slots := 34, locals := 27 } : Room).cells ({ frames := 2, cells := 3, slots := 34, locals := 27 } : Room).slots) := by
  refine MetFree.of_bodySF (plainFor_of_name pn_9) hisR ?_
  intro p e s m args below meth c s₁ Bd hml0 hP hK
  obtain ⟨rfl, hZ, hh⟩ := hP
  have hx := Bd.exec
  have hby := Bd.bytes
  have hml : c.maxLocals = 1 := hml0
  have hown : s.vm.findClass "com/example/nephele/nephele/VerificationMode" = some m.cls := findClass_of_methodNamed Bd.named
  have hnm := (name_of_methodNamed Bd.named Bd.method).1
  have X0 : Stand p l e ({ frames := 2, cells := 3, slots := 34, locals := 27 } : Room) (s.setVm s.vm) m #[(.int p0)] below meth c s₁ [] 0 0 := Stand.of_body Bd
  have e0 : s₁.heap = h0 := by rw [← hh, Bd.state]; rfl
  have N0 := Fr.nil n0
  have K0 : Keep h0 h0 [] := Keep.refl _ _
  have go0 : ∀ t, Steps p.tables e below (s₁.setTop (mkF m 0 #[.val (.int p0)] [])) t → Steps p.tables e below (s₁.setTop (entryFrame m #[(.int p0)] 1)) t := fun t k => castTop (ef1 m p0) k
  have hS0 : s.Since s.vm s.heap.size := (State.WarmedH.refl s).since _
  have hk0 : s.heap.size ≤ h0.size := by rw [← hh]; exact Nat.le_refl _
  obtain ⟨b1, T1, h1, k1, X1, e1, E1, hS1, hk1, hZ1, hown1, st1⟩ := ldcS X0 hx hZ hown (hw _ (List.mem_of_getElem? (i := 5) rfl)) (fun a ha => hw a (own_sa a ha)) e0 hS0 hk0 (g := (mkF m 0 #[.val (.int p0)] [])) rfl (hb hby d1_0) (n := 28) (by decide +kernel) (by decide) (by decide) (by decide)
  have go2 : ∀ t, Steps p.tables e below (T1.setTop (mkF m 2 #[.val (.int p0)] [(.ref b1)])) t → Steps p.tables e below (s₁.setTop (entryFrame m #[(.int p0)] 1)) t := fun t k => go0 _ (st1 _ k)
  have K1 : Keep h0 h1 [] := K0.ext E1
  have Zs1 : n0 ≤ h1.size := Nat.le_trans Z0 E1.1
  have go3 : ∀ t, Steps p.tables e below (T1.setTop (mkF m 3 #[.val (.int p0)] [(.int p0), (.ref b1)])) t → Steps p.tables e below (s₁.setTop (entryFrame m #[(.int p0)] 1)) t := by
    intro t k
    refine go2 _ ?_
    refine XS.iloadN X1.here hx rfl (hb hby d1_2) rfl ?_
    show Steps p.tables e below (T1.setTop (mkF m 3 #[.val (.int p0)] [(.int p0), (.ref b1)])) t
    exact k
  obtain ⟨_, _, ⟨T4, L4, k4, n4⟩, -, X4, ⟨Lc4, hQ4, l4, y4, z4⟩, st4⟩ := Jvm.LawKit.callS X1 hx (y := (⟨"com/example/nephele/nephele/VerificationMode", "checkCount", "(Ljava/lang/String;I)V"⟩ : MethodName)) hown1 (mvT hZ1 (hw _ (List.mem_of_getElem? (i := 13) rfl))) (mvT hZ1 (hw _ (List.mem_of_getElem? (i := 14) rfl))) (mvT hZ1 (hw _ (List.mem_of_getElem? (i := 3) rfl))) (mvT hZ1 (hw _ (List.mem_of_getElem? (i := 15) rfl))) (by decide) (backOf (W := 0) (rm2 l Z aZ hw [] b1 p0 h1 n0 Zs1 hp) hZ1 (hw _ (List.mem_of_getElem? (i := 15) rfl)) (hw _ (List.mem_of_getElem? (i := 3) rfl)) (by decide) (by decide)) (g := (mkF m 3 #[.val (.int p0)] [(.int p0), (.ref b1)])) rfl (by rw [hml]; rfl) (argsL := [(.ref b1), (.int p0)]) (rest := []) (lenOf pd_17 rfl) rfl (by show 2 * 0 + _ ≤ _; exact Nat.le_of_eq rfl) (hb hby d1_3) (fun _ _ => ⟨rfl, e1, (by decide : 2 + 0 ≤ _), (by decide : 32 + 0 ≤ _)⟩)
  dsimp only [Pt.U, Pt.locs, Pt.cells, Pt.slots] at X4 l4 y4 z4 st4 hQ4
  subst l4 y4 z4
  obtain ⟨rfl, N4q, e4⟩ := hQ4
  have N4 := Fr.app N0 N4q
  have go5 : ∀ t, Steps p.tables e below (T4.setTop (mkF m 6 #[.val (.int p0)] [])) t → Steps p.tables e below (s₁.setTop (entryFrame m #[(.int p0)] 1)) t := fun t k => go3 _ (st4 _ k)
  obtain ⟨T6, h6, X6, e6, E6, A6, D6, -, st6⟩ := newO X4 hx hZ1 hown1 (hw _ (List.mem_of_getElem? (i := 16) rfl)) (hw _ (List.mem_of_getElem? (i := 17) rfl)) (hw _ (List.mem_of_getElem? (i := 3) rfl)) e4 (g := (mkF m 6 #[.val (.int p0)] [])) rfl (hb hby d1_6) (by decide) (by decide)
  obtain ⟨b6, g6⟩ : ∃ z, z = h1.size := ⟨_, rfl⟩
  rw [← g6] at A6 D6 st6
  have low6 : n0 ≤ b6 := Nat.le_trans Zs1 (Nat.le_of_eq g6.symm)
  have fsh6 : h0.size ≤ b6 := Nat.le_trans K1.1 (Nat.le_of_eq g6.symm)
  have K6 : Keep h0 h6 [] := K1.ext E6
  have Zs6 : n0 ≤ h6.size := Nat.le_trans Zs1 E6.1
  have hk6 : k1 ≤ h6.size := Nat.le_trans hk1 E6.1
  have go7 : ∀ t, Steps p.tables e below (T6.setTop (mkF m 9 #[.val (.int p0)] [(.ref b6)])) t → Steps p.tables e below (s₁.setTop (entryFrame m #[(.int p0)] 1)) t := fun t k => go5 _ (st6 _ k)
  have F8 : Fld Z h6 b6 "com/example/nephele/nephele/VerificationMode" "least" "I" (.int (0 : Int32)) := D6 (Or.inr (hw _ (List.mem_of_getElem? (i := 26) rfl))) (ty := .int) (by decide)
  have F9 : Fld Z h6 b6 "com/example/nephele/nephele/VerificationMode" "most" "I" (.int (0 : Int32)) := D6 (Or.inr (hw _ (List.mem_of_getElem? (i := 28) rfl))) (ty := .int) (by decide)
  have go10 : ∀ t, Steps p.tables e below (T6.setTop (mkF m 13 #[.val (.int p0)] [(.int (2147483647 : Int32)), (.int p0), (.ref b6), (.ref b6)])) t → Steps p.tables e below (s₁.setTop (entryFrame m #[(.int p0)] 1)) t := by
    intro t k
    refine go7 _ ?_
    refine XS.dup X6.here hx rfl (hb hby d1_9) rfl rfl ?_
    show Steps p.tables e below (T6.setTop (mkF m 10 #[.val (.int p0)] [(.ref b6), (.ref b6)])) t
    refine XS.iloadN X6.here hx rfl (hb hby d1_10) rfl ?_
    show Steps p.tables e below (T6.setTop (mkF m 11 #[.val (.int p0)] [(.int p0), (.ref b6), (.ref b6)])) t
    refine X6.ldcInt hx hown1 (mvT hZ1 (hw _ (List.mem_of_getElem? (i := 18) rfl))) (g := (mkF m 11 #[.val (.int p0)] [(.int p0), (.ref b6), (.ref b6)])) rfl (hb hby d1_11) _ ?_
    show Steps p.tables e below (T6.setTop (mkF m 13 #[.val (.int p0)] [(.int (2147483647 : Int32)), (.int p0), (.ref b6), (.ref b6)])) t
    exact k
  obtain ⟨_, _, ⟨T11, L11, k11, n11⟩, -, X11, ⟨Lc11, hQ11, l11, y11, z11⟩, st11⟩ := X6.specialBack hx (y := (⟨"com/example/nephele/nephele/VerificationMode", "<init>", "(II)V"⟩ : MethodName)) rfl hown1 (mvT hZ1 (hw _ (List.mem_of_getElem? (i := 19) rfl))) (mvT hZ1 (hw _ (List.mem_of_getElem? (i := 20) rfl))) (mvT hZ1 (hw _ (List.mem_of_getElem? (i := 21) rfl))) (by decide) (backOf (W := 1) (rm3 l Z aZ hw [] b6 p0 (2147483647 : Int32) (.int (0 : Int32)) (.int (0 : Int32)) h6 n0 Zs6 A6 F8 F9 low6) hZ1 (hw _ (List.mem_of_getElem? (i := 21) rfl)) (hw _ (List.mem_of_getElem? (i := 3) rfl)) (by decide) (by decide)) (g := (mkF m 13 #[.val (.int p0)] [(.int (2147483647 : Int32)), (.int p0), (.ref b6), (.ref b6)])) rfl (by rw [hml]; rfl) (Steps.refl _) (a := b6) (argsL := [(.int p0), (.int (2147483647 : Int32))]) (rest := [(.ref b6)]) (lenOf pd_23 rfl) rfl (by show 2 * 0 + _ ≤ _; exact Nat.le_of_eq rfl) (hb hby d1_13) (fun _ _ => ⟨rfl, e6, (by decide : 3 + 0 ≤ _), (by decide : 34 + 0 ≤ _)⟩)
  dsimp only [Pt.U, Pt.locs, Pt.cells, Pt.slots] at X11 l11 y11 z11 st11 hQ11
  subst l11 y11 z11
  obtain ⟨rfl, N11q, K11q, G11_0, G11_1, G11_2⟩ := hQ11
  have N11 := Fr.app N4 N11q
  have K11 : Keep h0 T11.heap [] := K6.trans K11q (allS (Or.inr fsh6) all0)
  have Zs11 : n0 ≤ T11.heap.size := Nat.le_trans Zs6 K11q.1
  have hk11 : k1 ≤ T11.heap.size := Nat.le_trans hk6 K11q.1
  have F12 : Exa Z T11.heap b6 "com/example/nephele/nephele/VerificationMode" := A6.keep K11q
  have go13 : ∀ t, Steps p.tables e below (T11.setTop (mkF m 16 #[.val (.int p0)] [(.ref b6)])) t → Steps p.tables e below (s₁.setTop (entryFrame m #[(.int p0)] 1)) t := fun t k => go10 _ (st11.trans k)
  obtain ⟨fs, hr, hrun, hended, hRW⟩ := X11.leaveW hS1 (hk11) (v := some (.ref b6)) (fun h => by rw [Bd.returns] at h; cases h)
  refine ⟨_, _, go13 _ (Jvm.RoadKit.retOut X11 hx Bd.returns rfl (Or.inr (Or.inr (Or.inr (Or.inr ⟨rfl, rfl, rfl⟩)))) (hb hby d1_16) hr), hrun, hended, _, _, rfl, ?_, hRW.1, hRW.2.1, hRW.2.2.1, hRW.2.2.2.mono (by decide) (by decide)⟩
  show Q1 _ _ p0 h0 _ (T11.setFrames fs).heap _
  have hE : (T11.setFrames fs).heap = T11.heap := rfl
  rw [hE]
  exact ⟨b6, rfl, N11, K11, fsh6, G11_0, G11_1, G11_2⟩
theorem d5_0 : decode prog_10_method_5_code 0 = .ok (.aload_n 0, 1) := by decide +kernel
theorem d5_1 : decode prog_10_method_5_code 1 = .ok (.getfield 9, 3) := by decide +kernel
theorem d5_4 : decode prog_10_method_5_code 4 = .ok (.iload_n 1, 1) := by decide +kernel
theorem d5_5 : decode prog_10_method_5_code 5 = .ok (.if_icmp .gt 15, 3) := by decide +kernel
theorem d5_20 : decode prog_10_method_5_code 20 = .ok (.iconst 0, 1) := by decide +kernel
theorem d5_21 : decode prog_10_method_5_code 21 = .ok (.ireturn, 1) := by decide +kernel
theorem d5_8 : decode prog_10_method_5_code 8 = .ok (.iload_n 1, 1) := by decide +kernel
theorem d5_9 : decode prog_10_method_5_code 9 = .ok (.aload_n 0, 1) := by decide +kernel
theorem d5_10 : decode prog_10_method_5_code 10 = .ok (.getfield 15, 3) := by decide +kernel
theorem d5_13 : decode prog_10_method_5_code 13 = .ok (.if_icmp .gt 7, 3) := by decide +kernel
theorem d5_16 : decode prog_10_method_5_code 16 = .ok (.iconst 1, 1) := by decide +kernel
theorem d5_17 : decode prog_10_method_5_code 17 = .ok (.goto 4, 3) := by decide +kernel
def b5_12 (p1 : Int32) (w_a0_most : Int32) : Int32 := (if w_a0_most < p1 then (0 : Int32) else (1 : Int32))
def f5 (p1 : Int32) (w_a0_least : Int32) (w_a0_most : Int32) : Int32 := (if p1 < w_a0_least then (0 : Int32) else (b5_12 p1 w_a0_most))
def Q5 (Z : State) (n0 : Nat) (a0 : Addr) (p1 : Int32) (w_a0_least : Int32) (w_a0_most : Int32) (h0 : Heap) (v : Option Value) (h : Heap) (L : List Loc) : Prop := v = some (.int (f5 p1 w_a0_least w_a0_most)) ∧ Fr n0 L ∧ h = h0
theorem ef5 (m : MethodId) (a0 : Addr) (p1 : Int32) : entryFrame m #[(.ref a0), (.int p1)] 2 = mkF m 0 #[.val (.ref a0), .val (.int p1)] [] := by first | (simp [entryFrame, mkF, argsToLocals, Value.category]; done) | rfl
set_option maxRecDepth 65536 in
set_option maxHeartbeats 40000000 in
theorem rm5 (l : Launch) (Z : State) (aZ : Array Value) (hw : ∀ d ∈ tables_1, d.before aZ Z = true) (ws : List Jvm.Cond) (a0 : Addr) (p1 : Int32) (w_a0_least : Int32) (w_a0_most : Int32) (h0 : Heap) (n0 : Nat) (Z0 : n0 ≤ h0.size) (F_a0_least : Fld Z h0 a0 "com/example/nephele/nephele/VerificationMode" "least" "I" (.int w_a0_least)) (F_a0_most : Fld Z h0 a0 "com/example/nephele/nephele/VerificationMode" "most" "I" (.int w_a0_most)) :
    MetFree l (⟨"com/example/nephele/nephele/VerificationMode", "allows", "(I)Z"⟩ : MethodName) (head1 (Jvm.Cond.code (⟨"com/example/nephele/nephele/VerificationMode", "allows", "(I)Z"⟩ : MethodName) prog_10_method_5_code 2 (some .boolean) :: ws) ({ frames := 0, cells := 0, slots := 0, locals := 0 } : Room)) (fun a U => a = #[(.ref a0), (.int p1)] ∧ Z.Warmed39 U.vm ∧ U.heap = h0) (fun _ _ _ _ _ => True) (fun _ U o U' => ∃ v L, o = .returned v ∧ Q5 Z n0 a0 p1 w_a0_least w_a0_most h0 v U'.heap L ∧ FrameEnd U o U' L ({ frames := 0, cells := 0, slots := 0, locals := 0 } : Room).cells ({ frames := 0, cells := 0, slots := 0, locals := 0 } : Room).slots) := by
  refine MetFree.of_bodySF (plainFor_of_name pn_9) hisR ?_
  intro p e s m args below meth c s₁ Bd hml0 hP hK
  obtain ⟨rfl, hZ, hh⟩ := hP
  have hx := Bd.exec
  have hby := Bd.bytes
  have hml : c.maxLocals = 2 := hml0
  have hown : s.vm.findClass "com/example/nephele/nephele/VerificationMode" = some m.cls := findClass_of_methodNamed Bd.named
  have hnm := (name_of_methodNamed Bd.named Bd.method).1
  have X0 : Stand p l e ({ frames := 0, cells := 0, slots := 0, locals := 0 } : Room) s m #[(.ref a0), (.int p1)] below meth c s₁ [] 0 0 := Stand.of_body Bd
  have e0 : s₁.heap = h0 := by rw [← hh, Bd.state]; rfl
  have N0 := Fr.nil n0
  have K0 : Keep h0 h0 [] := Keep.refl _ _
  have go0 : ∀ t, Steps p.tables e below (s₁.setTop (mkF m 0 #[.val (.ref a0), .val (.int p1)] [])) t → Steps p.tables e below (s₁.setTop (entryFrame m #[(.ref a0), (.int p1)] 2)) t := fun t k => castTop (ef5 m a0 p1) k
  have go1 : ∀ t, Steps p.tables e below (s₁.setTop (mkF m 1 #[.val (.ref a0), .val (.int p1)] [(.ref a0)])) t → Steps p.tables e below (s₁.setTop (entryFrame m #[(.ref a0), (.int p1)] 2)) t := by
    intro t k
    refine go0 _ ?_
    refine XS.aloadN X0.here hx rfl (hb hby d5_0) rfl rfl ?_
    show Steps p.tables e below (s₁.setTop (mkF m 1 #[.val (.ref a0), .val (.int p1)] [(.ref a0)])) t
    exact k
  obtain ⟨T2, X2, e2, st2⟩ := getF X0 hx hZ hown (host := "") (Or.inl (hw _ (List.mem_of_getElem? (i := 25) rfl))) Via.refl e0 F_a0_least (g := (mkF m 1 #[.val (.ref a0), .val (.int p1)] [(.ref a0)])) rfl rfl (hb hby d5_1)
  have go3 : ∀ t, Steps p.tables e below (T2.setTop (mkF m 4 #[.val (.ref a0), .val (.int p1)] [(.int w_a0_least)])) t → Steps p.tables e below (s₁.setTop (entryFrame m #[(.ref a0), (.int p1)] 2)) t := fun t k => go1 _ (st2 _ k)
  have go4 : ∀ t, Steps p.tables e below (T2.setTop (mkF m 5 #[.val (.ref a0), .val (.int p1)] [(.int p1), (.int w_a0_least)])) t → Steps p.tables e below (s₁.setTop (entryFrame m #[(.ref a0), (.int p1)] 2)) t := by
    intro t k
    refine go3 _ ?_
    refine XS.iloadN X2.here hx rfl (hb hby d5_4) rfl ?_
    show Steps p.tables e below (T2.setTop (mkF m 5 #[.val (.ref a0), .val (.int p1)] [(.int p1), (.int w_a0_least)])) t
    exact k
  by_cases hs5 : p1 < w_a0_least
  · have go6 : ∀ t, Steps p.tables e below (T2.setTop (mkF m 21 #[.val (.ref a0), .val (.int p1)] [(.int (0 : Int32))])) t → Steps p.tables e below (s₁.setTop (entryFrame m #[(.ref a0), (.int p1)] 2)) t := by
      intro t k
      refine go4 _ ?_
      refine XS.icmpYes X2.here hx rfl (pc0 := 5) (pc' := 20) rfl (hb hby d5_5) rfl (XT.ii_gt_t hs5) (by decide) (by decide) ?_
      show Steps p.tables e below (T2.setTop (mkF m 20 #[.val (.ref a0), .val (.int p1)] [])) t
      refine XS.iconst X2.here hx rfl (hb hby d5_20) ?_
      show Steps p.tables e below (T2.setTop (mkF m 21 #[.val (.ref a0), .val (.int p1)] [(.int (0 : Int32))])) t
      exact k
    obtain ⟨fs, hr, hrun, hended, hW, hsame⟩ := X2.leave (v := some (.int (0 : Int32))) (fun h => by rw [Bd.returns] at h; cases h)
    refine ⟨_, _, go6 _ (Jvm.RoadKit.retOut X2 hx Bd.returns rfl (Or.inl ⟨rfl, Or.inr (Or.inl rfl), _, rfl⟩) (hb hby d5_21) hr), hrun, hended, _, _, rfl, ?_, ⟨_, rfl⟩, hW, hsame.mono (by decide) (by decide)⟩
    show Q5 _ _ a0 p1 w_a0_least w_a0_most h0 _ (T2.setFrames fs).heap _
    have hE : (T2.setFrames fs).heap = h0 := e2
    rw [hE]
    exact ⟨by rw [f5, if_pos hs5], N0, rfl⟩
  · have go7 : ∀ t, Steps p.tables e below (T2.setTop (mkF m 10 #[.val (.ref a0), .val (.int p1)] [(.ref a0), (.int p1)])) t → Steps p.tables e below (s₁.setTop (entryFrame m #[(.ref a0), (.int p1)] 2)) t := by
      intro t k
      refine go4 _ ?_
      refine XS.icmpNo X2.here hx rfl (hb hby d5_5) rfl (XT.ii_gt_f hs5) ?_
      show Steps p.tables e below (T2.setTop (mkF m 8 #[.val (.ref a0), .val (.int p1)] [])) t
      refine XS.iloadN X2.here hx rfl (hb hby d5_8) rfl ?_
      show Steps p.tables e below (T2.setTop (mkF m 9 #[.val (.ref a0), .val (.int p1)] [(.int p1)])) t
      refine XS.aloadN X2.here hx rfl (hb hby d5_9) rfl rfl ?_
      show Steps p.tables e below (T2.setTop (mkF m 10 #[.val (.ref a0), .val (.int p1)] [(.ref a0), (.int p1)])) t
      exact k
    obtain ⟨T8, X8, e8, st8⟩ := getF X2 hx hZ hown (host := "") (Or.inl (hw _ (List.mem_of_getElem? (i := 27) rfl))) Via.refl e2 F_a0_most (g := (mkF m 10 #[.val (.ref a0), .val (.int p1)] [(.ref a0), (.int p1)])) rfl rfl (hb hby d5_10)
    have go9 : ∀ t, Steps p.tables e below (T8.setTop (mkF m 13 #[.val (.ref a0), .val (.int p1)] [(.int w_a0_most), (.int p1)])) t → Steps p.tables e below (s₁.setTop (entryFrame m #[(.ref a0), (.int p1)] 2)) t := fun t k => go7 _ (st8 _ k)
    have go11 : ∀ t, Steps p.tables e below (T8.setTop (mkF m 21 #[.val (.ref a0), .val (.int p1)] [(.int (b5_12 p1 w_a0_most))])) t → Steps p.tables e below (s₁.setTop (entryFrame m #[(.ref a0), (.int p1)] 2)) t := by
      intro t k
      refine go9 _ ?_
      by_cases hc10 : w_a0_most < p1
      · refine XS.icmpYes X8.here hx rfl (pc0 := 13) (pc' := 20) rfl (hb hby d5_13) rfl (XT.ii_gt_t hc10) (by decide) (by decide) ?_
        show Steps p.tables e below (T8.setTop (mkF m 20 #[.val (.ref a0), .val (.int p1)] [])) t
        refine XS.iconst X8.here hx rfl (hb hby d5_20) ?_
        show Steps p.tables e below (T8.setTop (mkF m 21 #[.val (.ref a0), .val (.int p1)] [(.int (0 : Int32))])) t
        have hq13 : (b5_12 p1 w_a0_most) = (0 : Int32) := by rw [b5_12, if_pos hc10]
        rw [hq13] at k
        exact k
      · refine XS.icmpNo X8.here hx rfl (hb hby d5_13) rfl (XT.ii_gt_f hc10) ?_
        show Steps p.tables e below (T8.setTop (mkF m 16 #[.val (.ref a0), .val (.int p1)] [])) t
        refine XS.iconst X8.here hx rfl (hb hby d5_16) ?_
        show Steps p.tables e below (T8.setTop (mkF m 17 #[.val (.ref a0), .val (.int p1)] [(.int (1 : Int32))])) t
        refine XS.goto X8.here hx rfl (pc0 := 17) (pc' := 21) rfl (hb hby d5_17) (by decide) (by decide) ?_
        show Steps p.tables e below (T8.setTop (mkF m 21 #[.val (.ref a0), .val (.int p1)] [(.int (1 : Int32))])) t
        have hq14 : (b5_12 p1 w_a0_most) = (1 : Int32) := by rw [b5_12, if_neg hc10]
        rw [hq14] at k
        exact k
    obtain ⟨fs, hr, hrun, hended, hW, hsame⟩ := X8.leave (v := some (.int (b5_12 p1 w_a0_most))) (fun h => by rw [Bd.returns] at h; cases h)
    refine ⟨_, _, go11 _ (Jvm.RoadKit.retOut X8 hx Bd.returns (own_nz (by unfold b5_12; (repeat' split) <;> first | exact Or.inl rfl | exact Or.inr rfl)) (Or.inl ⟨rfl, Or.inr (Or.inl rfl), _, rfl⟩) (hb hby d5_21) hr), hrun, hended, _, _, rfl, ?_, ⟨_, rfl⟩, hW, hsame.mono (by decide) (by decide)⟩
    show Q5 _ _ a0 p1 w_a0_least w_a0_most h0 _ (T8.setFrames fs).heap _
    have hE : (T8.setFrames fs).heap = h0 := e8
    rw [hE]
    exact ⟨by rw [f5, if_neg hs5], N0, rfl⟩
theorem own_nn (x : Int32) : ¬ (x &&& 2147483647) < 0 := by
  have h := c_mask x 2147483647 31 (by decide) (by decide)
  rw [Int32.lt_iff_toInt_lt, h]
  have e0 : (0 : Int32).toInt = 0 := rfl
  omega
theorem pd_39 : parseMethodDescriptor "(I)Lcom/example/nephele/nephele/VerificationMode;" = some ⟨[.int], some (.object "com/example/nephele/nephele/VerificationMode")⟩ := by decide +kernel
theorem pd_40 : parseMethodDescriptor "(I)Z" = some ⟨[.int], some .boolean⟩ := by decide +kernel
def v0_1 (p0 : Int32) : Int32 := (p0 &&& (2147483647 : Int32))
def b0_10 (p0 : Int32) (p1 : Int32) : Int32 := (if p1 < (v0_1 p0) then (0 : Int32) else (1 : Int32))
def b0_15 (p0 : Int32) (p1 : Int32) : Int32 := (if (f5 p1 (v0_1 p0) (2147483647 : Int32)) = (b0_10 p0 p1) then (1 : Int32) else (0 : Int32))
def v0_21 (p0 : Int32) : Int32 := (f5 (v0_1 p0) (v0_1 p0) (2147483647 : Int32))
def v0_27 (p0 : Int32) : Int32 := (f5 (2147483647 : Int32) (v0_1 p0) (2147483647 : Int32))
def b0_33 (p0 : Int32) : Int32 := (if (f5 (-2147483648 : Int32) (v0_1 p0) (2147483647 : Int32)) = (0 : Int32) then (1 : Int32) else (0 : Int32))
def b0_41 (p0 : Int32) (p1 : Int32) : Int32 := (if (b0_15 p0 p1) = (0 : Int32) then (0 : Int32) else (if (v0_21 p0) = (0 : Int32) then (0 : Int32) else (if (v0_27 p0) = (0 : Int32) then (0 : Int32) else (if (b0_33 p0) = (0 : Int32) then (0 : Int32) else (1 : Int32)))))
def v0_47 (p0 : Int32) : Int32 := ((v0_1 p0) - (1 : Int32))
def b0_53 (p0 : Int32) : Int32 := (if (f5 (v0_47 p0) (v0_1 p0) (2147483647 : Int32)) = (0 : Int32) then (1 : Int32) else (0 : Int32))
def b0_72 (p0 : Int32) (p1 : Int32) : Int32 := (if (b0_15 p0 p1) = (0 : Int32) then (0 : Int32) else (if (v0_21 p0) = (0 : Int32) then (0 : Int32) else (if (b0_53 p0) = (0 : Int32) then (0 : Int32) else (if (v0_27 p0) = (0 : Int32) then (0 : Int32) else (if (b0_33 p0) = (0 : Int32) then (0 : Int32) else (1 : Int32))))))
def f0 (p0 : Int32) (p1 : Int32) : Int32 := (if (v0_1 p0) = (0 : Int32) then (b0_41 p0 p1) else (b0_72 p0 p1))
theorem own_f5 (x c : Int32) : f5 x c 2147483647 = if x < c then 0 else 1 := by
  have h2 : ¬ (2147483647 : Int32) < x := by
    rw [Int32.lt_iff_toInt_lt]; have := rng32 x; have e : (2147483647 : Int32).toInt = 2147483647 := rfl
    omega
  unfold f5 b5_12; simp [h2]
theorem f0_one (p0 p1 : Int32) : f0 p0 p1 = 1 := by
  have hc : ¬ v0_1 p0 < 0 := own_nn p0
  have z0 : (0 : Int32).toInt = 0 := rfl
  have z1 : (1 : Int32).toInt = 1 := rfl
  have zx : (2147483647 : Int32).toInt = 2147483647 := rfl
  have zn : (-2147483648 : Int32).toInt = -2147483648 := rfl
  have r := rng32 (v0_1 p0)
  rw [Int32.lt_iff_toInt_lt] at hc
  have k1 : ¬ v0_1 p0 < v0_1 p0 := by rw [Int32.lt_iff_toInt_lt]; omega
  have k2 : ¬ (2147483647 : Int32) < v0_1 p0 := by rw [Int32.lt_iff_toInt_lt]; omega
  have k3 : (-2147483648 : Int32) < v0_1 p0 := by rw [Int32.lt_iff_toInt_lt]; omega
  have k4 : ¬ v0_1 p0 = 0 → v0_47 p0 < v0_1 p0 := fun q => by
    have e := c_isub (v0_1 p0) 1; have r2 := rng32 (v0_1 p0 - 1)
    have q2 := own_ne 0 rfl q
    show v0_1 p0 - 1 < v0_1 p0
    rw [Int32.lt_iff_toInt_lt]; omega
  simp only [f0, b0_10, b0_15, v0_21, v0_27, b0_33, b0_41, b0_53, b0_72, own_f5]
  by_cases h : v0_1 p0 = 0
  · simp [k1, k2, k3, h] at *
  · simp [k1, k2, k3, h, k4 h]

theorem pn_50 : plainName "com/example/nephele/nephele/VerificationModeAtLeastPinLaw" = true := by first | (simp [plainName, overriddenIn]; done) | decide +kernel
def Q0 (Z : State) (n0 : Nat) (p0 : Int32) (p1 : Int32) (h0 : Heap) (v : Option Value) (h : Heap) (L : List Loc) : Prop := v = some (.int 1) ∧ Fr n0 L
theorem ef0 (m : MethodId) (p0 : Int32) (p1 : Int32) : entryFrame m #[(.int p0), (.int p1)] maxLocals = mkF m 0 #[.val (.int p0), .val (.int p1), .unset, .unset, .unset, .unset, .unset, .unset, .unset] [] := by first | (simp [entryFrame, mkF, argsToLocals, Value.category, maxLocals]; done) | rfl
set_option maxRecDepth 65536 in
set_option maxHeartbeats 40000000 in
theorem rm0 (l : Launch) (Z : State) (aZ : Array Value) (hw : ∀ d ∈ tables_1, d.before aZ Z = true) (ws : List Jvm.Cond) (p0 : Int32) (p1 : Int32) (h0 : Heap) (n0 : Nat) (Z0 : n0 ≤ h0.size) :
    MetFree l x (head1 (Jvm.Cond.code x code maxLocals ret :: ws) room_1) (fun a U => a = #[(.int p0), (.int p1)] ∧ Z.Warmed39 U.vm ∧ U.heap = h0) (fun _ _ _ _ _ => True) (fun _ U o U' => ∃ v L, o = .returned v ∧ Q0 Z n0 p0 p1 h0 v U'.heap L ∧ ReturnedEndW U o U' L room_1.cells room_1.slots) := by
  refine MetFree.of_bodySF (plainFor_of_name pn_50) hisR ?_
  intro p e s m args below meth c s₁ Bd hml0 hP hK
  obtain ⟨rfl, hZ, hh⟩ := hP
  have hx := Bd.exec
  have hby := Bd.bytes
  have hml : c.maxLocals = 9 := hml0
  have hown : s.vm.findClass "com/example/nephele/nephele/VerificationModeAtLeastPinLaw" = some m.cls := findClass_of_methodNamed Bd.named
  have hnm := (name_of_methodNamed Bd.named Bd.method).1
  have X0 : Stand p l e room_1 (s.setVm s.vm) m #[(.int p0), (.int p1)] below meth c s₁ [] 0 0 := Stand.of_body Bd
  have e0 : s₁.heap = h0 := by rw [← hh, Bd.state]; rfl
  have N0 := Fr.nil n0
  have K0 : Keep h0 h0 [] := Keep.refl _ _
  have go0 : ∀ t, Steps p.tables e below (s₁.setTop (mkF m 0 #[.val (.int p0), .val (.int p1), .unset, .unset, .unset, .unset, .unset, .unset, .unset] [])) t → Steps p.tables e below (s₁.setTop (entryFrame m #[(.int p0), (.int p1)] maxLocals)) t := fun t k => castTop (ef0 m p0 p1) k
  have hS0 : s.Since s.vm s.heap.size := (State.WarmedH.refl s).since _
  have hk0 : s.heap.size ≤ h0.size := by rw [← hh]; exact Nat.le_refl _
  have go2 : ∀ t, Steps p.tables e below (s₁.setTop (mkF m 6 #[.val (.int p0), .val (.int p1), .val (.int (v0_1 p0)), .unset, .unset, .unset, .unset, .unset, .unset] [(.int (v0_1 p0))])) t → Steps p.tables e below (s₁.setTop (entryFrame m #[(.int p0), (.int p1)] maxLocals)) t := by
    intro t k
    refine go0 _ ?_
    refine XS.iloadN X0.here hx rfl (hb hby at_0) rfl ?_
    show Steps p.tables e below (s₁.setTop (mkF m 1 #[.val (.int p0), .val (.int p1), .unset, .unset, .unset, .unset, .unset, .unset, .unset] [(.int p0)])) t
    refine X0.ldcInt hx hown (mvT hZ (hw _ (List.mem_of_getElem? (i := 0) rfl))) (g := (mkF m 1 #[.val (.int p0), .val (.int p1), .unset, .unset, .unset, .unset, .unset, .unset, .unset] [(.int p0)])) rfl (hb hby at_1) _ ?_
    show Steps p.tables e below (s₁.setTop (mkF m 3 #[.val (.int p0), .val (.int p1), .unset, .unset, .unset, .unset, .unset, .unset, .unset] [(.int (2147483647 : Int32)), (.int p0)])) t
    refine XS.iand X0.here hx rfl (hb hby at_3) rfl ?_
    show Steps p.tables e below (s₁.setTop (mkF m 4 #[.val (.int p0), .val (.int p1), .unset, .unset, .unset, .unset, .unset, .unset, .unset] [(.int (p0 &&& (2147483647 : Int32)))])) t
    show Steps p.tables e below (s₁.setTop (mkF m 4 #[.val (.int p0), .val (.int p1), .unset, .unset, .unset, .unset, .unset, .unset, .unset] [(.int (v0_1 p0))])) t
    refine XS.istoreN X0.here hx rfl (hb hby at_4) rfl (l' := #[.val (.int p0), .val (.int p1), .val (.int (v0_1 p0)), .unset, .unset, .unset, .unset, .unset, .unset]) rfl ?_
    show Steps p.tables e below (s₁.setTop (mkF m 5 #[.val (.int p0), .val (.int p1), .val (.int (v0_1 p0)), .unset, .unset, .unset, .unset, .unset, .unset] [])) t
    refine XS.iloadN X0.here hx rfl (hb hby at_5) rfl ?_
    show Steps p.tables e below (s₁.setTop (mkF m 6 #[.val (.int p0), .val (.int p1), .val (.int (v0_1 p0)), .unset, .unset, .unset, .unset, .unset, .unset] [(.int (v0_1 p0))])) t
    exact k
  obtain ⟨_, _, ⟨T3, L3, k3, n3⟩, -, X3q, hS3q, hg3, ⟨Lc3, hQ3, l3, y3, z3⟩, st3⟩ := callSS X0 hx (y := (⟨"com/example/nephele/nephele/VerificationMode", "atLeast", "(I)Lcom/example/nephele/nephele/VerificationMode;"⟩ : MethodName)) hown (mvT hZ (hw _ (List.mem_of_getElem? (i := 1) rfl))) (mvT hZ (hw _ (List.mem_of_getElem? (i := 2) rfl))) (mvT hZ (hw _ (List.mem_of_getElem? (i := 3) rfl))) (mvT hZ (hw _ (List.mem_of_getElem? (i := 4) rfl))) (by decide) (backOfS (W := 0) (rm1 l Z aZ hw [] (v0_1 p0) h0 n0 Z0 (own_nn p0)) hZ (hw _ (List.mem_of_getElem? (i := 4) rfl)) (hw _ (List.mem_of_getElem? (i := 3) rfl)) (by decide) (by decide)) (g := (mkF m 6 #[.val (.int p0), .val (.int p1), .val (.int (v0_1 p0)), .unset, .unset, .unset, .unset, .unset, .unset] [(.int (v0_1 p0))])) rfl (by rw [hml]; rfl) (argsL := [(.int (v0_1 p0))]) (rest := []) (lenOf pd_39 rfl) rfl (by show 2 * 0 + _ ≤ _; exact Nat.le_of_eq rfl) (hb hby at_6) (fun _ _ => ⟨rfl, e0, (by decide : 0 + 3 ≤ _), (by decide : 0 + 34 ≤ _)⟩)
  dsimp only [Pt.U, Pt.locs, Pt.cells, Pt.slots] at X3q hS3q hg3 l3 y3 z3 st3 hQ3
  subst l3 y3 z3
  have hk3q : s.heap.size ≤ s₁.heap.size := by rw [e0]; exact hk0
  obtain ⟨X3, hS3, hZ3, hown3⟩ := rebS hS0 hk3q X3q hS3q hg3 hZ hown
  have hk3r : T3.heap.size ≤ T3.heap.size := Nat.le_refl _
  obtain ⟨b3, rfl, N3q, K3q, fr3, G3_0, G3_1, G3_2⟩ := hQ3
  have N3 := Fr.app N0 N3q
  have K3 : Keep h0 T3.heap [] := K0.trans K3q all0
  have low3 : n0 ≤ b3 := Nat.le_trans Z0 fr3
  have fsh3 : h0.size ≤ b3 := Nat.le_trans K0.1 fr3
  have Zs3 : n0 ≤ T3.heap.size := Nat.le_trans Z0 K3q.1
  have hk3 : s.heap.size ≤ T3.heap.size := Nat.le_trans hk0 K3q.1
  have go4 : ∀ t, Steps p.tables e below (T3.setTop (mkF m 9 #[.val (.int p0), .val (.int p1), .val (.int (v0_1 p0)), .unset, .unset, .unset, .unset, .unset, .unset] [(.ref b3)])) t → Steps p.tables e below (s₁.setTop (entryFrame m #[(.int p0), (.int p1)] maxLocals)) t := fun t k => go2 _ (st3.trans k)
  have go5 : ∀ t, Steps p.tables e below (T3.setTop (mkF m 12 #[.val (.int p0), .val (.int p1), .val (.int (v0_1 p0)), .val (.ref b3), .unset, .unset, .unset, .unset, .unset] [(.int p1), (.ref b3)])) t → Steps p.tables e below (s₁.setTop (entryFrame m #[(.int p0), (.int p1)] maxLocals)) t := by
    intro t k
    refine go4 _ ?_
    refine XS.astoreN X3.here hx rfl (hb hby at_9) rfl rfl (l' := #[.val (.int p0), .val (.int p1), .val (.int (v0_1 p0)), .val (.ref b3), .unset, .unset, .unset, .unset, .unset]) rfl ?_
    show Steps p.tables e below (T3.setTop (mkF m 10 #[.val (.int p0), .val (.int p1), .val (.int (v0_1 p0)), .val (.ref b3), .unset, .unset, .unset, .unset, .unset] [])) t
    refine XS.aloadN X3.here hx rfl (hb hby at_10) rfl rfl ?_
    show Steps p.tables e below (T3.setTop (mkF m 11 #[.val (.int p0), .val (.int p1), .val (.int (v0_1 p0)), .val (.ref b3), .unset, .unset, .unset, .unset, .unset] [(.ref b3)])) t
    refine XS.iloadN X3.here hx rfl (hb hby at_11) rfl ?_
    show Steps p.tables e below (T3.setTop (mkF m 12 #[.val (.int p0), .val (.int p1), .val (.int (v0_1 p0)), .val (.ref b3), .unset, .unset, .unset, .unset, .unset] [(.int p1), (.ref b3)])) t
    exact k
  obtain ⟨cq6, kq6, q6a, q6b, q6c⟩ := isOf hZ3 rfl G3_0
  obtain ⟨_, _, ⟨T6, L6, k6, n6⟩, -, X6, ⟨Lc6, hQ6, l6, y6, z6⟩, st6⟩ := X3.virtualBack hx (y := (⟨"com/example/nephele/nephele/VerificationMode", "allows", "(I)Z"⟩ : MethodName)) (z := (⟨"com/example/nephele/nephele/VerificationMode", "allows", "(I)Z"⟩ : MethodName)) hown3 (mvT hZ3 (hw _ (List.mem_of_getElem? (i := 29) rfl))) (mvT hZ3 (hw _ (List.mem_of_getElem? (i := 30) rfl))) (notFace_of_selects (args := #[]) (mvT hZ3 (hw _ (List.mem_of_getElem? (i := 32) rfl)))) (mvT hZ3 (hw _ (List.mem_of_getElem? (i := 32) rfl))) (mvT hZ3 (hw _ (List.mem_of_getElem? (i := 31) rfl))) (by decide) (backOf (W := 0) (rm5 l Z aZ hw [] b3 p1 (v0_1 p0) (2147483647 : Int32) T3.heap n0 Zs3 G3_1 G3_2) hZ3 (hw _ (List.mem_of_getElem? (i := 33) rfl)) (hw _ (List.mem_of_getElem? (i := 3) rfl)) (by decide) (by decide)) q6a q6c (g := (mkF m 12 #[.val (.int p0), .val (.int p1), .val (.int (v0_1 p0)), .val (.ref b3), .unset, .unset, .unset, .unset, .unset] [(.int p1), (.ref b3)])) rfl (by rw [hml]; rfl) (Steps.refl _) (argsL := [(.int p1)]) (rest := []) (lenOf pd_40 rfl) rfl (by show 2 * 0 + _ ≤ _; exact Nat.le_of_eq rfl) (hb hby at_12) (fun _ _ => ⟨rfl, rfl, (by decide : 3 + 0 ≤ _), (by decide : 34 + 0 ≤ _)⟩)
  dsimp only [Pt.U, Pt.locs, Pt.cells, Pt.slots] at X6 l6 y6 z6 st6 hQ6
  subst l6 y6 z6
  obtain ⟨rfl, N6q, e6⟩ := hQ6
  have N6 := Fr.app N3 N6q
  have go7 : ∀ t, Steps p.tables e below (T6.setTop (mkF m 15 #[.val (.int p0), .val (.int p1), .val (.int (v0_1 p0)), .val (.ref b3), .unset, .unset, .unset, .unset, .unset] [(.int (f5 p1 (v0_1 p0) (2147483647 : Int32)))])) t → Steps p.tables e below (s₁.setTop (entryFrame m #[(.int p0), (.int p1)] maxLocals)) t := fun t k => go5 _ (st6.trans k)
  have go9 : ∀ t, Steps p.tables e below (T6.setTop (mkF m 25 #[.val (.int p0), .val (.int p1), .val (.int (v0_1 p0)), .val (.ref b3), .unset, .unset, .unset, .unset, .unset] [(.int (b0_10 p0 p1)), (.int (f5 p1 (v0_1 p0) (2147483647 : Int32)))])) t → Steps p.tables e below (s₁.setTop (entryFrame m #[(.int p0), (.int p1)] maxLocals)) t := by
    intro t k
    refine go7 _ ?_
    refine XS.iloadN X6.here hx rfl (hb hby at_15) rfl ?_
    show Steps p.tables e below (T6.setTop (mkF m 16 #[.val (.int p0), .val (.int p1), .val (.int (v0_1 p0)), .val (.ref b3), .unset, .unset, .unset, .unset, .unset] [(.int p1), (.int (f5 p1 (v0_1 p0) (2147483647 : Int32)))])) t
    refine XS.iloadN X6.here hx rfl (hb hby at_16) rfl ?_
    show Steps p.tables e below (T6.setTop (mkF m 17 #[.val (.int p0), .val (.int p1), .val (.int (v0_1 p0)), .val (.ref b3), .unset, .unset, .unset, .unset, .unset] [(.int (v0_1 p0)), (.int p1), (.int (f5 p1 (v0_1 p0) (2147483647 : Int32)))])) t
    by_cases hc8 : p1 < (v0_1 p0)
    · refine XS.icmpYes X6.here hx rfl (pc0 := 17) (pc' := 24) rfl (hb hby at_17) rfl (XT.ii_lt_t hc8) (by decide) (by decide) ?_
      show Steps p.tables e below (T6.setTop (mkF m 24 #[.val (.int p0), .val (.int p1), .val (.int (v0_1 p0)), .val (.ref b3), .unset, .unset, .unset, .unset, .unset] [(.int (f5 p1 (v0_1 p0) (2147483647 : Int32)))])) t
      refine XS.iconst X6.here hx rfl (hb hby at_24) ?_
      show Steps p.tables e below (T6.setTop (mkF m 25 #[.val (.int p0), .val (.int p1), .val (.int (v0_1 p0)), .val (.ref b3), .unset, .unset, .unset, .unset, .unset] [(.int (0 : Int32)), (.int (f5 p1 (v0_1 p0) (2147483647 : Int32)))])) t
      have hq11 : (b0_10 p0 p1) = (0 : Int32) := by rw [b0_10, if_pos hc8]
      rw [hq11] at k
      exact k
    · refine XS.icmpNo X6.here hx rfl (hb hby at_17) rfl (XT.ii_lt_f hc8) ?_
      show Steps p.tables e below (T6.setTop (mkF m 20 #[.val (.int p0), .val (.int p1), .val (.int (v0_1 p0)), .val (.ref b3), .unset, .unset, .unset, .unset, .unset] [(.int (f5 p1 (v0_1 p0) (2147483647 : Int32)))])) t
      refine XS.iconst X6.here hx rfl (hb hby at_20) ?_
      show Steps p.tables e below (T6.setTop (mkF m 21 #[.val (.int p0), .val (.int p1), .val (.int (v0_1 p0)), .val (.ref b3), .unset, .unset, .unset, .unset, .unset] [(.int (1 : Int32)), (.int (f5 p1 (v0_1 p0) (2147483647 : Int32)))])) t
      refine XS.goto X6.here hx rfl (pc0 := 21) (pc' := 25) rfl (hb hby at_21) (by decide) (by decide) ?_
      show Steps p.tables e below (T6.setTop (mkF m 25 #[.val (.int p0), .val (.int p1), .val (.int (v0_1 p0)), .val (.ref b3), .unset, .unset, .unset, .unset, .unset] [(.int (1 : Int32)), (.int (f5 p1 (v0_1 p0) (2147483647 : Int32)))])) t
      have hq12 : (b0_10 p0 p1) = (1 : Int32) := by rw [b0_10, if_neg hc8]
      rw [hq12] at k
      exact k
  have go14 : ∀ t, Steps p.tables e below (T6.setTop (mkF m 33 #[.val (.int p0), .val (.int p1), .val (.int (v0_1 p0)), .val (.ref b3), .unset, .unset, .unset, .unset, .unset] [(.int (b0_15 p0 p1))])) t → Steps p.tables e below (s₁.setTop (entryFrame m #[(.int p0), (.int p1)] maxLocals)) t := by
    intro t k
    refine go9 _ ?_
    by_cases hc13 : (f5 p1 (v0_1 p0) (2147483647 : Int32)) = (b0_10 p0 p1)
    · refine XS.icmpNo X6.here hx rfl (hb hby at_25) rfl (XT.ii_ne_f hc13) ?_
      show Steps p.tables e below (T6.setTop (mkF m 28 #[.val (.int p0), .val (.int p1), .val (.int (v0_1 p0)), .val (.ref b3), .unset, .unset, .unset, .unset, .unset] [])) t
      refine XS.iconst X6.here hx rfl (hb hby at_28) ?_
      show Steps p.tables e below (T6.setTop (mkF m 29 #[.val (.int p0), .val (.int p1), .val (.int (v0_1 p0)), .val (.ref b3), .unset, .unset, .unset, .unset, .unset] [(.int (1 : Int32))])) t
      refine XS.goto X6.here hx rfl (pc0 := 29) (pc' := 33) rfl (hb hby at_29) (by decide) (by decide) ?_
      show Steps p.tables e below (T6.setTop (mkF m 33 #[.val (.int p0), .val (.int p1), .val (.int (v0_1 p0)), .val (.ref b3), .unset, .unset, .unset, .unset, .unset] [(.int (1 : Int32))])) t
      have hq16 : (b0_15 p0 p1) = (1 : Int32) := by rw [b0_15, if_pos hc13]
      rw [hq16] at k
      exact k
    · refine XS.icmpYes X6.here hx rfl (pc0 := 25) (pc' := 32) rfl (hb hby at_25) rfl (XT.ii_ne_t hc13) (by decide) (by decide) ?_
      show Steps p.tables e below (T6.setTop (mkF m 32 #[.val (.int p0), .val (.int p1), .val (.int (v0_1 p0)), .val (.ref b3), .unset, .unset, .unset, .unset, .unset] [])) t
      refine XS.iconst X6.here hx rfl (hb hby at_32) ?_
      show Steps p.tables e below (T6.setTop (mkF m 33 #[.val (.int p0), .val (.int p1), .val (.int (v0_1 p0)), .val (.ref b3), .unset, .unset, .unset, .unset, .unset] [(.int (0 : Int32))])) t
      have hq17 : (b0_15 p0 p1) = (0 : Int32) := by rw [b0_15, if_neg hc13]
      rw [hq17] at k
      exact k
  have go18 : ∀ t, Steps p.tables e below (T6.setTop (mkF m 37 #[.val (.int p0), .val (.int p1), .val (.int (v0_1 p0)), .val (.ref b3), .val (.int (b0_15 p0 p1)), .unset, .unset, .unset, .unset] [(.int (v0_1 p0)), (.ref b3)])) t → Steps p.tables e below (s₁.setTop (entryFrame m #[(.int p0), (.int p1)] maxLocals)) t := by
    intro t k
    refine go14 _ ?_
    refine XS.istore X6.here hx rfl (hb hby at_33) rfl (l' := #[.val (.int p0), .val (.int p1), .val (.int (v0_1 p0)), .val (.ref b3), .val (.int (b0_15 p0 p1)), .unset, .unset, .unset, .unset]) rfl ?_
    show Steps p.tables e below (T6.setTop (mkF m 35 #[.val (.int p0), .val (.int p1), .val (.int (v0_1 p0)), .val (.ref b3), .val (.int (b0_15 p0 p1)), .unset, .unset, .unset, .unset] [])) t
    refine XS.aloadN X6.here hx rfl (hb hby at_35) rfl rfl ?_
    show Steps p.tables e below (T6.setTop (mkF m 36 #[.val (.int p0), .val (.int p1), .val (.int (v0_1 p0)), .val (.ref b3), .val (.int (b0_15 p0 p1)), .unset, .unset, .unset, .unset] [(.ref b3)])) t
    refine XS.iloadN X6.here hx rfl (hb hby at_36) rfl ?_
    show Steps p.tables e below (T6.setTop (mkF m 37 #[.val (.int p0), .val (.int p1), .val (.int (v0_1 p0)), .val (.ref b3), .val (.int (b0_15 p0 p1)), .unset, .unset, .unset, .unset] [(.int (v0_1 p0)), (.ref b3)])) t
    exact k
  obtain ⟨cq19, kq19, q19a, q19b, q19c⟩ := isOf hZ3 e6 G3_0
  obtain ⟨_, _, ⟨T19, L19, k19, n19⟩, -, X19, ⟨Lc19, hQ19, l19, y19, z19⟩, st19⟩ := X6.virtualBack hx (y := (⟨"com/example/nephele/nephele/VerificationMode", "allows", "(I)Z"⟩ : MethodName)) (z := (⟨"com/example/nephele/nephele/VerificationMode", "allows", "(I)Z"⟩ : MethodName)) hown3 (mvT hZ3 (hw _ (List.mem_of_getElem? (i := 29) rfl))) (mvT hZ3 (hw _ (List.mem_of_getElem? (i := 30) rfl))) (notFace_of_selects (args := #[]) (mvT hZ3 (hw _ (List.mem_of_getElem? (i := 32) rfl)))) (mvT hZ3 (hw _ (List.mem_of_getElem? (i := 32) rfl))) (mvT hZ3 (hw _ (List.mem_of_getElem? (i := 31) rfl))) (by decide) (backOf (W := 0) (rm5 l Z aZ hw [] b3 (v0_1 p0) (v0_1 p0) (2147483647 : Int32) T3.heap n0 Zs3 G3_1 G3_2) hZ3 (hw _ (List.mem_of_getElem? (i := 33) rfl)) (hw _ (List.mem_of_getElem? (i := 3) rfl)) (by decide) (by decide)) q19a q19c (g := (mkF m 37 #[.val (.int p0), .val (.int p1), .val (.int (v0_1 p0)), .val (.ref b3), .val (.int (b0_15 p0 p1)), .unset, .unset, .unset, .unset] [(.int (v0_1 p0)), (.ref b3)])) rfl (by rw [hml]; rfl) (Steps.refl _) (argsL := [(.int (v0_1 p0))]) (rest := []) (lenOf pd_40 rfl) rfl (by show 2 * 0 + _ ≤ _; exact Nat.le_of_eq rfl) (hb hby at_37) (fun _ _ => ⟨rfl, e6, (by decide : 3 + 0 ≤ _), (by decide : 34 + 0 ≤ _)⟩)
  dsimp only [Pt.U, Pt.locs, Pt.cells, Pt.slots] at X19 l19 y19 z19 st19 hQ19
  subst l19 y19 z19
  obtain ⟨rfl, N19q, e19⟩ := hQ19
  have N19 := Fr.app N6 N19q
  have go20 : ∀ t, Steps p.tables e below (T19.setTop (mkF m 40 #[.val (.int p0), .val (.int p1), .val (.int (v0_1 p0)), .val (.ref b3), .val (.int (b0_15 p0 p1)), .unset, .unset, .unset, .unset] [(.int (f5 (v0_1 p0) (v0_1 p0) (2147483647 : Int32)))])) t → Steps p.tables e below (s₁.setTop (entryFrame m #[(.int p0), (.int p1)] maxLocals)) t := fun t k => go18 _ (st19.trans k)
  have go22 : ∀ t, Steps p.tables e below (T19.setTop (mkF m 43 #[.val (.int p0), .val (.int p1), .val (.int (v0_1 p0)), .val (.ref b3), .val (.int (b0_15 p0 p1)), .val (.int (v0_21 p0)), .unset, .unset, .unset] [(.int (v0_1 p0))])) t → Steps p.tables e below (s₁.setTop (entryFrame m #[(.int p0), (.int p1)] maxLocals)) t := by
    intro t k
    refine go20 _ ?_
    show Steps p.tables e below (T19.setTop (mkF m 40 #[.val (.int p0), .val (.int p1), .val (.int (v0_1 p0)), .val (.ref b3), .val (.int (b0_15 p0 p1)), .unset, .unset, .unset, .unset] [(.int (v0_21 p0))])) t
    refine XS.istore X19.here hx rfl (hb hby at_40) rfl (l' := #[.val (.int p0), .val (.int p1), .val (.int (v0_1 p0)), .val (.ref b3), .val (.int (b0_15 p0 p1)), .val (.int (v0_21 p0)), .unset, .unset, .unset]) rfl ?_
    show Steps p.tables e below (T19.setTop (mkF m 42 #[.val (.int p0), .val (.int p1), .val (.int (v0_1 p0)), .val (.ref b3), .val (.int (b0_15 p0 p1)), .val (.int (v0_21 p0)), .unset, .unset, .unset] [])) t
    refine XS.iloadN X19.here hx rfl (hb hby at_42) rfl ?_
    show Steps p.tables e below (T19.setTop (mkF m 43 #[.val (.int p0), .val (.int p1), .val (.int (v0_1 p0)), .val (.ref b3), .val (.int (b0_15 p0 p1)), .val (.int (v0_21 p0)), .unset, .unset, .unset] [(.int (v0_1 p0))])) t
    exact k
  by_cases hs23 : (v0_1 p0) = (0 : Int32)
  · have go24 : ∀ t, Steps p.tables e below (T19.setTop (mkF m 66 #[.val (.int p0), .val (.int p1), .val (.int (v0_1 p0)), .val (.ref b3), .val (.int (b0_15 p0 p1)), .val (.int (v0_21 p0)), .val (.int (1 : Int32)), .unset, .unset] [(.int (2147483647 : Int32)), (.ref b3)])) t → Steps p.tables e below (s₁.setTop (entryFrame m #[(.int p0), (.int p1)] maxLocals)) t := by
      intro t k
      refine go22 _ ?_
      refine XS.ifYes X19.here hx rfl (pc0 := 43) (pc' := 56) rfl (hb hby at_43) rfl (XT.i0_eq_t hs23) (by decide) (by decide) ?_
      show Steps p.tables e below (T19.setTop (mkF m 56 #[.val (.int p0), .val (.int p1), .val (.int (v0_1 p0)), .val (.ref b3), .val (.int (b0_15 p0 p1)), .val (.int (v0_21 p0)), .unset, .unset, .unset] [])) t
      refine XS.iconst X19.here hx rfl (hb hby at_56) ?_
      show Steps p.tables e below (T19.setTop (mkF m 57 #[.val (.int p0), .val (.int p1), .val (.int (v0_1 p0)), .val (.ref b3), .val (.int (b0_15 p0 p1)), .val (.int (v0_21 p0)), .unset, .unset, .unset] [(.int (1 : Int32))])) t
      refine XS.goto X19.here hx rfl (pc0 := 57) (pc' := 61) rfl (hb hby at_57) (by decide) (by decide) ?_
      show Steps p.tables e below (T19.setTop (mkF m 61 #[.val (.int p0), .val (.int p1), .val (.int (v0_1 p0)), .val (.ref b3), .val (.int (b0_15 p0 p1)), .val (.int (v0_21 p0)), .unset, .unset, .unset] [(.int (1 : Int32))])) t
      refine XS.istore X19.here hx rfl (hb hby at_61) rfl (l' := #[.val (.int p0), .val (.int p1), .val (.int (v0_1 p0)), .val (.ref b3), .val (.int (b0_15 p0 p1)), .val (.int (v0_21 p0)), .val (.int (1 : Int32)), .unset, .unset]) rfl ?_
      show Steps p.tables e below (T19.setTop (mkF m 63 #[.val (.int p0), .val (.int p1), .val (.int (v0_1 p0)), .val (.ref b3), .val (.int (b0_15 p0 p1)), .val (.int (v0_21 p0)), .val (.int (1 : Int32)), .unset, .unset] [])) t
      refine XS.aloadN X19.here hx rfl (hb hby at_63) rfl rfl ?_
      show Steps p.tables e below (T19.setTop (mkF m 64 #[.val (.int p0), .val (.int p1), .val (.int (v0_1 p0)), .val (.ref b3), .val (.int (b0_15 p0 p1)), .val (.int (v0_21 p0)), .val (.int (1 : Int32)), .unset, .unset] [(.ref b3)])) t
      refine X19.ldcInt hx hown3 (mvT hZ3 (hw _ (List.mem_of_getElem? (i := 0) rfl))) (g := (mkF m 64 #[.val (.int p0), .val (.int p1), .val (.int (v0_1 p0)), .val (.ref b3), .val (.int (b0_15 p0 p1)), .val (.int (v0_21 p0)), .val (.int (1 : Int32)), .unset, .unset] [(.ref b3)])) rfl (hb hby at_64) _ ?_
      show Steps p.tables e below (T19.setTop (mkF m 66 #[.val (.int p0), .val (.int p1), .val (.int (v0_1 p0)), .val (.ref b3), .val (.int (b0_15 p0 p1)), .val (.int (v0_21 p0)), .val (.int (1 : Int32)), .unset, .unset] [(.int (2147483647 : Int32)), (.ref b3)])) t
      exact k
    obtain ⟨cq25, kq25, q25a, q25b, q25c⟩ := isOf hZ3 e19 G3_0
    obtain ⟨_, _, ⟨T25, L25, k25, n25⟩, -, X25, ⟨Lc25, hQ25, l25, y25, z25⟩, st25⟩ := X19.virtualBack hx (y := (⟨"com/example/nephele/nephele/VerificationMode", "allows", "(I)Z"⟩ : MethodName)) (z := (⟨"com/example/nephele/nephele/VerificationMode", "allows", "(I)Z"⟩ : MethodName)) hown3 (mvT hZ3 (hw _ (List.mem_of_getElem? (i := 29) rfl))) (mvT hZ3 (hw _ (List.mem_of_getElem? (i := 30) rfl))) (notFace_of_selects (args := #[]) (mvT hZ3 (hw _ (List.mem_of_getElem? (i := 32) rfl)))) (mvT hZ3 (hw _ (List.mem_of_getElem? (i := 32) rfl))) (mvT hZ3 (hw _ (List.mem_of_getElem? (i := 31) rfl))) (by decide) (backOf (W := 0) (rm5 l Z aZ hw [] b3 (2147483647 : Int32) (v0_1 p0) (2147483647 : Int32) T3.heap n0 Zs3 G3_1 G3_2) hZ3 (hw _ (List.mem_of_getElem? (i := 33) rfl)) (hw _ (List.mem_of_getElem? (i := 3) rfl)) (by decide) (by decide)) q25a q25c (g := (mkF m 66 #[.val (.int p0), .val (.int p1), .val (.int (v0_1 p0)), .val (.ref b3), .val (.int (b0_15 p0 p1)), .val (.int (v0_21 p0)), .val (.int (1 : Int32)), .unset, .unset] [(.int (2147483647 : Int32)), (.ref b3)])) rfl (by rw [hml]; rfl) (Steps.refl _) (argsL := [(.int (2147483647 : Int32))]) (rest := []) (lenOf pd_40 rfl) rfl (by show 2 * 0 + _ ≤ _; exact Nat.le_of_eq rfl) (hb hby at_66) (fun _ _ => ⟨rfl, e19, (by decide : 3 + 0 ≤ _), (by decide : 34 + 0 ≤ _)⟩)
    dsimp only [Pt.U, Pt.locs, Pt.cells, Pt.slots] at X25 l25 y25 z25 st25 hQ25
    subst l25 y25 z25
    obtain ⟨rfl, N25q, e25⟩ := hQ25
    have N25 := Fr.app N19 N25q
    have go26 : ∀ t, Steps p.tables e below (T25.setTop (mkF m 69 #[.val (.int p0), .val (.int p1), .val (.int (v0_1 p0)), .val (.ref b3), .val (.int (b0_15 p0 p1)), .val (.int (v0_21 p0)), .val (.int (1 : Int32)), .unset, .unset] [(.int (f5 (2147483647 : Int32) (v0_1 p0) (2147483647 : Int32)))])) t → Steps p.tables e below (s₁.setTop (entryFrame m #[(.int p0), (.int p1)] maxLocals)) t := fun t k => go24 _ (st25.trans k)
    have go28 : ∀ t, Steps p.tables e below (T25.setTop (mkF m 74 #[.val (.int p0), .val (.int p1), .val (.int (v0_1 p0)), .val (.ref b3), .val (.int (b0_15 p0 p1)), .val (.int (v0_21 p0)), .val (.int (1 : Int32)), .val (.int (v0_27 p0)), .unset] [(.int (-2147483648 : Int32)), (.ref b3)])) t → Steps p.tables e below (s₁.setTop (entryFrame m #[(.int p0), (.int p1)] maxLocals)) t := by
      intro t k
      refine go26 _ ?_
      show Steps p.tables e below (T25.setTop (mkF m 69 #[.val (.int p0), .val (.int p1), .val (.int (v0_1 p0)), .val (.ref b3), .val (.int (b0_15 p0 p1)), .val (.int (v0_21 p0)), .val (.int (1 : Int32)), .unset, .unset] [(.int (v0_27 p0))])) t
      refine XS.istore X25.here hx rfl (hb hby at_69) rfl (l' := #[.val (.int p0), .val (.int p1), .val (.int (v0_1 p0)), .val (.ref b3), .val (.int (b0_15 p0 p1)), .val (.int (v0_21 p0)), .val (.int (1 : Int32)), .val (.int (v0_27 p0)), .unset]) rfl ?_
      show Steps p.tables e below (T25.setTop (mkF m 71 #[.val (.int p0), .val (.int p1), .val (.int (v0_1 p0)), .val (.ref b3), .val (.int (b0_15 p0 p1)), .val (.int (v0_21 p0)), .val (.int (1 : Int32)), .val (.int (v0_27 p0)), .unset] [])) t
      refine XS.aloadN X25.here hx rfl (hb hby at_71) rfl rfl ?_
      show Steps p.tables e below (T25.setTop (mkF m 72 #[.val (.int p0), .val (.int p1), .val (.int (v0_1 p0)), .val (.ref b3), .val (.int (b0_15 p0 p1)), .val (.int (v0_21 p0)), .val (.int (1 : Int32)), .val (.int (v0_27 p0)), .unset] [(.ref b3)])) t
      refine X25.ldcInt hx hown3 (mvT hZ3 (hw _ (List.mem_of_getElem? (i := 34) rfl))) (g := (mkF m 72 #[.val (.int p0), .val (.int p1), .val (.int (v0_1 p0)), .val (.ref b3), .val (.int (b0_15 p0 p1)), .val (.int (v0_21 p0)), .val (.int (1 : Int32)), .val (.int (v0_27 p0)), .unset] [(.ref b3)])) rfl (hb hby at_72) _ ?_
      show Steps p.tables e below (T25.setTop (mkF m 74 #[.val (.int p0), .val (.int p1), .val (.int (v0_1 p0)), .val (.ref b3), .val (.int (b0_15 p0 p1)), .val (.int (v0_21 p0)), .val (.int (1 : Int32)), .val (.int (v0_27 p0)), .unset] [(.int (-2147483648 : Int32)), (.ref b3)])) t
      exact k
    obtain ⟨cq29, kq29, q29a, q29b, q29c⟩ := isOf hZ3 e25 G3_0
    obtain ⟨_, _, ⟨T29, L29, k29, n29⟩, -, X29, ⟨Lc29, hQ29, l29, y29, z29⟩, st29⟩ := X25.virtualBack hx (y := (⟨"com/example/nephele/nephele/VerificationMode", "allows", "(I)Z"⟩ : MethodName)) (z := (⟨"com/example/nephele/nephele/VerificationMode", "allows", "(I)Z"⟩ : MethodName)) hown3 (mvT hZ3 (hw _ (List.mem_of_getElem? (i := 29) rfl))) (mvT hZ3 (hw _ (List.mem_of_getElem? (i := 30) rfl))) (notFace_of_selects (args := #[]) (mvT hZ3 (hw _ (List.mem_of_getElem? (i := 32) rfl)))) (mvT hZ3 (hw _ (List.mem_of_getElem? (i := 32) rfl))) (mvT hZ3 (hw _ (List.mem_of_getElem? (i := 31) rfl))) (by decide) (backOf (W := 0) (rm5 l Z aZ hw [] b3 (-2147483648 : Int32) (v0_1 p0) (2147483647 : Int32) T3.heap n0 Zs3 G3_1 G3_2) hZ3 (hw _ (List.mem_of_getElem? (i := 33) rfl)) (hw _ (List.mem_of_getElem? (i := 3) rfl)) (by decide) (by decide)) q29a q29c (g := (mkF m 74 #[.val (.int p0), .val (.int p1), .val (.int (v0_1 p0)), .val (.ref b3), .val (.int (b0_15 p0 p1)), .val (.int (v0_21 p0)), .val (.int (1 : Int32)), .val (.int (v0_27 p0)), .unset] [(.int (-2147483648 : Int32)), (.ref b3)])) rfl (by rw [hml]; rfl) (Steps.refl _) (argsL := [(.int (-2147483648 : Int32))]) (rest := []) (lenOf pd_40 rfl) rfl (by show 2 * 0 + _ ≤ _; exact Nat.le_of_eq rfl) (hb hby at_74) (fun _ _ => ⟨rfl, e25, (by decide : 3 + 0 ≤ _), (by decide : 34 + 0 ≤ _)⟩)
    dsimp only [Pt.U, Pt.locs, Pt.cells, Pt.slots] at X29 l29 y29 z29 st29 hQ29
    subst l29 y29 z29
    obtain ⟨rfl, N29q, e29⟩ := hQ29
    have N29 := Fr.app N25 N29q
    have go30 : ∀ t, Steps p.tables e below (T29.setTop (mkF m 77 #[.val (.int p0), .val (.int p1), .val (.int (v0_1 p0)), .val (.ref b3), .val (.int (b0_15 p0 p1)), .val (.int (v0_21 p0)), .val (.int (1 : Int32)), .val (.int (v0_27 p0)), .unset] [(.int (f5 (-2147483648 : Int32) (v0_1 p0) (2147483647 : Int32)))])) t → Steps p.tables e below (s₁.setTop (entryFrame m #[(.int p0), (.int p1)] maxLocals)) t := fun t k => go28 _ (st29.trans k)
    have go32 : ∀ t, Steps p.tables e below (T29.setTop (mkF m 85 #[.val (.int p0), .val (.int p1), .val (.int (v0_1 p0)), .val (.ref b3), .val (.int (b0_15 p0 p1)), .val (.int (v0_21 p0)), .val (.int (1 : Int32)), .val (.int (v0_27 p0)), .unset] [(.int (b0_33 p0))])) t → Steps p.tables e below (s₁.setTop (entryFrame m #[(.int p0), (.int p1)] maxLocals)) t := by
      intro t k
      refine go30 _ ?_
      by_cases hc31 : (f5 (-2147483648 : Int32) (v0_1 p0) (2147483647 : Int32)) = (0 : Int32)
      · refine XS.ifNo X29.here hx rfl (hb hby at_77) rfl (XT.i0_ne_f hc31) ?_
        show Steps p.tables e below (T29.setTop (mkF m 80 #[.val (.int p0), .val (.int p1), .val (.int (v0_1 p0)), .val (.ref b3), .val (.int (b0_15 p0 p1)), .val (.int (v0_21 p0)), .val (.int (1 : Int32)), .val (.int (v0_27 p0)), .unset] [])) t
        refine XS.iconst X29.here hx rfl (hb hby at_80) ?_
        show Steps p.tables e below (T29.setTop (mkF m 81 #[.val (.int p0), .val (.int p1), .val (.int (v0_1 p0)), .val (.ref b3), .val (.int (b0_15 p0 p1)), .val (.int (v0_21 p0)), .val (.int (1 : Int32)), .val (.int (v0_27 p0)), .unset] [(.int (1 : Int32))])) t
        refine XS.goto X29.here hx rfl (pc0 := 81) (pc' := 85) rfl (hb hby at_81) (by decide) (by decide) ?_
        show Steps p.tables e below (T29.setTop (mkF m 85 #[.val (.int p0), .val (.int p1), .val (.int (v0_1 p0)), .val (.ref b3), .val (.int (b0_15 p0 p1)), .val (.int (v0_21 p0)), .val (.int (1 : Int32)), .val (.int (v0_27 p0)), .unset] [(.int (1 : Int32))])) t
        have hq34 : (b0_33 p0) = (1 : Int32) := by rw [b0_33, if_pos hc31]
        rw [hq34] at k
        exact k
      · refine XS.ifYes X29.here hx rfl (pc0 := 77) (pc' := 84) rfl (hb hby at_77) rfl (XT.i0_ne_t hc31) (by decide) (by decide) ?_
        show Steps p.tables e below (T29.setTop (mkF m 84 #[.val (.int p0), .val (.int p1), .val (.int (v0_1 p0)), .val (.ref b3), .val (.int (b0_15 p0 p1)), .val (.int (v0_21 p0)), .val (.int (1 : Int32)), .val (.int (v0_27 p0)), .unset] [])) t
        refine XS.iconst X29.here hx rfl (hb hby at_84) ?_
        show Steps p.tables e below (T29.setTop (mkF m 85 #[.val (.int p0), .val (.int p1), .val (.int (v0_1 p0)), .val (.ref b3), .val (.int (b0_15 p0 p1)), .val (.int (v0_21 p0)), .val (.int (1 : Int32)), .val (.int (v0_27 p0)), .unset] [(.int (0 : Int32))])) t
        have hq35 : (b0_33 p0) = (0 : Int32) := by rw [b0_33, if_neg hc31]
        rw [hq35] at k
        exact k
    have go40 : ∀ t, Steps p.tables e below (T29.setTop (mkF m 117 #[.val (.int p0), .val (.int p1), .val (.int (v0_1 p0)), .val (.ref b3), .val (.int (b0_15 p0 p1)), .val (.int (v0_21 p0)), .val (.int (1 : Int32)), .val (.int (v0_27 p0)), .val (.int (b0_33 p0))] [(.int (b0_41 p0 p1))])) t → Steps p.tables e below (s₁.setTop (entryFrame m #[(.int p0), (.int p1)] maxLocals)) t := by
      intro t k
      refine go32 _ ?_
      refine XS.istore X29.here hx rfl (hb hby at_85) rfl (l' := #[.val (.int p0), .val (.int p1), .val (.int (v0_1 p0)), .val (.ref b3), .val (.int (b0_15 p0 p1)), .val (.int (v0_21 p0)), .val (.int (1 : Int32)), .val (.int (v0_27 p0)), .val (.int (b0_33 p0))]) rfl ?_
      show Steps p.tables e below (T29.setTop (mkF m 87 #[.val (.int p0), .val (.int p1), .val (.int (v0_1 p0)), .val (.ref b3), .val (.int (b0_15 p0 p1)), .val (.int (v0_21 p0)), .val (.int (1 : Int32)), .val (.int (v0_27 p0)), .val (.int (b0_33 p0))] [])) t
      refine XS.iload X29.here hx rfl (hb hby at_87) rfl ?_
      show Steps p.tables e below (T29.setTop (mkF m 89 #[.val (.int p0), .val (.int p1), .val (.int (v0_1 p0)), .val (.ref b3), .val (.int (b0_15 p0 p1)), .val (.int (v0_21 p0)), .val (.int (1 : Int32)), .val (.int (v0_27 p0)), .val (.int (b0_33 p0))] [(.int (b0_15 p0 p1))])) t
      by_cases hc36 : (b0_15 p0 p1) = (0 : Int32)
      · refine XS.ifYes X29.here hx rfl (pc0 := 89) (pc' := 116) rfl (hb hby at_89) rfl (XT.i0_eq_t hc36) (by decide) (by decide) ?_
        show Steps p.tables e below (T29.setTop (mkF m 116 #[.val (.int p0), .val (.int p1), .val (.int (v0_1 p0)), .val (.ref b3), .val (.int (b0_15 p0 p1)), .val (.int (v0_21 p0)), .val (.int (1 : Int32)), .val (.int (v0_27 p0)), .val (.int (b0_33 p0))] [])) t
        refine XS.iconst X29.here hx rfl (hb hby at_116) ?_
        show Steps p.tables e below (T29.setTop (mkF m 117 #[.val (.int p0), .val (.int p1), .val (.int (v0_1 p0)), .val (.ref b3), .val (.int (b0_15 p0 p1)), .val (.int (v0_21 p0)), .val (.int (1 : Int32)), .val (.int (v0_27 p0)), .val (.int (b0_33 p0))] [(.int (0 : Int32))])) t
        have hq42 : (b0_41 p0 p1) = (0 : Int32) := by rw [b0_41, if_pos hc36]
        rw [hq42] at k
        exact k
      · refine XS.ifNo X29.here hx rfl (hb hby at_89) rfl (XT.i0_eq_f hc36) ?_
        show Steps p.tables e below (T29.setTop (mkF m 92 #[.val (.int p0), .val (.int p1), .val (.int (v0_1 p0)), .val (.ref b3), .val (.int (b0_15 p0 p1)), .val (.int (v0_21 p0)), .val (.int (1 : Int32)), .val (.int (v0_27 p0)), .val (.int (b0_33 p0))] [])) t
        refine XS.iload X29.here hx rfl (hb hby at_92) rfl ?_
        show Steps p.tables e below (T29.setTop (mkF m 94 #[.val (.int p0), .val (.int p1), .val (.int (v0_1 p0)), .val (.ref b3), .val (.int (b0_15 p0 p1)), .val (.int (v0_21 p0)), .val (.int (1 : Int32)), .val (.int (v0_27 p0)), .val (.int (b0_33 p0))] [(.int (v0_21 p0))])) t
        by_cases hc37 : (v0_21 p0) = (0 : Int32)
        · refine XS.ifYes X29.here hx rfl (pc0 := 94) (pc' := 116) rfl (hb hby at_94) rfl (XT.i0_eq_t hc37) (by decide) (by decide) ?_
          show Steps p.tables e below (T29.setTop (mkF m 116 #[.val (.int p0), .val (.int p1), .val (.int (v0_1 p0)), .val (.ref b3), .val (.int (b0_15 p0 p1)), .val (.int (v0_21 p0)), .val (.int (1 : Int32)), .val (.int (v0_27 p0)), .val (.int (b0_33 p0))] [])) t
          refine XS.iconst X29.here hx rfl (hb hby at_116) ?_
          show Steps p.tables e below (T29.setTop (mkF m 117 #[.val (.int p0), .val (.int p1), .val (.int (v0_1 p0)), .val (.ref b3), .val (.int (b0_15 p0 p1)), .val (.int (v0_21 p0)), .val (.int (1 : Int32)), .val (.int (v0_27 p0)), .val (.int (b0_33 p0))] [(.int (0 : Int32))])) t
          have hq43 : (b0_41 p0 p1) = (0 : Int32) := by rw [b0_41, if_neg hc36, if_pos hc37]
          rw [hq43] at k
          exact k
        · refine XS.ifNo X29.here hx rfl (hb hby at_94) rfl (XT.i0_eq_f hc37) ?_
          show Steps p.tables e below (T29.setTop (mkF m 97 #[.val (.int p0), .val (.int p1), .val (.int (v0_1 p0)), .val (.ref b3), .val (.int (b0_15 p0 p1)), .val (.int (v0_21 p0)), .val (.int (1 : Int32)), .val (.int (v0_27 p0)), .val (.int (b0_33 p0))] [])) t
          refine XS.iload X29.here hx rfl (hb hby at_97) rfl ?_
          show Steps p.tables e below (T29.setTop (mkF m 99 #[.val (.int p0), .val (.int p1), .val (.int (v0_1 p0)), .val (.ref b3), .val (.int (b0_15 p0 p1)), .val (.int (v0_21 p0)), .val (.int (1 : Int32)), .val (.int (v0_27 p0)), .val (.int (b0_33 p0))] [(.int (1 : Int32))])) t
          refine XS.ifNo X29.here hx rfl (hb hby at_99) rfl (XT.i0_eq_f (by decide : ¬ ((1 : Int32) = (0 : Int32)))) ?_
          show Steps p.tables e below (T29.setTop (mkF m 102 #[.val (.int p0), .val (.int p1), .val (.int (v0_1 p0)), .val (.ref b3), .val (.int (b0_15 p0 p1)), .val (.int (v0_21 p0)), .val (.int (1 : Int32)), .val (.int (v0_27 p0)), .val (.int (b0_33 p0))] [])) t
          refine XS.iload X29.here hx rfl (hb hby at_102) rfl ?_
          show Steps p.tables e below (T29.setTop (mkF m 104 #[.val (.int p0), .val (.int p1), .val (.int (v0_1 p0)), .val (.ref b3), .val (.int (b0_15 p0 p1)), .val (.int (v0_21 p0)), .val (.int (1 : Int32)), .val (.int (v0_27 p0)), .val (.int (b0_33 p0))] [(.int (v0_27 p0))])) t
          by_cases hc38 : (v0_27 p0) = (0 : Int32)
          · refine XS.ifYes X29.here hx rfl (pc0 := 104) (pc' := 116) rfl (hb hby at_104) rfl (XT.i0_eq_t hc38) (by decide) (by decide) ?_
            show Steps p.tables e below (T29.setTop (mkF m 116 #[.val (.int p0), .val (.int p1), .val (.int (v0_1 p0)), .val (.ref b3), .val (.int (b0_15 p0 p1)), .val (.int (v0_21 p0)), .val (.int (1 : Int32)), .val (.int (v0_27 p0)), .val (.int (b0_33 p0))] [])) t
            refine XS.iconst X29.here hx rfl (hb hby at_116) ?_
            show Steps p.tables e below (T29.setTop (mkF m 117 #[.val (.int p0), .val (.int p1), .val (.int (v0_1 p0)), .val (.ref b3), .val (.int (b0_15 p0 p1)), .val (.int (v0_21 p0)), .val (.int (1 : Int32)), .val (.int (v0_27 p0)), .val (.int (b0_33 p0))] [(.int (0 : Int32))])) t
            have hq44 : (b0_41 p0 p1) = (0 : Int32) := by rw [b0_41, if_neg hc36, if_neg hc37, if_pos hc38]
            rw [hq44] at k
            exact k
          · refine XS.ifNo X29.here hx rfl (hb hby at_104) rfl (XT.i0_eq_f hc38) ?_
            show Steps p.tables e below (T29.setTop (mkF m 107 #[.val (.int p0), .val (.int p1), .val (.int (v0_1 p0)), .val (.ref b3), .val (.int (b0_15 p0 p1)), .val (.int (v0_21 p0)), .val (.int (1 : Int32)), .val (.int (v0_27 p0)), .val (.int (b0_33 p0))] [])) t
            refine XS.iload X29.here hx rfl (hb hby at_107) rfl ?_
            show Steps p.tables e below (T29.setTop (mkF m 109 #[.val (.int p0), .val (.int p1), .val (.int (v0_1 p0)), .val (.ref b3), .val (.int (b0_15 p0 p1)), .val (.int (v0_21 p0)), .val (.int (1 : Int32)), .val (.int (v0_27 p0)), .val (.int (b0_33 p0))] [(.int (b0_33 p0))])) t
            by_cases hc39 : (b0_33 p0) = (0 : Int32)
            · refine XS.ifYes X29.here hx rfl (pc0 := 109) (pc' := 116) rfl (hb hby at_109) rfl (XT.i0_eq_t hc39) (by decide) (by decide) ?_
              show Steps p.tables e below (T29.setTop (mkF m 116 #[.val (.int p0), .val (.int p1), .val (.int (v0_1 p0)), .val (.ref b3), .val (.int (b0_15 p0 p1)), .val (.int (v0_21 p0)), .val (.int (1 : Int32)), .val (.int (v0_27 p0)), .val (.int (b0_33 p0))] [])) t
              refine XS.iconst X29.here hx rfl (hb hby at_116) ?_
              show Steps p.tables e below (T29.setTop (mkF m 117 #[.val (.int p0), .val (.int p1), .val (.int (v0_1 p0)), .val (.ref b3), .val (.int (b0_15 p0 p1)), .val (.int (v0_21 p0)), .val (.int (1 : Int32)), .val (.int (v0_27 p0)), .val (.int (b0_33 p0))] [(.int (0 : Int32))])) t
              have hq45 : (b0_41 p0 p1) = (0 : Int32) := by rw [b0_41, if_neg hc36, if_neg hc37, if_neg hc38, if_pos hc39]
              rw [hq45] at k
              exact k
            · refine XS.ifNo X29.here hx rfl (hb hby at_109) rfl (XT.i0_eq_f hc39) ?_
              show Steps p.tables e below (T29.setTop (mkF m 112 #[.val (.int p0), .val (.int p1), .val (.int (v0_1 p0)), .val (.ref b3), .val (.int (b0_15 p0 p1)), .val (.int (v0_21 p0)), .val (.int (1 : Int32)), .val (.int (v0_27 p0)), .val (.int (b0_33 p0))] [])) t
              refine XS.iconst X29.here hx rfl (hb hby at_112) ?_
              show Steps p.tables e below (T29.setTop (mkF m 113 #[.val (.int p0), .val (.int p1), .val (.int (v0_1 p0)), .val (.ref b3), .val (.int (b0_15 p0 p1)), .val (.int (v0_21 p0)), .val (.int (1 : Int32)), .val (.int (v0_27 p0)), .val (.int (b0_33 p0))] [(.int (1 : Int32))])) t
              refine XS.goto X29.here hx rfl (pc0 := 113) (pc' := 117) rfl (hb hby at_113) (by decide) (by decide) ?_
              show Steps p.tables e below (T29.setTop (mkF m 117 #[.val (.int p0), .val (.int p1), .val (.int (v0_1 p0)), .val (.ref b3), .val (.int (b0_15 p0 p1)), .val (.int (v0_21 p0)), .val (.int (1 : Int32)), .val (.int (v0_27 p0)), .val (.int (b0_33 p0))] [(.int (1 : Int32))])) t
              have hq46 : (b0_41 p0 p1) = (1 : Int32) := by rw [b0_41, if_neg hc36, if_neg hc37, if_neg hc38, if_neg hc39]
              rw [hq46] at k
              exact k
    obtain ⟨fs, hr, hrun, hended, hRW⟩ := X29.leaveW hS3 (by rw [e29]; exact hk3r) (v := some (.int (b0_41 p0 p1))) (fun h => by rw [Bd.returns] at h; cases h)
    refine ⟨_, _, go40 _ (Jvm.RoadKit.retOut X29 hx Bd.returns (own_nz (by unfold b0_41; (repeat' split) <;> first | exact Or.inl rfl | exact Or.inr rfl)) (Or.inl ⟨rfl, Or.inr (Or.inl rfl), _, rfl⟩) (hb hby at_117) hr), hrun, hended, _, _, rfl, ?_, hRW.1, hRW.2.1, hRW.2.2.1, hRW.2.2.2.mono (by decide) (by decide)⟩
    show Q0 _ _ p0 p1 h0 _ (T29.setFrames fs).heap _
    have hE : (T29.setFrames fs).heap = T3.heap := e29
    rw [hE]
    exact ⟨congrArg (fun z => some (Value.int z)) ((by rw [f0, if_pos hs23] : (b0_41 p0 p1) = (f0 p0 p1)).trans (f0_one p0 p1)), N29⟩
  · have go48 : ∀ t, Steps p.tables e below (T19.setTop (mkF m 50 #[.val (.int p0), .val (.int p1), .val (.int (v0_1 p0)), .val (.ref b3), .val (.int (b0_15 p0 p1)), .val (.int (v0_21 p0)), .unset, .unset, .unset] [(.int (v0_47 p0)), (.ref b3)])) t → Steps p.tables e below (s₁.setTop (entryFrame m #[(.int p0), (.int p1)] maxLocals)) t := by
      intro t k
      refine go22 _ ?_
      refine XS.ifNo X19.here hx rfl (hb hby at_43) rfl (XT.i0_eq_f hs23) ?_
      show Steps p.tables e below (T19.setTop (mkF m 46 #[.val (.int p0), .val (.int p1), .val (.int (v0_1 p0)), .val (.ref b3), .val (.int (b0_15 p0 p1)), .val (.int (v0_21 p0)), .unset, .unset, .unset] [])) t
      refine XS.aloadN X19.here hx rfl (hb hby at_46) rfl rfl ?_
      show Steps p.tables e below (T19.setTop (mkF m 47 #[.val (.int p0), .val (.int p1), .val (.int (v0_1 p0)), .val (.ref b3), .val (.int (b0_15 p0 p1)), .val (.int (v0_21 p0)), .unset, .unset, .unset] [(.ref b3)])) t
      refine XS.iloadN X19.here hx rfl (hb hby at_47) rfl ?_
      show Steps p.tables e below (T19.setTop (mkF m 48 #[.val (.int p0), .val (.int p1), .val (.int (v0_1 p0)), .val (.ref b3), .val (.int (b0_15 p0 p1)), .val (.int (v0_21 p0)), .unset, .unset, .unset] [(.int (v0_1 p0)), (.ref b3)])) t
      refine XS.iconst X19.here hx rfl (hb hby at_48) ?_
      show Steps p.tables e below (T19.setTop (mkF m 49 #[.val (.int p0), .val (.int p1), .val (.int (v0_1 p0)), .val (.ref b3), .val (.int (b0_15 p0 p1)), .val (.int (v0_21 p0)), .unset, .unset, .unset] [(.int (1 : Int32)), (.int (v0_1 p0)), (.ref b3)])) t
      refine XS.isub X19.here hx rfl (hb hby at_49) rfl ?_
      show Steps p.tables e below (T19.setTop (mkF m 50 #[.val (.int p0), .val (.int p1), .val (.int (v0_1 p0)), .val (.ref b3), .val (.int (b0_15 p0 p1)), .val (.int (v0_21 p0)), .unset, .unset, .unset] [(.int ((v0_1 p0) - (1 : Int32))), (.ref b3)])) t
      show Steps p.tables e below (T19.setTop (mkF m 50 #[.val (.int p0), .val (.int p1), .val (.int (v0_1 p0)), .val (.ref b3), .val (.int (b0_15 p0 p1)), .val (.int (v0_21 p0)), .unset, .unset, .unset] [(.int (v0_47 p0)), (.ref b3)])) t
      exact k
    obtain ⟨cq49, kq49, q49a, q49b, q49c⟩ := isOf hZ3 e19 G3_0
    obtain ⟨_, _, ⟨T49, L49, k49, n49⟩, -, X49, ⟨Lc49, hQ49, l49, y49, z49⟩, st49⟩ := X19.virtualBack hx (y := (⟨"com/example/nephele/nephele/VerificationMode", "allows", "(I)Z"⟩ : MethodName)) (z := (⟨"com/example/nephele/nephele/VerificationMode", "allows", "(I)Z"⟩ : MethodName)) hown3 (mvT hZ3 (hw _ (List.mem_of_getElem? (i := 29) rfl))) (mvT hZ3 (hw _ (List.mem_of_getElem? (i := 30) rfl))) (notFace_of_selects (args := #[]) (mvT hZ3 (hw _ (List.mem_of_getElem? (i := 32) rfl)))) (mvT hZ3 (hw _ (List.mem_of_getElem? (i := 32) rfl))) (mvT hZ3 (hw _ (List.mem_of_getElem? (i := 31) rfl))) (by decide) (backOf (W := 0) (rm5 l Z aZ hw [] b3 (v0_47 p0) (v0_1 p0) (2147483647 : Int32) T3.heap n0 Zs3 G3_1 G3_2) hZ3 (hw _ (List.mem_of_getElem? (i := 33) rfl)) (hw _ (List.mem_of_getElem? (i := 3) rfl)) (by decide) (by decide)) q49a q49c (g := (mkF m 50 #[.val (.int p0), .val (.int p1), .val (.int (v0_1 p0)), .val (.ref b3), .val (.int (b0_15 p0 p1)), .val (.int (v0_21 p0)), .unset, .unset, .unset] [(.int (v0_47 p0)), (.ref b3)])) rfl (by rw [hml]; rfl) (Steps.refl _) (argsL := [(.int (v0_47 p0))]) (rest := []) (lenOf pd_40 rfl) rfl (by show 2 * 0 + _ ≤ _; exact Nat.le_of_eq rfl) (hb hby at_50) (fun _ _ => ⟨rfl, e19, (by decide : 3 + 0 ≤ _), (by decide : 34 + 0 ≤ _)⟩)
    dsimp only [Pt.U, Pt.locs, Pt.cells, Pt.slots] at X49 l49 y49 z49 st49 hQ49
    subst l49 y49 z49
    obtain ⟨rfl, N49q, e49⟩ := hQ49
    have N49 := Fr.app N19 N49q
    have go50 : ∀ t, Steps p.tables e below (T49.setTop (mkF m 53 #[.val (.int p0), .val (.int p1), .val (.int (v0_1 p0)), .val (.ref b3), .val (.int (b0_15 p0 p1)), .val (.int (v0_21 p0)), .unset, .unset, .unset] [(.int (f5 (v0_47 p0) (v0_1 p0) (2147483647 : Int32)))])) t → Steps p.tables e below (s₁.setTop (entryFrame m #[(.int p0), (.int p1)] maxLocals)) t := fun t k => go48 _ (st49.trans k)
    have go52 : ∀ t, Steps p.tables e below (T49.setTop (mkF m 61 #[.val (.int p0), .val (.int p1), .val (.int (v0_1 p0)), .val (.ref b3), .val (.int (b0_15 p0 p1)), .val (.int (v0_21 p0)), .unset, .unset, .unset] [(.int (b0_53 p0))])) t → Steps p.tables e below (s₁.setTop (entryFrame m #[(.int p0), (.int p1)] maxLocals)) t := by
      intro t k
      refine go50 _ ?_
      by_cases hc51 : (f5 (v0_47 p0) (v0_1 p0) (2147483647 : Int32)) = (0 : Int32)
      · refine XS.ifNo X49.here hx rfl (hb hby at_53) rfl (XT.i0_ne_f hc51) ?_
        show Steps p.tables e below (T49.setTop (mkF m 56 #[.val (.int p0), .val (.int p1), .val (.int (v0_1 p0)), .val (.ref b3), .val (.int (b0_15 p0 p1)), .val (.int (v0_21 p0)), .unset, .unset, .unset] [])) t
        refine XS.iconst X49.here hx rfl (hb hby at_56) ?_
        show Steps p.tables e below (T49.setTop (mkF m 57 #[.val (.int p0), .val (.int p1), .val (.int (v0_1 p0)), .val (.ref b3), .val (.int (b0_15 p0 p1)), .val (.int (v0_21 p0)), .unset, .unset, .unset] [(.int (1 : Int32))])) t
        refine XS.goto X49.here hx rfl (pc0 := 57) (pc' := 61) rfl (hb hby at_57) (by decide) (by decide) ?_
        show Steps p.tables e below (T49.setTop (mkF m 61 #[.val (.int p0), .val (.int p1), .val (.int (v0_1 p0)), .val (.ref b3), .val (.int (b0_15 p0 p1)), .val (.int (v0_21 p0)), .unset, .unset, .unset] [(.int (1 : Int32))])) t
        have hq54 : (b0_53 p0) = (1 : Int32) := by rw [b0_53, if_pos hc51]
        rw [hq54] at k
        exact k
      · refine XS.ifYes X49.here hx rfl (pc0 := 53) (pc' := 60) rfl (hb hby at_53) rfl (XT.i0_ne_t hc51) (by decide) (by decide) ?_
        show Steps p.tables e below (T49.setTop (mkF m 60 #[.val (.int p0), .val (.int p1), .val (.int (v0_1 p0)), .val (.ref b3), .val (.int (b0_15 p0 p1)), .val (.int (v0_21 p0)), .unset, .unset, .unset] [])) t
        refine XS.iconst X49.here hx rfl (hb hby at_60) ?_
        show Steps p.tables e below (T49.setTop (mkF m 61 #[.val (.int p0), .val (.int p1), .val (.int (v0_1 p0)), .val (.ref b3), .val (.int (b0_15 p0 p1)), .val (.int (v0_21 p0)), .unset, .unset, .unset] [(.int (0 : Int32))])) t
        have hq55 : (b0_53 p0) = (0 : Int32) := by rw [b0_53, if_neg hc51]
        rw [hq55] at k
        exact k
    have go56 : ∀ t, Steps p.tables e below (T49.setTop (mkF m 66 #[.val (.int p0), .val (.int p1), .val (.int (v0_1 p0)), .val (.ref b3), .val (.int (b0_15 p0 p1)), .val (.int (v0_21 p0)), .val (.int (b0_53 p0)), .unset, .unset] [(.int (2147483647 : Int32)), (.ref b3)])) t → Steps p.tables e below (s₁.setTop (entryFrame m #[(.int p0), (.int p1)] maxLocals)) t := by
      intro t k
      refine go52 _ ?_
      refine XS.istore X49.here hx rfl (hb hby at_61) rfl (l' := #[.val (.int p0), .val (.int p1), .val (.int (v0_1 p0)), .val (.ref b3), .val (.int (b0_15 p0 p1)), .val (.int (v0_21 p0)), .val (.int (b0_53 p0)), .unset, .unset]) rfl ?_
      show Steps p.tables e below (T49.setTop (mkF m 63 #[.val (.int p0), .val (.int p1), .val (.int (v0_1 p0)), .val (.ref b3), .val (.int (b0_15 p0 p1)), .val (.int (v0_21 p0)), .val (.int (b0_53 p0)), .unset, .unset] [])) t
      refine XS.aloadN X49.here hx rfl (hb hby at_63) rfl rfl ?_
      show Steps p.tables e below (T49.setTop (mkF m 64 #[.val (.int p0), .val (.int p1), .val (.int (v0_1 p0)), .val (.ref b3), .val (.int (b0_15 p0 p1)), .val (.int (v0_21 p0)), .val (.int (b0_53 p0)), .unset, .unset] [(.ref b3)])) t
      refine X49.ldcInt hx hown3 (mvT hZ3 (hw _ (List.mem_of_getElem? (i := 0) rfl))) (g := (mkF m 64 #[.val (.int p0), .val (.int p1), .val (.int (v0_1 p0)), .val (.ref b3), .val (.int (b0_15 p0 p1)), .val (.int (v0_21 p0)), .val (.int (b0_53 p0)), .unset, .unset] [(.ref b3)])) rfl (hb hby at_64) _ ?_
      show Steps p.tables e below (T49.setTop (mkF m 66 #[.val (.int p0), .val (.int p1), .val (.int (v0_1 p0)), .val (.ref b3), .val (.int (b0_15 p0 p1)), .val (.int (v0_21 p0)), .val (.int (b0_53 p0)), .unset, .unset] [(.int (2147483647 : Int32)), (.ref b3)])) t
      exact k
    obtain ⟨cq57, kq57, q57a, q57b, q57c⟩ := isOf hZ3 e49 G3_0
    obtain ⟨_, _, ⟨T57, L57, k57, n57⟩, -, X57, ⟨Lc57, hQ57, l57, y57, z57⟩, st57⟩ := X49.virtualBack hx (y := (⟨"com/example/nephele/nephele/VerificationMode", "allows", "(I)Z"⟩ : MethodName)) (z := (⟨"com/example/nephele/nephele/VerificationMode", "allows", "(I)Z"⟩ : MethodName)) hown3 (mvT hZ3 (hw _ (List.mem_of_getElem? (i := 29) rfl))) (mvT hZ3 (hw _ (List.mem_of_getElem? (i := 30) rfl))) (notFace_of_selects (args := #[]) (mvT hZ3 (hw _ (List.mem_of_getElem? (i := 32) rfl)))) (mvT hZ3 (hw _ (List.mem_of_getElem? (i := 32) rfl))) (mvT hZ3 (hw _ (List.mem_of_getElem? (i := 31) rfl))) (by decide) (backOf (W := 0) (rm5 l Z aZ hw [] b3 (2147483647 : Int32) (v0_1 p0) (2147483647 : Int32) T3.heap n0 Zs3 G3_1 G3_2) hZ3 (hw _ (List.mem_of_getElem? (i := 33) rfl)) (hw _ (List.mem_of_getElem? (i := 3) rfl)) (by decide) (by decide)) q57a q57c (g := (mkF m 66 #[.val (.int p0), .val (.int p1), .val (.int (v0_1 p0)), .val (.ref b3), .val (.int (b0_15 p0 p1)), .val (.int (v0_21 p0)), .val (.int (b0_53 p0)), .unset, .unset] [(.int (2147483647 : Int32)), (.ref b3)])) rfl (by rw [hml]; rfl) (Steps.refl _) (argsL := [(.int (2147483647 : Int32))]) (rest := []) (lenOf pd_40 rfl) rfl (by show 2 * 0 + _ ≤ _; exact Nat.le_of_eq rfl) (hb hby at_66) (fun _ _ => ⟨rfl, e49, (by decide : 3 + 0 ≤ _), (by decide : 34 + 0 ≤ _)⟩)
    dsimp only [Pt.U, Pt.locs, Pt.cells, Pt.slots] at X57 l57 y57 z57 st57 hQ57
    subst l57 y57 z57
    obtain ⟨rfl, N57q, e57⟩ := hQ57
    have N57 := Fr.app N49 N57q
    have go58 : ∀ t, Steps p.tables e below (T57.setTop (mkF m 69 #[.val (.int p0), .val (.int p1), .val (.int (v0_1 p0)), .val (.ref b3), .val (.int (b0_15 p0 p1)), .val (.int (v0_21 p0)), .val (.int (b0_53 p0)), .unset, .unset] [(.int (f5 (2147483647 : Int32) (v0_1 p0) (2147483647 : Int32)))])) t → Steps p.tables e below (s₁.setTop (entryFrame m #[(.int p0), (.int p1)] maxLocals)) t := fun t k => go56 _ (st57.trans k)
    have go59 : ∀ t, Steps p.tables e below (T57.setTop (mkF m 74 #[.val (.int p0), .val (.int p1), .val (.int (v0_1 p0)), .val (.ref b3), .val (.int (b0_15 p0 p1)), .val (.int (v0_21 p0)), .val (.int (b0_53 p0)), .val (.int (v0_27 p0)), .unset] [(.int (-2147483648 : Int32)), (.ref b3)])) t → Steps p.tables e below (s₁.setTop (entryFrame m #[(.int p0), (.int p1)] maxLocals)) t := by
      intro t k
      refine go58 _ ?_
      show Steps p.tables e below (T57.setTop (mkF m 69 #[.val (.int p0), .val (.int p1), .val (.int (v0_1 p0)), .val (.ref b3), .val (.int (b0_15 p0 p1)), .val (.int (v0_21 p0)), .val (.int (b0_53 p0)), .unset, .unset] [(.int (v0_27 p0))])) t
      refine XS.istore X57.here hx rfl (hb hby at_69) rfl (l' := #[.val (.int p0), .val (.int p1), .val (.int (v0_1 p0)), .val (.ref b3), .val (.int (b0_15 p0 p1)), .val (.int (v0_21 p0)), .val (.int (b0_53 p0)), .val (.int (v0_27 p0)), .unset]) rfl ?_
      show Steps p.tables e below (T57.setTop (mkF m 71 #[.val (.int p0), .val (.int p1), .val (.int (v0_1 p0)), .val (.ref b3), .val (.int (b0_15 p0 p1)), .val (.int (v0_21 p0)), .val (.int (b0_53 p0)), .val (.int (v0_27 p0)), .unset] [])) t
      refine XS.aloadN X57.here hx rfl (hb hby at_71) rfl rfl ?_
      show Steps p.tables e below (T57.setTop (mkF m 72 #[.val (.int p0), .val (.int p1), .val (.int (v0_1 p0)), .val (.ref b3), .val (.int (b0_15 p0 p1)), .val (.int (v0_21 p0)), .val (.int (b0_53 p0)), .val (.int (v0_27 p0)), .unset] [(.ref b3)])) t
      refine X57.ldcInt hx hown3 (mvT hZ3 (hw _ (List.mem_of_getElem? (i := 34) rfl))) (g := (mkF m 72 #[.val (.int p0), .val (.int p1), .val (.int (v0_1 p0)), .val (.ref b3), .val (.int (b0_15 p0 p1)), .val (.int (v0_21 p0)), .val (.int (b0_53 p0)), .val (.int (v0_27 p0)), .unset] [(.ref b3)])) rfl (hb hby at_72) _ ?_
      show Steps p.tables e below (T57.setTop (mkF m 74 #[.val (.int p0), .val (.int p1), .val (.int (v0_1 p0)), .val (.ref b3), .val (.int (b0_15 p0 p1)), .val (.int (v0_21 p0)), .val (.int (b0_53 p0)), .val (.int (v0_27 p0)), .unset] [(.int (-2147483648 : Int32)), (.ref b3)])) t
      exact k
    obtain ⟨cq60, kq60, q60a, q60b, q60c⟩ := isOf hZ3 e57 G3_0
    obtain ⟨_, _, ⟨T60, L60, k60, n60⟩, -, X60, ⟨Lc60, hQ60, l60, y60, z60⟩, st60⟩ := X57.virtualBack hx (y := (⟨"com/example/nephele/nephele/VerificationMode", "allows", "(I)Z"⟩ : MethodName)) (z := (⟨"com/example/nephele/nephele/VerificationMode", "allows", "(I)Z"⟩ : MethodName)) hown3 (mvT hZ3 (hw _ (List.mem_of_getElem? (i := 29) rfl))) (mvT hZ3 (hw _ (List.mem_of_getElem? (i := 30) rfl))) (notFace_of_selects (args := #[]) (mvT hZ3 (hw _ (List.mem_of_getElem? (i := 32) rfl)))) (mvT hZ3 (hw _ (List.mem_of_getElem? (i := 32) rfl))) (mvT hZ3 (hw _ (List.mem_of_getElem? (i := 31) rfl))) (by decide) (backOf (W := 0) (rm5 l Z aZ hw [] b3 (-2147483648 : Int32) (v0_1 p0) (2147483647 : Int32) T3.heap n0 Zs3 G3_1 G3_2) hZ3 (hw _ (List.mem_of_getElem? (i := 33) rfl)) (hw _ (List.mem_of_getElem? (i := 3) rfl)) (by decide) (by decide)) q60a q60c (g := (mkF m 74 #[.val (.int p0), .val (.int p1), .val (.int (v0_1 p0)), .val (.ref b3), .val (.int (b0_15 p0 p1)), .val (.int (v0_21 p0)), .val (.int (b0_53 p0)), .val (.int (v0_27 p0)), .unset] [(.int (-2147483648 : Int32)), (.ref b3)])) rfl (by rw [hml]; rfl) (Steps.refl _) (argsL := [(.int (-2147483648 : Int32))]) (rest := []) (lenOf pd_40 rfl) rfl (by show 2 * 0 + _ ≤ _; exact Nat.le_of_eq rfl) (hb hby at_74) (fun _ _ => ⟨rfl, e57, (by decide : 3 + 0 ≤ _), (by decide : 34 + 0 ≤ _)⟩)
    dsimp only [Pt.U, Pt.locs, Pt.cells, Pt.slots] at X60 l60 y60 z60 st60 hQ60
    subst l60 y60 z60
    obtain ⟨rfl, N60q, e60⟩ := hQ60
    have N60 := Fr.app N57 N60q
    have go61 : ∀ t, Steps p.tables e below (T60.setTop (mkF m 77 #[.val (.int p0), .val (.int p1), .val (.int (v0_1 p0)), .val (.ref b3), .val (.int (b0_15 p0 p1)), .val (.int (v0_21 p0)), .val (.int (b0_53 p0)), .val (.int (v0_27 p0)), .unset] [(.int (f5 (-2147483648 : Int32) (v0_1 p0) (2147483647 : Int32)))])) t → Steps p.tables e below (s₁.setTop (entryFrame m #[(.int p0), (.int p1)] maxLocals)) t := fun t k => go59 _ (st60.trans k)
    have go63 : ∀ t, Steps p.tables e below (T60.setTop (mkF m 85 #[.val (.int p0), .val (.int p1), .val (.int (v0_1 p0)), .val (.ref b3), .val (.int (b0_15 p0 p1)), .val (.int (v0_21 p0)), .val (.int (b0_53 p0)), .val (.int (v0_27 p0)), .unset] [(.int (b0_33 p0))])) t → Steps p.tables e below (s₁.setTop (entryFrame m #[(.int p0), (.int p1)] maxLocals)) t := by
      intro t k
      refine go61 _ ?_
      by_cases hc62 : (f5 (-2147483648 : Int32) (v0_1 p0) (2147483647 : Int32)) = (0 : Int32)
      · refine XS.ifNo X60.here hx rfl (hb hby at_77) rfl (XT.i0_ne_f hc62) ?_
        show Steps p.tables e below (T60.setTop (mkF m 80 #[.val (.int p0), .val (.int p1), .val (.int (v0_1 p0)), .val (.ref b3), .val (.int (b0_15 p0 p1)), .val (.int (v0_21 p0)), .val (.int (b0_53 p0)), .val (.int (v0_27 p0)), .unset] [])) t
        refine XS.iconst X60.here hx rfl (hb hby at_80) ?_
        show Steps p.tables e below (T60.setTop (mkF m 81 #[.val (.int p0), .val (.int p1), .val (.int (v0_1 p0)), .val (.ref b3), .val (.int (b0_15 p0 p1)), .val (.int (v0_21 p0)), .val (.int (b0_53 p0)), .val (.int (v0_27 p0)), .unset] [(.int (1 : Int32))])) t
        refine XS.goto X60.here hx rfl (pc0 := 81) (pc' := 85) rfl (hb hby at_81) (by decide) (by decide) ?_
        show Steps p.tables e below (T60.setTop (mkF m 85 #[.val (.int p0), .val (.int p1), .val (.int (v0_1 p0)), .val (.ref b3), .val (.int (b0_15 p0 p1)), .val (.int (v0_21 p0)), .val (.int (b0_53 p0)), .val (.int (v0_27 p0)), .unset] [(.int (1 : Int32))])) t
        have hq64 : (b0_33 p0) = (1 : Int32) := by rw [b0_33, if_pos hc62]
        rw [hq64] at k
        exact k
      · refine XS.ifYes X60.here hx rfl (pc0 := 77) (pc' := 84) rfl (hb hby at_77) rfl (XT.i0_ne_t hc62) (by decide) (by decide) ?_
        show Steps p.tables e below (T60.setTop (mkF m 84 #[.val (.int p0), .val (.int p1), .val (.int (v0_1 p0)), .val (.ref b3), .val (.int (b0_15 p0 p1)), .val (.int (v0_21 p0)), .val (.int (b0_53 p0)), .val (.int (v0_27 p0)), .unset] [])) t
        refine XS.iconst X60.here hx rfl (hb hby at_84) ?_
        show Steps p.tables e below (T60.setTop (mkF m 85 #[.val (.int p0), .val (.int p1), .val (.int (v0_1 p0)), .val (.ref b3), .val (.int (b0_15 p0 p1)), .val (.int (v0_21 p0)), .val (.int (b0_53 p0)), .val (.int (v0_27 p0)), .unset] [(.int (0 : Int32))])) t
        have hq65 : (b0_33 p0) = (0 : Int32) := by rw [b0_33, if_neg hc62]
        rw [hq65] at k
        exact k
    have go71 : ∀ t, Steps p.tables e below (T60.setTop (mkF m 117 #[.val (.int p0), .val (.int p1), .val (.int (v0_1 p0)), .val (.ref b3), .val (.int (b0_15 p0 p1)), .val (.int (v0_21 p0)), .val (.int (b0_53 p0)), .val (.int (v0_27 p0)), .val (.int (b0_33 p0))] [(.int (b0_72 p0 p1))])) t → Steps p.tables e below (s₁.setTop (entryFrame m #[(.int p0), (.int p1)] maxLocals)) t := by
      intro t k
      refine go63 _ ?_
      refine XS.istore X60.here hx rfl (hb hby at_85) rfl (l' := #[.val (.int p0), .val (.int p1), .val (.int (v0_1 p0)), .val (.ref b3), .val (.int (b0_15 p0 p1)), .val (.int (v0_21 p0)), .val (.int (b0_53 p0)), .val (.int (v0_27 p0)), .val (.int (b0_33 p0))]) rfl ?_
      show Steps p.tables e below (T60.setTop (mkF m 87 #[.val (.int p0), .val (.int p1), .val (.int (v0_1 p0)), .val (.ref b3), .val (.int (b0_15 p0 p1)), .val (.int (v0_21 p0)), .val (.int (b0_53 p0)), .val (.int (v0_27 p0)), .val (.int (b0_33 p0))] [])) t
      refine XS.iload X60.here hx rfl (hb hby at_87) rfl ?_
      show Steps p.tables e below (T60.setTop (mkF m 89 #[.val (.int p0), .val (.int p1), .val (.int (v0_1 p0)), .val (.ref b3), .val (.int (b0_15 p0 p1)), .val (.int (v0_21 p0)), .val (.int (b0_53 p0)), .val (.int (v0_27 p0)), .val (.int (b0_33 p0))] [(.int (b0_15 p0 p1))])) t
      by_cases hc66 : (b0_15 p0 p1) = (0 : Int32)
      · refine XS.ifYes X60.here hx rfl (pc0 := 89) (pc' := 116) rfl (hb hby at_89) rfl (XT.i0_eq_t hc66) (by decide) (by decide) ?_
        show Steps p.tables e below (T60.setTop (mkF m 116 #[.val (.int p0), .val (.int p1), .val (.int (v0_1 p0)), .val (.ref b3), .val (.int (b0_15 p0 p1)), .val (.int (v0_21 p0)), .val (.int (b0_53 p0)), .val (.int (v0_27 p0)), .val (.int (b0_33 p0))] [])) t
        refine XS.iconst X60.here hx rfl (hb hby at_116) ?_
        show Steps p.tables e below (T60.setTop (mkF m 117 #[.val (.int p0), .val (.int p1), .val (.int (v0_1 p0)), .val (.ref b3), .val (.int (b0_15 p0 p1)), .val (.int (v0_21 p0)), .val (.int (b0_53 p0)), .val (.int (v0_27 p0)), .val (.int (b0_33 p0))] [(.int (0 : Int32))])) t
        have hq73 : (b0_72 p0 p1) = (0 : Int32) := by rw [b0_72, if_pos hc66]
        rw [hq73] at k
        exact k
      · refine XS.ifNo X60.here hx rfl (hb hby at_89) rfl (XT.i0_eq_f hc66) ?_
        show Steps p.tables e below (T60.setTop (mkF m 92 #[.val (.int p0), .val (.int p1), .val (.int (v0_1 p0)), .val (.ref b3), .val (.int (b0_15 p0 p1)), .val (.int (v0_21 p0)), .val (.int (b0_53 p0)), .val (.int (v0_27 p0)), .val (.int (b0_33 p0))] [])) t
        refine XS.iload X60.here hx rfl (hb hby at_92) rfl ?_
        show Steps p.tables e below (T60.setTop (mkF m 94 #[.val (.int p0), .val (.int p1), .val (.int (v0_1 p0)), .val (.ref b3), .val (.int (b0_15 p0 p1)), .val (.int (v0_21 p0)), .val (.int (b0_53 p0)), .val (.int (v0_27 p0)), .val (.int (b0_33 p0))] [(.int (v0_21 p0))])) t
        by_cases hc67 : (v0_21 p0) = (0 : Int32)
        · refine XS.ifYes X60.here hx rfl (pc0 := 94) (pc' := 116) rfl (hb hby at_94) rfl (XT.i0_eq_t hc67) (by decide) (by decide) ?_
          show Steps p.tables e below (T60.setTop (mkF m 116 #[.val (.int p0), .val (.int p1), .val (.int (v0_1 p0)), .val (.ref b3), .val (.int (b0_15 p0 p1)), .val (.int (v0_21 p0)), .val (.int (b0_53 p0)), .val (.int (v0_27 p0)), .val (.int (b0_33 p0))] [])) t
          refine XS.iconst X60.here hx rfl (hb hby at_116) ?_
          show Steps p.tables e below (T60.setTop (mkF m 117 #[.val (.int p0), .val (.int p1), .val (.int (v0_1 p0)), .val (.ref b3), .val (.int (b0_15 p0 p1)), .val (.int (v0_21 p0)), .val (.int (b0_53 p0)), .val (.int (v0_27 p0)), .val (.int (b0_33 p0))] [(.int (0 : Int32))])) t
          have hq74 : (b0_72 p0 p1) = (0 : Int32) := by rw [b0_72, if_neg hc66, if_pos hc67]
          rw [hq74] at k
          exact k
        · refine XS.ifNo X60.here hx rfl (hb hby at_94) rfl (XT.i0_eq_f hc67) ?_
          show Steps p.tables e below (T60.setTop (mkF m 97 #[.val (.int p0), .val (.int p1), .val (.int (v0_1 p0)), .val (.ref b3), .val (.int (b0_15 p0 p1)), .val (.int (v0_21 p0)), .val (.int (b0_53 p0)), .val (.int (v0_27 p0)), .val (.int (b0_33 p0))] [])) t
          refine XS.iload X60.here hx rfl (hb hby at_97) rfl ?_
          show Steps p.tables e below (T60.setTop (mkF m 99 #[.val (.int p0), .val (.int p1), .val (.int (v0_1 p0)), .val (.ref b3), .val (.int (b0_15 p0 p1)), .val (.int (v0_21 p0)), .val (.int (b0_53 p0)), .val (.int (v0_27 p0)), .val (.int (b0_33 p0))] [(.int (b0_53 p0))])) t
          by_cases hc68 : (b0_53 p0) = (0 : Int32)
          · refine XS.ifYes X60.here hx rfl (pc0 := 99) (pc' := 116) rfl (hb hby at_99) rfl (XT.i0_eq_t hc68) (by decide) (by decide) ?_
            show Steps p.tables e below (T60.setTop (mkF m 116 #[.val (.int p0), .val (.int p1), .val (.int (v0_1 p0)), .val (.ref b3), .val (.int (b0_15 p0 p1)), .val (.int (v0_21 p0)), .val (.int (b0_53 p0)), .val (.int (v0_27 p0)), .val (.int (b0_33 p0))] [])) t
            refine XS.iconst X60.here hx rfl (hb hby at_116) ?_
            show Steps p.tables e below (T60.setTop (mkF m 117 #[.val (.int p0), .val (.int p1), .val (.int (v0_1 p0)), .val (.ref b3), .val (.int (b0_15 p0 p1)), .val (.int (v0_21 p0)), .val (.int (b0_53 p0)), .val (.int (v0_27 p0)), .val (.int (b0_33 p0))] [(.int (0 : Int32))])) t
            have hq75 : (b0_72 p0 p1) = (0 : Int32) := by rw [b0_72, if_neg hc66, if_neg hc67, if_pos hc68]
            rw [hq75] at k
            exact k
          · refine XS.ifNo X60.here hx rfl (hb hby at_99) rfl (XT.i0_eq_f hc68) ?_
            show Steps p.tables e below (T60.setTop (mkF m 102 #[.val (.int p0), .val (.int p1), .val (.int (v0_1 p0)), .val (.ref b3), .val (.int (b0_15 p0 p1)), .val (.int (v0_21 p0)), .val (.int (b0_53 p0)), .val (.int (v0_27 p0)), .val (.int (b0_33 p0))] [])) t
            refine XS.iload X60.here hx rfl (hb hby at_102) rfl ?_
            show Steps p.tables e below (T60.setTop (mkF m 104 #[.val (.int p0), .val (.int p1), .val (.int (v0_1 p0)), .val (.ref b3), .val (.int (b0_15 p0 p1)), .val (.int (v0_21 p0)), .val (.int (b0_53 p0)), .val (.int (v0_27 p0)), .val (.int (b0_33 p0))] [(.int (v0_27 p0))])) t
            by_cases hc69 : (v0_27 p0) = (0 : Int32)
            · refine XS.ifYes X60.here hx rfl (pc0 := 104) (pc' := 116) rfl (hb hby at_104) rfl (XT.i0_eq_t hc69) (by decide) (by decide) ?_
              show Steps p.tables e below (T60.setTop (mkF m 116 #[.val (.int p0), .val (.int p1), .val (.int (v0_1 p0)), .val (.ref b3), .val (.int (b0_15 p0 p1)), .val (.int (v0_21 p0)), .val (.int (b0_53 p0)), .val (.int (v0_27 p0)), .val (.int (b0_33 p0))] [])) t
              refine XS.iconst X60.here hx rfl (hb hby at_116) ?_
              show Steps p.tables e below (T60.setTop (mkF m 117 #[.val (.int p0), .val (.int p1), .val (.int (v0_1 p0)), .val (.ref b3), .val (.int (b0_15 p0 p1)), .val (.int (v0_21 p0)), .val (.int (b0_53 p0)), .val (.int (v0_27 p0)), .val (.int (b0_33 p0))] [(.int (0 : Int32))])) t
              have hq76 : (b0_72 p0 p1) = (0 : Int32) := by rw [b0_72, if_neg hc66, if_neg hc67, if_neg hc68, if_pos hc69]
              rw [hq76] at k
              exact k
            · refine XS.ifNo X60.here hx rfl (hb hby at_104) rfl (XT.i0_eq_f hc69) ?_
              show Steps p.tables e below (T60.setTop (mkF m 107 #[.val (.int p0), .val (.int p1), .val (.int (v0_1 p0)), .val (.ref b3), .val (.int (b0_15 p0 p1)), .val (.int (v0_21 p0)), .val (.int (b0_53 p0)), .val (.int (v0_27 p0)), .val (.int (b0_33 p0))] [])) t
              refine XS.iload X60.here hx rfl (hb hby at_107) rfl ?_
              show Steps p.tables e below (T60.setTop (mkF m 109 #[.val (.int p0), .val (.int p1), .val (.int (v0_1 p0)), .val (.ref b3), .val (.int (b0_15 p0 p1)), .val (.int (v0_21 p0)), .val (.int (b0_53 p0)), .val (.int (v0_27 p0)), .val (.int (b0_33 p0))] [(.int (b0_33 p0))])) t
              by_cases hc70 : (b0_33 p0) = (0 : Int32)
              · refine XS.ifYes X60.here hx rfl (pc0 := 109) (pc' := 116) rfl (hb hby at_109) rfl (XT.i0_eq_t hc70) (by decide) (by decide) ?_
                show Steps p.tables e below (T60.setTop (mkF m 116 #[.val (.int p0), .val (.int p1), .val (.int (v0_1 p0)), .val (.ref b3), .val (.int (b0_15 p0 p1)), .val (.int (v0_21 p0)), .val (.int (b0_53 p0)), .val (.int (v0_27 p0)), .val (.int (b0_33 p0))] [])) t
                refine XS.iconst X60.here hx rfl (hb hby at_116) ?_
                show Steps p.tables e below (T60.setTop (mkF m 117 #[.val (.int p0), .val (.int p1), .val (.int (v0_1 p0)), .val (.ref b3), .val (.int (b0_15 p0 p1)), .val (.int (v0_21 p0)), .val (.int (b0_53 p0)), .val (.int (v0_27 p0)), .val (.int (b0_33 p0))] [(.int (0 : Int32))])) t
                have hq77 : (b0_72 p0 p1) = (0 : Int32) := by rw [b0_72, if_neg hc66, if_neg hc67, if_neg hc68, if_neg hc69, if_pos hc70]
                rw [hq77] at k
                exact k
              · refine XS.ifNo X60.here hx rfl (hb hby at_109) rfl (XT.i0_eq_f hc70) ?_
                show Steps p.tables e below (T60.setTop (mkF m 112 #[.val (.int p0), .val (.int p1), .val (.int (v0_1 p0)), .val (.ref b3), .val (.int (b0_15 p0 p1)), .val (.int (v0_21 p0)), .val (.int (b0_53 p0)), .val (.int (v0_27 p0)), .val (.int (b0_33 p0))] [])) t
                refine XS.iconst X60.here hx rfl (hb hby at_112) ?_
                show Steps p.tables e below (T60.setTop (mkF m 113 #[.val (.int p0), .val (.int p1), .val (.int (v0_1 p0)), .val (.ref b3), .val (.int (b0_15 p0 p1)), .val (.int (v0_21 p0)), .val (.int (b0_53 p0)), .val (.int (v0_27 p0)), .val (.int (b0_33 p0))] [(.int (1 : Int32))])) t
                refine XS.goto X60.here hx rfl (pc0 := 113) (pc' := 117) rfl (hb hby at_113) (by decide) (by decide) ?_
                show Steps p.tables e below (T60.setTop (mkF m 117 #[.val (.int p0), .val (.int p1), .val (.int (v0_1 p0)), .val (.ref b3), .val (.int (b0_15 p0 p1)), .val (.int (v0_21 p0)), .val (.int (b0_53 p0)), .val (.int (v0_27 p0)), .val (.int (b0_33 p0))] [(.int (1 : Int32))])) t
                have hq78 : (b0_72 p0 p1) = (1 : Int32) := by rw [b0_72, if_neg hc66, if_neg hc67, if_neg hc68, if_neg hc69, if_neg hc70]
                rw [hq78] at k
                exact k
    obtain ⟨fs, hr, hrun, hended, hRW⟩ := X60.leaveW hS3 (by rw [e60]; exact hk3r) (v := some (.int (b0_72 p0 p1))) (fun h => by rw [Bd.returns] at h; cases h)
    refine ⟨_, _, go71 _ (Jvm.RoadKit.retOut X60 hx Bd.returns (own_nz (by unfold b0_72; (repeat' split) <;> first | exact Or.inl rfl | exact Or.inr rfl)) (Or.inl ⟨rfl, Or.inr (Or.inl rfl), _, rfl⟩) (hb hby at_117) hr), hrun, hended, _, _, rfl, ?_, hRW.1, hRW.2.1, hRW.2.2.1, hRW.2.2.2.mono (by decide) (by decide)⟩
    show Q0 _ _ p0 p1 h0 _ (T60.setFrames fs).heap _
    have hE : (T60.setFrames fs).heap = T3.heap := e60
    rw [hE]
    exact ⟨congrArg (fun z => some (Value.int z)) ((by rw [f0, if_neg hs23] : (b0_72 p0 p1) = (f0 p0 p1)).trans (f0_one p0 p1)), N60⟩
set_option maxRecDepth 65536 in
set_option maxHeartbeats 40000000 in
theorem comes_1 {Post : Tables → Env → Array Value → State → Outcome → State → Prop} (hpost : ∀ tb e args s v u, (limb_1_1.after args s (.returned v) u = true ∧ limb_1_2.after args s (.returned v) u = true ∧ True) → ReturnedEndW s (.returned v) u (Jvm.fieldLocs frame_1_writes args s ++ Jvm.arrayLocs frame_1_arrays args s ++ Jvm.staticLocs frame_1_statics s) 16 1152 → Post tb e args s (.returned v) u) :
    ArmFor flags0 classFile x code maxLocals ret World_1 tables_1 room_1 Calls_1 rest_1 Pre_1 Post := by
  intro l hfl _ _ p e ha hc hk s m args below hf hA hF happ hP
  obtain ⟨hcalls, hrest, hpre⟩ := hP
  obtain ⟨-, -, -, hnamed, -, -, -, hat⟩ := (Spec.applies_iff hf).mp happ
  obtain ⟨hg, hn⟩ := and_e (Cond.before_iff.mp (show (Jvm.Cond.and given_1 narrow_1).before args s = true from hpre))
  obtain ⟨hcount, hg1⟩ := and_e hg
  obtain ⟨ha0, hb0⟩ := and_e hg1
  obtain ⟨w0, w1, rfl⟩ : ∃ w0 w1 : Value, args = #[w0, w1] := by
    have hs : args.size = 2 := by simpa [Cond.value, given_1] using hcount
    obtain ⟨L⟩ := args
    match L, hs with
    | [w0, w1], _ => exact ⟨w0, w1, rfl⟩
  have hw := fun d (hd : d ∈ tables_1) => atoms_spec (ws := Jvm.Cond.code x code maxLocals ret :: tables_1) hat d (List.mem_cons_of_mem _ hd)
  have hfit : Fit s := fun {y c} hc i hi => by
    obtain ⟨ha, rfl⟩ := Array.getElem?_eq_some_iff.mp hc
    have q := List.all_eq_true.mp ((Array.all_eq_true_iff_forall_mem.mp hF) _ (Array.getElem_mem ha)) i (List.mem_range.mpr hi)
    simpa [Array.getElem?_eq_getElem hi] using q
  obtain ⟨i0, ei0⟩ := is_v ha0
  obtain rfl : w0 = (.int i0) := Option.some.inj ei0
  obtain ⟨i1, ei1⟩ := is_v hb0
  obtain rfl : w1 = (.int i1) := Option.some.inj ei1
  obtain ⟨n, o, h1, h2, h3, _, L, rfl, ⟨rfl, N⟩, hq⟩ := rm0 l s _ hw tables_1 i0 i1 s.heap s.heap.size (Nat.le_refl _) p e ha hc hk s m _ below hf ((Spec.applies_iff_loose hf).mp happ).1 ⟨rfl, State.Warmed39.refl s, rfl⟩ trivial
  refine ⟨n, _, h1, h2, h3, hpost _ _ _ _ _ _ ⟨Cond.after_iff.mpr rfl, Cond.after_iff.mpr (eq_i res_at (Term.int_eval (1)) rfl), trivial⟩ ⟨hq.1, hq.2.1, hq.2.2.1, (hq.2.2.2.sift fun y hy => Or.inr (N y hy)).mono (by decide) (by decide)⟩⟩
theorem main_1_1 : Claimed_1_1 := comes_1 fun _ _ _ _ _ _ h hF => ⟨h.1, hF⟩
theorem main_1_2 : Claimed_1_2 := comes_1 fun _ _ _ _ _ _ h hF => ⟨h.2.1, hF⟩
end Jvm.Pilot.@@N@@
namespace Jvm.Pilot.@@N@@
open Jvm Jvm.ClassFile Sem Op Lib Jvm.Free Jvm.Stand Jvm.Pilot.@@N@@.Jvm.D
/-! MADE BY PROGRAM (witnessworld.py) out of the Statement's table words and the real class files: 14 classes; the members and pool entries that the words name. The judged class is class 1, her method 1. -/
namespace start1
open Jvm.ClassFile
def u (s : String) : CpInfo := .utf8 (stringToUtf16 s)
/-- a pool by its gaps: so many unusable entries, then the entry; so many at the end -/
def gap : Nat → List CpInfo → List CpInfo
  | 0, r => r
  | n + 1, r => .unusable :: gap n r
def poolList (es : List (Nat × CpInfo)) (last : Nat) : List CpInfo := es.foldr (fun e r => gap e.1 (e.2 :: r)) (gap last [])
def pool (es : List (Nat × CpInfo)) (last : Nat) : Array CpInfo := ⟨poolList es last⟩
def fileOf (pool : Array CpInfo) (this : Nat) (attrs : Array Attribute := #[]) (ms : Array MethodInfo := #[]) (fl : Nat := 33) (sup : Nat := 0) (ifs : Array Nat := #[]) (fds : Array FieldInfo := #[]) : ClassFile where
  minorVersion := 0
  majorVersion := 65
  constantPool := pool
  accessFlags := fl
  thisClass := this
  superClass := sup
  interfaces := ifs
  fields := fds
  methods := ms
  attributes := attrs
def plain (name : String) (sup : Option ClassId) : Class where
  name := name
  kind := .ordinary
  loader := none
  accessFlags := 33
  super := sup
  interfaces := #[]
  cf := none
  fields := #[]
  methods := #[]
  instanceTypes := #[]
  staticTypes := #[]
  resolved := #[]
  callSites := []
  init := .initialized
  statics := none
  mirror := none

def pool0 : Array CpInfo := pool [(5, u "<init>"), (0, u "()V"), (1, .class_ 10), (1, u "java/lang/Object")] 113

def k0c0 : Code := { maxStack := 0, maxLocals := 1, code := object_method_1_code, exceptionTable := #[], attributes := #[] }
def k0m0 : Method := { name := "<init>", desc := "()V", sig := { parameters := [], returnType := none }, accessFlags := 1, code := some k0c0 }
/-- java/lang/Object -/
def k0 : Class := { plain "java/lang/Object" none with
  accessFlags := 33
  interfaces := #[]
  cf := some (fileOf pool0 8 #[] #[{ accessFlags := 1, nameIndex := 5, descriptorIndex := 6, attributes := #[] }] 33 0 #[] #[])
  fields := #[]
  methods := #[k0m0]
  instanceTypes := #[]
  staticTypes := #[]
  resolved := Array.replicate 124 none
  statics := none }

def pool1 : Array CpInfo := pool [(2, .class_ 4), (1, u "java/lang/Object"), (0, u "<init>"), (0, u "()V"), (0, .integer 2147483647), (0, .methodref 9 10), (0, .class_ 11), (0, .nameAndType 12 13), (0, u "com/example/nephele/nephele/VerificationMode"), (0, u "atLeast"), (0, u "(I)Lcom/example/nephele/nephele/VerificationMode;"), (0, .methodref 9 15), (0, .nameAndType 16 17), (0, u "allows"), (0, u "(I)Z"), (2, .integer 2147483648), (0, .class_ 22), (0, u "com/example/nephele/nephele/VerificationModeAtLeastPinLaw"), (2, u "law"), (0, u "(II)Z")] 3

def k1m0 : Method := { name := "<init>", desc := "()V", sig := { parameters := [], returnType := none }, accessFlags := 1, code := none }
def k1c1 : Code := { maxStack := 3, maxLocals := 9, code := code, exceptionTable := #[], attributes := #[] }
def k1m1 : Method := { name := "law", desc := "(II)Z", sig := { parameters := [.int, .int], returnType := some .boolean }, accessFlags := 9, code := some k1c1 }
/-- com/example/nephele/nephele/VerificationModeAtLeastPinLaw -/
def k1 : Class := { plain "com/example/nephele/nephele/VerificationModeAtLeastPinLaw" (some 0) with
  accessFlags := 49
  interfaces := #[]
  cf := some (fileOf pool1 21 #[] #[{ accessFlags := 1, nameIndex := 5, descriptorIndex := 6, attributes := #[] }, { accessFlags := 9, nameIndex := 25, descriptorIndex := 26, attributes := #[] }] 49 2 #[] #[])
  fields := #[]
  methods := #[k1m0, k1m1]
  instanceTypes := #[]
  staticTypes := #[]
  resolved := Array.replicate 30 none
  statics := none }

def pool2 : Array CpInfo := pool [(3, .methodref 4 5), (0, .class_ 6), (0, .nameAndType 7 8), (0, u "java/lang/Object"), (0, u "<init>"), (0, u "()V"), (0, .fieldref 10 11), (0, .class_ 12), (0, .nameAndType 13 14), (0, u "com/example/nephele/nephele/VerificationMode"), (0, u "least"), (0, u "I"), (0, .fieldref 10 16), (0, .nameAndType 17 14), (0, u "most"), (2, .methodref 10 21), (0, .nameAndType 22 23), (0, u "checkCount"), (0, u "(Ljava/lang/String;I)V"), (0, .methodref 10 25), (0, .nameAndType 7 26), (0, u "(II)V"), (0, .string 28), (0, u "atLeast"), (0, .integer 2147483647), (28, u "UNBOUNDED"), (3, u "(I)Lcom/example/nephele/nephele/VerificationMode;"), (0, u "allows"), (0, u "(I)Z")] 28

def k2c0 : Code := { maxStack := 2, maxLocals := 3, code := prog_10_method_1_code, exceptionTable := #[], attributes := #[] }
def k2m0 : Method := { name := "<init>", desc := "(II)V", sig := { parameters := [.int, .int], returnType := none }, accessFlags := 2, code := some k2c0 }
def k2c1 : Code := { maxStack := 4, maxLocals := 1, code := prog_10_method_3_code, exceptionTable := #[], attributes := #[] }
def k2m1 : Method := { name := "atLeast", desc := "(I)Lcom/example/nephele/nephele/VerificationMode;", sig := { parameters := [.int], returnType := some (.object "com/example/nephele/nephele/VerificationMode") }, accessFlags := 8, code := some k2c1 }
def k2c2 : Code := { maxStack := 2, maxLocals := 2, code := prog_10_method_5_code, exceptionTable := #[], attributes := #[] }
def k2m2 : Method := { name := "allows", desc := "(I)Z", sig := { parameters := [.int], returnType := some .boolean }, accessFlags := 0, code := some k2c2 }
def k2c3 : Code := { maxStack := 4, maxLocals := 2, code := prog_10_method_8_code, exceptionTable := #[], attributes := #[] }
def k2m3 : Method := { name := "checkCount", desc := "(Ljava/lang/String;I)V", sig := { parameters := [(.object "java/lang/String"), .int], returnType := none }, accessFlags := 10, code := some k2c3 }
/-- com/example/nephele/nephele/VerificationMode -/
def k2 : Class := { plain "com/example/nephele/nephele/VerificationMode" (some 0) with
  accessFlags := 33
  interfaces := #[]
  cf := some (fileOf pool2 10 #[] #[{ accessFlags := 2, nameIndex := 7, descriptorIndex := 26, attributes := #[] }, { accessFlags := 8, nameIndex := 28, descriptorIndex := 62, attributes := #[] }, { accessFlags := 0, nameIndex := 63, descriptorIndex := 64, attributes := #[] }, { accessFlags := 10, nameIndex := 22, descriptorIndex := 23, attributes := #[] }] 33 4 #[] #[{ accessFlags := 26, nameIndex := 58, descriptorIndex := 14, attributes := #[] }, { accessFlags := 18, nameIndex := 13, descriptorIndex := 14, attributes := #[] }, { accessFlags := 18, nameIndex := 17, descriptorIndex := 14, attributes := #[] }])
  fields := #[{ name := "UNBOUNDED", type := .int, accessFlags := 26, slot := 0, constantValue := 0 }, { name := "least", type := .int, accessFlags := 18, slot := 0, constantValue := 0 }, { name := "most", type := .int, accessFlags := 18, slot := 1, constantValue := 0 }]
  methods := #[k2m0, k2m1, k2m2, k2m3]
  instanceTypes := #[.int, .int]
  staticTypes := #[.int]
  resolved := Array.replicate 93 none
  statics := none }

def pool3 : Array CpInfo := pool [(1, .class_ 2), (0, u "java/io/Serializable"), (0, .class_ 4), (0, u "java/lang/Object")] 2

/-- java/io/Serializable -/
def k3 : Class := { plain "java/io/Serializable" (some 0) with
  accessFlags := 1537
  interfaces := #[]
  cf := some (fileOf pool3 1 #[] #[] 1537 3 #[] #[])
  fields := #[]
  methods := #[]
  instanceTypes := #[]
  staticTypes := #[]
  resolved := Array.replicate 7 none
  statics := none }

def pool4 : Array CpInfo := pool [(1, .class_ 2), (0, u "java/lang/Comparable"), (0, .class_ 4), (0, u "java/lang/Object")] 7

/-- java/lang/Comparable -/
def k4 : Class := { plain "java/lang/Comparable" (some 0) with
  accessFlags := 1537
  interfaces := #[]
  cf := some (fileOf pool4 1 #[] #[] 1537 3 #[] #[])
  fields := #[]
  methods := #[]
  instanceTypes := #[]
  staticTypes := #[]
  resolved := Array.replicate 12 none
  statics := none }

def pool5 : Array CpInfo := pool [(2, .class_ 4), (1, u "java/lang/CharSequence"), (42, .class_ 48), (0, u "java/lang/CharSequence$1CodePointIterator"), (10, .class_ 60), (0, u "java/lang/CharSequence$1CharIterator"), (5, .class_ 67), (0, u "java/lang/Object")] 63

/-- java/lang/CharSequence -/
def k5 : Class := { plain "java/lang/CharSequence" (some 0) with
  accessFlags := 1537
  interfaces := #[]
  cf := some (fileOf pool5 2 #[.nestMembers #[47, 59]] #[] 1537 66 #[] #[])
  fields := #[]
  methods := #[]
  instanceTypes := #[]
  staticTypes := #[]
  resolved := Array.replicate 131 none
  statics := none }

def pool6 : Array CpInfo := pool [(1, .class_ 2), (0, u "java/lang/constant/Constable"), (0, .class_ 4), (0, u "java/lang/Object")] 6

/-- java/lang/constant/Constable -/
def k6 : Class := { plain "java/lang/constant/Constable" (some 0) with
  accessFlags := 1537
  interfaces := #[]
  cf := some (fileOf pool6 1 #[] #[] 1537 3 #[] #[])
  fields := #[]
  methods := #[]
  instanceTypes := #[]
  staticTypes := #[]
  resolved := Array.replicate 11 none
  statics := none }

def pool7 : Array CpInfo := pool [(1, .class_ 2), (0, u "java/lang/constant/ConstantDesc"), (0, .class_ 4), (0, u "java/lang/Object")] 32

/-- java/lang/constant/ConstantDesc -/
def k7 : Class := { plain "java/lang/constant/ConstantDesc" (some 0) with
  accessFlags := 1537
  interfaces := #[]
  cf := some (fileOf pool7 1 #[] #[] 1537 3 #[] #[])
  fields := #[]
  methods := #[]
  instanceTypes := #[]
  staticTypes := #[]
  resolved := Array.replicate 37 none
  statics := none }

def pool8 : Array CpInfo := pool [(2, .class_ 4), (1, u "java/lang/Object"), (0, u "<init>"), (0, u "()V"), (3, .class_ 12), (1, u "java/lang/String"), (0, u "value"), (0, u "[B"), (2, u "coder"), (0, u "B"), (2, u "hash"), (0, u "I"), (2, u "hashIsZero"), (0, u "Z"), (13, u "COMPACT_STRINGS"), (534, .class_ 576), (0, u "java/lang/CharSequence"), (22, u "CASE_INSENSITIVE_ORDER"), (0, u "Ljava/util/Comparator;"), (500, u "serialPersistentFields"), (0, u "[Ljava/io/ObjectStreamField;"), (0, .class_ 1104), (0, u "java/lang/String$CaseInsensitiveComparator"), (1, .class_ 1107), (0, u "java/io/Serializable"), (0, .class_ 1109), (0, u "java/lang/Comparable"), (0, .class_ 1111), (0, u "java/lang/constant/Constable"), (0, .class_ 1113), (0, u "java/lang/constant/ConstantDesc"), (2, u "serialVersionUID"), (0, u "J"), (3, u "REPL"), (0, u "C"), (2, u "LATIN1"), (1, u "UTF16")] 323

def k8m0 : Method := { name := "<init>", desc := "()V", sig := { parameters := [], returnType := none }, accessFlags := 1, code := none }
/-- java/lang/String -/
def k8 : Class := { plain "java/lang/String" (some 0) with
  accessFlags := 49
  interfaces := #[3, 4, 5, 6, 7]
  cf := some (fileOf pool8 10 #[.nestMembers #[1103]] #[{ accessFlags := 1, nameIndex := 5, descriptorIndex := 6, attributes := #[] }] 49 2 #[1106, 1108, 575, 1110, 1112] #[{ accessFlags := 18, nameIndex := 13, descriptorIndex := 14, attributes := #[] }, { accessFlags := 18, nameIndex := 17, descriptorIndex := 18, attributes := #[] }, { accessFlags := 2, nameIndex := 21, descriptorIndex := 22, attributes := #[] }, { accessFlags := 2, nameIndex := 25, descriptorIndex := 26, attributes := #[] }, { accessFlags := 26, nameIndex := 1116, descriptorIndex := 1117, attributes := #[] }, { accessFlags := 24, nameIndex := 40, descriptorIndex := 26, attributes := #[] }, { accessFlags := 26, nameIndex := 1101, descriptorIndex := 1102, attributes := #[] }, { accessFlags := 26, nameIndex := 1121, descriptorIndex := 1122, attributes := #[] }, { accessFlags := 25, nameIndex := 599, descriptorIndex := 600, attributes := #[] }, { accessFlags := 24, nameIndex := 1125, descriptorIndex := 18, attributes := #[] }, { accessFlags := 24, nameIndex := 1127, descriptorIndex := 18, attributes := #[] }])
  fields := #[{ name := "value", type := (.array .byte), accessFlags := 18, slot := 0, constantValue := 0 }, { name := "coder", type := .byte, accessFlags := 18, slot := 1, constantValue := 0 }, { name := "hash", type := .int, accessFlags := 2, slot := 2, constantValue := 0 }, { name := "hashIsZero", type := .boolean, accessFlags := 2, slot := 3, constantValue := 0 }, { name := "serialVersionUID", type := .long, accessFlags := 26, slot := 0, constantValue := 0 }, { name := "COMPACT_STRINGS", type := .boolean, accessFlags := 24, slot := 1, constantValue := 0 }, { name := "serialPersistentFields", type := (.array (.object "java/io/ObjectStreamField")), accessFlags := 26, slot := 2, constantValue := 0 }, { name := "REPL", type := .char, accessFlags := 26, slot := 3, constantValue := 0 }, { name := "CASE_INSENSITIVE_ORDER", type := (.object "java/util/Comparator"), accessFlags := 25, slot := 4, constantValue := 0 }, { name := "LATIN1", type := .byte, accessFlags := 24, slot := 5, constantValue := 0 }, { name := "UTF16", type := .byte, accessFlags := 24, slot := 6, constantValue := 0 }]
  methods := #[k8m0]
  instanceTypes := #[(.array .byte), .byte, .int, .boolean]
  staticTypes := #[.long, .boolean, (.array (.object "java/io/ObjectStreamField")), .char, (.object "java/util/Comparator"), .byte, .byte]
  resolved := Array.replicate 1451 none
  statics := none }

def pool9 : Array CpInfo := pool [(1, u "java/lang/Cloneable"), (0, .class_ 1), (0, u "java/lang/Object"), (0, .class_ 3)] 3

/-- java/lang/Cloneable -/
def k9 : Class := { plain "java/lang/Cloneable" (some 0) with
  accessFlags := 1537
  interfaces := #[]
  cf := some (fileOf pool9 2 #[] #[] 1537 4 #[] #[])
  fields := #[]
  methods := #[]
  instanceTypes := #[]
  staticTypes := #[]
  resolved := Array.replicate 8 none
  statics := none }

/-- the primitive byte -/
def k10 : Class := { plain "byte" none with kind := .primitive 'B', accessFlags := 0x411 }
/-- [B -/
def k11 : Class := { plain "[B" (some 0) with kind := .array 10 .byte, interfaces := #[9, 3], accessFlags := 1041 }

/-- the primitive int -/
def k12 : Class := { plain "int" none with kind := .primitive 'I', accessFlags := 0x411 }
/-- [I -/
def k13 : Class := { plain "[I" (some 0) with kind := .array 12 .int, interfaces := #[9, 3], accessFlags := 1041 }

def heap : Heap := #[]
def classes : Array Class := #[k0, k1, k2, k3, k4, k5, k6, k7, k8, k9, k10, k11, k12, k13]
def interned : List (Array UInt16 × Addr) := []
def slotsUsed : Nat := 0
def theMethod : MethodId := ⟨1, 1⟩
def args0 : Array Value := #[.int 5, .int 3]
def aboutOver (below : List Frame) : State where
  vm := { classes := classes, interned := interned.toArray }
  heap := heap
  slotsUsed := slotsUsed
  threads := #[{ frames := .invoking theMethod args0 :: below }]
def below0 : List Frame := [.native { method := ⟨0, 0⟩, args := #[] }]
def about1 : State := aboutOver below0
def p0 : Program := .bare "" "" ""
def e0 : Env := launch0.env 0 0 0
theorem w_frames : about1.frames = Frame.invoking theMethod args0 :: below0 := rfl
set_option maxRecDepth 65536 in
theorem w_args : argsFit about1.vm theMethod args0 = true := by decide +kernel
set_option maxRecDepth 65536 in
theorem w_heap : heapFits about1 = true := by decide +kernel
set_option maxRecDepth 65536 in
theorem w_runnable : about1.curStatus? = some .runnable := by decide +kernel
set_option maxRecDepth 65536 in
theorem w_alone : about1.alone = true := by decide +kernel
set_option maxRecDepth 65536 in
theorem w_named : about1.methodNamed? x = some theMethod := by decide +kernel
set_option maxRecDepth 65536 in
theorem w_hears : about1.hears theMethod below0 = true := by decide +kernel
set_option maxRecDepth 65536 in
theorem w_ripe : about1.ripe theMethod args0 below0 = true := by decide +kernel
theorem w_running : about1.status = .running := rfl
set_option maxRecDepth 65536 in
theorem w_room : about1.hasRoom e0.platform room_1 = true :=
  launch0.hasRoom_least _ room_1 (by decide +kernel) (by decide +kernel) (by decide +kernel) (by decide +kernel) (by decide +kernel) (by decide +kernel)
theorem allAtoms_all (ts : List Jvm.Cond) (a : Array Jvm.Value) (st : Jvm.State) : (allAtoms ts).before a st = ts.all (fun c => c.before a st) := by
  induction ts with
  | nil => rfl
  | cons c t ih =>
    show (Jvm.Cond.and c (allAtoms t)).before a st = _
    rw [Jvm.Cond.before_and, ih, List.all_cons]
def words1 : List Jvm.Cond := Jvm.Cond.code x code maxLocals ret :: tables_1
/-- a 'code' word, met by the world's own term for the bytes: nothing is compared byte by byte -/
theorem code_word {y : MethodName} {bytes : ByteArray} {mx : Nat} {rt : Option FieldType} {a : Array Value} {s : State} {m : MethodId} {meth : Method} {c : Code} (h1 : s.methodNamed? y = some m) (h2 : s.vm.method? m = some meth) (h3 : meth.code = some c) (h4 : c.code = bytes)
    (h5 : (c.maxLocals == mx && c.exceptionTable.isEmpty && decide (c.maxStack ≤ mostOperands) && decide (meth.sig.returnType = rt) && !meth.locks && decide (parseMethodDescriptor y.desc = some meth.sig)) = true) : (Jvm.Cond.code y bytes mx rt).before a s = true := by
  simp only [Bool.and_eq_true, beq_iff_eq, Bool.not_eq_true', decide_eq_true_eq] at h5
  obtain ⟨⟨⟨⟨⟨g1, g2⟩, g3⟩, g4⟩, g5⟩, g6⟩ := h5
  simp [Cond.before, Cond.holds, Cond.value, h1, h2, h3, h4, g1, g2, g3, g4, g5, g6]
def isCode : Jvm.Cond → Bool
  | .code _ _ _ _ => true
  | _ => false
theorem all_split {L : List Jvm.Cond} {P : Jvm.Cond → Bool} (h1 : L.all (fun c => isCode c || P c) = true) (h2 : ∀ c ∈ L.filter isCode, P c = true) : L.all P = true := by
  refine List.all_eq_true.mpr fun c hc => ?_
  have h := List.all_eq_true.mp h1 c hc
  rcases Bool.eq_false_or_eq_true (isCode c) with hi | hi
  · exact h2 c (List.mem_filter.mpr ⟨hc, hi⟩)
  · simpa [hi] using h
set_option maxRecDepth 65536 in
theorem w_c0 : (Jvm.Cond.code x code maxLocals ret).before args0 about1 = true := code_word (m := ⟨1, 1⟩) (meth := k1m1) (c := k1c1) (by decide +kernel) rfl rfl rfl (by decide +kernel)
set_option maxRecDepth 65536 in
theorem w_c1 : (Jvm.Cond.code ({ cls := "com/example/nephele/nephele/VerificationMode", name := "atLeast", desc := "(I)Lcom/example/nephele/nephele/VerificationMode;" } : Jvm.MethodName) prog_10_method_3_code (1 : Nat) (Option.some (Jvm.ClassFile.FieldType.object "com/example/nephele/nephele/VerificationMode"))).before args0 about1 = true := code_word (m := ⟨2, 1⟩) (meth := k2m1) (c := k2c1) (by decide +kernel) rfl rfl rfl (by decide +kernel)
set_option maxRecDepth 65536 in
theorem w_c2 : (Jvm.Cond.code ({ cls := "com/example/nephele/nephele/VerificationMode", name := "checkCount", desc := "(Ljava/lang/String;I)V" } : Jvm.MethodName) prog_10_method_8_code (2 : Nat) (Option.none : Option Jvm.ClassFile.FieldType)).before args0 about1 = true := code_word (m := ⟨2, 3⟩) (meth := k2m3) (c := k2c3) (by decide +kernel) rfl rfl rfl (by decide +kernel)
set_option maxRecDepth 65536 in
theorem w_c3 : (Jvm.Cond.code ({ cls := "com/example/nephele/nephele/VerificationMode", name := "<init>", desc := "(II)V" } : Jvm.MethodName) prog_10_method_1_code (3 : Nat) (Option.none : Option Jvm.ClassFile.FieldType)).before args0 about1 = true := code_word (m := ⟨2, 0⟩) (meth := k2m0) (c := k2c0) (by decide +kernel) rfl rfl rfl (by decide +kernel)
set_option maxRecDepth 65536 in
theorem w_c4 : (Jvm.Cond.code ({ cls := "java/lang/Object", name := "<init>", desc := "()V" } : Jvm.MethodName) object_method_1_code (1 : Nat) (Option.none : Option Jvm.ClassFile.FieldType)).before args0 about1 = true := code_word (m := ⟨0, 0⟩) (meth := k0m0) (c := k0c0) (by decide +kernel) rfl rfl rfl (by decide +kernel)
set_option maxRecDepth 65536 in
theorem w_c5 : (Jvm.Cond.code ({ cls := "com/example/nephele/nephele/VerificationMode", name := "allows", desc := "(I)Z" } : Jvm.MethodName) prog_10_method_5_code (2 : Nat) (Option.some Jvm.ClassFile.FieldType.boolean)).before args0 about1 = true := code_word (m := ⟨2, 2⟩) (meth := k2m2) (c := k2c2) (by decide +kernel) rfl rfl rfl (by decide +kernel)
def codes1 : List Jvm.Cond := [Jvm.Cond.code x code maxLocals ret, Jvm.Cond.code ({ cls := "com/example/nephele/nephele/VerificationMode", name := "atLeast", desc := "(I)Lcom/example/nephele/nephele/VerificationMode;" } : Jvm.MethodName) prog_10_method_3_code (1 : Nat) (Option.some (Jvm.ClassFile.FieldType.object "com/example/nephele/nephele/VerificationMode")), Jvm.Cond.code ({ cls := "com/example/nephele/nephele/VerificationMode", name := "checkCount", desc := "(Ljava/lang/String;I)V" } : Jvm.MethodName) prog_10_method_8_code (2 : Nat) (Option.none : Option Jvm.ClassFile.FieldType), Jvm.Cond.code ({ cls := "com/example/nephele/nephele/VerificationMode", name := "<init>", desc := "(II)V" } : Jvm.MethodName) prog_10_method_1_code (3 : Nat) (Option.none : Option Jvm.ClassFile.FieldType), Jvm.Cond.code ({ cls := "java/lang/Object", name := "<init>", desc := "()V" } : Jvm.MethodName) object_method_1_code (1 : Nat) (Option.none : Option Jvm.ClassFile.FieldType), Jvm.Cond.code ({ cls := "com/example/nephele/nephele/VerificationMode", name := "allows", desc := "(I)Z" } : Jvm.MethodName) prog_10_method_5_code (2 : Nat) (Option.some Jvm.ClassFile.FieldType.boolean)]
set_option maxRecDepth 65536 in
theorem codes_eq : words1.filter isCode = codes1 := rfl
theorem w_codes : ∀ c ∈ words1.filter isCode, c.before args0 about1 = true := by
  rw [codes_eq]
  intro c hc
  simp only [codes1, List.mem_cons, List.not_mem_nil, or_false] at hc
  rcases hc with rfl | rfl | rfl | rfl | rfl | rfl
  · exact w_c0
  · exact w_c1
  · exact w_c2
  · exact w_c3
  · exact w_c4
  · exact w_c5
set_option maxRecDepth 65536 in
theorem w_t1 : (words1.take 24).all (fun c => isCode c || c.before args0 about1) = true := by decide +kernel
set_option maxRecDepth 65536 in
theorem w_t2 : (words1.drop 24).all (fun c => isCode c || c.before args0 about1) = true := by decide +kernel
theorem w_tables : (allAtoms (Jvm.Cond.code x code maxLocals ret :: tables_1)).before args0 about1 = true := by
  rw [allAtoms_all]
  show words1.all (fun c => c.before args0 about1) = true
  refine all_split ?_ w_codes
  rw [← List.take_append_drop 24 words1, List.all_append, w_t1, w_t2]
  rfl
set_option maxRecDepth 65536 in
theorem w_case : (Jvm.Cond.and given_1 narrow_1).before args0 about1 = true := by decide +kernel
theorem w_applies : (headSpec (Jvm.Cond.code x code maxLocals ret :: tables_1) room_1).applies x e0.platform about1 = true :=
  (Spec.applies_iff w_frames).mpr ⟨w_running, w_runnable, w_alone, w_named, w_hears, w_ripe, w_room, w_tables⟩
theorem atStart : AtStart classFile x code maxLocals ret World_1 tables_1 room_1 Calls_1 rest_1 Pre_1 launch0 p0 e0 about1 theMethod args0 below0 :=
  ⟨lists_1, trivial, launch0.admits_env _ _ _, launch0.least_env, fairChoices_fair.cas, fairChoices_fair.clock, w_frames, w_args, w_heap, w_applies, trivial, trivial, w_case⟩
end start1
theorem witness_1 : WitnessClaimed_1 := ⟨start1.p0, start1.e0, start1.about1, start1.theMethod, start1.args0, start1.below0, start1.atStart⟩
end Jvm.Pilot.@@N@@
