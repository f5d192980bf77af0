import JvmDerived
import JvmDerived.Pilot.@@N@@Statement
import JvmDerived.Pilot.@@N@@Code
set_option linter.unusedVariables false
set_option linter.unusedSimpArgs false
namespace Jvm.Pilot.@@N@@
open Jvm Jvm.ClassFile Sem Op Lib Jvm.Free Jvm.Stand Jvm.LawKit Jvm.RoadKit Bundle Jvm.Pilot.@@N@@.Jvm.D
theorem own_exa_ns {Z : State} {h : Heap} {a : Addr} {C : String} (E : Exa Z h a C) : ∀ c : Cell, h[a]? = some c → c.vm.isStatics = false := fun c hc => by
  obtain ⟨cell, k, h1, -, -, h4, -⟩ := E
  rw [h1] at hc; cases hc; exact h4
theorem own_sta_keep {Z : State} {h h' : Heap} {C n d : String} {v : Value} {ws : List Addr} (F : Sta Z h C n d v) (K : Keep h h' ws) (q : ∀ x ∈ ws, ∀ c : Cell, h[x]? = some c → c.vm.isStatics = false) : Sta Z h' C n d v := by
  obtain ⟨cf, i, k, f, st, cell, h1, h2, h3, h4, h5, h6, h7⟩ := F
  exact ⟨cf, i, k, f, st, cell, h1, h2, h3, h4, K.2.1 st cell h5 (fun hm => by have := q st hm cell h5; rw [h6] at this; cases this), h6, h7⟩
theorem own_ins_keep {Z : State} {h h' : Heap} {a : Addr} {C : String} {b : Bool} {ws : List Addr} (F : Ins Z h a C b) (K : Keep h h' ws) : Ins Z h' a C b := by
  obtain ⟨cell, cT, h1, h2, h3⟩ := F
  obtain ⟨c', q1, q2, q3, -⟩ := K.2.2 a cell h1
  exact ⟨c', cT, q1, h2, by rw [q3, q2]; exact h3⟩
theorem own_ne {r c : Int32} (k : Int) (hc : c.toInt = k) (h : ¬ r = c) : ¬ r.toInt = k := fun e => h (Int32.toInt_inj.mp (e.trans hc.symm))
theorem own_nz {z : Int32} (h : z = 0 ∨ z = 1) : narrow .boolean (.int z) = .int z := by rcases h with rfl | rfl <;> rfl
theorem d1_0 : decode prog_40_method_1_code 0 = .ok (.aload_n 0, 1) := by decide +kernel
theorem d1_1 : decode prog_40_method_1_code 1 = .ok (.invokespecial 1, 3) := by decide +kernel
theorem d1_4 : decode prog_40_method_1_code 4 = .ok (.aload_n 0, 1) := by decide +kernel
theorem d1_5 : decode prog_40_method_1_code 5 = .ok (.bipush 10, 2) := by decide +kernel
theorem d1_7 : decode prog_40_method_1_code 7 = .ok (.putfield 7, 3) := by decide +kernel
theorem d1_10 : decode prog_40_method_1_code 10 = .ok (.aload_n 0, 1) := by decide +kernel
theorem d1_11 : decode prog_40_method_1_code 11 = .ok (.sipush 1000, 3) := by decide +kernel
theorem d1_14 : decode prog_40_method_1_code 14 = .ok (.putfield 15, 3) := by decide +kernel
theorem d1_17 : decode prog_40_method_1_code 17 = .ok (.return_, 1) := by decide +kernel
theorem pn_9 : plainName "com/example/calycule/calycule/validators/BigIntegerConverter" = true := by first | (simp [plainName, overriddenIn]; done) | decide +kernel
def Q1 (Z : State) (n0 : Nat) (a0 : Addr) (w_a0_radix : Value) (w_a0_maxDigits : Value) (h0 : Heap) (v : Option Value) (h : Heap) (L : List Loc) : Prop := v = none ∧ Fr n0 L ∧ Keep h0 h [a0] ∧ Exa Z h a0 "com/example/calycule/calycule/validators/BigIntegerConverter" ∧ Fld Z h a0 "com/example/calycule/calycule/validators/BigIntegerConverter" "radix" "I" (.int (10 : Int32)) ∧ Fld Z h a0 "com/example/calycule/calycule/validators/BigIntegerConverter" "maxDigits" "I" (.int (1000 : Int32))
theorem ef1 (m : MethodId) (a0 : Addr) : entryFrame m #[(.ref a0)] 1 = mkF m 0 #[.val (.ref a0)] [] := by first | (simp [entryFrame, mkF, argsToLocals, Value.category]; done) | rfl
set_option maxRecDepth 65536 in
set_option maxHeartbeats 40000000 in
theorem rm1 (l : Launch) (Z : State) (aZ : Array Value) (hw : ∀ d ∈ tables_1, d.before aZ Z = true) (ws : List Jvm.Cond) (a0 : Addr) (w_a0_radix : Value) (w_a0_maxDigits : Value) (h0 : Heap) (n0 : Nat) (Z0 : n0 ≤ h0.size) (E_a0 : Exa Z h0 a0 "com/example/calycule/calycule/validators/BigIntegerConverter") (F_a0_radix : Fld Z h0 a0 "com/example/calycule/calycule/validators/BigIntegerConverter" "radix" "I" w_a0_radix) (F_a0_maxDigits : Fld Z h0 a0 "com/example/calycule/calycule/validators/BigIntegerConverter" "maxDigits" "I" w_a0_maxDigits) (g_a0 : n0 ≤ a0) :
    MetFree l (⟨"com/example/calycule/calycule/validators/BigIntegerConverter", "<init>", "()V"⟩ : MethodName) (head1 (Jvm.Cond.code (⟨"com/example/calycule/calycule/validators/BigIntegerConverter", "<init>", "()V"⟩ : MethodName) prog_40_method_1_code 1 none :: ws) ({ frames := 1, cells := 0, slots := 0, locals := 12 } : Room)) (fun a U => a = #[(.ref a0)] ∧ Z.Warmed39 U.vm ∧ U.heap = h0) (fun _ _ _ _ _ => True) (fun _ U o U' => ∃ v L, o = .returned v ∧ Q1 Z n0 a0 w_a0_radix w_a0_maxDigits h0 v U'.heap L ∧ FrameEnd U o U' L ({ frames := 1, cells := 0, slots := 0, locals := 12 } : Room).cells ({ frames := 1, cells := 0, slots := 0, locals := 12 } : Room).slots) := by
  refine MetFree.of_bodySF (plainFor_of_name pn_9) hisR ?_
  intro p e s m args below meth c s₁ Bd hml0 hP hK
  obtain ⟨rfl, hZ, hh⟩ := hP
  have hx := Bd.exec
  have hby := Bd.bytes
  have hml : c.maxLocals = 1 := hml0
  have hown : s.vm.findClass "com/example/calycule/calycule/validators/BigIntegerConverter" = some m.cls := findClass_of_methodNamed Bd.named
  have hnm := (name_of_methodNamed Bd.named Bd.method).1
  have X0 : Stand p l e ({ frames := 1, cells := 0, slots := 0, locals := 12 } : Room) s m #[(.ref a0)] below meth c s₁ [] 0 0 := Stand.of_body Bd
  have e0 : s₁.heap = h0 := by rw [← hh, Bd.state]; rfl
  have N0 := Fr.nil n0
  have K0 : Keep h0 h0 [a0] := Keep.refl _ _
  have go0 : ∀ t, Steps p.tables e below (s₁.setTop (mkF m 0 #[.val (.ref a0)] [])) t → Steps p.tables e below (s₁.setTop (entryFrame m #[(.ref a0)] 1)) t := fun t k => castTop (ef1 m a0) k
  have go1 : ∀ t, Steps p.tables e below (s₁.setTop (mkF m 1 #[.val (.ref a0)] [(.ref a0)])) t → Steps p.tables e below (s₁.setTop (entryFrame m #[(.ref a0)] 1)) t := by
    intro t k
    refine go0 _ ?_
    refine XS.aloadN X0.here hx rfl (hb hby d1_0) rfl rfl ?_
    show Steps p.tables e below (s₁.setTop (mkF m 1 #[.val (.ref a0)] [(.ref a0)])) t
    exact k
  obtain ⟨T2, X2, e2, st2⟩ := initO X0 hx hZ hown (hw _ (List.mem_of_getElem? (i := 8) rfl)) (hw _ (List.mem_of_getElem? (i := 9) rfl)) (hw _ (List.mem_of_getElem? (i := 10) rfl)) e0 (g := (mkF m 1 #[.val (.ref a0)] [(.ref a0)])) rfl (by rw [hml]; rfl) rfl (hb hby d1_1) (by decide) (W := 0) (by show 2 * 0 + _ ≤ _; exact Nat.le_of_eq rfl) (by decide)
  have go3 : ∀ t, Steps p.tables e below (T2.setTop (mkF m 4 #[.val (.ref a0)] [])) t → Steps p.tables e below (s₁.setTop (entryFrame m #[(.ref a0)] 1)) t := fun t k => go1 _ (st2 _ k)
  have go4 : ∀ t, Steps p.tables e below (T2.setTop (mkF m 7 #[.val (.ref a0)] [(.int (10 : Int32)), (.ref a0)])) t → Steps p.tables e below (s₁.setTop (entryFrame m #[(.ref a0)] 1)) t := by
    intro t k
    refine go3 _ ?_
    refine XS.aloadN X2.here hx rfl (hb hby d1_4) rfl rfl ?_
    show Steps p.tables e below (T2.setTop (mkF m 5 #[.val (.ref a0)] [(.ref a0)])) t
    refine XS.bipush X2.here hx rfl (hb hby d1_5) ?_
    show Steps p.tables e below (T2.setTop (mkF m 7 #[.val (.ref a0)] [(.int (10 : Int32)), (.ref a0)])) t
    exact k
  obtain ⟨T5, h5, X5, e5, W5, st5⟩ := putF X2 hx hZ hown (host := "") (Or.inl (hw _ (List.mem_of_getElem? (i := 11) rfl))) Via.refl e2 F_a0_radix E_a0 (Or.inl (hw _ (List.mem_of_getElem? (i := 12) rfl))) (hw _ (List.mem_of_getElem? (i := 3) rfl)) (ty := .int) (by decide) rfl rfl (g := (mkF m 7 #[.val (.ref a0)] [(.int (10 : Int32)), (.ref a0)])) rfl rfl (hb hby d1_7)
  have go6 : ∀ t, Steps p.tables e below (T5.setTop (mkF m 10 #[.val (.ref a0)] [])) t → Steps p.tables e below (s₁.setTop (entryFrame m #[(.ref a0)] 1)) t := fun t k => go4 _ (st5 _ k)
  have N5 := Fr.snoc X5 N0 g_a0
  have K5 : Keep h0 h5 [a0] := K0.wr W5 (Or.inl (List.mem_of_getElem? (i := 0) rfl))
  have Zs5 : n0 ≤ h5.size := Nat.le_trans Z0 (Keep.of_wr W5).1
  have F7 : Exa Z h5 a0 "com/example/calycule/calycule/validators/BigIntegerConverter" := E_a0.wr W5
  have F8 : Fld Z h5 a0 "com/example/calycule/calycule/validators/BigIntegerConverter" "radix" "I" (.int (10 : Int32)) := F_a0_radix.same W5
  have F9 : Fld Z h5 a0 "com/example/calycule/calycule/validators/BigIntegerConverter" "maxDigits" "I" w_a0_maxDigits := F_a0_maxDigits.other W5 (Or.inr (slot_ne (Or.inl (hw _ (List.mem_of_getElem? (i := 14) rfl))) (Or.inl (hw _ (List.mem_of_getElem? (i := 12) rfl))) (by decide) (t := .int) (t' := .int) (by decide) (by decide)))
  have go10 : ∀ t, Steps p.tables e below (T5.setTop (mkF m 14 #[.val (.ref a0)] [(.int (1000 : Int32)), (.ref a0)])) t → Steps p.tables e below (s₁.setTop (entryFrame m #[(.ref a0)] 1)) t := by
    intro t k
    refine go6 _ ?_
    refine XS.aloadN X5.here hx rfl (hb hby d1_10) rfl rfl ?_
    show Steps p.tables e below (T5.setTop (mkF m 11 #[.val (.ref a0)] [(.ref a0)])) t
    refine XS.sipush X5.here hx rfl (hb hby d1_11) ?_
    show Steps p.tables e below (T5.setTop (mkF m 14 #[.val (.ref a0)] [(.int (1000 : Int32)), (.ref a0)])) t
    exact k
  obtain ⟨T11, h11, X11, e11, W11, st11⟩ := putF X5 hx hZ hown (host := "") (Or.inl (hw _ (List.mem_of_getElem? (i := 13) rfl))) Via.refl e5 F9 F7 (Or.inl (hw _ (List.mem_of_getElem? (i := 14) rfl))) (hw _ (List.mem_of_getElem? (i := 3) rfl)) (ty := .int) (by decide) rfl rfl (g := (mkF m 14 #[.val (.ref a0)] [(.int (1000 : Int32)), (.ref a0)])) rfl rfl (hb hby d1_14)
  have go12 : ∀ t, Steps p.tables e below (T11.setTop (mkF m 17 #[.val (.ref a0)] [])) t → Steps p.tables e below (s₁.setTop (entryFrame m #[(.ref a0)] 1)) t := fun t k => go10 _ (st11 _ k)
  have N11 := Fr.snoc X11 N5 g_a0
  have K11 : Keep h0 h11 [a0] := K5.wr W11 (Or.inl (List.mem_of_getElem? (i := 0) rfl))
  have Zs11 : n0 ≤ h11.size := Nat.le_trans Zs5 (Keep.of_wr W11).1
  have F13 : Exa Z h11 a0 "com/example/calycule/calycule/validators/BigIntegerConverter" := F7.wr W11
  have F14 : Fld Z h11 a0 "com/example/calycule/calycule/validators/BigIntegerConverter" "radix" "I" (.int (10 : Int32)) := F8.other W11 (Or.inr (slot_ne (Or.inl (hw _ (List.mem_of_getElem? (i := 12) rfl))) (Or.inl (hw _ (List.mem_of_getElem? (i := 14) rfl))) (by decide) (t := .int) (t' := .int) (by decide) (by decide)))
  have F15 : Fld Z h11 a0 "com/example/calycule/calycule/validators/BigIntegerConverter" "maxDigits" "I" (.int (1000 : Int32)) := F9.same W11
  obtain ⟨fs, hr, hrun, hended, hW, hsame⟩ := X11.leave (v := none) (fun _ => rfl)
  refine ⟨_, _, go12 _ (X11.returnOut hx Bd.returns (hb hby d1_17) hr), hrun, hended, _, _, rfl, ?_, ⟨_, rfl⟩, hW, hsame.mono (by decide) (by decide)⟩
  show Q1 _ _ a0 w_a0_radix w_a0_maxDigits h0 _ (T11.setFrames fs).heap _
  have hE : (T11.setFrames fs).heap = h11 := e11
  rw [hE]
  exact ⟨rfl, N11, K11, F13, F14, F15⟩
theorem d3_0 : decode prog_40_method_2_code 0 = .ok (.aload_n 0, 1) := by decide +kernel
theorem d3_1 : decode prog_40_method_2_code 1 = .ok (.getfield 7, 3) := by decide +kernel
theorem d3_4 : decode prog_40_method_2_code 4 = .ok (.ireturn, 1) := by decide +kernel
def Q3 (Z : State) (n0 : Nat) (a0 : Addr) (w_a0_radix : Int32) (h0 : Heap) (v : Option Value) (h : Heap) (L : List Loc) : Prop := v = some (.int w_a0_radix) ∧ Fr n0 L ∧ h = h0
theorem ef3 (m : MethodId) (a0 : Addr) : entryFrame m #[(.ref a0)] 1 = mkF m 0 #[.val (.ref a0)] [] := by first | (simp [entryFrame, mkF, argsToLocals, Value.category]; done) | rfl
set_option maxRecDepth 65536 in
set_option maxHeartbeats 40000000 in
theorem rm3 (l : Launch) (Z : State) (aZ : Array Value) (hw : ∀ d ∈ tables_1, d.before aZ Z = true) (ws : List Jvm.Cond) (a0 : Addr) (w_a0_radix : Int32) (h0 : Heap) (n0 : Nat) (Z0 : n0 ≤ h0.size) (F_a0_radix : Fld Z h0 a0 "com/example/calycule/calycule/validators/BigIntegerConverter" "radix" "I" (.int w_a0_radix)) :
    MetFree l (⟨"com/example/calycule/calycule/validators/BigIntegerConverter", "getRadix", "()I"⟩ : MethodName) (head1 (Jvm.Cond.code (⟨"com/example/calycule/calycule/validators/BigIntegerConverter", "getRadix", "()I"⟩ : MethodName) prog_40_method_2_code 1 (some .int) :: ws) ({ frames := 0, cells := 0, slots := 0, locals := 0 } : Room)) (fun a U => a = #[(.ref a0)] ∧ Z.Warmed39 U.vm ∧ U.heap = h0) (fun _ _ _ _ _ => True) (fun _ U o U' => ∃ v L, o = .returned v ∧ Q3 Z n0 a0 w_a0_radix h0 v U'.heap L ∧ FrameEnd U o U' L ({ frames := 0, cells := 0, slots := 0, locals := 0 } : Room).cells ({ frames := 0, cells := 0, slots := 0, locals := 0 } : Room).slots) := by
  refine MetFree.of_bodySF (plainFor_of_name pn_9) hisR ?_
  intro p e s m args below meth c s₁ Bd hml0 hP hK
  obtain ⟨rfl, hZ, hh⟩ := hP
  have hx := Bd.exec
  have hby := Bd.bytes
  have hml : c.maxLocals = 1 := hml0
  have hown : s.vm.findClass "com/example/calycule/calycule/validators/BigIntegerConverter" = some m.cls := findClass_of_methodNamed Bd.named
  have hnm := (name_of_methodNamed Bd.named Bd.method).1
  have X0 : Stand p l e ({ frames := 0, cells := 0, slots := 0, locals := 0 } : Room) s m #[(.ref a0)] below meth c s₁ [] 0 0 := Stand.of_body Bd
  have e0 : s₁.heap = h0 := by rw [← hh, Bd.state]; rfl
  have N0 := Fr.nil n0
  have K0 : Keep h0 h0 [] := Keep.refl _ _
  have go0 : ∀ t, Steps p.tables e below (s₁.setTop (mkF m 0 #[.val (.ref a0)] [])) t → Steps p.tables e below (s₁.setTop (entryFrame m #[(.ref a0)] 1)) t := fun t k => castTop (ef3 m a0) k
  have go1 : ∀ t, Steps p.tables e below (s₁.setTop (mkF m 1 #[.val (.ref a0)] [(.ref a0)])) t → Steps p.tables e below (s₁.setTop (entryFrame m #[(.ref a0)] 1)) t := by
    intro t k
    refine go0 _ ?_
    refine XS.aloadN X0.here hx rfl (hb hby d3_0) rfl rfl ?_
    show Steps p.tables e below (s₁.setTop (mkF m 1 #[.val (.ref a0)] [(.ref a0)])) t
    exact k
  obtain ⟨T2, X2, e2, st2⟩ := getF X0 hx hZ hown (host := "") (Or.inl (hw _ (List.mem_of_getElem? (i := 11) rfl))) Via.refl e0 F_a0_radix (g := (mkF m 1 #[.val (.ref a0)] [(.ref a0)])) rfl rfl (hb hby d3_1)
  have go3 : ∀ t, Steps p.tables e below (T2.setTop (mkF m 4 #[.val (.ref a0)] [(.int w_a0_radix)])) t → Steps p.tables e below (s₁.setTop (entryFrame m #[(.ref a0)] 1)) t := fun t k => go1 _ (st2 _ k)
  obtain ⟨fs, hr, hrun, hended, hW, hsame⟩ := X2.leave (v := some (.int w_a0_radix)) (fun h => by rw [Bd.returns] at h; cases h)
  refine ⟨_, _, go3 _ (Jvm.RoadKit.retOut X2 hx Bd.returns rfl (Or.inl ⟨rfl, Or.inl rfl, _, rfl⟩) (hb hby d3_4) hr), hrun, hended, _, _, rfl, ?_, ⟨_, rfl⟩, hW, hsame.mono (by decide) (by decide)⟩
  show Q3 _ _ a0 w_a0_radix h0 _ (T2.setFrames fs).heap _
  have hE : (T2.setFrames fs).heap = h0 := e2
  rw [hE]
  exact ⟨rfl, N0, rfl⟩
theorem d7_0 : decode prog_40_method_4_code 0 = .ok (.aload_n 0, 1) := by decide +kernel
theorem d7_1 : decode prog_40_method_4_code 1 = .ok (.getfield 15, 3) := by decide +kernel
theorem d7_4 : decode prog_40_method_4_code 4 = .ok (.ireturn, 1) := by decide +kernel
def Q7 (Z : State) (n0 : Nat) (a0 : Addr) (w_a0_maxDigits : Int32) (h0 : Heap) (v : Option Value) (h : Heap) (L : List Loc) : Prop := v = some (.int w_a0_maxDigits) ∧ Fr n0 L ∧ h = h0
theorem ef7 (m : MethodId) (a0 : Addr) : entryFrame m #[(.ref a0)] 1 = mkF m 0 #[.val (.ref a0)] [] := by first | (simp [entryFrame, mkF, argsToLocals, Value.category]; done) | rfl
set_option maxRecDepth 65536 in
set_option maxHeartbeats 40000000 in
theorem rm7 (l : Launch) (Z : State) (aZ : Array Value) (hw : ∀ d ∈ tables_1, d.before aZ Z = true) (ws : List Jvm.Cond) (a0 : Addr) (w_a0_maxDigits : Int32) (h0 : Heap) (n0 : Nat) (Z0 : n0 ≤ h0.size) (F_a0_maxDigits : Fld Z h0 a0 "com/example/calycule/calycule/validators/BigIntegerConverter" "maxDigits" "I" (.int w_a0_maxDigits)) :
    MetFree l (⟨"com/example/calycule/calycule/validators/BigIntegerConverter", "getMaxDigits", "()I"⟩ : MethodName) (head1 (Jvm.Cond.code (⟨"com/example/calycule/calycule/validators/BigIntegerConverter", "getMaxDigits", "()I"⟩ : MethodName) prog_40_method_4_code 1 (some .int) :: ws) ({ frames := 0, cells := 0, slots := 0, locals := 0 } : Room)) (fun a U => a = #[(.ref a0)] ∧ Z.Warmed39 U.vm ∧ U.heap = h0) (fun _ _ _ _ _ => True) (fun _ U o U' => ∃ v L, o = .returned v ∧ Q7 Z n0 a0 w_a0_maxDigits h0 v U'.heap L ∧ FrameEnd U o U' L ({ frames := 0, cells := 0, slots := 0, locals := 0 } : Room).cells ({ frames := 0, cells := 0, slots := 0, locals := 0 } : Room).slots) := by
  refine MetFree.of_bodySF (plainFor_of_name pn_9) hisR ?_
  intro p e s m args below meth c s₁ Bd hml0 hP hK
  obtain ⟨rfl, hZ, hh⟩ := hP
  have hx := Bd.exec
  have hby := Bd.bytes
  have hml : c.maxLocals = 1 := hml0
  have hown : s.vm.findClass "com/example/calycule/calycule/validators/BigIntegerConverter" = some m.cls := findClass_of_methodNamed Bd.named
  have hnm := (name_of_methodNamed Bd.named Bd.method).1
  have X0 : Stand p l e ({ frames := 0, cells := 0, slots := 0, locals := 0 } : Room) s m #[(.ref a0)] below meth c s₁ [] 0 0 := Stand.of_body Bd
  have e0 : s₁.heap = h0 := by rw [← hh, Bd.state]; rfl
  have N0 := Fr.nil n0
  have K0 : Keep h0 h0 [] := Keep.refl _ _
  have go0 : ∀ t, Steps p.tables e below (s₁.setTop (mkF m 0 #[.val (.ref a0)] [])) t → Steps p.tables e below (s₁.setTop (entryFrame m #[(.ref a0)] 1)) t := fun t k => castTop (ef7 m a0) k
  have go1 : ∀ t, Steps p.tables e below (s₁.setTop (mkF m 1 #[.val (.ref a0)] [(.ref a0)])) t → Steps p.tables e below (s₁.setTop (entryFrame m #[(.ref a0)] 1)) t := by
    intro t k
    refine go0 _ ?_
    refine XS.aloadN X0.here hx rfl (hb hby d7_0) rfl rfl ?_
    show Steps p.tables e below (s₁.setTop (mkF m 1 #[.val (.ref a0)] [(.ref a0)])) t
    exact k
  obtain ⟨T2, X2, e2, st2⟩ := getF X0 hx hZ hown (host := "") (Or.inl (hw _ (List.mem_of_getElem? (i := 13) rfl))) Via.refl e0 F_a0_maxDigits (g := (mkF m 1 #[.val (.ref a0)] [(.ref a0)])) rfl rfl (hb hby d7_1)
  have go3 : ∀ t, Steps p.tables e below (T2.setTop (mkF m 4 #[.val (.ref a0)] [(.int w_a0_maxDigits)])) t → Steps p.tables e below (s₁.setTop (entryFrame m #[(.ref a0)] 1)) t := fun t k => go1 _ (st2 _ k)
  obtain ⟨fs, hr, hrun, hended, hW, hsame⟩ := X2.leave (v := some (.int w_a0_maxDigits)) (fun h => by rw [Bd.returns] at h; cases h)
  refine ⟨_, _, go3 _ (Jvm.RoadKit.retOut X2 hx Bd.returns rfl (Or.inl ⟨rfl, Or.inl rfl, _, rfl⟩) (hb hby d7_4) hr), hrun, hended, _, _, rfl, ?_, ⟨_, rfl⟩, hW, hsame.mono (by decide) (by decide)⟩
  show Q7 _ _ a0 w_a0_maxDigits h0 _ (T2.setFrames fs).heap _
  have hE : (T2.setFrames fs).heap = h0 := e2
  rw [hE]
  exact ⟨rfl, N0, rfl⟩
theorem d5_0 : decode prog_57_method_2_code 0 = .ok (.iload_n 0, 1) := by decide +kernel
theorem d5_1 : decode prog_57_method_2_code 1 = .ok (.iconst 1, 1) := by decide +kernel
theorem d5_2 : decode prog_57_method_2_code 2 = .ok (.if_icmp .ge 17, 3) := by decide +kernel
theorem d5_19 : decode prog_57_method_2_code 19 = .ok (.iload_n 0, 1) := by decide +kernel
theorem d5_20 : decode prog_57_method_2_code 20 = .ok (.ireturn, 1) := by decide +kernel
theorem pn_21 : plainName "com/example/calycule/calycule/validators/MaxDigits" = true := by first | (simp [plainName, overriddenIn]; done) | decide +kernel
def Q5 (Z : State) (n0 : Nat) (p0 : Int32) (h0 : Heap) (v : Option Value) (h : Heap) (L : List Loc) : Prop := v = some (.int p0) ∧ Fr n0 L ∧ h = h0
theorem ef5 (m : MethodId) (p0 : Int32) : entryFrame m #[(.int p0)] 1 = mkF m 0 #[.val (.int p0)] [] := by first | (simp [entryFrame, mkF, argsToLocals, Value.category]; done) | rfl
set_option maxRecDepth 65536 in
set_option maxHeartbeats 40000000 in
theorem rm5 (l : Launch) (Z : State) (aZ : Array Value) (hw : ∀ d ∈ tables_1, d.before aZ Z = true) (ws : List Jvm.Cond) (p0 : Int32) (h0 : Heap) (n0 : Nat) (Z0 : n0 ≤ h0.size) (hp : ¬ p0 < (1 : Int32)) :
    MetFree l (⟨"com/example/calycule/calycule/validators/MaxDigits", "require", "(I)I"⟩ : MethodName) (head1 (Jvm.Cond.code (⟨"com/example/calycule/calycule/validators/MaxDigits", "require", "(I)I"⟩ : MethodName) prog_57_method_2_code 1 (some .int) :: ws) ({ frames := 0, cells := 0, slots := 0, locals := 0 } : Room)) (fun a U => a = #[(.int p0)] ∧ Z.Warmed39 U.vm ∧ U.heap = h0) (fun _ _ _ _ _ => True) (fun _ U o U' => ∃ v L, o = .returned v ∧ Q5 Z n0 p0 h0 v U'.heap L ∧ FrameEnd U o U' L ({ frames := 0, cells := 0, slots := 0, locals := 0 } : Room).cells ({ frames := 0, cells := 0, slots := 0, locals := 0 } : Room).slots) := by
  refine MetFree.of_bodySF (plainFor_of_name pn_21) hisR ?_
  intro p e s m args below meth c s₁ Bd hml0 hP hK
  obtain ⟨rfl, hZ, hh⟩ := hP
  have hx := Bd.exec
  have hby := Bd.bytes
  have hml : c.maxLocals = 1 := hml0
  have hown : s.vm.findClass "com/example/calycule/calycule/validators/MaxDigits" = some m.cls := findClass_of_methodNamed Bd.named
  have hnm := (name_of_methodNamed Bd.named Bd.method).1
  have X0 : Stand p l e ({ frames := 0, cells := 0, slots := 0, locals := 0 } : Room) s m #[(.int p0)] below meth c s₁ [] 0 0 := Stand.of_body Bd
  have e0 : s₁.heap = h0 := by rw [← hh, Bd.state]; rfl
  have N0 := Fr.nil n0
  have K0 : Keep h0 h0 [] := Keep.refl _ _
  have go0 : ∀ t, Steps p.tables e below (s₁.setTop (mkF m 0 #[.val (.int p0)] [])) t → Steps p.tables e below (s₁.setTop (entryFrame m #[(.int p0)] 1)) t := fun t k => castTop (ef5 m p0) k
  have go1 : ∀ t, Steps p.tables e below (s₁.setTop (mkF m 20 #[.val (.int p0)] [(.int p0)])) t → Steps p.tables e below (s₁.setTop (entryFrame m #[(.int p0)] 1)) t := by
    intro t k
    refine go0 _ ?_
    refine XS.iloadN X0.here hx rfl (hb hby d5_0) rfl ?_
    show Steps p.tables e below (s₁.setTop (mkF m 1 #[.val (.int p0)] [(.int p0)])) t
    refine XS.iconst X0.here hx rfl (hb hby d5_1) ?_
    show Steps p.tables e below (s₁.setTop (mkF m 2 #[.val (.int p0)] [(.int (1 : Int32)), (.int p0)])) t
    refine XS.icmpYes X0.here hx rfl (pc0 := 2) (pc' := 19) rfl (hb hby d5_2) rfl (XT.ii_ge_t hp) (by decide) (by decide) ?_
    show Steps p.tables e below (s₁.setTop (mkF m 19 #[.val (.int p0)] [])) t
    refine XS.iloadN X0.here hx rfl (hb hby d5_19) rfl ?_
    show Steps p.tables e below (s₁.setTop (mkF m 20 #[.val (.int p0)] [(.int p0)])) t
    exact k
  obtain ⟨fs, hr, hrun, hended, hW, hsame⟩ := X0.leave (v := some (.int p0)) (fun h => by rw [Bd.returns] at h; cases h)
  refine ⟨_, _, go1 _ (Jvm.RoadKit.retOut X0 hx Bd.returns rfl (Or.inl ⟨rfl, Or.inl rfl, _, rfl⟩) (hb hby d5_20) hr), hrun, hended, _, _, rfl, ?_, ⟨_, rfl⟩, hW, hsame.mono (by decide) (by decide)⟩
  show Q5 _ _ p0 h0 _ (s₁.setFrames fs).heap _
  have hE : (s₁.setFrames fs).heap = h0 := e0
  rw [hE]
  exact ⟨rfl, N0, rfl⟩
theorem d4_0 : decode prog_40_method_5_code 0 = .ok (.aload_n 0, 1) := by decide +kernel
theorem d4_1 : decode prog_40_method_5_code 1 = .ok (.iload_n 1, 1) := by decide +kernel
theorem d4_2 : decode prog_40_method_5_code 2 = .ok (.invokestatic 29, 3) := by decide +kernel
theorem pd_25 : parseMethodDescriptor "(I)I" = some ⟨[.int], some .int⟩ := by decide +kernel
theorem d4_5 : decode prog_40_method_5_code 5 = .ok (.putfield 15, 3) := by decide +kernel
theorem d4_8 : decode prog_40_method_5_code 8 = .ok (.return_, 1) := by decide +kernel
def Q4 (Z : State) (n0 : Nat) (a0 : Addr) (p1 : Int32) (w_a0_radix : Int32) (w_a0_maxDigits : Int32) (h0 : Heap) (v : Option Value) (h : Heap) (L : List Loc) : Prop := v = none ∧ Fr n0 L ∧ Keep h0 h [a0] ∧ Exa Z h a0 "com/example/calycule/calycule/validators/BigIntegerConverter" ∧ Fld Z h a0 "com/example/calycule/calycule/validators/BigIntegerConverter" "radix" "I" (.int w_a0_radix) ∧ Fld Z h a0 "com/example/calycule/calycule/validators/BigIntegerConverter" "maxDigits" "I" (.int p1)
theorem ef4 (m : MethodId) (a0 : Addr) (p1 : Int32) : entryFrame m #[(.ref a0), (.int p1)] 2 = mkF m 0 #[.val (.ref a0), .val (.int p1)] [] := by first | (simp [entryFrame, mkF, argsToLocals, Value.category]; done) | rfl
set_option maxRecDepth 65536 in
set_option maxHeartbeats 40000000 in
theorem rm4 (l : Launch) (Z : State) (aZ : Array Value) (hw : ∀ d ∈ tables_1, d.before aZ Z = true) (ws : List Jvm.Cond) (a0 : Addr) (p1 : Int32) (w_a0_radix : Int32) (w_a0_maxDigits : Int32) (h0 : Heap) (n0 : Nat) (Z0 : n0 ≤ h0.size) (E_a0 : Exa Z h0 a0 "com/example/calycule/calycule/validators/BigIntegerConverter") (F_a0_radix : Fld Z h0 a0 "com/example/calycule/calycule/validators/BigIntegerConverter" "radix" "I" (.int w_a0_radix)) (F_a0_maxDigits : Fld Z h0 a0 "com/example/calycule/calycule/validators/BigIntegerConverter" "maxDigits" "I" (.int w_a0_maxDigits)) (g_a0 : n0 ≤ a0) (hp : ¬ p1 < (1 : Int32)) :
    MetFree l (⟨"com/example/calycule/calycule/validators/BigIntegerConverter", "setMaxDigits", "(I)V"⟩ : MethodName) (head1 (Jvm.Cond.code (⟨"com/example/calycule/calycule/validators/BigIntegerConverter", "setMaxDigits", "(I)V"⟩ : MethodName) prog_40_method_5_code 2 none :: ws) ({ frames := 1, cells := 0, slots := 0, locals := 13 } : Room)) (fun a U => a = #[(.ref a0), (.int p1)] ∧ Z.Warmed39 U.vm ∧ U.heap = h0) (fun _ _ _ _ _ => True) (fun _ U o U' => ∃ v L, o = .returned v ∧ Q4 Z n0 a0 p1 w_a0_radix w_a0_maxDigits h0 v U'.heap L ∧ FrameEnd U o U' L ({ frames := 1, cells := 0, slots := 0, locals := 13 } : Room).cells ({ frames := 1, cells := 0, slots := 0, locals := 13 } : Room).slots) := by
  refine MetFree.of_bodySF (plainFor_of_name pn_9) hisR ?_
  intro p e s m args below meth c s₁ Bd hml0 hP hK
  obtain ⟨rfl, hZ, hh⟩ := hP
  have hx := Bd.exec
  have hby := Bd.bytes
  have hml : c.maxLocals = 2 := hml0
  have hown : s.vm.findClass "com/example/calycule/calycule/validators/BigIntegerConverter" = some m.cls := findClass_of_methodNamed Bd.named
  have hnm := (name_of_methodNamed Bd.named Bd.method).1
  have X0 : Stand p l e ({ frames := 1, cells := 0, slots := 0, locals := 13 } : Room) s m #[(.ref a0), (.int p1)] below meth c s₁ [] 0 0 := Stand.of_body Bd
  have e0 : s₁.heap = h0 := by rw [← hh, Bd.state]; rfl
  have N0 := Fr.nil n0
  have K0 : Keep h0 h0 [a0] := Keep.refl _ _
  have go0 : ∀ t, Steps p.tables e below (s₁.setTop (mkF m 0 #[.val (.ref a0), .val (.int p1)] [])) t → Steps p.tables e below (s₁.setTop (entryFrame m #[(.ref a0), (.int p1)] 2)) t := fun t k => castTop (ef4 m a0 p1) k
  have go1 : ∀ t, Steps p.tables e below (s₁.setTop (mkF m 2 #[.val (.ref a0), .val (.int p1)] [(.int p1), (.ref a0)])) t → Steps p.tables e below (s₁.setTop (entryFrame m #[(.ref a0), (.int p1)] 2)) t := by
    intro t k
    refine go0 _ ?_
    refine XS.aloadN X0.here hx rfl (hb hby d4_0) rfl rfl ?_
    show Steps p.tables e below (s₁.setTop (mkF m 1 #[.val (.ref a0), .val (.int p1)] [(.ref a0)])) t
    refine XS.iloadN X0.here hx rfl (hb hby d4_1) rfl ?_
    show Steps p.tables e below (s₁.setTop (mkF m 2 #[.val (.ref a0), .val (.int p1)] [(.int p1), (.ref a0)])) t
    exact k
  obtain ⟨_, _, ⟨T2, L2, k2, n2⟩, -, X2, ⟨Lc2, hQ2, l2, y2, z2⟩, st2⟩ := Jvm.LawKit.callS X0 hx (y := (⟨"com/example/calycule/calycule/validators/MaxDigits", "require", "(I)I"⟩ : MethodName)) hown (mvT hZ (hw _ (List.mem_of_getElem? (i := 25) rfl))) (mvT hZ (hw _ (List.mem_of_getElem? (i := 26) rfl))) (mvT hZ (hw _ (List.mem_of_getElem? (i := 27) rfl))) (mvT hZ (hw _ (List.mem_of_getElem? (i := 28) rfl))) (by decide) (backOf (W := 1) (rm5 l Z aZ hw [] p1 h0 n0 Z0 hp) hZ (hw _ (List.mem_of_getElem? (i := 28) rfl)) (hw _ (List.mem_of_getElem? (i := 27) rfl)) (by decide) (by decide)) (g := (mkF m 2 #[.val (.ref a0), .val (.int p1)] [(.int p1), (.ref a0)])) rfl (by rw [hml]; rfl) (argsL := [(.int p1)]) (rest := [(.ref a0)]) (lenOf pd_25 rfl) rfl (by show 2 * 0 + _ ≤ _; exact Nat.le_of_eq rfl) (hb hby d4_2) (fun _ _ => ⟨rfl, e0, (by decide : 0 + 0 ≤ _), (by decide : 0 + 0 ≤ _)⟩)
  dsimp only [Pt.U, Pt.locs, Pt.cells, Pt.slots] at X2 l2 y2 z2 st2 hQ2
  subst l2 y2 z2
  obtain ⟨rfl, N2q, e2⟩ := hQ2
  have N2 := Fr.app N0 N2q
  have go3 : ∀ t, Steps p.tables e below (T2.setTop (mkF m 5 #[.val (.ref a0), .val (.int p1)] [(.int p1), (.ref a0)])) t → Steps p.tables e below (s₁.setTop (entryFrame m #[(.ref a0), (.int p1)] 2)) t := fun t k => go1 _ (st2 _ k)
  obtain ⟨T4, h4, X4, e4, W4, st4⟩ := putF X2 hx hZ hown (host := "") (Or.inl (hw _ (List.mem_of_getElem? (i := 13) rfl))) Via.refl e2 F_a0_maxDigits E_a0 (Or.inl (hw _ (List.mem_of_getElem? (i := 14) rfl))) (hw _ (List.mem_of_getElem? (i := 3) rfl)) (ty := .int) (by decide) rfl rfl (g := (mkF m 5 #[.val (.ref a0), .val (.int p1)] [(.int p1), (.ref a0)])) rfl rfl (hb hby d4_5)
  have go5 : ∀ t, Steps p.tables e below (T4.setTop (mkF m 8 #[.val (.ref a0), .val (.int p1)] [])) t → Steps p.tables e below (s₁.setTop (entryFrame m #[(.ref a0), (.int p1)] 2)) t := fun t k => go3 _ (st4 _ k)
  have N4 := Fr.snoc X4 N2 g_a0
  have K4 : Keep h0 h4 [a0] := K0.wr W4 (Or.inl (List.mem_of_getElem? (i := 0) rfl))
  have Zs4 : n0 ≤ h4.size := Nat.le_trans Z0 (Keep.of_wr W4).1
  have F6 : Exa Z h4 a0 "com/example/calycule/calycule/validators/BigIntegerConverter" := E_a0.wr W4
  have F7 : Fld Z h4 a0 "com/example/calycule/calycule/validators/BigIntegerConverter" "radix" "I" (.int w_a0_radix) := F_a0_radix.other W4 (Or.inr (slot_ne (Or.inl (hw _ (List.mem_of_getElem? (i := 12) rfl))) (Or.inl (hw _ (List.mem_of_getElem? (i := 14) rfl))) (by decide) (t := .int) (t' := .int) (by decide) (by decide)))
  have F8 : Fld Z h4 a0 "com/example/calycule/calycule/validators/BigIntegerConverter" "maxDigits" "I" (.int p1) := F_a0_maxDigits.same W4
  obtain ⟨fs, hr, hrun, hended, hW, hsame⟩ := X4.leave (v := none) (fun _ => rfl)
  refine ⟨_, _, go5 _ (X4.returnOut hx Bd.returns (hb hby d4_8) hr), hrun, hended, _, _, rfl, ?_, ⟨_, rfl⟩, hW, hsame.mono (by decide) (by decide)⟩
  show Q4 _ _ a0 p1 w_a0_radix w_a0_maxDigits h0 _ (T4.setFrames fs).heap _
  have hE : (T4.setFrames fs).heap = h4 := e4
  rw [hE]
  exact ⟨rfl, N4, K4, F6, F7, F8⟩
theorem d6_0 : decode prog_40_method_3_code 0 = .ok (.iload_n 1, 1) := by decide +kernel
theorem d6_1 : decode prog_40_method_3_code 1 = .ok (.iconst 2, 1) := by decide +kernel
theorem d6_2 : decode prog_40_method_3_code 2 = .ok (.if_icmp .lt 9, 3) := by decide +kernel
theorem d6_5 : decode prog_40_method_3_code 5 = .ok (.iload_n 1, 1) := by decide +kernel
theorem d6_6 : decode prog_40_method_3_code 6 = .ok (.bipush 36, 2) := by decide +kernel
theorem d6_8 : decode prog_40_method_3_code 8 = .ok (.if_icmp .le 17, 3) := by decide +kernel
theorem d6_25 : decode prog_40_method_3_code 25 = .ok (.aload_n 0, 1) := by decide +kernel
theorem d6_26 : decode prog_40_method_3_code 26 = .ok (.iload_n 1, 1) := by decide +kernel
theorem d6_27 : decode prog_40_method_3_code 27 = .ok (.putfield 7, 3) := by decide +kernel
theorem d6_30 : decode prog_40_method_3_code 30 = .ok (.return_, 1) := by decide +kernel
def Q6 (Z : State) (n0 : Nat) (a0 : Addr) (p1 : Int32) (w_a0_radix : Int32) (w_a0_maxDigits : Int32) (h0 : Heap) (v : Option Value) (h : Heap) (L : List Loc) : Prop := v = none ∧ Fr n0 L ∧ Keep h0 h [a0] ∧ Exa Z h a0 "com/example/calycule/calycule/validators/BigIntegerConverter" ∧ Fld Z h a0 "com/example/calycule/calycule/validators/BigIntegerConverter" "radix" "I" (.int p1) ∧ Fld Z h a0 "com/example/calycule/calycule/validators/BigIntegerConverter" "maxDigits" "I" (.int w_a0_maxDigits)
theorem ef6 (m : MethodId) (a0 : Addr) (p1 : Int32) : entryFrame m #[(.ref a0), (.int p1)] 2 = mkF m 0 #[.val (.ref a0), .val (.int p1)] [] := by first | (simp [entryFrame, mkF, argsToLocals, Value.category]; done) | rfl
set_option maxRecDepth 65536 in
set_option maxHeartbeats 40000000 in
theorem rm6 (l : Launch) (Z : State) (aZ : Array Value) (hw : ∀ d ∈ tables_1, d.before aZ Z = true) (ws : List Jvm.Cond) (a0 : Addr) (p1 : Int32) (w_a0_radix : Int32) (w_a0_maxDigits : Int32) (h0 : Heap) (n0 : Nat) (Z0 : n0 ≤ h0.size) (E_a0 : Exa Z h0 a0 "com/example/calycule/calycule/validators/BigIntegerConverter") (F_a0_radix : Fld Z h0 a0 "com/example/calycule/calycule/validators/BigIntegerConverter" "radix" "I" (.int w_a0_radix)) (F_a0_maxDigits : Fld Z h0 a0 "com/example/calycule/calycule/validators/BigIntegerConverter" "maxDigits" "I" (.int w_a0_maxDigits)) (g_a0 : n0 ≤ a0) (hlo : ¬ p1 < (2 : Int32)) (hhi : ¬ (36 : Int32) < p1) :
    MetFree l (⟨"com/example/calycule/calycule/validators/BigIntegerConverter", "setRadix", "(I)V"⟩ : MethodName) (head1 (Jvm.Cond.code (⟨"com/example/calycule/calycule/validators/BigIntegerConverter", "setRadix", "(I)V"⟩ : MethodName) prog_40_method_3_code 2 none :: ws) ({ frames := 0, cells := 0, slots := 0, locals := 0 } : Room)) (fun a U => a = #[(.ref a0), (.int p1)] ∧ Z.Warmed39 U.vm ∧ U.heap = h0) (fun _ _ _ _ _ => True) (fun _ U o U' => ∃ v L, o = .returned v ∧ Q6 Z n0 a0 p1 w_a0_radix w_a0_maxDigits h0 v U'.heap L ∧ FrameEnd U o U' L ({ frames := 0, cells := 0, slots := 0, locals := 0 } : Room).cells ({ frames := 0, cells := 0, slots := 0, locals := 0 } : Room).slots) := by
  refine MetFree.of_bodySF (plainFor_of_name pn_9) hisR ?_
  intro p e s m args below meth c s₁ Bd hml0 hP hK
  obtain ⟨rfl, hZ, hh⟩ := hP
  have hx := Bd.exec
  have hby := Bd.bytes
  have hml : c.maxLocals = 2 := hml0
  have hown : s.vm.findClass "com/example/calycule/calycule/validators/BigIntegerConverter" = some m.cls := findClass_of_methodNamed Bd.named
  have hnm := (name_of_methodNamed Bd.named Bd.method).1
  have X0 : Stand p l e ({ frames := 0, cells := 0, slots := 0, locals := 0 } : Room) s m #[(.ref a0), (.int p1)] below meth c s₁ [] 0 0 := Stand.of_body Bd
  have e0 : s₁.heap = h0 := by rw [← hh, Bd.state]; rfl
  have N0 := Fr.nil n0
  have K0 : Keep h0 h0 [a0] := Keep.refl _ _
  have go0 : ∀ t, Steps p.tables e below (s₁.setTop (mkF m 0 #[.val (.ref a0), .val (.int p1)] [])) t → Steps p.tables e below (s₁.setTop (entryFrame m #[(.ref a0), (.int p1)] 2)) t := fun t k => castTop (ef6 m a0 p1) k
  have go1 : ∀ t, Steps p.tables e below (s₁.setTop (mkF m 27 #[.val (.ref a0), .val (.int p1)] [(.int p1), (.ref a0)])) t → Steps p.tables e below (s₁.setTop (entryFrame m #[(.ref a0), (.int p1)] 2)) t := by
    intro t k
    refine go0 _ ?_
    refine XS.iloadN X0.here hx rfl (hb hby d6_0) rfl ?_
    show Steps p.tables e below (s₁.setTop (mkF m 1 #[.val (.ref a0), .val (.int p1)] [(.int p1)])) t
    refine XS.iconst X0.here hx rfl (hb hby d6_1) ?_
    show Steps p.tables e below (s₁.setTop (mkF m 2 #[.val (.ref a0), .val (.int p1)] [(.int (2 : Int32)), (.int p1)])) t
    refine XS.icmpNo X0.here hx rfl (hb hby d6_2) rfl (XT.ii_lt_f hlo) ?_
    show Steps p.tables e below (s₁.setTop (mkF m 5 #[.val (.ref a0), .val (.int p1)] [])) t
    refine XS.iloadN X0.here hx rfl (hb hby d6_5) rfl ?_
    show Steps p.tables e below (s₁.setTop (mkF m 6 #[.val (.ref a0), .val (.int p1)] [(.int p1)])) t
    refine XS.bipush X0.here hx rfl (hb hby d6_6) ?_
    show Steps p.tables e below (s₁.setTop (mkF m 8 #[.val (.ref a0), .val (.int p1)] [(.int (36 : Int32)), (.int p1)])) t
    refine XS.icmpYes X0.here hx rfl (pc0 := 8) (pc' := 25) rfl (hb hby d6_8) rfl (XT.ii_le_t hhi) (by decide) (by decide) ?_
    show Steps p.tables e below (s₁.setTop (mkF m 25 #[.val (.ref a0), .val (.int p1)] [])) t
    refine XS.aloadN X0.here hx rfl (hb hby d6_25) rfl rfl ?_
    show Steps p.tables e below (s₁.setTop (mkF m 26 #[.val (.ref a0), .val (.int p1)] [(.ref a0)])) t
    refine XS.iloadN X0.here hx rfl (hb hby d6_26) rfl ?_
    show Steps p.tables e below (s₁.setTop (mkF m 27 #[.val (.ref a0), .val (.int p1)] [(.int p1), (.ref a0)])) t
    exact k
  obtain ⟨T2, h2, X2, e2, W2, st2⟩ := putF X0 hx hZ hown (host := "") (Or.inl (hw _ (List.mem_of_getElem? (i := 11) rfl))) Via.refl e0 F_a0_radix E_a0 (Or.inl (hw _ (List.mem_of_getElem? (i := 12) rfl))) (hw _ (List.mem_of_getElem? (i := 3) rfl)) (ty := .int) (by decide) rfl rfl (g := (mkF m 27 #[.val (.ref a0), .val (.int p1)] [(.int p1), (.ref a0)])) rfl rfl (hb hby d6_27)
  have go3 : ∀ t, Steps p.tables e below (T2.setTop (mkF m 30 #[.val (.ref a0), .val (.int p1)] [])) t → Steps p.tables e below (s₁.setTop (entryFrame m #[(.ref a0), (.int p1)] 2)) t := fun t k => go1 _ (st2 _ k)
  have N2 := Fr.snoc X2 N0 g_a0
  have K2 : Keep h0 h2 [a0] := K0.wr W2 (Or.inl (List.mem_of_getElem? (i := 0) rfl))
  have Zs2 : n0 ≤ h2.size := Nat.le_trans Z0 (Keep.of_wr W2).1
  have F4 : Exa Z h2 a0 "com/example/calycule/calycule/validators/BigIntegerConverter" := E_a0.wr W2
  have F5 : Fld Z h2 a0 "com/example/calycule/calycule/validators/BigIntegerConverter" "radix" "I" (.int p1) := F_a0_radix.same W2
  have F6 : Fld Z h2 a0 "com/example/calycule/calycule/validators/BigIntegerConverter" "maxDigits" "I" (.int w_a0_maxDigits) := F_a0_maxDigits.other W2 (Or.inr (slot_ne (Or.inl (hw _ (List.mem_of_getElem? (i := 14) rfl))) (Or.inl (hw _ (List.mem_of_getElem? (i := 12) rfl))) (by decide) (t := .int) (t' := .int) (by decide) (by decide)))
  obtain ⟨fs, hr, hrun, hended, hW, hsame⟩ := X2.leave (v := none) (fun _ => rfl)
  refine ⟨_, _, go3 _ (X2.returnOut hx Bd.returns (hb hby d6_30) hr), hrun, hended, _, _, rfl, ?_, ⟨_, rfl⟩, hW, hsame.mono (by decide) (by decide)⟩
  show Q6 _ _ a0 p1 w_a0_radix w_a0_maxDigits h0 _ (T2.setFrames fs).heap _
  have hE : (T2.setFrames fs).heap = h2 := e2
  rw [hE]
  exact ⟨rfl, N2, K2, F4, F5, F6⟩
theorem own_r35 (x : Int32) : ¬ (2 : Int32) + (x &&& 2147483647) % 35 < 2 ∧ ¬ (36 : Int32) < (2 : Int32) + (x &&& 2147483647) % 35 := by
  have h1 := c_mask x 2147483647 31 (by decide) (by decide)
  have h2 := (c_irem (x &&& 2147483647) 35 35 (by decide)).1 (by omega)
  have h3 := c_iadd 2 ((x &&& 2147483647) % 35)
  have h4 := rng32 (2 + (x &&& 2147483647) % 35)
  have a1 : (2 : Int32).toInt = 2 := rfl
  have a2 : (36 : Int32).toInt = 36 := rfl
  constructor <;> (rw [Int32.lt_iff_toInt_lt]; omega)
theorem own_m (x : Int32) : ¬ (1 : Int32) + (x &&& 1073741823) < 1 := by
  have h1 := c_mask x 1073741823 30 (by decide) (by decide)
  have h3 := c_iadd 1 (x &&& 1073741823)
  have h4 := rng32 (1 + (x &&& 1073741823))
  have a1 : (1 : Int32).toInt = 1 := rfl
  rw [Int32.lt_iff_toInt_lt]; omega
theorem pd_43 : parseMethodDescriptor "()V" = some ⟨[], none⟩ := by decide +kernel
theorem pd_44 : parseMethodDescriptor "()I" = some ⟨[], some .int⟩ := by decide +kernel
theorem pd_45 : parseMethodDescriptor "(I)V" = some ⟨[.int], none⟩ := by decide +kernel
def v0_1 (p0 : Int32) : Int32 := ((2 : Int32) + ((p0 &&& (2147483647 : Int32)) % (35 : Int32)))
def v0_2 (p1 : Int32) : Int32 := ((2 : Int32) + ((p1 &&& (2147483647 : Int32)) % (35 : Int32)))
def b0_5 (p3 : Int32) : Int32 := (if (p3 &&& (1 : Int32)) = (0 : Int32) then (0 : Int32) else (1 : Int32))
def b0_10 (p3 : Int32) : Int32 := (if (p3 &&& (2 : Int32)) = (0 : Int32) then (0 : Int32) else (1 : Int32))
def v0_13 (p2 : Int32) : Int32 := ((1 : Int32) + (p2 &&& (1073741823 : Int32)))
def f0 (p3 : Int32) : Int32 := (if (b0_5 p3) = (0 : Int32) then (if (b0_10 p3) = (0 : Int32) then (1 : Int32) else (1 : Int32)) else (if (b0_10 p3) = (0 : Int32) then (1 : Int32) else (1 : Int32)))
theorem f0_one (p3 : Int32) : f0 p3 = 1 := by
  unfold f0; (repeat' split) <;> rfl
theorem pn_46 : plainName "com/example/calycule/calycule/validators/BigIntegerConverterSetRadixPinLaw" = true := by first | (simp [plainName, overriddenIn]; done) | decide +kernel
def Q0 (Z : State) (n0 : Nat) (p0 : Int32) (p1 : Int32) (p2 : Int32) (p3 : Int32) (h0 : Heap) (v : Option Value) (h : Heap) (L : List Loc) : Prop := v = some (.int 1) ∧ Fr n0 L
theorem ef0 (m : MethodId) (p0 : Int32) (p1 : Int32) (p2 : Int32) (p3 : Int32) : entryFrame m #[(.int p0), (.int p1), (.int p2), (.int p3)] maxLocals = mkF m 0 #[.val (.int p0), .val (.int p1), .val (.int p2), .val (.int p3), .unset, .unset, .unset, .unset, .unset, .unset, .unset, .unset] [] := by first | (simp [entryFrame, mkF, argsToLocals, Value.category, maxLocals]; done) | rfl
set_option maxRecDepth 65536 in
set_option maxHeartbeats 40000000 in
theorem rm0 (l : Launch) (Z : State) (aZ : Array Value) (hw : ∀ d ∈ tables_1, d.before aZ Z = true) (ws : List Jvm.Cond) (p0 : Int32) (p1 : Int32) (p2 : Int32) (p3 : Int32) (h0 : Heap) (n0 : Nat) (Z0 : n0 ≤ h0.size) :
    MetFree l x (head1 (Jvm.Cond.code x code maxLocals ret :: ws) room_1) (fun a U => a = #[(.int p0), (.int p1), (.int p2), (.int p3)] ∧ Z.Warmed39 U.vm ∧ U.heap = h0) (fun _ _ _ _ _ => True) (fun _ U o U' => ∃ v L, o = .returned v ∧ Q0 Z n0 p0 p1 p2 p3 h0 v U'.heap L ∧ FrameEnd U o U' L room_1.cells room_1.slots) := by
  refine MetFree.of_bodySF (plainFor_of_name pn_46) hisR ?_
  intro p e s m args below meth c s₁ Bd hml0 hP hK
  obtain ⟨rfl, hZ, hh⟩ := hP
  have hx := Bd.exec
  have hby := Bd.bytes
  have hml : c.maxLocals = 12 := hml0
  have hown : s.vm.findClass "com/example/calycule/calycule/validators/BigIntegerConverterSetRadixPinLaw" = some m.cls := findClass_of_methodNamed Bd.named
  have hnm := (name_of_methodNamed Bd.named Bd.method).1
  have X0 : Stand p l e room_1 s m #[(.int p0), (.int p1), (.int p2), (.int p3)] below meth c s₁ [] 0 0 := Stand.of_body Bd
  have e0 : s₁.heap = h0 := by rw [← hh, Bd.state]; rfl
  have N0 := Fr.nil n0
  have K0 : Keep h0 h0 [] := Keep.refl _ _
  have go0 : ∀ t, Steps p.tables e below (s₁.setTop (mkF m 0 #[.val (.int p0), .val (.int p1), .val (.int p2), .val (.int p3), .unset, .unset, .unset, .unset, .unset, .unset, .unset, .unset] [])) t → Steps p.tables e below (s₁.setTop (entryFrame m #[(.int p0), (.int p1), (.int p2), (.int p3)] maxLocals)) t := fun t k => castTop (ef0 m p0 p1 p2 p3) k
  have go4 : ∀ t, Steps p.tables e below (s₁.setTop (mkF m 33 #[.val (.int p0), .val (.int p1), .val (.int p2), .val (.int p3), .val (.int (v0_1 p0)), .val (.int (v0_2 p1)), .unset, .unset, .unset, .unset, .unset, .unset] [(.int (b0_5 p3))])) t → Steps p.tables e below (s₁.setTop (entryFrame m #[(.int p0), (.int p1), (.int p2), (.int p3)] maxLocals)) t := by
    intro t k
    refine go0 _ ?_
    refine XS.iconst X0.here hx rfl (hb hby at_0) ?_
    show Steps p.tables e below (s₁.setTop (mkF m 1 #[.val (.int p0), .val (.int p1), .val (.int p2), .val (.int p3), .unset, .unset, .unset, .unset, .unset, .unset, .unset, .unset] [(.int (2 : Int32))])) t
    refine XS.iloadN X0.here hx rfl (hb hby at_1) rfl ?_
    show Steps p.tables e below (s₁.setTop (mkF m 2 #[.val (.int p0), .val (.int p1), .val (.int p2), .val (.int p3), .unset, .unset, .unset, .unset, .unset, .unset, .unset, .unset] [(.int p0), (.int (2 : Int32))])) t
    refine X0.ldcInt hx hown (mvT hZ (hw _ (List.mem_of_getElem? (i := 0) rfl))) (g := (mkF m 2 #[.val (.int p0), .val (.int p1), .val (.int p2), .val (.int p3), .unset, .unset, .unset, .unset, .unset, .unset, .unset, .unset] [(.int p0), (.int (2 : Int32))])) rfl (hb hby at_2) _ ?_
    show Steps p.tables e below (s₁.setTop (mkF m 4 #[.val (.int p0), .val (.int p1), .val (.int p2), .val (.int p3), .unset, .unset, .unset, .unset, .unset, .unset, .unset, .unset] [(.int (2147483647 : Int32)), (.int p0), (.int (2 : Int32))])) t
    refine XS.iand X0.here hx rfl (hb hby at_4) rfl ?_
    show Steps p.tables e below (s₁.setTop (mkF m 5 #[.val (.int p0), .val (.int p1), .val (.int p2), .val (.int p3), .unset, .unset, .unset, .unset, .unset, .unset, .unset, .unset] [(.int (p0 &&& (2147483647 : Int32))), (.int (2 : Int32))])) t
    refine XS.bipush X0.here hx rfl (hb hby at_5) ?_
    show Steps p.tables e below (s₁.setTop (mkF m 7 #[.val (.int p0), .val (.int p1), .val (.int p2), .val (.int p3), .unset, .unset, .unset, .unset, .unset, .unset, .unset, .unset] [(.int (35 : Int32)), (.int (p0 &&& (2147483647 : Int32))), (.int (2 : Int32))])) t
    refine iremM X0 hx rfl (hb hby at_7) rfl (by decide) ?_
    show Steps p.tables e below (s₁.setTop (mkF m 8 #[.val (.int p0), .val (.int p1), .val (.int p2), .val (.int p3), .unset, .unset, .unset, .unset, .unset, .unset, .unset, .unset] [(.int ((p0 &&& (2147483647 : Int32)) % (35 : Int32))), (.int (2 : Int32))])) t
    refine XS.iadd X0.here hx rfl (hb hby at_8) rfl ?_
    show Steps p.tables e below (s₁.setTop (mkF m 9 #[.val (.int p0), .val (.int p1), .val (.int p2), .val (.int p3), .unset, .unset, .unset, .unset, .unset, .unset, .unset, .unset] [(.int ((2 : Int32) + ((p0 &&& (2147483647 : Int32)) % (35 : Int32))))])) t
    show Steps p.tables e below (s₁.setTop (mkF m 9 #[.val (.int p0), .val (.int p1), .val (.int p2), .val (.int p3), .unset, .unset, .unset, .unset, .unset, .unset, .unset, .unset] [(.int (v0_1 p0))])) t
    refine XS.istore X0.here hx rfl (hb hby at_9) rfl (l' := #[.val (.int p0), .val (.int p1), .val (.int p2), .val (.int p3), .val (.int (v0_1 p0)), .unset, .unset, .unset, .unset, .unset, .unset, .unset]) rfl ?_
    show Steps p.tables e below (s₁.setTop (mkF m 11 #[.val (.int p0), .val (.int p1), .val (.int p2), .val (.int p3), .val (.int (v0_1 p0)), .unset, .unset, .unset, .unset, .unset, .unset, .unset] [])) t
    refine XS.iconst X0.here hx rfl (hb hby at_11) ?_
    show Steps p.tables e below (s₁.setTop (mkF m 12 #[.val (.int p0), .val (.int p1), .val (.int p2), .val (.int p3), .val (.int (v0_1 p0)), .unset, .unset, .unset, .unset, .unset, .unset, .unset] [(.int (2 : Int32))])) t
    refine XS.iloadN X0.here hx rfl (hb hby at_12) rfl ?_
    show Steps p.tables e below (s₁.setTop (mkF m 13 #[.val (.int p0), .val (.int p1), .val (.int p2), .val (.int p3), .val (.int (v0_1 p0)), .unset, .unset, .unset, .unset, .unset, .unset, .unset] [(.int p1), (.int (2 : Int32))])) t
    refine X0.ldcInt hx hown (mvT hZ (hw _ (List.mem_of_getElem? (i := 0) rfl))) (g := (mkF m 13 #[.val (.int p0), .val (.int p1), .val (.int p2), .val (.int p3), .val (.int (v0_1 p0)), .unset, .unset, .unset, .unset, .unset, .unset, .unset] [(.int p1), (.int (2 : Int32))])) rfl (hb hby at_13) _ ?_
    show Steps p.tables e below (s₁.setTop (mkF m 15 #[.val (.int p0), .val (.int p1), .val (.int p2), .val (.int p3), .val (.int (v0_1 p0)), .unset, .unset, .unset, .unset, .unset, .unset, .unset] [(.int (2147483647 : Int32)), (.int p1), (.int (2 : Int32))])) t
    refine XS.iand X0.here hx rfl (hb hby at_15) rfl ?_
    show Steps p.tables e below (s₁.setTop (mkF m 16 #[.val (.int p0), .val (.int p1), .val (.int p2), .val (.int p3), .val (.int (v0_1 p0)), .unset, .unset, .unset, .unset, .unset, .unset, .unset] [(.int (p1 &&& (2147483647 : Int32))), (.int (2 : Int32))])) t
    refine XS.bipush X0.here hx rfl (hb hby at_16) ?_
    show Steps p.tables e below (s₁.setTop (mkF m 18 #[.val (.int p0), .val (.int p1), .val (.int p2), .val (.int p3), .val (.int (v0_1 p0)), .unset, .unset, .unset, .unset, .unset, .unset, .unset] [(.int (35 : Int32)), (.int (p1 &&& (2147483647 : Int32))), (.int (2 : Int32))])) t
    refine iremM X0 hx rfl (hb hby at_18) rfl (by decide) ?_
    show Steps p.tables e below (s₁.setTop (mkF m 19 #[.val (.int p0), .val (.int p1), .val (.int p2), .val (.int p3), .val (.int (v0_1 p0)), .unset, .unset, .unset, .unset, .unset, .unset, .unset] [(.int ((p1 &&& (2147483647 : Int32)) % (35 : Int32))), (.int (2 : Int32))])) t
    refine XS.iadd X0.here hx rfl (hb hby at_19) rfl ?_
    show Steps p.tables e below (s₁.setTop (mkF m 20 #[.val (.int p0), .val (.int p1), .val (.int p2), .val (.int p3), .val (.int (v0_1 p0)), .unset, .unset, .unset, .unset, .unset, .unset, .unset] [(.int ((2 : Int32) + ((p1 &&& (2147483647 : Int32)) % (35 : Int32))))])) t
    show Steps p.tables e below (s₁.setTop (mkF m 20 #[.val (.int p0), .val (.int p1), .val (.int p2), .val (.int p3), .val (.int (v0_1 p0)), .unset, .unset, .unset, .unset, .unset, .unset, .unset] [(.int (v0_2 p1))])) t
    refine XS.istore X0.here hx rfl (hb hby at_20) rfl (l' := #[.val (.int p0), .val (.int p1), .val (.int p2), .val (.int p3), .val (.int (v0_1 p0)), .val (.int (v0_2 p1)), .unset, .unset, .unset, .unset, .unset, .unset]) rfl ?_
    show Steps p.tables e below (s₁.setTop (mkF m 22 #[.val (.int p0), .val (.int p1), .val (.int p2), .val (.int p3), .val (.int (v0_1 p0)), .val (.int (v0_2 p1)), .unset, .unset, .unset, .unset, .unset, .unset] [])) t
    refine XS.iloadN X0.here hx rfl (hb hby at_22) rfl ?_
    show Steps p.tables e below (s₁.setTop (mkF m 23 #[.val (.int p0), .val (.int p1), .val (.int p2), .val (.int p3), .val (.int (v0_1 p0)), .val (.int (v0_2 p1)), .unset, .unset, .unset, .unset, .unset, .unset] [(.int p3)])) t
    refine XS.iconst X0.here hx rfl (hb hby at_23) ?_
    show Steps p.tables e below (s₁.setTop (mkF m 24 #[.val (.int p0), .val (.int p1), .val (.int p2), .val (.int p3), .val (.int (v0_1 p0)), .val (.int (v0_2 p1)), .unset, .unset, .unset, .unset, .unset, .unset] [(.int (1 : Int32)), (.int p3)])) t
    refine XS.iand X0.here hx rfl (hb hby at_24) rfl ?_
    show Steps p.tables e below (s₁.setTop (mkF m 25 #[.val (.int p0), .val (.int p1), .val (.int p2), .val (.int p3), .val (.int (v0_1 p0)), .val (.int (v0_2 p1)), .unset, .unset, .unset, .unset, .unset, .unset] [(.int (p3 &&& (1 : Int32)))])) t
    by_cases hc3 : (p3 &&& (1 : Int32)) = (0 : Int32)
    · refine XS.ifYes X0.here hx rfl (pc0 := 25) (pc' := 32) rfl (hb hby at_25) rfl (XT.i0_eq_t hc3) (by decide) (by decide) ?_
      show Steps p.tables e below (s₁.setTop (mkF m 32 #[.val (.int p0), .val (.int p1), .val (.int p2), .val (.int p3), .val (.int (v0_1 p0)), .val (.int (v0_2 p1)), .unset, .unset, .unset, .unset, .unset, .unset] [])) t
      refine XS.iconst X0.here hx rfl (hb hby at_32) ?_
      show Steps p.tables e below (s₁.setTop (mkF m 33 #[.val (.int p0), .val (.int p1), .val (.int p2), .val (.int p3), .val (.int (v0_1 p0)), .val (.int (v0_2 p1)), .unset, .unset, .unset, .unset, .unset, .unset] [(.int (0 : Int32))])) t
      have hq6 : (b0_5 p3) = (0 : Int32) := by rw [b0_5, if_pos hc3]
      rw [hq6] at k
      exact k
    · refine XS.ifNo X0.here hx rfl (hb hby at_25) rfl (XT.i0_eq_f hc3) ?_
      show Steps p.tables e below (s₁.setTop (mkF m 28 #[.val (.int p0), .val (.int p1), .val (.int p2), .val (.int p3), .val (.int (v0_1 p0)), .val (.int (v0_2 p1)), .unset, .unset, .unset, .unset, .unset, .unset] [])) t
      refine XS.iconst X0.here hx rfl (hb hby at_28) ?_
      show Steps p.tables e below (s₁.setTop (mkF m 29 #[.val (.int p0), .val (.int p1), .val (.int p2), .val (.int p3), .val (.int (v0_1 p0)), .val (.int (v0_2 p1)), .unset, .unset, .unset, .unset, .unset, .unset] [(.int (1 : Int32))])) t
      refine XS.goto X0.here hx rfl (pc0 := 29) (pc' := 33) rfl (hb hby at_29) (by decide) (by decide) ?_
      show Steps p.tables e below (s₁.setTop (mkF m 33 #[.val (.int p0), .val (.int p1), .val (.int p2), .val (.int p3), .val (.int (v0_1 p0)), .val (.int (v0_2 p1)), .unset, .unset, .unset, .unset, .unset, .unset] [(.int (1 : Int32))])) t
      have hq7 : (b0_5 p3) = (1 : Int32) := by rw [b0_5, if_neg hc3]
      rw [hq7] at k
      exact k
  have go9 : ∀ t, Steps p.tables e below (s₁.setTop (mkF m 46 #[.val (.int p0), .val (.int p1), .val (.int p2), .val (.int p3), .val (.int (v0_1 p0)), .val (.int (v0_2 p1)), .val (.int (b0_5 p3)), .unset, .unset, .unset, .unset, .unset] [(.int (b0_10 p3))])) t → Steps p.tables e below (s₁.setTop (entryFrame m #[(.int p0), (.int p1), (.int p2), (.int p3)] maxLocals)) t := by
    intro t k
    refine go4 _ ?_
    refine XS.istore X0.here hx rfl (hb hby at_33) rfl (l' := #[.val (.int p0), .val (.int p1), .val (.int p2), .val (.int p3), .val (.int (v0_1 p0)), .val (.int (v0_2 p1)), .val (.int (b0_5 p3)), .unset, .unset, .unset, .unset, .unset]) rfl ?_
    show Steps p.tables e below (s₁.setTop (mkF m 35 #[.val (.int p0), .val (.int p1), .val (.int p2), .val (.int p3), .val (.int (v0_1 p0)), .val (.int (v0_2 p1)), .val (.int (b0_5 p3)), .unset, .unset, .unset, .unset, .unset] [])) t
    refine XS.iloadN X0.here hx rfl (hb hby at_35) rfl ?_
    show Steps p.tables e below (s₁.setTop (mkF m 36 #[.val (.int p0), .val (.int p1), .val (.int p2), .val (.int p3), .val (.int (v0_1 p0)), .val (.int (v0_2 p1)), .val (.int (b0_5 p3)), .unset, .unset, .unset, .unset, .unset] [(.int p3)])) t
    refine XS.iconst X0.here hx rfl (hb hby at_36) ?_
    show Steps p.tables e below (s₁.setTop (mkF m 37 #[.val (.int p0), .val (.int p1), .val (.int p2), .val (.int p3), .val (.int (v0_1 p0)), .val (.int (v0_2 p1)), .val (.int (b0_5 p3)), .unset, .unset, .unset, .unset, .unset] [(.int (2 : Int32)), (.int p3)])) t
    refine XS.iand X0.here hx rfl (hb hby at_37) rfl ?_
    show Steps p.tables e below (s₁.setTop (mkF m 38 #[.val (.int p0), .val (.int p1), .val (.int p2), .val (.int p3), .val (.int (v0_1 p0)), .val (.int (v0_2 p1)), .val (.int (b0_5 p3)), .unset, .unset, .unset, .unset, .unset] [(.int (p3 &&& (2 : Int32)))])) t
    by_cases hc8 : (p3 &&& (2 : Int32)) = (0 : Int32)
    · refine XS.ifYes X0.here hx rfl (pc0 := 38) (pc' := 45) rfl (hb hby at_38) rfl (XT.i0_eq_t hc8) (by decide) (by decide) ?_
      show Steps p.tables e below (s₁.setTop (mkF m 45 #[.val (.int p0), .val (.int p1), .val (.int p2), .val (.int p3), .val (.int (v0_1 p0)), .val (.int (v0_2 p1)), .val (.int (b0_5 p3)), .unset, .unset, .unset, .unset, .unset] [])) t
      refine XS.iconst X0.here hx rfl (hb hby at_45) ?_
      show Steps p.tables e below (s₁.setTop (mkF m 46 #[.val (.int p0), .val (.int p1), .val (.int p2), .val (.int p3), .val (.int (v0_1 p0)), .val (.int (v0_2 p1)), .val (.int (b0_5 p3)), .unset, .unset, .unset, .unset, .unset] [(.int (0 : Int32))])) t
      have hq11 : (b0_10 p3) = (0 : Int32) := by rw [b0_10, if_pos hc8]
      rw [hq11] at k
      exact k
    · refine XS.ifNo X0.here hx rfl (hb hby at_38) rfl (XT.i0_eq_f hc8) ?_
      show Steps p.tables e below (s₁.setTop (mkF m 41 #[.val (.int p0), .val (.int p1), .val (.int p2), .val (.int p3), .val (.int (v0_1 p0)), .val (.int (v0_2 p1)), .val (.int (b0_5 p3)), .unset, .unset, .unset, .unset, .unset] [])) t
      refine XS.iconst X0.here hx rfl (hb hby at_41) ?_
      show Steps p.tables e below (s₁.setTop (mkF m 42 #[.val (.int p0), .val (.int p1), .val (.int p2), .val (.int p3), .val (.int (v0_1 p0)), .val (.int (v0_2 p1)), .val (.int (b0_5 p3)), .unset, .unset, .unset, .unset, .unset] [(.int (1 : Int32))])) t
      refine XS.goto X0.here hx rfl (pc0 := 42) (pc' := 46) rfl (hb hby at_42) (by decide) (by decide) ?_
      show Steps p.tables e below (s₁.setTop (mkF m 46 #[.val (.int p0), .val (.int p1), .val (.int p2), .val (.int p3), .val (.int (v0_1 p0)), .val (.int (v0_2 p1)), .val (.int (b0_5 p3)), .unset, .unset, .unset, .unset, .unset] [(.int (1 : Int32))])) t
      have hq12 : (b0_10 p3) = (1 : Int32) := by rw [b0_10, if_neg hc8]
      rw [hq12] at k
      exact k
  have go14 : ∀ t, Steps p.tables e below (s₁.setTop (mkF m 56 #[.val (.int p0), .val (.int p1), .val (.int p2), .val (.int p3), .val (.int (v0_1 p0)), .val (.int (v0_2 p1)), .val (.int (b0_5 p3)), .val (.int (b0_10 p3)), .val (.int (v0_13 p2)), .unset, .unset, .unset] [])) t → Steps p.tables e below (s₁.setTop (entryFrame m #[(.int p0), (.int p1), (.int p2), (.int p3)] maxLocals)) t := by
    intro t k
    refine go9 _ ?_
    refine XS.istore X0.here hx rfl (hb hby at_46) rfl (l' := #[.val (.int p0), .val (.int p1), .val (.int p2), .val (.int p3), .val (.int (v0_1 p0)), .val (.int (v0_2 p1)), .val (.int (b0_5 p3)), .val (.int (b0_10 p3)), .unset, .unset, .unset, .unset]) rfl ?_
    show Steps p.tables e below (s₁.setTop (mkF m 48 #[.val (.int p0), .val (.int p1), .val (.int p2), .val (.int p3), .val (.int (v0_1 p0)), .val (.int (v0_2 p1)), .val (.int (b0_5 p3)), .val (.int (b0_10 p3)), .unset, .unset, .unset, .unset] [])) t
    refine XS.iconst X0.here hx rfl (hb hby at_48) ?_
    show Steps p.tables e below (s₁.setTop (mkF m 49 #[.val (.int p0), .val (.int p1), .val (.int p2), .val (.int p3), .val (.int (v0_1 p0)), .val (.int (v0_2 p1)), .val (.int (b0_5 p3)), .val (.int (b0_10 p3)), .unset, .unset, .unset, .unset] [(.int (1 : Int32))])) t
    refine XS.iloadN X0.here hx rfl (hb hby at_49) rfl ?_
    show Steps p.tables e below (s₁.setTop (mkF m 50 #[.val (.int p0), .val (.int p1), .val (.int p2), .val (.int p3), .val (.int (v0_1 p0)), .val (.int (v0_2 p1)), .val (.int (b0_5 p3)), .val (.int (b0_10 p3)), .unset, .unset, .unset, .unset] [(.int p2), (.int (1 : Int32))])) t
    refine X0.ldcInt hx hown (mvT hZ (hw _ (List.mem_of_getElem? (i := 1) rfl))) (g := (mkF m 50 #[.val (.int p0), .val (.int p1), .val (.int p2), .val (.int p3), .val (.int (v0_1 p0)), .val (.int (v0_2 p1)), .val (.int (b0_5 p3)), .val (.int (b0_10 p3)), .unset, .unset, .unset, .unset] [(.int p2), (.int (1 : Int32))])) rfl (hb hby at_50) _ ?_
    show Steps p.tables e below (s₁.setTop (mkF m 52 #[.val (.int p0), .val (.int p1), .val (.int p2), .val (.int p3), .val (.int (v0_1 p0)), .val (.int (v0_2 p1)), .val (.int (b0_5 p3)), .val (.int (b0_10 p3)), .unset, .unset, .unset, .unset] [(.int (1073741823 : Int32)), (.int p2), (.int (1 : Int32))])) t
    refine XS.iand X0.here hx rfl (hb hby at_52) rfl ?_
    show Steps p.tables e below (s₁.setTop (mkF m 53 #[.val (.int p0), .val (.int p1), .val (.int p2), .val (.int p3), .val (.int (v0_1 p0)), .val (.int (v0_2 p1)), .val (.int (b0_5 p3)), .val (.int (b0_10 p3)), .unset, .unset, .unset, .unset] [(.int (p2 &&& (1073741823 : Int32))), (.int (1 : Int32))])) t
    refine XS.iadd X0.here hx rfl (hb hby at_53) rfl ?_
    show Steps p.tables e below (s₁.setTop (mkF m 54 #[.val (.int p0), .val (.int p1), .val (.int p2), .val (.int p3), .val (.int (v0_1 p0)), .val (.int (v0_2 p1)), .val (.int (b0_5 p3)), .val (.int (b0_10 p3)), .unset, .unset, .unset, .unset] [(.int ((1 : Int32) + (p2 &&& (1073741823 : Int32))))])) t
    show Steps p.tables e below (s₁.setTop (mkF m 54 #[.val (.int p0), .val (.int p1), .val (.int p2), .val (.int p3), .val (.int (v0_1 p0)), .val (.int (v0_2 p1)), .val (.int (b0_5 p3)), .val (.int (b0_10 p3)), .unset, .unset, .unset, .unset] [(.int (v0_13 p2))])) t
    refine XS.istore X0.here hx rfl (hb hby at_54) rfl (l' := #[.val (.int p0), .val (.int p1), .val (.int p2), .val (.int p3), .val (.int (v0_1 p0)), .val (.int (v0_2 p1)), .val (.int (b0_5 p3)), .val (.int (b0_10 p3)), .val (.int (v0_13 p2)), .unset, .unset, .unset]) rfl ?_
    show Steps p.tables e below (s₁.setTop (mkF m 56 #[.val (.int p0), .val (.int p1), .val (.int p2), .val (.int p3), .val (.int (v0_1 p0)), .val (.int (v0_2 p1)), .val (.int (b0_5 p3)), .val (.int (b0_10 p3)), .val (.int (v0_13 p2)), .unset, .unset, .unset] [])) t
    exact k
  obtain ⟨T15, h15, X15, e15, E15, A15, D15, -, st15⟩ := newO X0 hx hZ hown (hw _ (List.mem_of_getElem? (i := 2) rfl)) (hw _ (List.mem_of_getElem? (i := 3) rfl)) (hw _ (List.mem_of_getElem? (i := 4) rfl)) e0 (g := (mkF m 56 #[.val (.int p0), .val (.int p1), .val (.int p2), .val (.int p3), .val (.int (v0_1 p0)), .val (.int (v0_2 p1)), .val (.int (b0_5 p3)), .val (.int (b0_10 p3)), .val (.int (v0_13 p2)), .unset, .unset, .unset] [])) rfl (hb hby at_56) (by decide) (by decide)
  obtain ⟨b15, g15⟩ : ∃ z, z = h0.size := ⟨_, rfl⟩
  rw [← g15] at A15 D15 st15
  have low15 : n0 ≤ b15 := Nat.le_trans Z0 (Nat.le_of_eq g15.symm)
  have fsh15 : h0.size ≤ b15 := Nat.le_trans K0.1 (Nat.le_of_eq g15.symm)
  have K15 : Keep h0 h15 [] := K0.ext E15
  have Zs15 : n0 ≤ h15.size := Nat.le_trans Z0 E15.1
  have go16 : ∀ t, Steps p.tables e below (T15.setTop (mkF m 59 #[.val (.int p0), .val (.int p1), .val (.int p2), .val (.int p3), .val (.int (v0_1 p0)), .val (.int (v0_2 p1)), .val (.int (b0_5 p3)), .val (.int (b0_10 p3)), .val (.int (v0_13 p2)), .unset, .unset, .unset] [(.ref b15)])) t → Steps p.tables e below (s₁.setTop (entryFrame m #[(.int p0), (.int p1), (.int p2), (.int p3)] maxLocals)) t := fun t k => go14 _ (st15 _ k)
  have F17 : Fld Z h15 b15 "com/example/calycule/calycule/validators/BigIntegerConverter" "radix" "I" (.int (0 : Int32)) := D15 (Or.inl (hw _ (List.mem_of_getElem? (i := 12) rfl))) (ty := .int) (by decide)
  have F18 : Fld Z h15 b15 "com/example/calycule/calycule/validators/BigIntegerConverter" "maxDigits" "I" (.int (0 : Int32)) := D15 (Or.inl (hw _ (List.mem_of_getElem? (i := 14) rfl))) (ty := .int) (by decide)
  have go19 : ∀ t, Steps p.tables e below (T15.setTop (mkF m 60 #[.val (.int p0), .val (.int p1), .val (.int p2), .val (.int p3), .val (.int (v0_1 p0)), .val (.int (v0_2 p1)), .val (.int (b0_5 p3)), .val (.int (b0_10 p3)), .val (.int (v0_13 p2)), .unset, .unset, .unset] [(.ref b15), (.ref b15)])) t → Steps p.tables e below (s₁.setTop (entryFrame m #[(.int p0), (.int p1), (.int p2), (.int p3)] maxLocals)) t := by
    intro t k
    refine go16 _ ?_
    refine XS.dup X15.here hx rfl (hb hby at_59) rfl rfl ?_
    show Steps p.tables e below (T15.setTop (mkF m 60 #[.val (.int p0), .val (.int p1), .val (.int p2), .val (.int p3), .val (.int (v0_1 p0)), .val (.int (v0_2 p1)), .val (.int (b0_5 p3)), .val (.int (b0_10 p3)), .val (.int (v0_13 p2)), .unset, .unset, .unset] [(.ref b15), (.ref b15)])) t
    exact k
  obtain ⟨_, _, ⟨T20, L20, k20, n20⟩, -, X20, ⟨Lc20, hQ20, l20, y20, z20⟩, st20⟩ := X15.specialBack hx (y := (⟨"com/example/calycule/calycule/validators/BigIntegerConverter", "<init>", "()V"⟩ : MethodName)) rfl hown (mvT hZ (hw _ (List.mem_of_getElem? (i := 5) rfl))) (mvT hZ (hw _ (List.mem_of_getElem? (i := 6) rfl))) (mvT hZ (hw _ (List.mem_of_getElem? (i := 7) rfl))) (by decide) (backOf (W := 1) (rm1 l Z aZ hw [] b15 (.int (0 : Int32)) (.int (0 : Int32)) h15 n0 Zs15 A15 F17 F18 low15) hZ (hw _ (List.mem_of_getElem? (i := 7) rfl)) (hw _ (List.mem_of_getElem? (i := 4) rfl)) (by decide) (by decide)) (g := (mkF m 60 #[.val (.int p0), .val (.int p1), .val (.int p2), .val (.int p3), .val (.int (v0_1 p0)), .val (.int (v0_2 p1)), .val (.int (b0_5 p3)), .val (.int (b0_10 p3)), .val (.int (v0_13 p2)), .unset, .unset, .unset] [(.ref b15), (.ref b15)])) rfl (by rw [hml]; rfl) (Steps.refl _) (a := b15) (argsL := []) (rest := [(.ref b15)]) (lenOf pd_43 rfl) rfl (by show 2 * 0 + _ ≤ _; exact Nat.le_of_eq rfl) (hb hby at_60) (fun _ _ => ⟨rfl, e15, (by decide : 1 + 0 ≤ _), (by decide : 2 + 0 ≤ _)⟩)
  dsimp only [Pt.U, Pt.locs, Pt.cells, Pt.slots] at X20 l20 y20 z20 st20 hQ20
  subst l20 y20 z20
  obtain ⟨rfl, N20q, K20q, G20_0, G20_1, G20_2⟩ := hQ20
  have N20 := Fr.app N0 N20q
  have K20 : Keep h0 T20.heap [] := K15.trans K20q (allS (Or.inr fsh15) all0)
  have Zs20 : n0 ≤ T20.heap.size := Nat.le_trans Zs15 K20q.1
  have F21 : Exa Z T20.heap b15 "com/example/calycule/calycule/validators/BigIntegerConverter" := A15.keep K20q
  have go22 : ∀ t, Steps p.tables e below (T20.setTop (mkF m 63 #[.val (.int p0), .val (.int p1), .val (.int p2), .val (.int p3), .val (.int (v0_1 p0)), .val (.int (v0_2 p1)), .val (.int (b0_5 p3)), .val (.int (b0_10 p3)), .val (.int (v0_13 p2)), .unset, .unset, .unset] [(.ref b15)])) t → Steps p.tables e below (s₁.setTop (entryFrame m #[(.int p0), (.int p1), (.int p2), (.int p3)] maxLocals)) t := fun t k => go19 _ (st20.trans k)
  have go23 : ∀ t, Steps p.tables e below (T20.setTop (mkF m 67 #[.val (.int p0), .val (.int p1), .val (.int p2), .val (.int p3), .val (.int (v0_1 p0)), .val (.int (v0_2 p1)), .val (.int (b0_5 p3)), .val (.int (b0_10 p3)), .val (.int (v0_13 p2)), .val (.ref b15), .unset, .unset] [(.ref b15)])) t → Steps p.tables e below (s₁.setTop (entryFrame m #[(.int p0), (.int p1), (.int p2), (.int p3)] maxLocals)) t := by
    intro t k
    refine go22 _ ?_
    refine XS.astore X20.here hx rfl (hb hby at_63) rfl rfl (l' := #[.val (.int p0), .val (.int p1), .val (.int p2), .val (.int p3), .val (.int (v0_1 p0)), .val (.int (v0_2 p1)), .val (.int (b0_5 p3)), .val (.int (b0_10 p3)), .val (.int (v0_13 p2)), .val (.ref b15), .unset, .unset]) rfl ?_
    show Steps p.tables e below (T20.setTop (mkF m 65 #[.val (.int p0), .val (.int p1), .val (.int p2), .val (.int p3), .val (.int (v0_1 p0)), .val (.int (v0_2 p1)), .val (.int (b0_5 p3)), .val (.int (b0_10 p3)), .val (.int (v0_13 p2)), .val (.ref b15), .unset, .unset] [])) t
    refine XS.aload X20.here hx rfl (hb hby at_65) rfl rfl ?_
    show Steps p.tables e below (T20.setTop (mkF m 67 #[.val (.int p0), .val (.int p1), .val (.int p2), .val (.int p3), .val (.int (v0_1 p0)), .val (.int (v0_2 p1)), .val (.int (b0_5 p3)), .val (.int (b0_10 p3)), .val (.int (v0_13 p2)), .val (.ref b15), .unset, .unset] [(.ref b15)])) t
    exact k
  obtain ⟨cq24, kq24, q24a, q24b, q24c⟩ := isOf hZ rfl G20_0
  obtain ⟨_, _, ⟨T24, L24, k24, n24⟩, -, X24, ⟨Lc24, hQ24, l24, y24, z24⟩, st24⟩ := X20.virtualBack hx (y := (⟨"com/example/calycule/calycule/validators/BigIntegerConverter", "getRadix", "()I"⟩ : MethodName)) (z := (⟨"com/example/calycule/calycule/validators/BigIntegerConverter", "getRadix", "()I"⟩ : MethodName)) hown (mvT hZ (hw _ (List.mem_of_getElem? (i := 15) rfl))) (mvT hZ (hw _ (List.mem_of_getElem? (i := 16) rfl))) (notFace_of_selects (args := #[]) (mvT hZ (hw _ (List.mem_of_getElem? (i := 18) rfl)))) (mvT hZ (hw _ (List.mem_of_getElem? (i := 18) rfl))) (mvT hZ (hw _ (List.mem_of_getElem? (i := 17) rfl))) (by decide) (backOf (W := 0) (rm3 l Z aZ hw [] b15 (10 : Int32) T20.heap n0 Zs20 G20_1) hZ (hw _ (List.mem_of_getElem? (i := 19) rfl)) (hw _ (List.mem_of_getElem? (i := 4) rfl)) (by decide) (by decide)) q24a q24c (g := (mkF m 67 #[.val (.int p0), .val (.int p1), .val (.int p2), .val (.int p3), .val (.int (v0_1 p0)), .val (.int (v0_2 p1)), .val (.int (b0_5 p3)), .val (.int (b0_10 p3)), .val (.int (v0_13 p2)), .val (.ref b15), .unset, .unset] [(.ref b15)])) rfl (by rw [hml]; rfl) (Steps.refl _) (argsL := []) (rest := []) (lenOf pd_44 rfl) rfl (by show 2 * 0 + _ ≤ _; exact Nat.le_of_eq rfl) (hb hby at_67) (fun _ _ => ⟨rfl, rfl, (by decide : 1 + 0 ≤ _), (by decide : 2 + 0 ≤ _)⟩)
  dsimp only [Pt.U, Pt.locs, Pt.cells, Pt.slots] at X24 l24 y24 z24 st24 hQ24
  subst l24 y24 z24
  obtain ⟨rfl, N24q, e24⟩ := hQ24
  have N24 := Fr.app N20 N24q
  have go25 : ∀ t, Steps p.tables e below (T24.setTop (mkF m 70 #[.val (.int p0), .val (.int p1), .val (.int p2), .val (.int p3), .val (.int (v0_1 p0)), .val (.int (v0_2 p1)), .val (.int (b0_5 p3)), .val (.int (b0_10 p3)), .val (.int (v0_13 p2)), .val (.ref b15), .unset, .unset] [(.int (10 : Int32))])) t → Steps p.tables e below (s₁.setTop (entryFrame m #[(.int p0), (.int p1), (.int p2), (.int p3)] maxLocals)) t := fun t k => go23 _ (st24.trans k)
  have go26 : ∀ t, Steps p.tables e below (T24.setTop (mkF m 89 #[.val (.int p0), .val (.int p1), .val (.int p2), .val (.int p3), .val (.int (v0_1 p0)), .val (.int (v0_2 p1)), .val (.int (b0_5 p3)), .val (.int (b0_10 p3)), .val (.int (v0_13 p2)), .val (.ref b15), .val (.int (1 : Int32)), .val (.int (1000 : Int32))] [(.int (b0_5 p3))])) t → Steps p.tables e below (s₁.setTop (entryFrame m #[(.int p0), (.int p1), (.int p2), (.int p3)] maxLocals)) t := by
    intro t k
    refine go25 _ ?_
    refine XS.bipush X24.here hx rfl (hb hby at_70) ?_
    show Steps p.tables e below (T24.setTop (mkF m 72 #[.val (.int p0), .val (.int p1), .val (.int p2), .val (.int p3), .val (.int (v0_1 p0)), .val (.int (v0_2 p1)), .val (.int (b0_5 p3)), .val (.int (b0_10 p3)), .val (.int (v0_13 p2)), .val (.ref b15), .unset, .unset] [(.int (10 : Int32)), (.int (10 : Int32))])) t
    refine XS.icmpNo X24.here hx rfl (hb hby at_72) rfl (XT.ii_ne_f (by decide : ((10 : Int32) = (10 : Int32)))) ?_
    show Steps p.tables e below (T24.setTop (mkF m 75 #[.val (.int p0), .val (.int p1), .val (.int p2), .val (.int p3), .val (.int (v0_1 p0)), .val (.int (v0_2 p1)), .val (.int (b0_5 p3)), .val (.int (b0_10 p3)), .val (.int (v0_13 p2)), .val (.ref b15), .unset, .unset] [])) t
    refine XS.iconst X24.here hx rfl (hb hby at_75) ?_
    show Steps p.tables e below (T24.setTop (mkF m 76 #[.val (.int p0), .val (.int p1), .val (.int p2), .val (.int p3), .val (.int (v0_1 p0)), .val (.int (v0_2 p1)), .val (.int (b0_5 p3)), .val (.int (b0_10 p3)), .val (.int (v0_13 p2)), .val (.ref b15), .unset, .unset] [(.int (1 : Int32))])) t
    refine XS.goto X24.here hx rfl (pc0 := 76) (pc' := 80) rfl (hb hby at_76) (by decide) (by decide) ?_
    show Steps p.tables e below (T24.setTop (mkF m 80 #[.val (.int p0), .val (.int p1), .val (.int p2), .val (.int p3), .val (.int (v0_1 p0)), .val (.int (v0_2 p1)), .val (.int (b0_5 p3)), .val (.int (b0_10 p3)), .val (.int (v0_13 p2)), .val (.ref b15), .unset, .unset] [(.int (1 : Int32))])) t
    refine XS.istore X24.here hx rfl (hb hby at_80) rfl (l' := #[.val (.int p0), .val (.int p1), .val (.int p2), .val (.int p3), .val (.int (v0_1 p0)), .val (.int (v0_2 p1)), .val (.int (b0_5 p3)), .val (.int (b0_10 p3)), .val (.int (v0_13 p2)), .val (.ref b15), .val (.int (1 : Int32)), .unset]) rfl ?_
    show Steps p.tables e below (T24.setTop (mkF m 82 #[.val (.int p0), .val (.int p1), .val (.int p2), .val (.int p3), .val (.int (v0_1 p0)), .val (.int (v0_2 p1)), .val (.int (b0_5 p3)), .val (.int (b0_10 p3)), .val (.int (v0_13 p2)), .val (.ref b15), .val (.int (1 : Int32)), .unset] [])) t
    refine XS.sipush X24.here hx rfl (hb hby at_82) ?_
    show Steps p.tables e below (T24.setTop (mkF m 85 #[.val (.int p0), .val (.int p1), .val (.int p2), .val (.int p3), .val (.int (v0_1 p0)), .val (.int (v0_2 p1)), .val (.int (b0_5 p3)), .val (.int (b0_10 p3)), .val (.int (v0_13 p2)), .val (.ref b15), .val (.int (1 : Int32)), .unset] [(.int (1000 : Int32))])) t
    refine XS.istore X24.here hx rfl (hb hby at_85) rfl (l' := #[.val (.int p0), .val (.int p1), .val (.int p2), .val (.int p3), .val (.int (v0_1 p0)), .val (.int (v0_2 p1)), .val (.int (b0_5 p3)), .val (.int (b0_10 p3)), .val (.int (v0_13 p2)), .val (.ref b15), .val (.int (1 : Int32)), .val (.int (1000 : Int32))]) rfl ?_
    show Steps p.tables e below (T24.setTop (mkF m 87 #[.val (.int p0), .val (.int p1), .val (.int p2), .val (.int p3), .val (.int (v0_1 p0)), .val (.int (v0_2 p1)), .val (.int (b0_5 p3)), .val (.int (b0_10 p3)), .val (.int (v0_13 p2)), .val (.ref b15), .val (.int (1 : Int32)), .val (.int (1000 : Int32))] [])) t
    refine XS.iload X24.here hx rfl (hb hby at_87) rfl ?_
    show Steps p.tables e below (T24.setTop (mkF m 89 #[.val (.int p0), .val (.int p1), .val (.int p2), .val (.int p3), .val (.int (v0_1 p0)), .val (.int (v0_2 p1)), .val (.int (b0_5 p3)), .val (.int (b0_10 p3)), .val (.int (v0_13 p2)), .val (.ref b15), .val (.int (1 : Int32)), .val (.int (1000 : Int32))] [(.int (b0_5 p3))])) t
    exact k
  by_cases hs27 : (b0_5 p3) = (0 : Int32)
  · have go28 : ∀ t, Steps p.tables e below (T24.setTop (mkF m 107 #[.val (.int p0), .val (.int p1), .val (.int p2), .val (.int p3), .val (.int (v0_1 p0)), .val (.int (v0_2 p1)), .val (.int (b0_5 p3)), .val (.int (b0_10 p3)), .val (.int (v0_13 p2)), .val (.ref b15), .val (.int (1 : Int32)), .val (.int (1000 : Int32))] [(.int (v0_1 p0)), (.ref b15)])) t → Steps p.tables e below (s₁.setTop (entryFrame m #[(.int p0), (.int p1), (.int p2), (.int p3)] maxLocals)) t := by
      intro t k
      refine go26 _ ?_
      refine XS.ifYes X24.here hx rfl (pc0 := 89) (pc' := 103) rfl (hb hby at_89) rfl (XT.i0_eq_t hs27) (by decide) (by decide) ?_
      show Steps p.tables e below (T24.setTop (mkF m 103 #[.val (.int p0), .val (.int p1), .val (.int p2), .val (.int p3), .val (.int (v0_1 p0)), .val (.int (v0_2 p1)), .val (.int (b0_5 p3)), .val (.int (b0_10 p3)), .val (.int (v0_13 p2)), .val (.ref b15), .val (.int (1 : Int32)), .val (.int (1000 : Int32))] [])) t
      refine XS.aload X24.here hx rfl (hb hby at_103) rfl rfl ?_
      show Steps p.tables e below (T24.setTop (mkF m 105 #[.val (.int p0), .val (.int p1), .val (.int p2), .val (.int p3), .val (.int (v0_1 p0)), .val (.int (v0_2 p1)), .val (.int (b0_5 p3)), .val (.int (b0_10 p3)), .val (.int (v0_13 p2)), .val (.ref b15), .val (.int (1 : Int32)), .val (.int (1000 : Int32))] [(.ref b15)])) t
      refine XS.iload X24.here hx rfl (hb hby at_105) rfl ?_
      show Steps p.tables e below (T24.setTop (mkF m 107 #[.val (.int p0), .val (.int p1), .val (.int p2), .val (.int p3), .val (.int (v0_1 p0)), .val (.int (v0_2 p1)), .val (.int (b0_5 p3)), .val (.int (b0_10 p3)), .val (.int (v0_13 p2)), .val (.ref b15), .val (.int (1 : Int32)), .val (.int (1000 : Int32))] [(.int (v0_1 p0)), (.ref b15)])) t
      exact k
    obtain ⟨cq29, kq29, q29a, q29b, q29c⟩ := isOf hZ e24 G20_0
    obtain ⟨_, _, ⟨T29, L29, k29, n29⟩, -, X29, ⟨Lc29, hQ29, l29, y29, z29⟩, st29⟩ := X24.virtualBack hx (y := (⟨"com/example/calycule/calycule/validators/BigIntegerConverter", "setRadix", "(I)V"⟩ : MethodName)) (z := (⟨"com/example/calycule/calycule/validators/BigIntegerConverter", "setRadix", "(I)V"⟩ : MethodName)) hown (mvT hZ (hw _ (List.mem_of_getElem? (i := 29) rfl))) (mvT hZ (hw _ (List.mem_of_getElem? (i := 30) rfl))) (notFace_of_selects (args := #[]) (mvT hZ (hw _ (List.mem_of_getElem? (i := 32) rfl)))) (mvT hZ (hw _ (List.mem_of_getElem? (i := 32) rfl))) (mvT hZ (hw _ (List.mem_of_getElem? (i := 31) rfl))) (by decide) (backOf (W := 0) (rm6 l Z aZ hw [] b15 (v0_1 p0) (10 : Int32) (1000 : Int32) T20.heap n0 Zs20 G20_0 G20_1 G20_2 low15 (own_r35 p0).1 (own_r35 p0).2) hZ (hw _ (List.mem_of_getElem? (i := 33) rfl)) (hw _ (List.mem_of_getElem? (i := 4) rfl)) (by decide) (by decide)) q29a q29c (g := (mkF m 107 #[.val (.int p0), .val (.int p1), .val (.int p2), .val (.int p3), .val (.int (v0_1 p0)), .val (.int (v0_2 p1)), .val (.int (b0_5 p3)), .val (.int (b0_10 p3)), .val (.int (v0_13 p2)), .val (.ref b15), .val (.int (1 : Int32)), .val (.int (1000 : Int32))] [(.int (v0_1 p0)), (.ref b15)])) rfl (by rw [hml]; rfl) (Steps.refl _) (argsL := [(.int (v0_1 p0))]) (rest := []) (lenOf pd_45 rfl) rfl (by show 2 * 0 + _ ≤ _; exact Nat.le_of_eq rfl) (hb hby at_107) (fun _ _ => ⟨rfl, e24, (by decide : 1 + 0 ≤ _), (by decide : 2 + 0 ≤ _)⟩)
    dsimp only [Pt.U, Pt.locs, Pt.cells, Pt.slots] at X29 l29 y29 z29 st29 hQ29
    subst l29 y29 z29
    obtain ⟨rfl, N29q, K29q, G29_0, G29_1, G29_2⟩ := hQ29
    have N29 := Fr.app N24 N29q
    have K29 : Keep h0 T29.heap [] := K20.trans K29q (allS (Or.inr fsh15) all0)
    have Zs29 : n0 ≤ T29.heap.size := Nat.le_trans Zs20 K29q.1
    have F30 : Exa Z T29.heap b15 "com/example/calycule/calycule/validators/BigIntegerConverter" := G20_0.keep K29q
    have go31 : ∀ t, Steps p.tables e below (T29.setTop (mkF m 110 #[.val (.int p0), .val (.int p1), .val (.int p2), .val (.int p3), .val (.int (v0_1 p0)), .val (.int (v0_2 p1)), .val (.int (b0_5 p3)), .val (.int (b0_10 p3)), .val (.int (v0_13 p2)), .val (.ref b15), .val (.int (1 : Int32)), .val (.int (1000 : Int32))] [])) t → Steps p.tables e below (s₁.setTop (entryFrame m #[(.int p0), (.int p1), (.int p2), (.int p3)] maxLocals)) t := fun t k => go28 _ (st29.trans k)
    have go32 : ∀ t, Steps p.tables e below (T29.setTop (mkF m 117 #[.val (.int p0), .val (.int p1), .val (.int p2), .val (.int p3), .val (.int (v0_1 p0)), .val (.int (v0_2 p1)), .val (.int (b0_5 p3)), .val (.int (b0_10 p3)), .val (.int (v0_13 p2)), .val (.ref b15), .val (.int (1 : Int32)), .val (.int (1000 : Int32))] [(.ref b15)])) t → Steps p.tables e below (s₁.setTop (entryFrame m #[(.int p0), (.int p1), (.int p2), (.int p3)] maxLocals)) t := by
      intro t k
      refine go31 _ ?_
      refine XS.iload X29.here hx rfl (hb hby at_110) rfl ?_
      show Steps p.tables e below (T29.setTop (mkF m 112 #[.val (.int p0), .val (.int p1), .val (.int p2), .val (.int p3), .val (.int (v0_1 p0)), .val (.int (v0_2 p1)), .val (.int (b0_5 p3)), .val (.int (b0_10 p3)), .val (.int (v0_13 p2)), .val (.ref b15), .val (.int (1 : Int32)), .val (.int (1000 : Int32))] [(.int (1 : Int32))])) t
      refine XS.ifNo X29.here hx rfl (hb hby at_112) rfl (XT.i0_eq_f (by decide : ¬ ((1 : Int32) = (0 : Int32)))) ?_
      show Steps p.tables e below (T29.setTop (mkF m 115 #[.val (.int p0), .val (.int p1), .val (.int p2), .val (.int p3), .val (.int (v0_1 p0)), .val (.int (v0_2 p1)), .val (.int (b0_5 p3)), .val (.int (b0_10 p3)), .val (.int (v0_13 p2)), .val (.ref b15), .val (.int (1 : Int32)), .val (.int (1000 : Int32))] [])) t
      refine XS.aload X29.here hx rfl (hb hby at_115) rfl rfl ?_
      show Steps p.tables e below (T29.setTop (mkF m 117 #[.val (.int p0), .val (.int p1), .val (.int p2), .val (.int p3), .val (.int (v0_1 p0)), .val (.int (v0_2 p1)), .val (.int (b0_5 p3)), .val (.int (b0_10 p3)), .val (.int (v0_13 p2)), .val (.ref b15), .val (.int (1 : Int32)), .val (.int (1000 : Int32))] [(.ref b15)])) t
      exact k
    obtain ⟨cq33, kq33, q33a, q33b, q33c⟩ := isOf hZ rfl G29_0
    obtain ⟨_, _, ⟨T33, L33, k33, n33⟩, -, X33, ⟨Lc33, hQ33, l33, y33, z33⟩, st33⟩ := X29.virtualBack hx (y := (⟨"com/example/calycule/calycule/validators/BigIntegerConverter", "getRadix", "()I"⟩ : MethodName)) (z := (⟨"com/example/calycule/calycule/validators/BigIntegerConverter", "getRadix", "()I"⟩ : MethodName)) hown (mvT hZ (hw _ (List.mem_of_getElem? (i := 15) rfl))) (mvT hZ (hw _ (List.mem_of_getElem? (i := 16) rfl))) (notFace_of_selects (args := #[]) (mvT hZ (hw _ (List.mem_of_getElem? (i := 18) rfl)))) (mvT hZ (hw _ (List.mem_of_getElem? (i := 18) rfl))) (mvT hZ (hw _ (List.mem_of_getElem? (i := 17) rfl))) (by decide) (backOf (W := 0) (rm3 l Z aZ hw [] b15 (v0_1 p0) T29.heap n0 Zs29 G29_1) hZ (hw _ (List.mem_of_getElem? (i := 19) rfl)) (hw _ (List.mem_of_getElem? (i := 4) rfl)) (by decide) (by decide)) q33a q33c (g := (mkF m 117 #[.val (.int p0), .val (.int p1), .val (.int p2), .val (.int p3), .val (.int (v0_1 p0)), .val (.int (v0_2 p1)), .val (.int (b0_5 p3)), .val (.int (b0_10 p3)), .val (.int (v0_13 p2)), .val (.ref b15), .val (.int (1 : Int32)), .val (.int (1000 : Int32))] [(.ref b15)])) rfl (by rw [hml]; rfl) (Steps.refl _) (argsL := []) (rest := []) (lenOf pd_44 rfl) rfl (by show 2 * 0 + _ ≤ _; exact Nat.le_of_eq rfl) (hb hby at_117) (fun _ _ => ⟨rfl, rfl, (by decide : 1 + 0 ≤ _), (by decide : 2 + 0 ≤ _)⟩)
    dsimp only [Pt.U, Pt.locs, Pt.cells, Pt.slots] at X33 l33 y33 z33 st33 hQ33
    subst l33 y33 z33
    obtain ⟨rfl, N33q, e33⟩ := hQ33
    have N33 := Fr.app N29 N33q
    have go34 : ∀ t, Steps p.tables e below (T33.setTop (mkF m 120 #[.val (.int p0), .val (.int p1), .val (.int p2), .val (.int p3), .val (.int (v0_1 p0)), .val (.int (v0_2 p1)), .val (.int (b0_5 p3)), .val (.int (b0_10 p3)), .val (.int (v0_13 p2)), .val (.ref b15), .val (.int (1 : Int32)), .val (.int (1000 : Int32))] [(.int (v0_1 p0))])) t → Steps p.tables e below (s₁.setTop (entryFrame m #[(.int p0), (.int p1), (.int p2), (.int p3)] maxLocals)) t := fun t k => go32 _ (st33.trans k)
    have go35 : ∀ t, Steps p.tables e below (T33.setTop (mkF m 127 #[.val (.int p0), .val (.int p1), .val (.int p2), .val (.int p3), .val (.int (v0_1 p0)), .val (.int (v0_2 p1)), .val (.int (b0_5 p3)), .val (.int (b0_10 p3)), .val (.int (v0_13 p2)), .val (.ref b15), .val (.int (1 : Int32)), .val (.int (1000 : Int32))] [(.ref b15)])) t → Steps p.tables e below (s₁.setTop (entryFrame m #[(.int p0), (.int p1), (.int p2), (.int p3)] maxLocals)) t := by
      intro t k
      refine go34 _ ?_
      refine XS.iload X33.here hx rfl (hb hby at_120) rfl ?_
      show Steps p.tables e below (T33.setTop (mkF m 122 #[.val (.int p0), .val (.int p1), .val (.int p2), .val (.int p3), .val (.int (v0_1 p0)), .val (.int (v0_2 p1)), .val (.int (b0_5 p3)), .val (.int (b0_10 p3)), .val (.int (v0_13 p2)), .val (.ref b15), .val (.int (1 : Int32)), .val (.int (1000 : Int32))] [(.int (v0_1 p0)), (.int (v0_1 p0))])) t
      refine XS.icmpNo X33.here hx rfl (hb hby at_122) rfl (XT.ii_ne_f rfl) ?_
      show Steps p.tables e below (T33.setTop (mkF m 125 #[.val (.int p0), .val (.int p1), .val (.int p2), .val (.int p3), .val (.int (v0_1 p0)), .val (.int (v0_2 p1)), .val (.int (b0_5 p3)), .val (.int (b0_10 p3)), .val (.int (v0_13 p2)), .val (.ref b15), .val (.int (1 : Int32)), .val (.int (1000 : Int32))] [])) t
      refine XS.aload X33.here hx rfl (hb hby at_125) rfl rfl ?_
      show Steps p.tables e below (T33.setTop (mkF m 127 #[.val (.int p0), .val (.int p1), .val (.int p2), .val (.int p3), .val (.int (v0_1 p0)), .val (.int (v0_2 p1)), .val (.int (b0_5 p3)), .val (.int (b0_10 p3)), .val (.int (v0_13 p2)), .val (.ref b15), .val (.int (1 : Int32)), .val (.int (1000 : Int32))] [(.ref b15)])) t
      exact k
    obtain ⟨cq36, kq36, q36a, q36b, q36c⟩ := isOf hZ e33 G29_0
    obtain ⟨_, _, ⟨T36, L36, k36, n36⟩, -, X36, ⟨Lc36, hQ36, l36, y36, z36⟩, st36⟩ := X33.virtualBack hx (y := (⟨"com/example/calycule/calycule/validators/BigIntegerConverter", "getMaxDigits", "()I"⟩ : MethodName)) (z := (⟨"com/example/calycule/calycule/validators/BigIntegerConverter", "getMaxDigits", "()I"⟩ : MethodName)) hown (mvT hZ (hw _ (List.mem_of_getElem? (i := 34) rfl))) (mvT hZ (hw _ (List.mem_of_getElem? (i := 35) rfl))) (notFace_of_selects (args := #[]) (mvT hZ (hw _ (List.mem_of_getElem? (i := 37) rfl)))) (mvT hZ (hw _ (List.mem_of_getElem? (i := 37) rfl))) (mvT hZ (hw _ (List.mem_of_getElem? (i := 36) rfl))) (by decide) (backOf (W := 0) (rm7 l Z aZ hw [] b15 (1000 : Int32) T29.heap n0 Zs29 G29_2) hZ (hw _ (List.mem_of_getElem? (i := 38) rfl)) (hw _ (List.mem_of_getElem? (i := 4) rfl)) (by decide) (by decide)) q36a q36c (g := (mkF m 127 #[.val (.int p0), .val (.int p1), .val (.int p2), .val (.int p3), .val (.int (v0_1 p0)), .val (.int (v0_2 p1)), .val (.int (b0_5 p3)), .val (.int (b0_10 p3)), .val (.int (v0_13 p2)), .val (.ref b15), .val (.int (1 : Int32)), .val (.int (1000 : Int32))] [(.ref b15)])) rfl (by rw [hml]; rfl) (Steps.refl _) (argsL := []) (rest := []) (lenOf pd_44 rfl) rfl (by show 2 * 0 + _ ≤ _; exact Nat.le_of_eq rfl) (hb hby at_127) (fun _ _ => ⟨rfl, e33, (by decide : 1 + 0 ≤ _), (by decide : 2 + 0 ≤ _)⟩)
    dsimp only [Pt.U, Pt.locs, Pt.cells, Pt.slots] at X36 l36 y36 z36 st36 hQ36
    subst l36 y36 z36
    obtain ⟨rfl, N36q, e36⟩ := hQ36
    have N36 := Fr.app N33 N36q
    have go37 : ∀ t, Steps p.tables e below (T36.setTop (mkF m 130 #[.val (.int p0), .val (.int p1), .val (.int p2), .val (.int p3), .val (.int (v0_1 p0)), .val (.int (v0_2 p1)), .val (.int (b0_5 p3)), .val (.int (b0_10 p3)), .val (.int (v0_13 p2)), .val (.ref b15), .val (.int (1 : Int32)), .val (.int (1000 : Int32))] [(.int (1000 : Int32))])) t → Steps p.tables e below (s₁.setTop (entryFrame m #[(.int p0), (.int p1), (.int p2), (.int p3)] maxLocals)) t := fun t k => go35 _ (st36.trans k)
    have go38 : ∀ t, Steps p.tables e below (T36.setTop (mkF m 144 #[.val (.int p0), .val (.int p1), .val (.int p2), .val (.int p3), .val (.int (v0_1 p0)), .val (.int (v0_2 p1)), .val (.int (b0_5 p3)), .val (.int (b0_10 p3)), .val (.int (v0_13 p2)), .val (.ref b15), .val (.int (1 : Int32)), .val (.int (1000 : Int32))] [(.int (b0_10 p3))])) t → Steps p.tables e below (s₁.setTop (entryFrame m #[(.int p0), (.int p1), (.int p2), (.int p3)] maxLocals)) t := by
      intro t k
      refine go37 _ ?_
      refine XS.iload X36.here hx rfl (hb hby at_130) rfl ?_
      show Steps p.tables e below (T36.setTop (mkF m 132 #[.val (.int p0), .val (.int p1), .val (.int p2), .val (.int p3), .val (.int (v0_1 p0)), .val (.int (v0_2 p1)), .val (.int (b0_5 p3)), .val (.int (b0_10 p3)), .val (.int (v0_13 p2)), .val (.ref b15), .val (.int (1 : Int32)), .val (.int (1000 : Int32))] [(.int (1000 : Int32)), (.int (1000 : Int32))])) t
      refine XS.icmpNo X36.here hx rfl (hb hby at_132) rfl (XT.ii_ne_f (by decide : ((1000 : Int32) = (1000 : Int32)))) ?_
      show Steps p.tables e below (T36.setTop (mkF m 135 #[.val (.int p0), .val (.int p1), .val (.int p2), .val (.int p3), .val (.int (v0_1 p0)), .val (.int (v0_2 p1)), .val (.int (b0_5 p3)), .val (.int (b0_10 p3)), .val (.int (v0_13 p2)), .val (.ref b15), .val (.int (1 : Int32)), .val (.int (1000 : Int32))] [])) t
      refine XS.iconst X36.here hx rfl (hb hby at_135) ?_
      show Steps p.tables e below (T36.setTop (mkF m 136 #[.val (.int p0), .val (.int p1), .val (.int p2), .val (.int p3), .val (.int (v0_1 p0)), .val (.int (v0_2 p1)), .val (.int (b0_5 p3)), .val (.int (b0_10 p3)), .val (.int (v0_13 p2)), .val (.ref b15), .val (.int (1 : Int32)), .val (.int (1000 : Int32))] [(.int (1 : Int32))])) t
      refine XS.goto X36.here hx rfl (pc0 := 136) (pc' := 140) rfl (hb hby at_136) (by decide) (by decide) ?_
      show Steps p.tables e below (T36.setTop (mkF m 140 #[.val (.int p0), .val (.int p1), .val (.int p2), .val (.int p3), .val (.int (v0_1 p0)), .val (.int (v0_2 p1)), .val (.int (b0_5 p3)), .val (.int (b0_10 p3)), .val (.int (v0_13 p2)), .val (.ref b15), .val (.int (1 : Int32)), .val (.int (1000 : Int32))] [(.int (1 : Int32))])) t
      refine XS.istore X36.here hx rfl (hb hby at_140) rfl (l' := #[.val (.int p0), .val (.int p1), .val (.int p2), .val (.int p3), .val (.int (v0_1 p0)), .val (.int (v0_2 p1)), .val (.int (b0_5 p3)), .val (.int (b0_10 p3)), .val (.int (v0_13 p2)), .val (.ref b15), .val (.int (1 : Int32)), .val (.int (1000 : Int32))]) rfl ?_
      show Steps p.tables e below (T36.setTop (mkF m 142 #[.val (.int p0), .val (.int p1), .val (.int p2), .val (.int p3), .val (.int (v0_1 p0)), .val (.int (v0_2 p1)), .val (.int (b0_5 p3)), .val (.int (b0_10 p3)), .val (.int (v0_13 p2)), .val (.ref b15), .val (.int (1 : Int32)), .val (.int (1000 : Int32))] [])) t
      refine XS.iload X36.here hx rfl (hb hby at_142) rfl ?_
      show Steps p.tables e below (T36.setTop (mkF m 144 #[.val (.int p0), .val (.int p1), .val (.int p2), .val (.int p3), .val (.int (v0_1 p0)), .val (.int (v0_2 p1)), .val (.int (b0_5 p3)), .val (.int (b0_10 p3)), .val (.int (v0_13 p2)), .val (.ref b15), .val (.int (1 : Int32)), .val (.int (1000 : Int32))] [(.int (b0_10 p3))])) t
      exact k
    by_cases hs39 : (b0_10 p3) = (0 : Int32)
    · have go40 : ∀ t, Steps p.tables e below (T36.setTop (mkF m 188 #[.val (.int p0), .val (.int p1), .val (.int p2), .val (.int p3), .val (.int (v0_1 p0)), .val (.int (v0_2 p1)), .val (.int (b0_5 p3)), .val (.int (b0_10 p3)), .val (.int (v0_13 p2)), .val (.ref b15), .val (.int (1 : Int32)), .val (.int (1000 : Int32))] [(.int (1 : Int32))])) t → Steps p.tables e below (s₁.setTop (entryFrame m #[(.int p0), (.int p1), (.int p2), (.int p3)] maxLocals)) t := by
        intro t k
        refine go38 _ ?_
        refine XS.ifYes X36.here hx rfl (pc0 := 144) (pc' := 186) rfl (hb hby at_144) rfl (XT.i0_eq_t hs39) (by decide) (by decide) ?_
        show Steps p.tables e below (T36.setTop (mkF m 186 #[.val (.int p0), .val (.int p1), .val (.int p2), .val (.int p3), .val (.int (v0_1 p0)), .val (.int (v0_2 p1)), .val (.int (b0_5 p3)), .val (.int (b0_10 p3)), .val (.int (v0_13 p2)), .val (.ref b15), .val (.int (1 : Int32)), .val (.int (1000 : Int32))] [])) t
        refine XS.iload X36.here hx rfl (hb hby at_186) rfl ?_
        show Steps p.tables e below (T36.setTop (mkF m 188 #[.val (.int p0), .val (.int p1), .val (.int p2), .val (.int p3), .val (.int (v0_1 p0)), .val (.int (v0_2 p1)), .val (.int (b0_5 p3)), .val (.int (b0_10 p3)), .val (.int (v0_13 p2)), .val (.ref b15), .val (.int (1 : Int32)), .val (.int (1000 : Int32))] [(.int (1 : Int32))])) t
        exact k
      obtain ⟨fs, hr, hrun, hended, hW, hsame⟩ := X36.leave (v := some (.int (1 : Int32))) (fun h => by rw [Bd.returns] at h; cases h)
      refine ⟨_, _, go40 _ (Jvm.RoadKit.retOut X36 hx Bd.returns rfl (Or.inl ⟨rfl, Or.inr (Or.inl rfl), _, rfl⟩) (hb hby at_188) hr), hrun, hended, _, _, rfl, ?_, ⟨_, rfl⟩, hW, hsame.mono (by decide) (by decide)⟩
      show Q0 _ _ p0 p1 p2 p3 h0 _ (T36.setFrames fs).heap _
      have hE : (T36.setFrames fs).heap = T29.heap := e36
      rw [hE]
      exact ⟨congrArg (fun z => some (Value.int z)) ((by rw [f0, if_pos hs27, if_pos hs39] : (1 : Int32) = (f0 p3)).trans (f0_one p3)), N36⟩
    · have go41 : ∀ t, Steps p.tables e below (T36.setTop (mkF m 151 #[.val (.int p0), .val (.int p1), .val (.int p2), .val (.int p3), .val (.int (v0_1 p0)), .val (.int (v0_2 p1)), .val (.int (b0_5 p3)), .val (.int (b0_10 p3)), .val (.int (v0_13 p2)), .val (.ref b15), .val (.int (1 : Int32)), .val (.int (1000 : Int32))] [(.int (v0_2 p1)), (.ref b15)])) t → Steps p.tables e below (s₁.setTop (entryFrame m #[(.int p0), (.int p1), (.int p2), (.int p3)] maxLocals)) t := by
        intro t k
        refine go38 _ ?_
        refine XS.ifNo X36.here hx rfl (hb hby at_144) rfl (XT.i0_eq_f hs39) ?_
        show Steps p.tables e below (T36.setTop (mkF m 147 #[.val (.int p0), .val (.int p1), .val (.int p2), .val (.int p3), .val (.int (v0_1 p0)), .val (.int (v0_2 p1)), .val (.int (b0_5 p3)), .val (.int (b0_10 p3)), .val (.int (v0_13 p2)), .val (.ref b15), .val (.int (1 : Int32)), .val (.int (1000 : Int32))] [])) t
        refine XS.aload X36.here hx rfl (hb hby at_147) rfl rfl ?_
        show Steps p.tables e below (T36.setTop (mkF m 149 #[.val (.int p0), .val (.int p1), .val (.int p2), .val (.int p3), .val (.int (v0_1 p0)), .val (.int (v0_2 p1)), .val (.int (b0_5 p3)), .val (.int (b0_10 p3)), .val (.int (v0_13 p2)), .val (.ref b15), .val (.int (1 : Int32)), .val (.int (1000 : Int32))] [(.ref b15)])) t
        refine XS.iload X36.here hx rfl (hb hby at_149) rfl ?_
        show Steps p.tables e below (T36.setTop (mkF m 151 #[.val (.int p0), .val (.int p1), .val (.int p2), .val (.int p3), .val (.int (v0_1 p0)), .val (.int (v0_2 p1)), .val (.int (b0_5 p3)), .val (.int (b0_10 p3)), .val (.int (v0_13 p2)), .val (.ref b15), .val (.int (1 : Int32)), .val (.int (1000 : Int32))] [(.int (v0_2 p1)), (.ref b15)])) t
        exact k
      obtain ⟨cq42, kq42, q42a, q42b, q42c⟩ := isOf hZ e36 G29_0
      obtain ⟨_, _, ⟨T42, L42, k42, n42⟩, -, X42, ⟨Lc42, hQ42, l42, y42, z42⟩, st42⟩ := X36.virtualBack hx (y := (⟨"com/example/calycule/calycule/validators/BigIntegerConverter", "setRadix", "(I)V"⟩ : MethodName)) (z := (⟨"com/example/calycule/calycule/validators/BigIntegerConverter", "setRadix", "(I)V"⟩ : MethodName)) hown (mvT hZ (hw _ (List.mem_of_getElem? (i := 29) rfl))) (mvT hZ (hw _ (List.mem_of_getElem? (i := 30) rfl))) (notFace_of_selects (args := #[]) (mvT hZ (hw _ (List.mem_of_getElem? (i := 32) rfl)))) (mvT hZ (hw _ (List.mem_of_getElem? (i := 32) rfl))) (mvT hZ (hw _ (List.mem_of_getElem? (i := 31) rfl))) (by decide) (backOf (W := 0) (rm6 l Z aZ hw [] b15 (v0_2 p1) (v0_1 p0) (1000 : Int32) T29.heap n0 Zs29 G29_0 G29_1 G29_2 low15 (own_r35 p1).1 (own_r35 p1).2) hZ (hw _ (List.mem_of_getElem? (i := 33) rfl)) (hw _ (List.mem_of_getElem? (i := 4) rfl)) (by decide) (by decide)) q42a q42c (g := (mkF m 151 #[.val (.int p0), .val (.int p1), .val (.int p2), .val (.int p3), .val (.int (v0_1 p0)), .val (.int (v0_2 p1)), .val (.int (b0_5 p3)), .val (.int (b0_10 p3)), .val (.int (v0_13 p2)), .val (.ref b15), .val (.int (1 : Int32)), .val (.int (1000 : Int32))] [(.int (v0_2 p1)), (.ref b15)])) rfl (by rw [hml]; rfl) (Steps.refl _) (argsL := [(.int (v0_2 p1))]) (rest := []) (lenOf pd_45 rfl) rfl (by show 2 * 0 + _ ≤ _; exact Nat.le_of_eq rfl) (hb hby at_151) (fun _ _ => ⟨rfl, e36, (by decide : 1 + 0 ≤ _), (by decide : 2 + 0 ≤ _)⟩)
      dsimp only [Pt.U, Pt.locs, Pt.cells, Pt.slots] at X42 l42 y42 z42 st42 hQ42
      subst l42 y42 z42
      obtain ⟨rfl, N42q, K42q, G42_0, G42_1, G42_2⟩ := hQ42
      have N42 := Fr.app N36 N42q
      have K42 : Keep h0 T42.heap [] := K29.trans K42q (allS (Or.inr fsh15) all0)
      have Zs42 : n0 ≤ T42.heap.size := Nat.le_trans Zs29 K42q.1
      have F43 : Exa Z T42.heap b15 "com/example/calycule/calycule/validators/BigIntegerConverter" := G29_0.keep K42q
      have go44 : ∀ t, Steps p.tables e below (T42.setTop (mkF m 154 #[.val (.int p0), .val (.int p1), .val (.int p2), .val (.int p3), .val (.int (v0_1 p0)), .val (.int (v0_2 p1)), .val (.int (b0_5 p3)), .val (.int (b0_10 p3)), .val (.int (v0_13 p2)), .val (.ref b15), .val (.int (1 : Int32)), .val (.int (1000 : Int32))] [])) t → Steps p.tables e below (s₁.setTop (entryFrame m #[(.int p0), (.int p1), (.int p2), (.int p3)] maxLocals)) t := fun t k => go41 _ (st42.trans k)
      have go45 : ∀ t, Steps p.tables e below (T42.setTop (mkF m 161 #[.val (.int p0), .val (.int p1), .val (.int p2), .val (.int p3), .val (.int (v0_1 p0)), .val (.int (v0_2 p1)), .val (.int (b0_5 p3)), .val (.int (b0_10 p3)), .val (.int (v0_13 p2)), .val (.ref b15), .val (.int (1 : Int32)), .val (.int (1000 : Int32))] [(.ref b15)])) t → Steps p.tables e below (s₁.setTop (entryFrame m #[(.int p0), (.int p1), (.int p2), (.int p3)] maxLocals)) t := by
        intro t k
        refine go44 _ ?_
        refine XS.iload X42.here hx rfl (hb hby at_154) rfl ?_
        show Steps p.tables e below (T42.setTop (mkF m 156 #[.val (.int p0), .val (.int p1), .val (.int p2), .val (.int p3), .val (.int (v0_1 p0)), .val (.int (v0_2 p1)), .val (.int (b0_5 p3)), .val (.int (b0_10 p3)), .val (.int (v0_13 p2)), .val (.ref b15), .val (.int (1 : Int32)), .val (.int (1000 : Int32))] [(.int (1 : Int32))])) t
        refine XS.ifNo X42.here hx rfl (hb hby at_156) rfl (XT.i0_eq_f (by decide : ¬ ((1 : Int32) = (0 : Int32)))) ?_
        show Steps p.tables e below (T42.setTop (mkF m 159 #[.val (.int p0), .val (.int p1), .val (.int p2), .val (.int p3), .val (.int (v0_1 p0)), .val (.int (v0_2 p1)), .val (.int (b0_5 p3)), .val (.int (b0_10 p3)), .val (.int (v0_13 p2)), .val (.ref b15), .val (.int (1 : Int32)), .val (.int (1000 : Int32))] [])) t
        refine XS.aload X42.here hx rfl (hb hby at_159) rfl rfl ?_
        show Steps p.tables e below (T42.setTop (mkF m 161 #[.val (.int p0), .val (.int p1), .val (.int p2), .val (.int p3), .val (.int (v0_1 p0)), .val (.int (v0_2 p1)), .val (.int (b0_5 p3)), .val (.int (b0_10 p3)), .val (.int (v0_13 p2)), .val (.ref b15), .val (.int (1 : Int32)), .val (.int (1000 : Int32))] [(.ref b15)])) t
        exact k
      obtain ⟨cq46, kq46, q46a, q46b, q46c⟩ := isOf hZ rfl G42_0
      obtain ⟨_, _, ⟨T46, L46, k46, n46⟩, -, X46, ⟨Lc46, hQ46, l46, y46, z46⟩, st46⟩ := X42.virtualBack hx (y := (⟨"com/example/calycule/calycule/validators/BigIntegerConverter", "getRadix", "()I"⟩ : MethodName)) (z := (⟨"com/example/calycule/calycule/validators/BigIntegerConverter", "getRadix", "()I"⟩ : MethodName)) hown (mvT hZ (hw _ (List.mem_of_getElem? (i := 15) rfl))) (mvT hZ (hw _ (List.mem_of_getElem? (i := 16) rfl))) (notFace_of_selects (args := #[]) (mvT hZ (hw _ (List.mem_of_getElem? (i := 18) rfl)))) (mvT hZ (hw _ (List.mem_of_getElem? (i := 18) rfl))) (mvT hZ (hw _ (List.mem_of_getElem? (i := 17) rfl))) (by decide) (backOf (W := 0) (rm3 l Z aZ hw [] b15 (v0_2 p1) T42.heap n0 Zs42 G42_1) hZ (hw _ (List.mem_of_getElem? (i := 19) rfl)) (hw _ (List.mem_of_getElem? (i := 4) rfl)) (by decide) (by decide)) q46a q46c (g := (mkF m 161 #[.val (.int p0), .val (.int p1), .val (.int p2), .val (.int p3), .val (.int (v0_1 p0)), .val (.int (v0_2 p1)), .val (.int (b0_5 p3)), .val (.int (b0_10 p3)), .val (.int (v0_13 p2)), .val (.ref b15), .val (.int (1 : Int32)), .val (.int (1000 : Int32))] [(.ref b15)])) rfl (by rw [hml]; rfl) (Steps.refl _) (argsL := []) (rest := []) (lenOf pd_44 rfl) rfl (by show 2 * 0 + _ ≤ _; exact Nat.le_of_eq rfl) (hb hby at_161) (fun _ _ => ⟨rfl, rfl, (by decide : 1 + 0 ≤ _), (by decide : 2 + 0 ≤ _)⟩)
      dsimp only [Pt.U, Pt.locs, Pt.cells, Pt.slots] at X46 l46 y46 z46 st46 hQ46
      subst l46 y46 z46
      obtain ⟨rfl, N46q, e46⟩ := hQ46
      have N46 := Fr.app N42 N46q
      have go47 : ∀ t, Steps p.tables e below (T46.setTop (mkF m 164 #[.val (.int p0), .val (.int p1), .val (.int p2), .val (.int p3), .val (.int (v0_1 p0)), .val (.int (v0_2 p1)), .val (.int (b0_5 p3)), .val (.int (b0_10 p3)), .val (.int (v0_13 p2)), .val (.ref b15), .val (.int (1 : Int32)), .val (.int (1000 : Int32))] [(.int (v0_2 p1))])) t → Steps p.tables e below (s₁.setTop (entryFrame m #[(.int p0), (.int p1), (.int p2), (.int p3)] maxLocals)) t := fun t k => go45 _ (st46.trans k)
      have go48 : ∀ t, Steps p.tables e below (T46.setTop (mkF m 171 #[.val (.int p0), .val (.int p1), .val (.int p2), .val (.int p3), .val (.int (v0_1 p0)), .val (.int (v0_2 p1)), .val (.int (b0_5 p3)), .val (.int (b0_10 p3)), .val (.int (v0_13 p2)), .val (.ref b15), .val (.int (1 : Int32)), .val (.int (1000 : Int32))] [(.ref b15)])) t → Steps p.tables e below (s₁.setTop (entryFrame m #[(.int p0), (.int p1), (.int p2), (.int p3)] maxLocals)) t := by
        intro t k
        refine go47 _ ?_
        refine XS.iload X46.here hx rfl (hb hby at_164) rfl ?_
        show Steps p.tables e below (T46.setTop (mkF m 166 #[.val (.int p0), .val (.int p1), .val (.int p2), .val (.int p3), .val (.int (v0_1 p0)), .val (.int (v0_2 p1)), .val (.int (b0_5 p3)), .val (.int (b0_10 p3)), .val (.int (v0_13 p2)), .val (.ref b15), .val (.int (1 : Int32)), .val (.int (1000 : Int32))] [(.int (v0_2 p1)), (.int (v0_2 p1))])) t
        refine XS.icmpNo X46.here hx rfl (hb hby at_166) rfl (XT.ii_ne_f rfl) ?_
        show Steps p.tables e below (T46.setTop (mkF m 169 #[.val (.int p0), .val (.int p1), .val (.int p2), .val (.int p3), .val (.int (v0_1 p0)), .val (.int (v0_2 p1)), .val (.int (b0_5 p3)), .val (.int (b0_10 p3)), .val (.int (v0_13 p2)), .val (.ref b15), .val (.int (1 : Int32)), .val (.int (1000 : Int32))] [])) t
        refine XS.aload X46.here hx rfl (hb hby at_169) rfl rfl ?_
        show Steps p.tables e below (T46.setTop (mkF m 171 #[.val (.int p0), .val (.int p1), .val (.int p2), .val (.int p3), .val (.int (v0_1 p0)), .val (.int (v0_2 p1)), .val (.int (b0_5 p3)), .val (.int (b0_10 p3)), .val (.int (v0_13 p2)), .val (.ref b15), .val (.int (1 : Int32)), .val (.int (1000 : Int32))] [(.ref b15)])) t
        exact k
      obtain ⟨cq49, kq49, q49a, q49b, q49c⟩ := isOf hZ e46 G42_0
      obtain ⟨_, _, ⟨T49, L49, k49, n49⟩, -, X49, ⟨Lc49, hQ49, l49, y49, z49⟩, st49⟩ := X46.virtualBack hx (y := (⟨"com/example/calycule/calycule/validators/BigIntegerConverter", "getMaxDigits", "()I"⟩ : MethodName)) (z := (⟨"com/example/calycule/calycule/validators/BigIntegerConverter", "getMaxDigits", "()I"⟩ : MethodName)) hown (mvT hZ (hw _ (List.mem_of_getElem? (i := 34) rfl))) (mvT hZ (hw _ (List.mem_of_getElem? (i := 35) rfl))) (notFace_of_selects (args := #[]) (mvT hZ (hw _ (List.mem_of_getElem? (i := 37) rfl)))) (mvT hZ (hw _ (List.mem_of_getElem? (i := 37) rfl))) (mvT hZ (hw _ (List.mem_of_getElem? (i := 36) rfl))) (by decide) (backOf (W := 0) (rm7 l Z aZ hw [] b15 (1000 : Int32) T42.heap n0 Zs42 G42_2) hZ (hw _ (List.mem_of_getElem? (i := 38) rfl)) (hw _ (List.mem_of_getElem? (i := 4) rfl)) (by decide) (by decide)) q49a q49c (g := (mkF m 171 #[.val (.int p0), .val (.int p1), .val (.int p2), .val (.int p3), .val (.int (v0_1 p0)), .val (.int (v0_2 p1)), .val (.int (b0_5 p3)), .val (.int (b0_10 p3)), .val (.int (v0_13 p2)), .val (.ref b15), .val (.int (1 : Int32)), .val (.int (1000 : Int32))] [(.ref b15)])) rfl (by rw [hml]; rfl) (Steps.refl _) (argsL := []) (rest := []) (lenOf pd_44 rfl) rfl (by show 2 * 0 + _ ≤ _; exact Nat.le_of_eq rfl) (hb hby at_171) (fun _ _ => ⟨rfl, e46, (by decide : 1 + 0 ≤ _), (by decide : 2 + 0 ≤ _)⟩)
      dsimp only [Pt.U, Pt.locs, Pt.cells, Pt.slots] at X49 l49 y49 z49 st49 hQ49
      subst l49 y49 z49
      obtain ⟨rfl, N49q, e49⟩ := hQ49
      have N49 := Fr.app N46 N49q
      have go50 : ∀ t, Steps p.tables e below (T49.setTop (mkF m 174 #[.val (.int p0), .val (.int p1), .val (.int p2), .val (.int p3), .val (.int (v0_1 p0)), .val (.int (v0_2 p1)), .val (.int (b0_5 p3)), .val (.int (b0_10 p3)), .val (.int (v0_13 p2)), .val (.ref b15), .val (.int (1 : Int32)), .val (.int (1000 : Int32))] [(.int (1000 : Int32))])) t → Steps p.tables e below (s₁.setTop (entryFrame m #[(.int p0), (.int p1), (.int p2), (.int p3)] maxLocals)) t := fun t k => go48 _ (st49.trans k)
      have go51 : ∀ t, Steps p.tables e below (T49.setTop (mkF m 188 #[.val (.int p0), .val (.int p1), .val (.int p2), .val (.int p3), .val (.int (v0_1 p0)), .val (.int (v0_2 p1)), .val (.int (b0_5 p3)), .val (.int (b0_10 p3)), .val (.int (v0_13 p2)), .val (.ref b15), .val (.int (1 : Int32)), .val (.int (1000 : Int32))] [(.int (1 : Int32))])) t → Steps p.tables e below (s₁.setTop (entryFrame m #[(.int p0), (.int p1), (.int p2), (.int p3)] maxLocals)) t := by
        intro t k
        refine go50 _ ?_
        refine XS.iload X49.here hx rfl (hb hby at_174) rfl ?_
        show Steps p.tables e below (T49.setTop (mkF m 176 #[.val (.int p0), .val (.int p1), .val (.int p2), .val (.int p3), .val (.int (v0_1 p0)), .val (.int (v0_2 p1)), .val (.int (b0_5 p3)), .val (.int (b0_10 p3)), .val (.int (v0_13 p2)), .val (.ref b15), .val (.int (1 : Int32)), .val (.int (1000 : Int32))] [(.int (1000 : Int32)), (.int (1000 : Int32))])) t
        refine XS.icmpNo X49.here hx rfl (hb hby at_176) rfl (XT.ii_ne_f (by decide : ((1000 : Int32) = (1000 : Int32)))) ?_
        show Steps p.tables e below (T49.setTop (mkF m 179 #[.val (.int p0), .val (.int p1), .val (.int p2), .val (.int p3), .val (.int (v0_1 p0)), .val (.int (v0_2 p1)), .val (.int (b0_5 p3)), .val (.int (b0_10 p3)), .val (.int (v0_13 p2)), .val (.ref b15), .val (.int (1 : Int32)), .val (.int (1000 : Int32))] [])) t
        refine XS.iconst X49.here hx rfl (hb hby at_179) ?_
        show Steps p.tables e below (T49.setTop (mkF m 180 #[.val (.int p0), .val (.int p1), .val (.int p2), .val (.int p3), .val (.int (v0_1 p0)), .val (.int (v0_2 p1)), .val (.int (b0_5 p3)), .val (.int (b0_10 p3)), .val (.int (v0_13 p2)), .val (.ref b15), .val (.int (1 : Int32)), .val (.int (1000 : Int32))] [(.int (1 : Int32))])) t
        refine XS.goto X49.here hx rfl (pc0 := 180) (pc' := 184) rfl (hb hby at_180) (by decide) (by decide) ?_
        show Steps p.tables e below (T49.setTop (mkF m 184 #[.val (.int p0), .val (.int p1), .val (.int p2), .val (.int p3), .val (.int (v0_1 p0)), .val (.int (v0_2 p1)), .val (.int (b0_5 p3)), .val (.int (b0_10 p3)), .val (.int (v0_13 p2)), .val (.ref b15), .val (.int (1 : Int32)), .val (.int (1000 : Int32))] [(.int (1 : Int32))])) t
        refine XS.istore X49.here hx rfl (hb hby at_184) rfl (l' := #[.val (.int p0), .val (.int p1), .val (.int p2), .val (.int p3), .val (.int (v0_1 p0)), .val (.int (v0_2 p1)), .val (.int (b0_5 p3)), .val (.int (b0_10 p3)), .val (.int (v0_13 p2)), .val (.ref b15), .val (.int (1 : Int32)), .val (.int (1000 : Int32))]) rfl ?_
        show Steps p.tables e below (T49.setTop (mkF m 186 #[.val (.int p0), .val (.int p1), .val (.int p2), .val (.int p3), .val (.int (v0_1 p0)), .val (.int (v0_2 p1)), .val (.int (b0_5 p3)), .val (.int (b0_10 p3)), .val (.int (v0_13 p2)), .val (.ref b15), .val (.int (1 : Int32)), .val (.int (1000 : Int32))] [])) t
        refine XS.iload X49.here hx rfl (hb hby at_186) rfl ?_
        show Steps p.tables e below (T49.setTop (mkF m 188 #[.val (.int p0), .val (.int p1), .val (.int p2), .val (.int p3), .val (.int (v0_1 p0)), .val (.int (v0_2 p1)), .val (.int (b0_5 p3)), .val (.int (b0_10 p3)), .val (.int (v0_13 p2)), .val (.ref b15), .val (.int (1 : Int32)), .val (.int (1000 : Int32))] [(.int (1 : Int32))])) t
        exact k
      obtain ⟨fs, hr, hrun, hended, hW, hsame⟩ := X49.leave (v := some (.int (1 : Int32))) (fun h => by rw [Bd.returns] at h; cases h)
      refine ⟨_, _, go51 _ (Jvm.RoadKit.retOut X49 hx Bd.returns rfl (Or.inl ⟨rfl, Or.inr (Or.inl rfl), _, rfl⟩) (hb hby at_188) hr), hrun, hended, _, _, rfl, ?_, ⟨_, rfl⟩, hW, hsame.mono (by decide) (by decide)⟩
      show Q0 _ _ p0 p1 p2 p3 h0 _ (T49.setFrames fs).heap _
      have hE : (T49.setFrames fs).heap = T42.heap := e49
      rw [hE]
      exact ⟨congrArg (fun z => some (Value.int z)) ((by rw [f0, if_pos hs27, if_neg hs39] : (1 : Int32) = (f0 p3)).trans (f0_one p3)), N49⟩
  · have go52 : ∀ t, Steps p.tables e below (T24.setTop (mkF m 96 #[.val (.int p0), .val (.int p1), .val (.int p2), .val (.int p3), .val (.int (v0_1 p0)), .val (.int (v0_2 p1)), .val (.int (b0_5 p3)), .val (.int (b0_10 p3)), .val (.int (v0_13 p2)), .val (.ref b15), .val (.int (1 : Int32)), .val (.int (1000 : Int32))] [(.int (v0_13 p2)), (.ref b15)])) t → Steps p.tables e below (s₁.setTop (entryFrame m #[(.int p0), (.int p1), (.int p2), (.int p3)] maxLocals)) t := by
      intro t k
      refine go26 _ ?_
      refine XS.ifNo X24.here hx rfl (hb hby at_89) rfl (XT.i0_eq_f hs27) ?_
      show Steps p.tables e below (T24.setTop (mkF m 92 #[.val (.int p0), .val (.int p1), .val (.int p2), .val (.int p3), .val (.int (v0_1 p0)), .val (.int (v0_2 p1)), .val (.int (b0_5 p3)), .val (.int (b0_10 p3)), .val (.int (v0_13 p2)), .val (.ref b15), .val (.int (1 : Int32)), .val (.int (1000 : Int32))] [])) t
      refine XS.aload X24.here hx rfl (hb hby at_92) rfl rfl ?_
      show Steps p.tables e below (T24.setTop (mkF m 94 #[.val (.int p0), .val (.int p1), .val (.int p2), .val (.int p3), .val (.int (v0_1 p0)), .val (.int (v0_2 p1)), .val (.int (b0_5 p3)), .val (.int (b0_10 p3)), .val (.int (v0_13 p2)), .val (.ref b15), .val (.int (1 : Int32)), .val (.int (1000 : Int32))] [(.ref b15)])) t
      refine XS.iload X24.here hx rfl (hb hby at_94) rfl ?_
      show Steps p.tables e below (T24.setTop (mkF m 96 #[.val (.int p0), .val (.int p1), .val (.int p2), .val (.int p3), .val (.int (v0_1 p0)), .val (.int (v0_2 p1)), .val (.int (b0_5 p3)), .val (.int (b0_10 p3)), .val (.int (v0_13 p2)), .val (.ref b15), .val (.int (1 : Int32)), .val (.int (1000 : Int32))] [(.int (v0_13 p2)), (.ref b15)])) t
      exact k
    obtain ⟨cq53, kq53, q53a, q53b, q53c⟩ := isOf hZ e24 G20_0
    obtain ⟨_, _, ⟨T53, L53, k53, n53⟩, -, X53, ⟨Lc53, hQ53, l53, y53, z53⟩, st53⟩ := X24.virtualBack hx (y := (⟨"com/example/calycule/calycule/validators/BigIntegerConverter", "setMaxDigits", "(I)V"⟩ : MethodName)) (z := (⟨"com/example/calycule/calycule/validators/BigIntegerConverter", "setMaxDigits", "(I)V"⟩ : MethodName)) hown (mvT hZ (hw _ (List.mem_of_getElem? (i := 20) rfl))) (mvT hZ (hw _ (List.mem_of_getElem? (i := 21) rfl))) (notFace_of_selects (args := #[]) (mvT hZ (hw _ (List.mem_of_getElem? (i := 23) rfl)))) (mvT hZ (hw _ (List.mem_of_getElem? (i := 23) rfl))) (mvT hZ (hw _ (List.mem_of_getElem? (i := 22) rfl))) (by decide) (backOf (W := 0) (rm4 l Z aZ hw [] b15 (v0_13 p2) (10 : Int32) (1000 : Int32) T20.heap n0 Zs20 G20_0 G20_1 G20_2 low15 (own_m p2)) hZ (hw _ (List.mem_of_getElem? (i := 24) rfl)) (hw _ (List.mem_of_getElem? (i := 4) rfl)) (by decide) (by decide)) q53a q53c (g := (mkF m 96 #[.val (.int p0), .val (.int p1), .val (.int p2), .val (.int p3), .val (.int (v0_1 p0)), .val (.int (v0_2 p1)), .val (.int (b0_5 p3)), .val (.int (b0_10 p3)), .val (.int (v0_13 p2)), .val (.ref b15), .val (.int (1 : Int32)), .val (.int (1000 : Int32))] [(.int (v0_13 p2)), (.ref b15)])) rfl (by rw [hml]; rfl) (Steps.refl _) (argsL := [(.int (v0_13 p2))]) (rest := []) (lenOf pd_45 rfl) rfl (by show 2 * 0 + _ ≤ _; exact Nat.le_of_eq rfl) (hb hby at_96) (fun _ _ => ⟨rfl, e24, (by decide : 1 + 0 ≤ _), (by decide : 2 + 0 ≤ _)⟩)
    dsimp only [Pt.U, Pt.locs, Pt.cells, Pt.slots] at X53 l53 y53 z53 st53 hQ53
    subst l53 y53 z53
    obtain ⟨rfl, N53q, K53q, G53_0, G53_1, G53_2⟩ := hQ53
    have N53 := Fr.app N24 N53q
    have K53 : Keep h0 T53.heap [] := K20.trans K53q (allS (Or.inr fsh15) all0)
    have Zs53 : n0 ≤ T53.heap.size := Nat.le_trans Zs20 K53q.1
    have F54 : Exa Z T53.heap b15 "com/example/calycule/calycule/validators/BigIntegerConverter" := G20_0.keep K53q
    have go55 : ∀ t, Steps p.tables e below (T53.setTop (mkF m 99 #[.val (.int p0), .val (.int p1), .val (.int p2), .val (.int p3), .val (.int (v0_1 p0)), .val (.int (v0_2 p1)), .val (.int (b0_5 p3)), .val (.int (b0_10 p3)), .val (.int (v0_13 p2)), .val (.ref b15), .val (.int (1 : Int32)), .val (.int (1000 : Int32))] [])) t → Steps p.tables e below (s₁.setTop (entryFrame m #[(.int p0), (.int p1), (.int p2), (.int p3)] maxLocals)) t := fun t k => go52 _ (st53.trans k)
    have go56 : ∀ t, Steps p.tables e below (T53.setTop (mkF m 107 #[.val (.int p0), .val (.int p1), .val (.int p2), .val (.int p3), .val (.int (v0_1 p0)), .val (.int (v0_2 p1)), .val (.int (b0_5 p3)), .val (.int (b0_10 p3)), .val (.int (v0_13 p2)), .val (.ref b15), .val (.int (1 : Int32)), .val (.int (v0_13 p2))] [(.int (v0_1 p0)), (.ref b15)])) t → Steps p.tables e below (s₁.setTop (entryFrame m #[(.int p0), (.int p1), (.int p2), (.int p3)] maxLocals)) t := by
      intro t k
      refine go55 _ ?_
      refine XS.iload X53.here hx rfl (hb hby at_99) rfl ?_
      show Steps p.tables e below (T53.setTop (mkF m 101 #[.val (.int p0), .val (.int p1), .val (.int p2), .val (.int p3), .val (.int (v0_1 p0)), .val (.int (v0_2 p1)), .val (.int (b0_5 p3)), .val (.int (b0_10 p3)), .val (.int (v0_13 p2)), .val (.ref b15), .val (.int (1 : Int32)), .val (.int (1000 : Int32))] [(.int (v0_13 p2))])) t
      refine XS.istore X53.here hx rfl (hb hby at_101) rfl (l' := #[.val (.int p0), .val (.int p1), .val (.int p2), .val (.int p3), .val (.int (v0_1 p0)), .val (.int (v0_2 p1)), .val (.int (b0_5 p3)), .val (.int (b0_10 p3)), .val (.int (v0_13 p2)), .val (.ref b15), .val (.int (1 : Int32)), .val (.int (v0_13 p2))]) rfl ?_
      show Steps p.tables e below (T53.setTop (mkF m 103 #[.val (.int p0), .val (.int p1), .val (.int p2), .val (.int p3), .val (.int (v0_1 p0)), .val (.int (v0_2 p1)), .val (.int (b0_5 p3)), .val (.int (b0_10 p3)), .val (.int (v0_13 p2)), .val (.ref b15), .val (.int (1 : Int32)), .val (.int (v0_13 p2))] [])) t
      refine XS.aload X53.here hx rfl (hb hby at_103) rfl rfl ?_
      show Steps p.tables e below (T53.setTop (mkF m 105 #[.val (.int p0), .val (.int p1), .val (.int p2), .val (.int p3), .val (.int (v0_1 p0)), .val (.int (v0_2 p1)), .val (.int (b0_5 p3)), .val (.int (b0_10 p3)), .val (.int (v0_13 p2)), .val (.ref b15), .val (.int (1 : Int32)), .val (.int (v0_13 p2))] [(.ref b15)])) t
      refine XS.iload X53.here hx rfl (hb hby at_105) rfl ?_
      show Steps p.tables e below (T53.setTop (mkF m 107 #[.val (.int p0), .val (.int p1), .val (.int p2), .val (.int p3), .val (.int (v0_1 p0)), .val (.int (v0_2 p1)), .val (.int (b0_5 p3)), .val (.int (b0_10 p3)), .val (.int (v0_13 p2)), .val (.ref b15), .val (.int (1 : Int32)), .val (.int (v0_13 p2))] [(.int (v0_1 p0)), (.ref b15)])) t
      exact k
    obtain ⟨cq57, kq57, q57a, q57b, q57c⟩ := isOf hZ rfl G53_0
    obtain ⟨_, _, ⟨T57, L57, k57, n57⟩, -, X57, ⟨Lc57, hQ57, l57, y57, z57⟩, st57⟩ := X53.virtualBack hx (y := (⟨"com/example/calycule/calycule/validators/BigIntegerConverter", "setRadix", "(I)V"⟩ : MethodName)) (z := (⟨"com/example/calycule/calycule/validators/BigIntegerConverter", "setRadix", "(I)V"⟩ : MethodName)) hown (mvT hZ (hw _ (List.mem_of_getElem? (i := 29) rfl))) (mvT hZ (hw _ (List.mem_of_getElem? (i := 30) rfl))) (notFace_of_selects (args := #[]) (mvT hZ (hw _ (List.mem_of_getElem? (i := 32) rfl)))) (mvT hZ (hw _ (List.mem_of_getElem? (i := 32) rfl))) (mvT hZ (hw _ (List.mem_of_getElem? (i := 31) rfl))) (by decide) (backOf (W := 0) (rm6 l Z aZ hw [] b15 (v0_1 p0) (10 : Int32) (v0_13 p2) T53.heap n0 Zs53 G53_0 G53_1 G53_2 low15 (own_r35 p0).1 (own_r35 p0).2) hZ (hw _ (List.mem_of_getElem? (i := 33) rfl)) (hw _ (List.mem_of_getElem? (i := 4) rfl)) (by decide) (by decide)) q57a q57c (g := (mkF m 107 #[.val (.int p0), .val (.int p1), .val (.int p2), .val (.int p3), .val (.int (v0_1 p0)), .val (.int (v0_2 p1)), .val (.int (b0_5 p3)), .val (.int (b0_10 p3)), .val (.int (v0_13 p2)), .val (.ref b15), .val (.int (1 : Int32)), .val (.int (v0_13 p2))] [(.int (v0_1 p0)), (.ref b15)])) rfl (by rw [hml]; rfl) (Steps.refl _) (argsL := [(.int (v0_1 p0))]) (rest := []) (lenOf pd_45 rfl) rfl (by show 2 * 0 + _ ≤ _; exact Nat.le_of_eq rfl) (hb hby at_107) (fun _ _ => ⟨rfl, rfl, (by decide : 1 + 0 ≤ _), (by decide : 2 + 0 ≤ _)⟩)
    dsimp only [Pt.U, Pt.locs, Pt.cells, Pt.slots] at X57 l57 y57 z57 st57 hQ57
    subst l57 y57 z57
    obtain ⟨rfl, N57q, K57q, G57_0, G57_1, G57_2⟩ := hQ57
    have N57 := Fr.app N53 N57q
    have K57 : Keep h0 T57.heap [] := K53.trans K57q (allS (Or.inr fsh15) all0)
    have Zs57 : n0 ≤ T57.heap.size := Nat.le_trans Zs53 K57q.1
    have F58 : Exa Z T57.heap b15 "com/example/calycule/calycule/validators/BigIntegerConverter" := G53_0.keep K57q
    have go59 : ∀ t, Steps p.tables e below (T57.setTop (mkF m 110 #[.val (.int p0), .val (.int p1), .val (.int p2), .val (.int p3), .val (.int (v0_1 p0)), .val (.int (v0_2 p1)), .val (.int (b0_5 p3)), .val (.int (b0_10 p3)), .val (.int (v0_13 p2)), .val (.ref b15), .val (.int (1 : Int32)), .val (.int (v0_13 p2))] [])) t → Steps p.tables e below (s₁.setTop (entryFrame m #[(.int p0), (.int p1), (.int p2), (.int p3)] maxLocals)) t := fun t k => go56 _ (st57.trans k)
    have go60 : ∀ t, Steps p.tables e below (T57.setTop (mkF m 117 #[.val (.int p0), .val (.int p1), .val (.int p2), .val (.int p3), .val (.int (v0_1 p0)), .val (.int (v0_2 p1)), .val (.int (b0_5 p3)), .val (.int (b0_10 p3)), .val (.int (v0_13 p2)), .val (.ref b15), .val (.int (1 : Int32)), .val (.int (v0_13 p2))] [(.ref b15)])) t → Steps p.tables e below (s₁.setTop (entryFrame m #[(.int p0), (.int p1), (.int p2), (.int p3)] maxLocals)) t := by
      intro t k
      refine go59 _ ?_
      refine XS.iload X57.here hx rfl (hb hby at_110) rfl ?_
      show Steps p.tables e below (T57.setTop (mkF m 112 #[.val (.int p0), .val (.int p1), .val (.int p2), .val (.int p3), .val (.int (v0_1 p0)), .val (.int (v0_2 p1)), .val (.int (b0_5 p3)), .val (.int (b0_10 p3)), .val (.int (v0_13 p2)), .val (.ref b15), .val (.int (1 : Int32)), .val (.int (v0_13 p2))] [(.int (1 : Int32))])) t
      refine XS.ifNo X57.here hx rfl (hb hby at_112) rfl (XT.i0_eq_f (by decide : ¬ ((1 : Int32) = (0 : Int32)))) ?_
      show Steps p.tables e below (T57.setTop (mkF m 115 #[.val (.int p0), .val (.int p1), .val (.int p2), .val (.int p3), .val (.int (v0_1 p0)), .val (.int (v0_2 p1)), .val (.int (b0_5 p3)), .val (.int (b0_10 p3)), .val (.int (v0_13 p2)), .val (.ref b15), .val (.int (1 : Int32)), .val (.int (v0_13 p2))] [])) t
      refine XS.aload X57.here hx rfl (hb hby at_115) rfl rfl ?_
      show Steps p.tables e below (T57.setTop (mkF m 117 #[.val (.int p0), .val (.int p1), .val (.int p2), .val (.int p3), .val (.int (v0_1 p0)), .val (.int (v0_2 p1)), .val (.int (b0_5 p3)), .val (.int (b0_10 p3)), .val (.int (v0_13 p2)), .val (.ref b15), .val (.int (1 : Int32)), .val (.int (v0_13 p2))] [(.ref b15)])) t
      exact k
    obtain ⟨cq61, kq61, q61a, q61b, q61c⟩ := isOf hZ rfl G57_0
    obtain ⟨_, _, ⟨T61, L61, k61, n61⟩, -, X61, ⟨Lc61, hQ61, l61, y61, z61⟩, st61⟩ := X57.virtualBack hx (y := (⟨"com/example/calycule/calycule/validators/BigIntegerConverter", "getRadix", "()I"⟩ : MethodName)) (z := (⟨"com/example/calycule/calycule/validators/BigIntegerConverter", "getRadix", "()I"⟩ : MethodName)) hown (mvT hZ (hw _ (List.mem_of_getElem? (i := 15) rfl))) (mvT hZ (hw _ (List.mem_of_getElem? (i := 16) rfl))) (notFace_of_selects (args := #[]) (mvT hZ (hw _ (List.mem_of_getElem? (i := 18) rfl)))) (mvT hZ (hw _ (List.mem_of_getElem? (i := 18) rfl))) (mvT hZ (hw _ (List.mem_of_getElem? (i := 17) rfl))) (by decide) (backOf (W := 0) (rm3 l Z aZ hw [] b15 (v0_1 p0) T57.heap n0 Zs57 G57_1) hZ (hw _ (List.mem_of_getElem? (i := 19) rfl)) (hw _ (List.mem_of_getElem? (i := 4) rfl)) (by decide) (by decide)) q61a q61c (g := (mkF m 117 #[.val (.int p0), .val (.int p1), .val (.int p2), .val (.int p3), .val (.int (v0_1 p0)), .val (.int (v0_2 p1)), .val (.int (b0_5 p3)), .val (.int (b0_10 p3)), .val (.int (v0_13 p2)), .val (.ref b15), .val (.int (1 : Int32)), .val (.int (v0_13 p2))] [(.ref b15)])) rfl (by rw [hml]; rfl) (Steps.refl _) (argsL := []) (rest := []) (lenOf pd_44 rfl) rfl (by show 2 * 0 + _ ≤ _; exact Nat.le_of_eq rfl) (hb hby at_117) (fun _ _ => ⟨rfl, rfl, (by decide : 1 + 0 ≤ _), (by decide : 2 + 0 ≤ _)⟩)
    dsimp only [Pt.U, Pt.locs, Pt.cells, Pt.slots] at X61 l61 y61 z61 st61 hQ61
    subst l61 y61 z61
    obtain ⟨rfl, N61q, e61⟩ := hQ61
    have N61 := Fr.app N57 N61q
    have go62 : ∀ t, Steps p.tables e below (T61.setTop (mkF m 120 #[.val (.int p0), .val (.int p1), .val (.int p2), .val (.int p3), .val (.int (v0_1 p0)), .val (.int (v0_2 p1)), .val (.int (b0_5 p3)), .val (.int (b0_10 p3)), .val (.int (v0_13 p2)), .val (.ref b15), .val (.int (1 : Int32)), .val (.int (v0_13 p2))] [(.int (v0_1 p0))])) t → Steps p.tables e below (s₁.setTop (entryFrame m #[(.int p0), (.int p1), (.int p2), (.int p3)] maxLocals)) t := fun t k => go60 _ (st61.trans k)
    have go63 : ∀ t, Steps p.tables e below (T61.setTop (mkF m 127 #[.val (.int p0), .val (.int p1), .val (.int p2), .val (.int p3), .val (.int (v0_1 p0)), .val (.int (v0_2 p1)), .val (.int (b0_5 p3)), .val (.int (b0_10 p3)), .val (.int (v0_13 p2)), .val (.ref b15), .val (.int (1 : Int32)), .val (.int (v0_13 p2))] [(.ref b15)])) t → Steps p.tables e below (s₁.setTop (entryFrame m #[(.int p0), (.int p1), (.int p2), (.int p3)] maxLocals)) t := by
      intro t k
      refine go62 _ ?_
      refine XS.iload X61.here hx rfl (hb hby at_120) rfl ?_
      show Steps p.tables e below (T61.setTop (mkF m 122 #[.val (.int p0), .val (.int p1), .val (.int p2), .val (.int p3), .val (.int (v0_1 p0)), .val (.int (v0_2 p1)), .val (.int (b0_5 p3)), .val (.int (b0_10 p3)), .val (.int (v0_13 p2)), .val (.ref b15), .val (.int (1 : Int32)), .val (.int (v0_13 p2))] [(.int (v0_1 p0)), (.int (v0_1 p0))])) t
      refine XS.icmpNo X61.here hx rfl (hb hby at_122) rfl (XT.ii_ne_f rfl) ?_
      show Steps p.tables e below (T61.setTop (mkF m 125 #[.val (.int p0), .val (.int p1), .val (.int p2), .val (.int p3), .val (.int (v0_1 p0)), .val (.int (v0_2 p1)), .val (.int (b0_5 p3)), .val (.int (b0_10 p3)), .val (.int (v0_13 p2)), .val (.ref b15), .val (.int (1 : Int32)), .val (.int (v0_13 p2))] [])) t
      refine XS.aload X61.here hx rfl (hb hby at_125) rfl rfl ?_
      show Steps p.tables e below (T61.setTop (mkF m 127 #[.val (.int p0), .val (.int p1), .val (.int p2), .val (.int p3), .val (.int (v0_1 p0)), .val (.int (v0_2 p1)), .val (.int (b0_5 p3)), .val (.int (b0_10 p3)), .val (.int (v0_13 p2)), .val (.ref b15), .val (.int (1 : Int32)), .val (.int (v0_13 p2))] [(.ref b15)])) t
      exact k
    obtain ⟨cq64, kq64, q64a, q64b, q64c⟩ := isOf hZ e61 G57_0
    obtain ⟨_, _, ⟨T64, L64, k64, n64⟩, -, X64, ⟨Lc64, hQ64, l64, y64, z64⟩, st64⟩ := X61.virtualBack hx (y := (⟨"com/example/calycule/calycule/validators/BigIntegerConverter", "getMaxDigits", "()I"⟩ : MethodName)) (z := (⟨"com/example/calycule/calycule/validators/BigIntegerConverter", "getMaxDigits", "()I"⟩ : MethodName)) hown (mvT hZ (hw _ (List.mem_of_getElem? (i := 34) rfl))) (mvT hZ (hw _ (List.mem_of_getElem? (i := 35) rfl))) (notFace_of_selects (args := #[]) (mvT hZ (hw _ (List.mem_of_getElem? (i := 37) rfl)))) (mvT hZ (hw _ (List.mem_of_getElem? (i := 37) rfl))) (mvT hZ (hw _ (List.mem_of_getElem? (i := 36) rfl))) (by decide) (backOf (W := 0) (rm7 l Z aZ hw [] b15 (v0_13 p2) T57.heap n0 Zs57 G57_2) hZ (hw _ (List.mem_of_getElem? (i := 38) rfl)) (hw _ (List.mem_of_getElem? (i := 4) rfl)) (by decide) (by decide)) q64a q64c (g := (mkF m 127 #[.val (.int p0), .val (.int p1), .val (.int p2), .val (.int p3), .val (.int (v0_1 p0)), .val (.int (v0_2 p1)), .val (.int (b0_5 p3)), .val (.int (b0_10 p3)), .val (.int (v0_13 p2)), .val (.ref b15), .val (.int (1 : Int32)), .val (.int (v0_13 p2))] [(.ref b15)])) rfl (by rw [hml]; rfl) (Steps.refl _) (argsL := []) (rest := []) (lenOf pd_44 rfl) rfl (by show 2 * 0 + _ ≤ _; exact Nat.le_of_eq rfl) (hb hby at_127) (fun _ _ => ⟨rfl, e61, (by decide : 1 + 0 ≤ _), (by decide : 2 + 0 ≤ _)⟩)
    dsimp only [Pt.U, Pt.locs, Pt.cells, Pt.slots] at X64 l64 y64 z64 st64 hQ64
    subst l64 y64 z64
    obtain ⟨rfl, N64q, e64⟩ := hQ64
    have N64 := Fr.app N61 N64q
    have go65 : ∀ t, Steps p.tables e below (T64.setTop (mkF m 130 #[.val (.int p0), .val (.int p1), .val (.int p2), .val (.int p3), .val (.int (v0_1 p0)), .val (.int (v0_2 p1)), .val (.int (b0_5 p3)), .val (.int (b0_10 p3)), .val (.int (v0_13 p2)), .val (.ref b15), .val (.int (1 : Int32)), .val (.int (v0_13 p2))] [(.int (v0_13 p2))])) t → Steps p.tables e below (s₁.setTop (entryFrame m #[(.int p0), (.int p1), (.int p2), (.int p3)] maxLocals)) t := fun t k => go63 _ (st64.trans k)
    have go66 : ∀ t, Steps p.tables e below (T64.setTop (mkF m 144 #[.val (.int p0), .val (.int p1), .val (.int p2), .val (.int p3), .val (.int (v0_1 p0)), .val (.int (v0_2 p1)), .val (.int (b0_5 p3)), .val (.int (b0_10 p3)), .val (.int (v0_13 p2)), .val (.ref b15), .val (.int (1 : Int32)), .val (.int (v0_13 p2))] [(.int (b0_10 p3))])) t → Steps p.tables e below (s₁.setTop (entryFrame m #[(.int p0), (.int p1), (.int p2), (.int p3)] maxLocals)) t := by
      intro t k
      refine go65 _ ?_
      refine XS.iload X64.here hx rfl (hb hby at_130) rfl ?_
      show Steps p.tables e below (T64.setTop (mkF m 132 #[.val (.int p0), .val (.int p1), .val (.int p2), .val (.int p3), .val (.int (v0_1 p0)), .val (.int (v0_2 p1)), .val (.int (b0_5 p3)), .val (.int (b0_10 p3)), .val (.int (v0_13 p2)), .val (.ref b15), .val (.int (1 : Int32)), .val (.int (v0_13 p2))] [(.int (v0_13 p2)), (.int (v0_13 p2))])) t
      refine XS.icmpNo X64.here hx rfl (hb hby at_132) rfl (XT.ii_ne_f rfl) ?_
      show Steps p.tables e below (T64.setTop (mkF m 135 #[.val (.int p0), .val (.int p1), .val (.int p2), .val (.int p3), .val (.int (v0_1 p0)), .val (.int (v0_2 p1)), .val (.int (b0_5 p3)), .val (.int (b0_10 p3)), .val (.int (v0_13 p2)), .val (.ref b15), .val (.int (1 : Int32)), .val (.int (v0_13 p2))] [])) t
      refine XS.iconst X64.here hx rfl (hb hby at_135) ?_
      show Steps p.tables e below (T64.setTop (mkF m 136 #[.val (.int p0), .val (.int p1), .val (.int p2), .val (.int p3), .val (.int (v0_1 p0)), .val (.int (v0_2 p1)), .val (.int (b0_5 p3)), .val (.int (b0_10 p3)), .val (.int (v0_13 p2)), .val (.ref b15), .val (.int (1 : Int32)), .val (.int (v0_13 p2))] [(.int (1 : Int32))])) t
      refine XS.goto X64.here hx rfl (pc0 := 136) (pc' := 140) rfl (hb hby at_136) (by decide) (by decide) ?_
      show Steps p.tables e below (T64.setTop (mkF m 140 #[.val (.int p0), .val (.int p1), .val (.int p2), .val (.int p3), .val (.int (v0_1 p0)), .val (.int (v0_2 p1)), .val (.int (b0_5 p3)), .val (.int (b0_10 p3)), .val (.int (v0_13 p2)), .val (.ref b15), .val (.int (1 : Int32)), .val (.int (v0_13 p2))] [(.int (1 : Int32))])) t
      refine XS.istore X64.here hx rfl (hb hby at_140) rfl (l' := #[.val (.int p0), .val (.int p1), .val (.int p2), .val (.int p3), .val (.int (v0_1 p0)), .val (.int (v0_2 p1)), .val (.int (b0_5 p3)), .val (.int (b0_10 p3)), .val (.int (v0_13 p2)), .val (.ref b15), .val (.int (1 : Int32)), .val (.int (v0_13 p2))]) rfl ?_
      show Steps p.tables e below (T64.setTop (mkF m 142 #[.val (.int p0), .val (.int p1), .val (.int p2), .val (.int p3), .val (.int (v0_1 p0)), .val (.int (v0_2 p1)), .val (.int (b0_5 p3)), .val (.int (b0_10 p3)), .val (.int (v0_13 p2)), .val (.ref b15), .val (.int (1 : Int32)), .val (.int (v0_13 p2))] [])) t
      refine XS.iload X64.here hx rfl (hb hby at_142) rfl ?_
      show Steps p.tables e below (T64.setTop (mkF m 144 #[.val (.int p0), .val (.int p1), .val (.int p2), .val (.int p3), .val (.int (v0_1 p0)), .val (.int (v0_2 p1)), .val (.int (b0_5 p3)), .val (.int (b0_10 p3)), .val (.int (v0_13 p2)), .val (.ref b15), .val (.int (1 : Int32)), .val (.int (v0_13 p2))] [(.int (b0_10 p3))])) t
      exact k
    by_cases hs67 : (b0_10 p3) = (0 : Int32)
    · have go68 : ∀ t, Steps p.tables e below (T64.setTop (mkF m 188 #[.val (.int p0), .val (.int p1), .val (.int p2), .val (.int p3), .val (.int (v0_1 p0)), .val (.int (v0_2 p1)), .val (.int (b0_5 p3)), .val (.int (b0_10 p3)), .val (.int (v0_13 p2)), .val (.ref b15), .val (.int (1 : Int32)), .val (.int (v0_13 p2))] [(.int (1 : Int32))])) t → Steps p.tables e below (s₁.setTop (entryFrame m #[(.int p0), (.int p1), (.int p2), (.int p3)] maxLocals)) t := by
        intro t k
        refine go66 _ ?_
        refine XS.ifYes X64.here hx rfl (pc0 := 144) (pc' := 186) rfl (hb hby at_144) rfl (XT.i0_eq_t hs67) (by decide) (by decide) ?_
        show Steps p.tables e below (T64.setTop (mkF m 186 #[.val (.int p0), .val (.int p1), .val (.int p2), .val (.int p3), .val (.int (v0_1 p0)), .val (.int (v0_2 p1)), .val (.int (b0_5 p3)), .val (.int (b0_10 p3)), .val (.int (v0_13 p2)), .val (.ref b15), .val (.int (1 : Int32)), .val (.int (v0_13 p2))] [])) t
        refine XS.iload X64.here hx rfl (hb hby at_186) rfl ?_
        show Steps p.tables e below (T64.setTop (mkF m 188 #[.val (.int p0), .val (.int p1), .val (.int p2), .val (.int p3), .val (.int (v0_1 p0)), .val (.int (v0_2 p1)), .val (.int (b0_5 p3)), .val (.int (b0_10 p3)), .val (.int (v0_13 p2)), .val (.ref b15), .val (.int (1 : Int32)), .val (.int (v0_13 p2))] [(.int (1 : Int32))])) t
        exact k
      obtain ⟨fs, hr, hrun, hended, hW, hsame⟩ := X64.leave (v := some (.int (1 : Int32))) (fun h => by rw [Bd.returns] at h; cases h)
      refine ⟨_, _, go68 _ (Jvm.RoadKit.retOut X64 hx Bd.returns rfl (Or.inl ⟨rfl, Or.inr (Or.inl rfl), _, rfl⟩) (hb hby at_188) hr), hrun, hended, _, _, rfl, ?_, ⟨_, rfl⟩, hW, hsame.mono (by decide) (by decide)⟩
      show Q0 _ _ p0 p1 p2 p3 h0 _ (T64.setFrames fs).heap _
      have hE : (T64.setFrames fs).heap = T57.heap := e64
      rw [hE]
      exact ⟨congrArg (fun z => some (Value.int z)) ((by rw [f0, if_neg hs27, if_pos hs67] : (1 : Int32) = (f0 p3)).trans (f0_one p3)), N64⟩
    · have go69 : ∀ t, Steps p.tables e below (T64.setTop (mkF m 151 #[.val (.int p0), .val (.int p1), .val (.int p2), .val (.int p3), .val (.int (v0_1 p0)), .val (.int (v0_2 p1)), .val (.int (b0_5 p3)), .val (.int (b0_10 p3)), .val (.int (v0_13 p2)), .val (.ref b15), .val (.int (1 : Int32)), .val (.int (v0_13 p2))] [(.int (v0_2 p1)), (.ref b15)])) t → Steps p.tables e below (s₁.setTop (entryFrame m #[(.int p0), (.int p1), (.int p2), (.int p3)] maxLocals)) t := by
        intro t k
        refine go66 _ ?_
        refine XS.ifNo X64.here hx rfl (hb hby at_144) rfl (XT.i0_eq_f hs67) ?_
        show Steps p.tables e below (T64.setTop (mkF m 147 #[.val (.int p0), .val (.int p1), .val (.int p2), .val (.int p3), .val (.int (v0_1 p0)), .val (.int (v0_2 p1)), .val (.int (b0_5 p3)), .val (.int (b0_10 p3)), .val (.int (v0_13 p2)), .val (.ref b15), .val (.int (1 : Int32)), .val (.int (v0_13 p2))] [])) t
        refine XS.aload X64.here hx rfl (hb hby at_147) rfl rfl ?_
        show Steps p.tables e below (T64.setTop (mkF m 149 #[.val (.int p0), .val (.int p1), .val (.int p2), .val (.int p3), .val (.int (v0_1 p0)), .val (.int (v0_2 p1)), .val (.int (b0_5 p3)), .val (.int (b0_10 p3)), .val (.int (v0_13 p2)), .val (.ref b15), .val (.int (1 : Int32)), .val (.int (v0_13 p2))] [(.ref b15)])) t
        refine XS.iload X64.here hx rfl (hb hby at_149) rfl ?_
        show Steps p.tables e below (T64.setTop (mkF m 151 #[.val (.int p0), .val (.int p1), .val (.int p2), .val (.int p3), .val (.int (v0_1 p0)), .val (.int (v0_2 p1)), .val (.int (b0_5 p3)), .val (.int (b0_10 p3)), .val (.int (v0_13 p2)), .val (.ref b15), .val (.int (1 : Int32)), .val (.int (v0_13 p2))] [(.int (v0_2 p1)), (.ref b15)])) t
        exact k
      obtain ⟨cq70, kq70, q70a, q70b, q70c⟩ := isOf hZ e64 G57_0
      obtain ⟨_, _, ⟨T70, L70, k70, n70⟩, -, X70, ⟨Lc70, hQ70, l70, y70, z70⟩, st70⟩ := X64.virtualBack hx (y := (⟨"com/example/calycule/calycule/validators/BigIntegerConverter", "setRadix", "(I)V"⟩ : MethodName)) (z := (⟨"com/example/calycule/calycule/validators/BigIntegerConverter", "setRadix", "(I)V"⟩ : MethodName)) hown (mvT hZ (hw _ (List.mem_of_getElem? (i := 29) rfl))) (mvT hZ (hw _ (List.mem_of_getElem? (i := 30) rfl))) (notFace_of_selects (args := #[]) (mvT hZ (hw _ (List.mem_of_getElem? (i := 32) rfl)))) (mvT hZ (hw _ (List.mem_of_getElem? (i := 32) rfl))) (mvT hZ (hw _ (List.mem_of_getElem? (i := 31) rfl))) (by decide) (backOf (W := 0) (rm6 l Z aZ hw [] b15 (v0_2 p1) (v0_1 p0) (v0_13 p2) T57.heap n0 Zs57 G57_0 G57_1 G57_2 low15 (own_r35 p1).1 (own_r35 p1).2) hZ (hw _ (List.mem_of_getElem? (i := 33) rfl)) (hw _ (List.mem_of_getElem? (i := 4) rfl)) (by decide) (by decide)) q70a q70c (g := (mkF m 151 #[.val (.int p0), .val (.int p1), .val (.int p2), .val (.int p3), .val (.int (v0_1 p0)), .val (.int (v0_2 p1)), .val (.int (b0_5 p3)), .val (.int (b0_10 p3)), .val (.int (v0_13 p2)), .val (.ref b15), .val (.int (1 : Int32)), .val (.int (v0_13 p2))] [(.int (v0_2 p1)), (.ref b15)])) rfl (by rw [hml]; rfl) (Steps.refl _) (argsL := [(.int (v0_2 p1))]) (rest := []) (lenOf pd_45 rfl) rfl (by show 2 * 0 + _ ≤ _; exact Nat.le_of_eq rfl) (hb hby at_151) (fun _ _ => ⟨rfl, e64, (by decide : 1 + 0 ≤ _), (by decide : 2 + 0 ≤ _)⟩)
      dsimp only [Pt.U, Pt.locs, Pt.cells, Pt.slots] at X70 l70 y70 z70 st70 hQ70
      subst l70 y70 z70
      obtain ⟨rfl, N70q, K70q, G70_0, G70_1, G70_2⟩ := hQ70
      have N70 := Fr.app N64 N70q
      have K70 : Keep h0 T70.heap [] := K57.trans K70q (allS (Or.inr fsh15) all0)
      have Zs70 : n0 ≤ T70.heap.size := Nat.le_trans Zs57 K70q.1
      have F71 : Exa Z T70.heap b15 "com/example/calycule/calycule/validators/BigIntegerConverter" := G57_0.keep K70q
      have go72 : ∀ t, Steps p.tables e below (T70.setTop (mkF m 154 #[.val (.int p0), .val (.int p1), .val (.int p2), .val (.int p3), .val (.int (v0_1 p0)), .val (.int (v0_2 p1)), .val (.int (b0_5 p3)), .val (.int (b0_10 p3)), .val (.int (v0_13 p2)), .val (.ref b15), .val (.int (1 : Int32)), .val (.int (v0_13 p2))] [])) t → Steps p.tables e below (s₁.setTop (entryFrame m #[(.int p0), (.int p1), (.int p2), (.int p3)] maxLocals)) t := fun t k => go69 _ (st70.trans k)
      have go73 : ∀ t, Steps p.tables e below (T70.setTop (mkF m 161 #[.val (.int p0), .val (.int p1), .val (.int p2), .val (.int p3), .val (.int (v0_1 p0)), .val (.int (v0_2 p1)), .val (.int (b0_5 p3)), .val (.int (b0_10 p3)), .val (.int (v0_13 p2)), .val (.ref b15), .val (.int (1 : Int32)), .val (.int (v0_13 p2))] [(.ref b15)])) t → Steps p.tables e below (s₁.setTop (entryFrame m #[(.int p0), (.int p1), (.int p2), (.int p3)] maxLocals)) t := by
        intro t k
        refine go72 _ ?_
        refine XS.iload X70.here hx rfl (hb hby at_154) rfl ?_
        show Steps p.tables e below (T70.setTop (mkF m 156 #[.val (.int p0), .val (.int p1), .val (.int p2), .val (.int p3), .val (.int (v0_1 p0)), .val (.int (v0_2 p1)), .val (.int (b0_5 p3)), .val (.int (b0_10 p3)), .val (.int (v0_13 p2)), .val (.ref b15), .val (.int (1 : Int32)), .val (.int (v0_13 p2))] [(.int (1 : Int32))])) t
        refine XS.ifNo X70.here hx rfl (hb hby at_156) rfl (XT.i0_eq_f (by decide : ¬ ((1 : Int32) = (0 : Int32)))) ?_
        show Steps p.tables e below (T70.setTop (mkF m 159 #[.val (.int p0), .val (.int p1), .val (.int p2), .val (.int p3), .val (.int (v0_1 p0)), .val (.int (v0_2 p1)), .val (.int (b0_5 p3)), .val (.int (b0_10 p3)), .val (.int (v0_13 p2)), .val (.ref b15), .val (.int (1 : Int32)), .val (.int (v0_13 p2))] [])) t
        refine XS.aload X70.here hx rfl (hb hby at_159) rfl rfl ?_
        show Steps p.tables e below (T70.setTop (mkF m 161 #[.val (.int p0), .val (.int p1), .val (.int p2), .val (.int p3), .val (.int (v0_1 p0)), .val (.int (v0_2 p1)), .val (.int (b0_5 p3)), .val (.int (b0_10 p3)), .val (.int (v0_13 p2)), .val (.ref b15), .val (.int (1 : Int32)), .val (.int (v0_13 p2))] [(.ref b15)])) t
        exact k
      obtain ⟨cq74, kq74, q74a, q74b, q74c⟩ := isOf hZ rfl G70_0
      obtain ⟨_, _, ⟨T74, L74, k74, n74⟩, -, X74, ⟨Lc74, hQ74, l74, y74, z74⟩, st74⟩ := X70.virtualBack hx (y := (⟨"com/example/calycule/calycule/validators/BigIntegerConverter", "getRadix", "()I"⟩ : MethodName)) (z := (⟨"com/example/calycule/calycule/validators/BigIntegerConverter", "getRadix", "()I"⟩ : MethodName)) hown (mvT hZ (hw _ (List.mem_of_getElem? (i := 15) rfl))) (mvT hZ (hw _ (List.mem_of_getElem? (i := 16) rfl))) (notFace_of_selects (args := #[]) (mvT hZ (hw _ (List.mem_of_getElem? (i := 18) rfl)))) (mvT hZ (hw _ (List.mem_of_getElem? (i := 18) rfl))) (mvT hZ (hw _ (List.mem_of_getElem? (i := 17) rfl))) (by decide) (backOf (W := 0) (rm3 l Z aZ hw [] b15 (v0_2 p1) T70.heap n0 Zs70 G70_1) hZ (hw _ (List.mem_of_getElem? (i := 19) rfl)) (hw _ (List.mem_of_getElem? (i := 4) rfl)) (by decide) (by decide)) q74a q74c (g := (mkF m 161 #[.val (.int p0), .val (.int p1), .val (.int p2), .val (.int p3), .val (.int (v0_1 p0)), .val (.int (v0_2 p1)), .val (.int (b0_5 p3)), .val (.int (b0_10 p3)), .val (.int (v0_13 p2)), .val (.ref b15), .val (.int (1 : Int32)), .val (.int (v0_13 p2))] [(.ref b15)])) rfl (by rw [hml]; rfl) (Steps.refl _) (argsL := []) (rest := []) (lenOf pd_44 rfl) rfl (by show 2 * 0 + _ ≤ _; exact Nat.le_of_eq rfl) (hb hby at_161) (fun _ _ => ⟨rfl, rfl, (by decide : 1 + 0 ≤ _), (by decide : 2 + 0 ≤ _)⟩)
      dsimp only [Pt.U, Pt.locs, Pt.cells, Pt.slots] at X74 l74 y74 z74 st74 hQ74
      subst l74 y74 z74
      obtain ⟨rfl, N74q, e74⟩ := hQ74
      have N74 := Fr.app N70 N74q
      have go75 : ∀ t, Steps p.tables e below (T74.setTop (mkF m 164 #[.val (.int p0), .val (.int p1), .val (.int p2), .val (.int p3), .val (.int (v0_1 p0)), .val (.int (v0_2 p1)), .val (.int (b0_5 p3)), .val (.int (b0_10 p3)), .val (.int (v0_13 p2)), .val (.ref b15), .val (.int (1 : Int32)), .val (.int (v0_13 p2))] [(.int (v0_2 p1))])) t → Steps p.tables e below (s₁.setTop (entryFrame m #[(.int p0), (.int p1), (.int p2), (.int p3)] maxLocals)) t := fun t k => go73 _ (st74.trans k)
      have go76 : ∀ t, Steps p.tables e below (T74.setTop (mkF m 171 #[.val (.int p0), .val (.int p1), .val (.int p2), .val (.int p3), .val (.int (v0_1 p0)), .val (.int (v0_2 p1)), .val (.int (b0_5 p3)), .val (.int (b0_10 p3)), .val (.int (v0_13 p2)), .val (.ref b15), .val (.int (1 : Int32)), .val (.int (v0_13 p2))] [(.ref b15)])) t → Steps p.tables e below (s₁.setTop (entryFrame m #[(.int p0), (.int p1), (.int p2), (.int p3)] maxLocals)) t := by
        intro t k
        refine go75 _ ?_
        refine XS.iload X74.here hx rfl (hb hby at_164) rfl ?_
        show Steps p.tables e below (T74.setTop (mkF m 166 #[.val (.int p0), .val (.int p1), .val (.int p2), .val (.int p3), .val (.int (v0_1 p0)), .val (.int (v0_2 p1)), .val (.int (b0_5 p3)), .val (.int (b0_10 p3)), .val (.int (v0_13 p2)), .val (.ref b15), .val (.int (1 : Int32)), .val (.int (v0_13 p2))] [(.int (v0_2 p1)), (.int (v0_2 p1))])) t
        refine XS.icmpNo X74.here hx rfl (hb hby at_166) rfl (XT.ii_ne_f rfl) ?_
        show Steps p.tables e below (T74.setTop (mkF m 169 #[.val (.int p0), .val (.int p1), .val (.int p2), .val (.int p3), .val (.int (v0_1 p0)), .val (.int (v0_2 p1)), .val (.int (b0_5 p3)), .val (.int (b0_10 p3)), .val (.int (v0_13 p2)), .val (.ref b15), .val (.int (1 : Int32)), .val (.int (v0_13 p2))] [])) t
        refine XS.aload X74.here hx rfl (hb hby at_169) rfl rfl ?_
        show Steps p.tables e below (T74.setTop (mkF m 171 #[.val (.int p0), .val (.int p1), .val (.int p2), .val (.int p3), .val (.int (v0_1 p0)), .val (.int (v0_2 p1)), .val (.int (b0_5 p3)), .val (.int (b0_10 p3)), .val (.int (v0_13 p2)), .val (.ref b15), .val (.int (1 : Int32)), .val (.int (v0_13 p2))] [(.ref b15)])) t
        exact k
      obtain ⟨cq77, kq77, q77a, q77b, q77c⟩ := isOf hZ e74 G70_0
      obtain ⟨_, _, ⟨T77, L77, k77, n77⟩, -, X77, ⟨Lc77, hQ77, l77, y77, z77⟩, st77⟩ := X74.virtualBack hx (y := (⟨"com/example/calycule/calycule/validators/BigIntegerConverter", "getMaxDigits", "()I"⟩ : MethodName)) (z := (⟨"com/example/calycule/calycule/validators/BigIntegerConverter", "getMaxDigits", "()I"⟩ : MethodName)) hown (mvT hZ (hw _ (List.mem_of_getElem? (i := 34) rfl))) (mvT hZ (hw _ (List.mem_of_getElem? (i := 35) rfl))) (notFace_of_selects (args := #[]) (mvT hZ (hw _ (List.mem_of_getElem? (i := 37) rfl)))) (mvT hZ (hw _ (List.mem_of_getElem? (i := 37) rfl))) (mvT hZ (hw _ (List.mem_of_getElem? (i := 36) rfl))) (by decide) (backOf (W := 0) (rm7 l Z aZ hw [] b15 (v0_13 p2) T70.heap n0 Zs70 G70_2) hZ (hw _ (List.mem_of_getElem? (i := 38) rfl)) (hw _ (List.mem_of_getElem? (i := 4) rfl)) (by decide) (by decide)) q77a q77c (g := (mkF m 171 #[.val (.int p0), .val (.int p1), .val (.int p2), .val (.int p3), .val (.int (v0_1 p0)), .val (.int (v0_2 p1)), .val (.int (b0_5 p3)), .val (.int (b0_10 p3)), .val (.int (v0_13 p2)), .val (.ref b15), .val (.int (1 : Int32)), .val (.int (v0_13 p2))] [(.ref b15)])) rfl (by rw [hml]; rfl) (Steps.refl _) (argsL := []) (rest := []) (lenOf pd_44 rfl) rfl (by show 2 * 0 + _ ≤ _; exact Nat.le_of_eq rfl) (hb hby at_171) (fun _ _ => ⟨rfl, e74, (by decide : 1 + 0 ≤ _), (by decide : 2 + 0 ≤ _)⟩)
      dsimp only [Pt.U, Pt.locs, Pt.cells, Pt.slots] at X77 l77 y77 z77 st77 hQ77
      subst l77 y77 z77
      obtain ⟨rfl, N77q, e77⟩ := hQ77
      have N77 := Fr.app N74 N77q
      have go78 : ∀ t, Steps p.tables e below (T77.setTop (mkF m 174 #[.val (.int p0), .val (.int p1), .val (.int p2), .val (.int p3), .val (.int (v0_1 p0)), .val (.int (v0_2 p1)), .val (.int (b0_5 p3)), .val (.int (b0_10 p3)), .val (.int (v0_13 p2)), .val (.ref b15), .val (.int (1 : Int32)), .val (.int (v0_13 p2))] [(.int (v0_13 p2))])) t → Steps p.tables e below (s₁.setTop (entryFrame m #[(.int p0), (.int p1), (.int p2), (.int p3)] maxLocals)) t := fun t k => go76 _ (st77.trans k)
      have go79 : ∀ t, Steps p.tables e below (T77.setTop (mkF m 188 #[.val (.int p0), .val (.int p1), .val (.int p2), .val (.int p3), .val (.int (v0_1 p0)), .val (.int (v0_2 p1)), .val (.int (b0_5 p3)), .val (.int (b0_10 p3)), .val (.int (v0_13 p2)), .val (.ref b15), .val (.int (1 : Int32)), .val (.int (v0_13 p2))] [(.int (1 : Int32))])) t → Steps p.tables e below (s₁.setTop (entryFrame m #[(.int p0), (.int p1), (.int p2), (.int p3)] maxLocals)) t := by
        intro t k
        refine go78 _ ?_
        refine XS.iload X77.here hx rfl (hb hby at_174) rfl ?_
        show Steps p.tables e below (T77.setTop (mkF m 176 #[.val (.int p0), .val (.int p1), .val (.int p2), .val (.int p3), .val (.int (v0_1 p0)), .val (.int (v0_2 p1)), .val (.int (b0_5 p3)), .val (.int (b0_10 p3)), .val (.int (v0_13 p2)), .val (.ref b15), .val (.int (1 : Int32)), .val (.int (v0_13 p2))] [(.int (v0_13 p2)), (.int (v0_13 p2))])) t
        refine XS.icmpNo X77.here hx rfl (hb hby at_176) rfl (XT.ii_ne_f rfl) ?_
        show Steps p.tables e below (T77.setTop (mkF m 179 #[.val (.int p0), .val (.int p1), .val (.int p2), .val (.int p3), .val (.int (v0_1 p0)), .val (.int (v0_2 p1)), .val (.int (b0_5 p3)), .val (.int (b0_10 p3)), .val (.int (v0_13 p2)), .val (.ref b15), .val (.int (1 : Int32)), .val (.int (v0_13 p2))] [])) t
        refine XS.iconst X77.here hx rfl (hb hby at_179) ?_
        show Steps p.tables e below (T77.setTop (mkF m 180 #[.val (.int p0), .val (.int p1), .val (.int p2), .val (.int p3), .val (.int (v0_1 p0)), .val (.int (v0_2 p1)), .val (.int (b0_5 p3)), .val (.int (b0_10 p3)), .val (.int (v0_13 p2)), .val (.ref b15), .val (.int (1 : Int32)), .val (.int (v0_13 p2))] [(.int (1 : Int32))])) t
        refine XS.goto X77.here hx rfl (pc0 := 180) (pc' := 184) rfl (hb hby at_180) (by decide) (by decide) ?_
        show Steps p.tables e below (T77.setTop (mkF m 184 #[.val (.int p0), .val (.int p1), .val (.int p2), .val (.int p3), .val (.int (v0_1 p0)), .val (.int (v0_2 p1)), .val (.int (b0_5 p3)), .val (.int (b0_10 p3)), .val (.int (v0_13 p2)), .val (.ref b15), .val (.int (1 : Int32)), .val (.int (v0_13 p2))] [(.int (1 : Int32))])) t
        refine XS.istore X77.here hx rfl (hb hby at_184) rfl (l' := #[.val (.int p0), .val (.int p1), .val (.int p2), .val (.int p3), .val (.int (v0_1 p0)), .val (.int (v0_2 p1)), .val (.int (b0_5 p3)), .val (.int (b0_10 p3)), .val (.int (v0_13 p2)), .val (.ref b15), .val (.int (1 : Int32)), .val (.int (v0_13 p2))]) rfl ?_
        show Steps p.tables e below (T77.setTop (mkF m 186 #[.val (.int p0), .val (.int p1), .val (.int p2), .val (.int p3), .val (.int (v0_1 p0)), .val (.int (v0_2 p1)), .val (.int (b0_5 p3)), .val (.int (b0_10 p3)), .val (.int (v0_13 p2)), .val (.ref b15), .val (.int (1 : Int32)), .val (.int (v0_13 p2))] [])) t
        refine XS.iload X77.here hx rfl (hb hby at_186) rfl ?_
        show Steps p.tables e below (T77.setTop (mkF m 188 #[.val (.int p0), .val (.int p1), .val (.int p2), .val (.int p3), .val (.int (v0_1 p0)), .val (.int (v0_2 p1)), .val (.int (b0_5 p3)), .val (.int (b0_10 p3)), .val (.int (v0_13 p2)), .val (.ref b15), .val (.int (1 : Int32)), .val (.int (v0_13 p2))] [(.int (1 : Int32))])) t
        exact k
      obtain ⟨fs, hr, hrun, hended, hW, hsame⟩ := X77.leave (v := some (.int (1 : Int32))) (fun h => by rw [Bd.returns] at h; cases h)
      refine ⟨_, _, go79 _ (Jvm.RoadKit.retOut X77 hx Bd.returns rfl (Or.inl ⟨rfl, Or.inr (Or.inl rfl), _, rfl⟩) (hb hby at_188) hr), hrun, hended, _, _, rfl, ?_, ⟨_, rfl⟩, hW, hsame.mono (by decide) (by decide)⟩
      show Q0 _ _ p0 p1 p2 p3 h0 _ (T77.setFrames fs).heap _
      have hE : (T77.setFrames fs).heap = T70.heap := e77
      rw [hE]
      exact ⟨congrArg (fun z => some (Value.int z)) ((by rw [f0, if_neg hs27, if_neg hs67] : (1 : Int32) = (f0 p3)).trans (f0_one p3)), N77⟩
set_option maxRecDepth 65536 in
set_option maxHeartbeats 40000000 in
theorem comes_1 {Post : Tables → Env → Array Value → State → Outcome → State → Prop} (hpost : ∀ tb e args s v u, (limb_1_1.after args s (.returned v) u = true ∧ limb_1_2.after args s (.returned v) u = true ∧ True) → FrameEnd s (.returned v) u (Jvm.fieldLocs frame_1_writes args s ++ Jvm.arrayLocs frame_1_arrays args s ++ Jvm.staticLocs frame_1_statics s) 16 128 → Post tb e args s (.returned v) u) :
    ArmFor flags0 classFile x code maxLocals ret World_1 tables_1 room_1 Calls_1 rest_1 Pre_1 Post := by
  intro l hfl _ _ p e ha hc hk s m args below hf hA hF happ hP
  obtain ⟨hcalls, hrest, hpre⟩ := hP
  obtain ⟨-, -, -, hnamed, -, -, -, hat⟩ := (Spec.applies_iff hf).mp happ
  obtain ⟨hg, hn⟩ := and_e (Cond.before_iff.mp (show (Jvm.Cond.and given_1 narrow_1).before args s = true from hpre))
  obtain ⟨hcount, hg1⟩ := and_e hg
  obtain ⟨ha0, hb0⟩ := and_e hg1
  obtain ⟨ha1, hb1⟩ := and_e hb0
  obtain ⟨ha2, hb2⟩ := and_e hb1
  obtain ⟨w0, w1, w2, w3, rfl⟩ : ∃ w0 w1 w2 w3 : Value, args = #[w0, w1, w2, w3] := by
    have hs : args.size = 4 := by simpa [Cond.value, given_1] using hcount
    obtain ⟨L⟩ := args
    match L, hs with
    | [w0, w1, w2, w3], _ => exact ⟨w0, w1, w2, w3, rfl⟩
  have hw := fun d (hd : d ∈ tables_1) => atoms_spec (ws := Jvm.Cond.code x code maxLocals ret :: tables_1) hat d (List.mem_cons_of_mem _ hd)
  have hfit : Fit s := fun {y c} hc i hi => by
    obtain ⟨ha, rfl⟩ := Array.getElem?_eq_some_iff.mp hc
    have q := List.all_eq_true.mp ((Array.all_eq_true_iff_forall_mem.mp hF) _ (Array.getElem_mem ha)) i (List.mem_range.mpr hi)
    simpa [Array.getElem?_eq_getElem hi] using q
  obtain ⟨i0, ei0⟩ := is_v ha0
  obtain rfl : w0 = (.int i0) := Option.some.inj ei0
  obtain ⟨i1, ei1⟩ := is_v ha1
  obtain rfl : w1 = (.int i1) := Option.some.inj ei1
  obtain ⟨i2, ei2⟩ := is_v ha2
  obtain rfl : w2 = (.int i2) := Option.some.inj ei2
  obtain ⟨i3, ei3⟩ := is_v hb2
  obtain rfl : w3 = (.int i3) := Option.some.inj ei3
  obtain ⟨n, o, h1, h2, h3, _, L, rfl, ⟨rfl, N⟩, hq⟩ := rm0 l s _ hw tables_1 i0 i1 i2 i3 s.heap s.heap.size (Nat.le_refl _) p e ha hc hk s m _ below hf ((Spec.applies_iff_loose hf).mp happ).1 ⟨rfl, State.Warmed39.refl s, rfl⟩ trivial
  refine ⟨n, _, h1, h2, h3, hpost _ _ _ _ _ _ ⟨Cond.after_iff.mpr rfl, Cond.after_iff.mpr (eq_i res_at (Term.int_eval (1)) rfl), trivial⟩ ⟨hq.1, hq.2.1, (hq.2.2.sift fun y hy => Or.inr (N y hy)).mono (by decide) (by decide)⟩⟩
theorem main_1_1 : Claimed_1_1 := comes_1 fun _ _ _ _ _ _ h hF => ⟨h.1, hF⟩
theorem main_1_2 : Claimed_1_2 := comes_1 fun _ _ _ _ _ _ h hF => ⟨h.2.1, hF⟩
end Jvm.Pilot.@@N@@
namespace Jvm.Pilot.@@N@@
open Jvm Jvm.ClassFile Sem Op Lib Jvm.Free Jvm.Stand Jvm.Pilot.@@N@@.Jvm.D
/-! MADE BY PROGRAM (witnessworld.py) out of the Statement's table words and the real class files: 11 classes; the members and pool entries that the words name. The judged class is class 1, her method 1. -/
namespace start1
open Jvm.ClassFile
def u (s : String) : CpInfo := .utf8 (stringToUtf16 s)
/-- a pool by its gaps: so many unusable entries, then the entry; so many at the end -/
def gap : Nat → List CpInfo → List CpInfo
  | 0, r => r
  | n + 1, r => .unusable :: gap n r
def poolList (es : List (Nat × CpInfo)) (last : Nat) : List CpInfo := es.foldr (fun e r => gap e.1 (e.2 :: r)) (gap last [])
def pool (es : List (Nat × CpInfo)) (last : Nat) : Array CpInfo := ⟨poolList es last⟩
def fileOf (pool : Array CpInfo) (this : Nat) (attrs : Array Attribute := #[]) (ms : Array MethodInfo := #[]) (fl : Nat := 33) (sup : Nat := 0) (ifs : Array Nat := #[]) (fds : Array FieldInfo := #[]) : ClassFile where
  minorVersion := 0
  majorVersion := 65
  constantPool := pool
  accessFlags := fl
  thisClass := this
  superClass := sup
  interfaces := ifs
  fields := fds
  methods := ms
  attributes := attrs
def plain (name : String) (sup : Option ClassId) : Class where
  name := name
  kind := .ordinary
  loader := none
  accessFlags := 33
  super := sup
  interfaces := #[]
  cf := none
  fields := #[]
  methods := #[]
  instanceTypes := #[]
  staticTypes := #[]
  resolved := #[]
  callSites := []
  init := .initialized
  statics := none
  mirror := none

def pool0 : Array CpInfo := pool [(5, u "<init>"), (0, u "()V"), (1, .class_ 10), (1, u "java/lang/Object")] 113

def k0c0 : Code := { maxStack := 0, maxLocals := 1, code := object_method_1_code, exceptionTable := #[], attributes := #[] }
def k0m0 : Method := { name := "<init>", desc := "()V", sig := { parameters := [], returnType := none }, accessFlags := 1, code := some k0c0 }
/-- java/lang/Object -/
def k0 : Class := { plain "java/lang/Object" none with
  accessFlags := 33
  interfaces := #[]
  cf := some (fileOf pool0 8 #[] #[{ accessFlags := 1, nameIndex := 5, descriptorIndex := 6, attributes := #[] }] 33 0 #[] #[])
  fields := #[]
  methods := #[k0m0]
  instanceTypes := #[]
  staticTypes := #[]
  resolved := Array.replicate 124 none
  statics := none }

def pool1 : Array CpInfo := pool [(2, .class_ 4), (0, .nameAndType 5 6), (0, u "java/lang/Object"), (0, u "<init>"), (0, u "()V"), (0, .integer 2147483647), (0, .integer 1073741823), (0, .class_ 10), (0, u "com/example/calycule/calycule/validators/BigIntegerConverter"), (0, .methodref 9 3), (0, .methodref 9 13), (0, .nameAndType 14 15), (0, u "getRadix"), (0, u "()I"), (0, .methodref 9 17), (0, .nameAndType 18 19), (0, u "setMaxDigits"), (0, u "(I)V"), (0, .methodref 9 21), (0, .nameAndType 22 19), (0, u "setRadix"), (0, .methodref 9 24), (0, .nameAndType 25 15), (0, u "getMaxDigits"), (0, .class_ 27), (0, u "com/example/calycule/calycule/validators/BigIntegerConverterSetRadixPinLaw"), (2, u "law"), (0, u "(IIII)Z")] 3

def k1m0 : Method := { name := "<init>", desc := "()V", sig := { parameters := [], returnType := none }, accessFlags := 2, code := none }
def k1c1 : Code := { maxStack := 3, maxLocals := 12, code := code, exceptionTable := #[], attributes := #[] }
def k1m1 : Method := { name := "law", desc := "(IIII)Z", sig := { parameters := [.int, .int, .int, .int], returnType := some .boolean }, accessFlags := 9, code := some k1c1 }
/-- com/example/calycule/calycule/validators/BigIntegerConverterSetRadixPinLaw -/
def k1 : Class := { plain "com/example/calycule/calycule/validators/BigIntegerConverterSetRadixPinLaw" (some 0) with
  accessFlags := 49
  interfaces := #[]
  cf := some (fileOf pool1 26 #[] #[{ accessFlags := 2, nameIndex := 5, descriptorIndex := 6, attributes := #[] }, { accessFlags := 9, nameIndex := 30, descriptorIndex := 31, attributes := #[] }] 49 2 #[] #[])
  fields := #[]
  methods := #[k1m0, k1m1]
  instanceTypes := #[]
  staticTypes := #[]
  resolved := Array.replicate 35 none
  statics := none }

def pool2 : Array CpInfo := pool [(1, .class_ 2), (0, u "java/lang/Object"), (0, .class_ 4), (0, u "com/example/calycule/calycule/validators/Converter")] 15

/-- com/example/calycule/calycule/validators/Converter -/
def k2 : Class := { plain "com/example/calycule/calycule/validators/Converter" (some 0) with
  accessFlags := 1537
  interfaces := #[]
  cf := some (fileOf pool2 3 #[] #[] 1537 1 #[] #[])
  fields := #[]
  methods := #[]
  instanceTypes := #[]
  staticTypes := #[]
  resolved := Array.replicate 20 none
  statics := none }

def pool3 : Array CpInfo := pool [(1, .methodref 2 3), (0, .class_ 4), (0, .nameAndType 5 6), (0, u "java/lang/Object"), (0, u "<init>"), (0, u "()V"), (0, .fieldref 8 9), (0, .class_ 10), (0, .nameAndType 11 12), (0, u "com/example/calycule/calycule/validators/BigIntegerConverter"), (0, u "radix"), (0, u "I"), (0, .class_ 14), (0, u "com/example/calycule/calycule/validators/MaxDigits"), (0, .fieldref 8 16), (0, .nameAndType 17 12), (0, u "maxDigits"), (11, .methodref 13 30), (0, .nameAndType 31 32), (0, u "require"), (0, u "(I)I"), (17, u "()I"), (27, .class_ 79), (0, u "com/example/calycule/calycule/validators/Converter"), (2, u "getRadix"), (0, u "setRadix"), (0, u "(I)V"), (1, u "getMaxDigits"), (0, u "setMaxDigits")] 30

def k3c0 : Code := { maxStack := 2, maxLocals := 1, code := prog_40_method_1_code, exceptionTable := #[], attributes := #[] }
def k3m0 : Method := { name := "<init>", desc := "()V", sig := { parameters := [], returnType := none }, accessFlags := 1, code := some k3c0 }
def k3c1 : Code := { maxStack := 1, maxLocals := 1, code := prog_40_method_2_code, exceptionTable := #[], attributes := #[] }
def k3m1 : Method := { name := "getRadix", desc := "()I", sig := { parameters := [], returnType := some .int }, accessFlags := 1, code := some k3c1 }
def k3c2 : Code := { maxStack := 3, maxLocals := 2, code := prog_40_method_3_code, exceptionTable := #[], attributes := #[] }
def k3m2 : Method := { name := "setRadix", desc := "(I)V", sig := { parameters := [.int], returnType := none }, accessFlags := 1, code := some k3c2 }
def k3c3 : Code := { maxStack := 1, maxLocals := 1, code := prog_40_method_4_code, exceptionTable := #[], attributes := #[] }
def k3m3 : Method := { name := "getMaxDigits", desc := "()I", sig := { parameters := [], returnType := some .int }, accessFlags := 1, code := some k3c3 }
def k3c4 : Code := { maxStack := 2, maxLocals := 2, code := prog_40_method_5_code, exceptionTable := #[], attributes := #[] }
def k3m4 : Method := { name := "setMaxDigits", desc := "(I)V", sig := { parameters := [.int], returnType := none }, accessFlags := 1, code := some k3c4 }
/-- com/example/calycule/calycule/validators/BigIntegerConverter -/
def k3 : Class := { plain "com/example/calycule/calycule/validators/BigIntegerConverter" (some 0) with
  accessFlags := 49
  interfaces := #[2]
  cf := some (fileOf pool3 8 #[] #[{ accessFlags := 1, nameIndex := 5, descriptorIndex := 6, attributes := #[] }, { accessFlags := 1, nameIndex := 82, descriptorIndex := 50, attributes := #[] }, { accessFlags := 1, nameIndex := 83, descriptorIndex := 84, attributes := #[] }, { accessFlags := 1, nameIndex := 86, descriptorIndex := 50, attributes := #[] }, { accessFlags := 1, nameIndex := 87, descriptorIndex := 84, attributes := #[] }] 49 2 #[78] #[{ accessFlags := 2, nameIndex := 11, descriptorIndex := 12, attributes := #[] }, { accessFlags := 2, nameIndex := 17, descriptorIndex := 12, attributes := #[] }])
  fields := #[{ name := "radix", type := .int, accessFlags := 2, slot := 0, constantValue := 0 }, { name := "maxDigits", type := .int, accessFlags := 2, slot := 1, constantValue := 0 }]
  methods := #[k3m0, k3m1, k3m2, k3m3, k3m4]
  instanceTypes := #[.int, .int]
  staticTypes := #[]
  resolved := Array.replicate 118 none
  statics := none }

def pool4 : Array CpInfo := pool [(2, .class_ 4), (1, u "java/lang/Object"), (0, u "<init>"), (0, u "()V"), (13, .class_ 21), (0, u "com/example/calycule/calycule/validators/MaxDigits"), (0, u "DEFAULT"), (0, u "I"), (4, u "require"), (0, u "(I)I")] 23

def k4m0 : Method := { name := "<init>", desc := "()V", sig := { parameters := [], returnType := none }, accessFlags := 2, code := none }
def k4c1 : Code := { maxStack := 3, maxLocals := 1, code := prog_57_method_2_code, exceptionTable := #[], attributes := #[] }
def k4m1 : Method := { name := "require", desc := "(I)I", sig := { parameters := [.int], returnType := some .int }, accessFlags := 8, code := some k4c1 }
/-- com/example/calycule/calycule/validators/MaxDigits -/
def k4 : Class := { plain "com/example/calycule/calycule/validators/MaxDigits" (some 0) with
  accessFlags := 48
  interfaces := #[]
  cf := some (fileOf pool4 20 #[] #[{ accessFlags := 2, nameIndex := 5, descriptorIndex := 6, attributes := #[] }, { accessFlags := 8, nameIndex := 28, descriptorIndex := 29, attributes := #[] }] 48 2 #[] #[{ accessFlags := 24, nameIndex := 22, descriptorIndex := 23, attributes := #[] }])
  fields := #[{ name := "DEFAULT", type := .int, accessFlags := 24, slot := 0, constantValue := 0 }]
  methods := #[k4m0, k4m1]
  instanceTypes := #[]
  staticTypes := #[.int]
  resolved := Array.replicate 53 none
  statics := none }

def pool5 : Array CpInfo := pool [(1, u "java/lang/Cloneable"), (0, .class_ 1), (0, u "java/lang/Object"), (0, .class_ 3)] 3

/-- java/lang/Cloneable -/
def k5 : Class := { plain "java/lang/Cloneable" (some 0) with
  accessFlags := 1537
  interfaces := #[]
  cf := some (fileOf pool5 2 #[] #[] 1537 4 #[] #[])
  fields := #[]
  methods := #[]
  instanceTypes := #[]
  staticTypes := #[]
  resolved := Array.replicate 8 none
  statics := none }

def pool6 : Array CpInfo := pool [(1, u "java/io/Serializable"), (0, .class_ 1), (0, u "java/lang/Object"), (0, .class_ 3)] 3

/-- java/io/Serializable -/
def k6 : Class := { plain "java/io/Serializable" (some 0) with
  accessFlags := 1537
  interfaces := #[]
  cf := some (fileOf pool6 2 #[] #[] 1537 4 #[] #[])
  fields := #[]
  methods := #[]
  instanceTypes := #[]
  staticTypes := #[]
  resolved := Array.replicate 8 none
  statics := none }

/-- the primitive byte -/
def k7 : Class := { plain "byte" none with kind := .primitive 'B', accessFlags := 0x411 }
/-- [B -/
def k8 : Class := { plain "[B" (some 0) with kind := .array 7 .byte, interfaces := #[5, 6], accessFlags := 1041 }

/-- the primitive int -/
def k9 : Class := { plain "int" none with kind := .primitive 'I', accessFlags := 0x411 }
/-- [I -/
def k10 : Class := { plain "[I" (some 0) with kind := .array 9 .int, interfaces := #[5, 6], accessFlags := 1041 }

def heap : Heap := #[]
def classes : Array Class := #[k0, k1, k2, k3, k4, k5, k6, k7, k8, k9, k10]
def interned : List (Array UInt16 × Addr) := []
def slotsUsed : Nat := 0
def theMethod : MethodId := ⟨1, 1⟩
def args0 : Array Value := #[.int 5, .int 300, .int 7, .int 3]
def aboutOver (below : List Frame) : State where
  vm := { classes := classes, interned := interned.toArray }
  heap := heap
  slotsUsed := slotsUsed
  threads := #[{ frames := .invoking theMethod args0 :: below }]
def below0 : List Frame := [.native { method := ⟨0, 0⟩, args := #[] }]
def about1 : State := aboutOver below0
def p0 : Program := .bare "" "" ""
def e0 : Env := launch0.env 0 0 0
theorem w_frames : about1.frames = Frame.invoking theMethod args0 :: below0 := rfl
set_option maxRecDepth 65536 in
theorem w_args : argsFit about1.vm theMethod args0 = true := by decide +kernel
set_option maxRecDepth 65536 in
theorem w_heap : heapFits about1 = true := by decide +kernel
set_option maxRecDepth 65536 in
theorem w_runnable : about1.curStatus? = some .runnable := by decide +kernel
set_option maxRecDepth 65536 in
theorem w_alone : about1.alone = true := by decide +kernel
set_option maxRecDepth 65536 in
theorem w_named : about1.methodNamed? x = some theMethod := by decide +kernel
set_option maxRecDepth 65536 in
theorem w_hears : about1.hears theMethod below0 = true := by decide +kernel
set_option maxRecDepth 65536 in
theorem w_ripe : about1.ripe theMethod args0 below0 = true := by decide +kernel
theorem w_running : about1.status = .running := rfl
set_option maxRecDepth 65536 in
theorem w_room : about1.hasRoom e0.platform room_1 = true :=
  launch0.hasRoom_least _ room_1 (by decide +kernel) (by decide +kernel) (by decide +kernel) (by decide +kernel) (by decide +kernel) (by decide +kernel)
theorem allAtoms_all (ts : List Jvm.Cond) (a : Array Jvm.Value) (st : Jvm.State) : (allAtoms ts).before a st = ts.all (fun c => c.before a st) := by
  induction ts with
  | nil => rfl
  | cons c t ih =>
    show (Jvm.Cond.and c (allAtoms t)).before a st = _
    rw [Jvm.Cond.before_and, ih, List.all_cons]
def words1 : List Jvm.Cond := Jvm.Cond.code x code maxLocals ret :: tables_1
/-- a 'code' word, met by the world's own term for the bytes: nothing is compared byte by byte -/
theorem code_word {y : MethodName} {bytes : ByteArray} {mx : Nat} {rt : Option FieldType} {a : Array Value} {s : State} {m : MethodId} {meth : Method} {c : Code} (h1 : s.methodNamed? y = some m) (h2 : s.vm.method? m = some meth) (h3 : meth.code = some c) (h4 : c.code = bytes)
    (h5 : (c.maxLocals == mx && c.exceptionTable.isEmpty && decide (c.maxStack ≤ mostOperands) && decide (meth.sig.returnType = rt) && !meth.locks && decide (parseMethodDescriptor y.desc = some meth.sig)) = true) : (Jvm.Cond.code y bytes mx rt).before a s = true := by
  simp only [Bool.and_eq_true, beq_iff_eq, Bool.not_eq_true', decide_eq_true_eq] at h5
  obtain ⟨⟨⟨⟨⟨g1, g2⟩, g3⟩, g4⟩, g5⟩, g6⟩ := h5
  simp [Cond.before, Cond.holds, Cond.value, h1, h2, h3, h4, g1, g2, g3, g4, g5, g6]
def isCode : Jvm.Cond → Bool
  | .code _ _ _ _ => true
  | _ => false
theorem all_split {L : List Jvm.Cond} {P : Jvm.Cond → Bool} (h1 : L.all (fun c => isCode c || P c) = true) (h2 : ∀ c ∈ L.filter isCode, P c = true) : L.all P = true := by
  refine List.all_eq_true.mpr fun c hc => ?_
  have h := List.all_eq_true.mp h1 c hc
  rcases Bool.eq_false_or_eq_true (isCode c) with hi | hi
  · exact h2 c (List.mem_filter.mpr ⟨hc, hi⟩)
  · simpa [hi] using h
set_option maxRecDepth 65536 in
theorem w_c0 : (Jvm.Cond.code x code maxLocals ret).before args0 about1 = true := code_word (m := ⟨1, 1⟩) (meth := k1m1) (c := k1c1) (by decide +kernel) rfl rfl rfl (by decide +kernel)
set_option maxRecDepth 65536 in
theorem w_c1 : (Jvm.Cond.code ({ cls := "com/example/calycule/calycule/validators/BigIntegerConverter", name := "<init>", desc := "()V" } : Jvm.MethodName) prog_40_method_1_code (1 : Nat) (Option.none : Option Jvm.ClassFile.FieldType)).before args0 about1 = true := code_word (m := ⟨3, 0⟩) (meth := k3m0) (c := k3c0) (by decide +kernel) rfl rfl rfl (by decide +kernel)
set_option maxRecDepth 65536 in
theorem w_c2 : (Jvm.Cond.code ({ cls := "java/lang/Object", name := "<init>", desc := "()V" } : Jvm.MethodName) object_method_1_code (1 : Nat) (Option.none : Option Jvm.ClassFile.FieldType)).before args0 about1 = true := code_word (m := ⟨0, 0⟩) (meth := k0m0) (c := k0c0) (by decide +kernel) rfl rfl rfl (by decide +kernel)
set_option maxRecDepth 65536 in
theorem w_c3 : (Jvm.Cond.code ({ cls := "com/example/calycule/calycule/validators/BigIntegerConverter", name := "getRadix", desc := "()I" } : Jvm.MethodName) prog_40_method_2_code (1 : Nat) (Option.some Jvm.ClassFile.FieldType.int)).before args0 about1 = true := code_word (m := ⟨3, 1⟩) (meth := k3m1) (c := k3c1) (by decide +kernel) rfl rfl rfl (by decide +kernel)
set_option maxRecDepth 65536 in
theorem w_c4 : (Jvm.Cond.code ({ cls := "com/example/calycule/calycule/validators/BigIntegerConverter", name := "setMaxDigits", desc := "(I)V" } : Jvm.MethodName) prog_40_method_5_code (2 : Nat) (Option.none : Option Jvm.ClassFile.FieldType)).before args0 about1 = true := code_word (m := ⟨3, 4⟩) (meth := k3m4) (c := k3c4) (by decide +kernel) rfl rfl rfl (by decide +kernel)
set_option maxRecDepth 65536 in
theorem w_c5 : (Jvm.Cond.code ({ cls := "com/example/calycule/calycule/validators/MaxDigits", name := "require", desc := "(I)I" } : Jvm.MethodName) prog_57_method_2_code (1 : Nat) (Option.some Jvm.ClassFile.FieldType.int)).before args0 about1 = true := code_word (m := ⟨4, 1⟩) (meth := k4m1) (c := k4c1) (by decide +kernel) rfl rfl rfl (by decide +kernel)
set_option maxRecDepth 65536 in
theorem w_c6 : (Jvm.Cond.code ({ cls := "com/example/calycule/calycule/validators/BigIntegerConverter", name := "setRadix", desc := "(I)V" } : Jvm.MethodName) prog_40_method_3_code (2 : Nat) (Option.none : Option Jvm.ClassFile.FieldType)).before args0 about1 = true := code_word (m := ⟨3, 2⟩) (meth := k3m2) (c := k3c2) (by decide +kernel) rfl rfl rfl (by decide +kernel)
set_option maxRecDepth 65536 in
theorem w_c7 : (Jvm.Cond.code ({ cls := "com/example/calycule/calycule/validators/BigIntegerConverter", name := "getMaxDigits", desc := "()I" } : Jvm.MethodName) prog_40_method_4_code (1 : Nat) (Option.some Jvm.ClassFile.FieldType.int)).before args0 about1 = true := code_word (m := ⟨3, 3⟩) (meth := k3m3) (c := k3c3) (by decide +kernel) rfl rfl rfl (by decide +kernel)
def codes1 : List Jvm.Cond := [Jvm.Cond.code x code maxLocals ret, Jvm.Cond.code ({ cls := "com/example/calycule/calycule/validators/BigIntegerConverter", name := "<init>", desc := "()V" } : Jvm.MethodName) prog_40_method_1_code (1 : Nat) (Option.none : Option Jvm.ClassFile.FieldType), Jvm.Cond.code ({ cls := "java/lang/Object", name := "<init>", desc := "()V" } : Jvm.MethodName) object_method_1_code (1 : Nat) (Option.none : Option Jvm.ClassFile.FieldType), Jvm.Cond.code ({ cls := "com/example/calycule/calycule/validators/BigIntegerConverter", name := "getRadix", desc := "()I" } : Jvm.MethodName) prog_40_method_2_code (1 : Nat) (Option.some Jvm.ClassFile.FieldType.int), Jvm.Cond.code ({ cls := "com/example/calycule/calycule/validators/BigIntegerConverter", name := "setMaxDigits", desc := "(I)V" } : Jvm.MethodName) prog_40_method_5_code (2 : Nat) (Option.none : Option Jvm.ClassFile.FieldType), Jvm.Cond.code ({ cls := "com/example/calycule/calycule/validators/MaxDigits", name := "require", desc := "(I)I" } : Jvm.MethodName) prog_57_method_2_code (1 : Nat) (Option.some Jvm.ClassFile.FieldType.int), Jvm.Cond.code ({ cls := "com/example/calycule/calycule/validators/BigIntegerConverter", name := "setRadix", desc := "(I)V" } : Jvm.MethodName) prog_40_method_3_code (2 : Nat) (Option.none : Option Jvm.ClassFile.FieldType), Jvm.Cond.code ({ cls := "com/example/calycule/calycule/validators/BigIntegerConverter", name := "getMaxDigits", desc := "()I" } : Jvm.MethodName) prog_40_method_4_code (1 : Nat) (Option.some Jvm.ClassFile.FieldType.int)]
set_option maxRecDepth 65536 in
theorem codes_eq : words1.filter isCode = codes1 := rfl
theorem w_codes : ∀ c ∈ words1.filter isCode, c.before args0 about1 = true := by
  rw [codes_eq]
  intro c hc
  simp only [codes1, List.mem_cons, List.not_mem_nil, or_false] at hc
  rcases hc with rfl | rfl | rfl | rfl | rfl | rfl | rfl | rfl
  · exact w_c0
  · exact w_c1
  · exact w_c2
  · exact w_c3
  · exact w_c4
  · exact w_c5
  · exact w_c6
  · exact w_c7
set_option maxRecDepth 65536 in
theorem w_t1 : (words1.take 24).all (fun c => isCode c || c.before args0 about1) = true := by decide +kernel
set_option maxRecDepth 65536 in
theorem w_t2 : (words1.drop 24).all (fun c => isCode c || c.before args0 about1) = true := by decide +kernel
theorem w_tables : (allAtoms (Jvm.Cond.code x code maxLocals ret :: tables_1)).before args0 about1 = true := by
  rw [allAtoms_all]
  show words1.all (fun c => c.before args0 about1) = true
  refine all_split ?_ w_codes
  rw [← List.take_append_drop 24 words1, List.all_append, w_t1, w_t2]
  rfl
set_option maxRecDepth 65536 in
theorem w_case : (Jvm.Cond.and given_1 narrow_1).before args0 about1 = true := by decide +kernel
theorem w_applies : (headSpec (Jvm.Cond.code x code maxLocals ret :: tables_1) room_1).applies x e0.platform about1 = true :=
  (Spec.applies_iff w_frames).mpr ⟨w_running, w_runnable, w_alone, w_named, w_hears, w_ripe, w_room, w_tables⟩
theorem atStart : AtStart classFile x code maxLocals ret World_1 tables_1 room_1 Calls_1 rest_1 Pre_1 launch0 p0 e0 about1 theMethod args0 below0 :=
  ⟨lists_1, trivial, launch0.admits_env _ _ _, launch0.least_env, fairChoices_fair.cas, fairChoices_fair.clock, w_frames, w_args, w_heap, w_applies, trivial, trivial, w_case⟩
end start1
theorem witness_1 : WitnessClaimed_1 := ⟨start1.p0, start1.e0, start1.about1, start1.theMethod, start1.args0, start1.below0, start1.atStart⟩
end Jvm.Pilot.@@N@@
