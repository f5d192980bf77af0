import JvmDerived
import JvmDerived.Pilot.@@N@@Statement
import JvmDerived.Pilot.@@N@@Code
set_option linter.unusedVariables false
set_option linter.unusedSimpArgs false
namespace Jvm.Pilot.@@N@@
open Jvm Jvm.ClassFile Sem Op Lib Jvm.Free Jvm.Stand Jvm.LawKit Jvm.RoadKit Bundle Jvm.Pilot.@@N@@.Jvm.D
theorem own_exa_ns {Z : State} {h : Heap} {a : Addr} {C : String} (E : Exa Z h a C) : ∀ c : Cell, h[a]? = some c → c.vm.isStatics = false := fun c hc => by
  obtain ⟨cell, k, h1, -, -, h4, -⟩ := E
  rw [h1] at hc; cases hc; exact h4
theorem own_sta_keep {Z : State} {h h' : Heap} {C n d : String} {v : Value} {ws : List Addr} (F : Sta Z h C n d v) (K : Keep h h' ws) (q : ∀ x ∈ ws, ∀ c : Cell, h[x]? = some c → c.vm.isStatics = false) : Sta Z h' C n d v := by
  obtain ⟨cf, i, k, f, st, cell, h1, h2, h3, h4, h5, h6, h7⟩ := F
  exact ⟨cf, i, k, f, st, cell, h1, h2, h3, h4, K.2.1 st cell h5 (fun hm => by have := q st hm cell h5; rw [h6] at this; cases this), h6, h7⟩
theorem own_ins_keep {Z : State} {h h' : Heap} {a : Addr} {C : String} {b : Bool} {ws : List Addr} (F : Ins Z h a C b) (K : Keep h h' ws) : Ins Z h' a C b := by
  obtain ⟨cell, cT, h1, h2, h3⟩ := F
  obtain ⟨c', q1, q2, q3, -⟩ := K.2.2 a cell h1
  exact ⟨c', cT, q1, h2, by rw [q3, q2]; exact h3⟩
theorem own_ne {r c : Int32} (k : Int) (hc : c.toInt = k) (h : ¬ r = c) : ¬ r.toInt = k := fun e => h (Int32.toInt_inj.mp (e.trans hc.symm))
theorem own_cat1 {v : Value} (h : v.isRef = true) : 2 * 0 + ([v].map fun v => v.category).sum ≤ 1 := by simp [XT.cat1 h]
theorem own_nz {z : Int32} (h : z = 0 ∨ z = 1) : narrow .boolean (.int z) = .int z := by rcases h with rfl | rfl <;> rfl
theorem d2_0 : decode jdk_29_method_66_code 0 = .ok (.lload_n 0, 1) := by decide +kernel
theorem d2_1 : decode jdk_29_method_66_code 1 = .ok (.lload_n 2, 1) := by decide +kernel
theorem d2_2 : decode jdk_29_method_66_code 2 = .ok (.lcmp, 1) := by decide +kernel
theorem d2_3 : decode jdk_29_method_66_code 3 = .ok (.ifCond .lt 7, 3) := by decide +kernel
theorem d2_10 : decode jdk_29_method_66_code 10 = .ok (.lload_n 2, 1) := by decide +kernel
theorem d2_6 : decode jdk_29_method_66_code 6 = .ok (.lload_n 0, 1) := by decide +kernel
theorem d2_7 : decode jdk_29_method_66_code 7 = .ok (.goto 4, 3) := by decide +kernel
theorem d2_11 : decode jdk_29_method_66_code 11 = .ok (.lreturn, 1) := by decide +kernel
def b2_3 (q0 : Int64) (q1 : Int64) : Int64 := (if q0 < q1 then q1 else q0)
def f2 (q0 : Int64) (q1 : Int64) : Int64 := (b2_3 q0 q1)
def Q2 (Z : State) (n0 : Nat) (q0 : Int64) (q1 : Int64) (h0 : Heap) (v : Option Value) (h : Heap) (L : List Loc) : Prop := v = some (.long (f2 q0 q1)) ∧ Fr n0 L ∧ h = h0
theorem ef2 (m : MethodId) (q0 : Int64) (q1 : Int64) : entryFrame m #[(.long q0), (.long q1)] 4 = mkF m 0 #[.val (.long q0), .second, .val (.long q1), .second] [] := by first | (simp [entryFrame, mkF, argsToLocals, Value.category]; done) | rfl
set_option maxRecDepth 65536 in
set_option maxHeartbeats 40000000 in
theorem rm2 (l : Launch) (Z : State) (aZ : Array Value) (hw : ∀ d ∈ tables_1, d.before aZ Z = true) (ws : List Jvm.Cond) (q0 : Int64) (q1 : Int64) (h0 : Heap) (n0 : Nat) (Z0 : n0 ≤ h0.size) :
    MetFree l (⟨"java/lang/Math", "max", "(JJ)J"⟩ : MethodName) (head1 (Jvm.Cond.code (⟨"java/lang/Math", "max", "(JJ)J"⟩ : MethodName) jdk_29_method_66_code 4 (some .long) :: ws) ({ frames := 0, cells := 0, slots := 0, locals := 0 } : Room)) (fun a U => a = #[(.long q0), (.long q1)] ∧ Z.Warmed39 U.vm ∧ U.heap = h0) (fun _ _ _ _ _ => True) (fun _ U o U' => ∃ v L, o = .returned v ∧ Q2 Z n0 q0 q1 h0 v U'.heap L ∧ FrameEnd U o U' L ({ frames := 0, cells := 0, slots := 0, locals := 0 } : Room).cells ({ frames := 0, cells := 0, slots := 0, locals := 0 } : Room).slots) := by
  refine MetFree.of_bodySF (Jvm.Free.JP.mathPlain rfl (by decide +kernel)) hisR ?_
  intro p e s m args below meth c s₁ Bd hml0 hP hK
  obtain ⟨rfl, hZ, hh⟩ := hP
  have hx := Bd.exec
  have hby := Bd.bytes
  have hml : c.maxLocals = 4 := hml0
  have hown : s.vm.findClass "java/lang/Math" = some m.cls := findClass_of_methodNamed Bd.named
  have hnm := (name_of_methodNamed Bd.named Bd.method).1
  have X0 : Stand p l e ({ frames := 0, cells := 0, slots := 0, locals := 0 } : Room) s m #[(.long q0), (.long q1)] below meth c s₁ [] 0 0 := Stand.of_body Bd
  have e0 : s₁.heap = h0 := by rw [← hh, Bd.state]; rfl
  have N0 := Fr.nil n0
  have K0 : Keep h0 h0 [] := Keep.refl _ _
  have go0 : ∀ t, Steps p.tables e below (s₁.setTop (mkF m 0 #[.val (.long q0), .second, .val (.long q1), .second] [])) t → Steps p.tables e below (s₁.setTop (entryFrame m #[(.long q0), (.long q1)] 4)) t := fun t k => castTop (ef2 m q0 q1) k
  have go2 : ∀ t, Steps p.tables e below (s₁.setTop (mkF m 11 #[.val (.long q0), .second, .val (.long q1), .second] [(.long (b2_3 q0 q1))])) t → Steps p.tables e below (s₁.setTop (entryFrame m #[(.long q0), (.long q1)] 4)) t := by
    intro t k
    refine go0 _ ?_
    refine XS.lloadN X0.here hx rfl (hb hby d2_0) rfl ?_
    show Steps p.tables e below (s₁.setTop (mkF m 1 #[.val (.long q0), .second, .val (.long q1), .second] [(.long q0)])) t
    refine XS.lloadN X0.here hx rfl (hb hby d2_1) rfl ?_
    show Steps p.tables e below (s₁.setTop (mkF m 2 #[.val (.long q0), .second, .val (.long q1), .second] [(.long q1), (.long q0)])) t
    refine XT.lcmp X0.here hx rfl (hb hby d2_2) rfl ?_
    show Steps p.tables e below (s₁.setTop (mkF m 3 #[.val (.long q0), .second, .val (.long q1), .second] [(.int (XT.cmpL q0 q1))])) t
    by_cases hc1 : q0 < q1
    · refine XS.ifYes X0.here hx rfl (pc0 := 3) (pc' := 10) rfl (hb hby d2_3) rfl (XT.ll_lt_t hc1) (by decide) (by decide) ?_
      show Steps p.tables e below (s₁.setTop (mkF m 10 #[.val (.long q0), .second, .val (.long q1), .second] [])) t
      refine XS.lloadN X0.here hx rfl (hb hby d2_10) rfl ?_
      show Steps p.tables e below (s₁.setTop (mkF m 11 #[.val (.long q0), .second, .val (.long q1), .second] [(.long q1)])) t
      have hq4 : (b2_3 q0 q1) = q1 := by rw [b2_3, if_pos hc1]
      rw [hq4] at k
      exact k
    · refine XS.ifNo X0.here hx rfl (hb hby d2_3) rfl (XT.ll_lt_f hc1) ?_
      show Steps p.tables e below (s₁.setTop (mkF m 6 #[.val (.long q0), .second, .val (.long q1), .second] [])) t
      refine XS.lloadN X0.here hx rfl (hb hby d2_6) rfl ?_
      show Steps p.tables e below (s₁.setTop (mkF m 7 #[.val (.long q0), .second, .val (.long q1), .second] [(.long q0)])) t
      refine XS.goto X0.here hx rfl (pc0 := 7) (pc' := 11) rfl (hb hby d2_7) (by decide) (by decide) ?_
      show Steps p.tables e below (s₁.setTop (mkF m 11 #[.val (.long q0), .second, .val (.long q1), .second] [(.long q0)])) t
      have hq5 : (b2_3 q0 q1) = q0 := by rw [b2_3, if_neg hc1]
      rw [hq5] at k
      exact k
  obtain ⟨fs, hr, hrun, hended, hW, hsame⟩ := X0.leave (v := some (.long (b2_3 q0 q1))) (fun h => by rw [Bd.returns] at h; cases h)
  refine ⟨_, _, go2 _ (Jvm.RoadKit.retOut X0 hx Bd.returns rfl (Or.inr (Or.inl ⟨rfl, rfl, _, rfl⟩)) (hb hby d2_11) hr), hrun, hended, _, _, rfl, ?_, ⟨_, rfl⟩, hW, hsame.mono (by decide) (by decide)⟩
  show Q2 _ _ q0 q1 h0 _ (s₁.setFrames fs).heap _
  have hE : (s₁.setFrames fs).heap = h0 := e0
  rw [hE]
  exact ⟨by rw [f2], N0, rfl⟩
theorem d1_0 : decode prog_11_method_3_code 0 = .ok (.iload_n 2, 1) := by decide +kernel
theorem d1_1 : decode prog_11_method_3_code 1 = .ok (.i2l, 1) := by decide +kernel
theorem d1_2 : decode prog_11_method_3_code 2 = .ok (.ldc2_w 67, 3) := by decide +kernel
theorem d1_5 : decode prog_11_method_3_code 5 = .ok (.lmul, 1) := by decide +kernel
theorem d1_6 : decode prog_11_method_3_code 6 = .ok (.iload_n 3, 1) := by decide +kernel
theorem d1_7 : decode prog_11_method_3_code 7 = .ok (.i2l, 1) := by decide +kernel
theorem d1_8 : decode prog_11_method_3_code 8 = .ok (.iload_n 2, 1) := by decide +kernel
theorem d1_9 : decode prog_11_method_3_code 9 = .ok (.i2l, 1) := by decide +kernel
theorem d1_10 : decode prog_11_method_3_code 10 = .ok (.lmul, 1) := by decide +kernel
theorem d1_11 : decode prog_11_method_3_code 11 = .ok (.ldc2_w 69, 3) := by decide +kernel
theorem d1_14 : decode prog_11_method_3_code 14 = .ok (.lmul, 1) := by decide +kernel
theorem d1_15 : decode prog_11_method_3_code 15 = .ok (.ladd, 1) := by decide +kernel
theorem d1_16 : decode prog_11_method_3_code 16 = .ok (.lstore 4, 2) := by decide +kernel
theorem d1_18 : decode prog_11_method_3_code 18 = .ok (.lconst 0, 1) := by decide +kernel
theorem d1_19 : decode prog_11_method_3_code 19 = .ok (.lload_n 0, 1) := by decide +kernel
theorem d1_20 : decode prog_11_method_3_code 20 = .ok (.lload 4, 2) := by decide +kernel
theorem d1_22 : decode prog_11_method_3_code 22 = .ok (.lsub, 1) := by decide +kernel
theorem d1_23 : decode prog_11_method_3_code 23 = .ok (.ldc2_w 69, 3) := by decide +kernel
theorem d1_26 : decode prog_11_method_3_code 26 = .ok (.ldiv, 1) := by decide +kernel
theorem d1_27 : decode prog_11_method_3_code 27 = .ok (.invokestatic 71, 3) := by decide +kernel
theorem pd_31 : parseMethodDescriptor "(JJ)J" = some ⟨[.long, .long], some .long⟩ := by decide +kernel
theorem d1_30 : decode prog_11_method_3_code 30 = .ok (.lreturn, 1) := by decide +kernel
theorem pn_34 : plainName "com/example/axiscope/axiscope/engine/NeighbourCandidates" = true := by first | (simp [plainName, overriddenIn]; done) | decide +kernel
def v1_1 (p1 : Int32) (p2 : Int32) : Int64 := ((p1.toInt64 * (88 : Int64)) + ((p2.toInt64 * p1.toInt64) * (12 : Int64)))
def v1_2 (q0 : Int64) (p1 : Int32) (p2 : Int32) : Int64 := ((q0 - (v1_1 p1 p2)) / (12 : Int64))
def v1_6 (q0 : Int64) (p1 : Int32) (p2 : Int32) : Int64 := (f2 (0 : Int64) (v1_2 q0 p1 p2))
def f1 (q0 : Int64) (p1 : Int32) (p2 : Int32) : Int64 := (v1_6 q0 p1 p2)
def Q1 (Z : State) (n0 : Nat) (q0 : Int64) (p1 : Int32) (p2 : Int32) (h0 : Heap) (v : Option Value) (h : Heap) (L : List Loc) : Prop := v = some (.long (f1 q0 p1 p2)) ∧ Fr n0 L ∧ h = h0
theorem ef1 (m : MethodId) (q0 : Int64) (p1 : Int32) (p2 : Int32) : entryFrame m #[(.long q0), (.int p1), (.int p2)] 6 = mkF m 0 #[.val (.long q0), .second, .val (.int p1), .val (.int p2), .unset, .unset] [] := by first | (simp [entryFrame, mkF, argsToLocals, Value.category]; done) | rfl
set_option maxRecDepth 65536 in
set_option maxHeartbeats 40000000 in
theorem rm1 (l : Launch) (Z : State) (aZ : Array Value) (hw : ∀ d ∈ tables_1, d.before aZ Z = true) (ws : List Jvm.Cond) (q0 : Int64) (p1 : Int32) (p2 : Int32) (h0 : Heap) (n0 : Nat) (Z0 : n0 ≤ h0.size) :
    MetFree l (⟨"com/example/axiscope/axiscope/engine/NeighbourCandidates", "entriesWithin", "(JII)J"⟩ : MethodName) (head1 (Jvm.Cond.code (⟨"com/example/axiscope/axiscope/engine/NeighbourCandidates", "entriesWithin", "(JII)J"⟩ : MethodName) prog_11_method_3_code 6 (some .long) :: ws) ({ frames := 1, cells := 0, slots := 0, locals := 15 } : Room)) (fun a U => a = #[(.long q0), (.int p1), (.int p2)] ∧ Z.Warmed39 U.vm ∧ U.heap = h0) (fun _ _ _ _ _ => True) (fun _ U o U' => ∃ v L, o = .returned v ∧ Q1 Z n0 q0 p1 p2 h0 v U'.heap L ∧ FrameEnd U o U' L ({ frames := 1, cells := 0, slots := 0, locals := 15 } : Room).cells ({ frames := 1, cells := 0, slots := 0, locals := 15 } : Room).slots) := by
  refine MetFree.of_bodySF (plainFor_of_name pn_34) hisR ?_
  intro p e s m args below meth c s₁ Bd hml0 hP hK
  obtain ⟨rfl, hZ, hh⟩ := hP
  have hx := Bd.exec
  have hby := Bd.bytes
  have hml : c.maxLocals = 6 := hml0
  have hown : s.vm.findClass "com/example/axiscope/axiscope/engine/NeighbourCandidates" = some m.cls := findClass_of_methodNamed Bd.named
  have hnm := (name_of_methodNamed Bd.named Bd.method).1
  have X0 : Stand p l e ({ frames := 1, cells := 0, slots := 0, locals := 15 } : Room) s m #[(.long q0), (.int p1), (.int p2)] below meth c s₁ [] 0 0 := Stand.of_body Bd
  have e0 : s₁.heap = h0 := by rw [← hh, Bd.state]; rfl
  have N0 := Fr.nil n0
  have K0 : Keep h0 h0 [] := Keep.refl _ _
  have go0 : ∀ t, Steps p.tables e below (s₁.setTop (mkF m 0 #[.val (.long q0), .second, .val (.int p1), .val (.int p2), .unset, .unset] [])) t → Steps p.tables e below (s₁.setTop (entryFrame m #[(.long q0), (.int p1), (.int p2)] 6)) t := fun t k => castTop (ef1 m q0 p1 p2) k
  have go3 : ∀ t, Steps p.tables e below (s₁.setTop (mkF m 27 #[.val (.long q0), .second, .val (.int p1), .val (.int p2), .val (.long (v1_1 p1 p2)), .second] [(.long (v1_2 q0 p1 p2)), (.long (0 : Int64))])) t → Steps p.tables e below (s₁.setTop (entryFrame m #[(.long q0), (.int p1), (.int p2)] 6)) t := by
    intro t k
    refine go0 _ ?_
    refine XS.iloadN X0.here hx rfl (hb hby d1_0) rfl ?_
    show Steps p.tables e below (s₁.setTop (mkF m 1 #[.val (.long q0), .second, .val (.int p1), .val (.int p2), .unset, .unset] [(.int p1)])) t
    refine XS.i2l X0.here hx rfl (hb hby d1_1) rfl ?_
    show Steps p.tables e below (s₁.setTop (mkF m 2 #[.val (.long q0), .second, .val (.int p1), .val (.int p2), .unset, .unset] [(.long p1.toInt64)])) t
    refine X0.ldc2Long hx hown (mvT hZ (hw _ (List.mem_of_getElem? (i := 6) rfl))) (g := (mkF m 2 #[.val (.long q0), .second, .val (.int p1), .val (.int p2), .unset, .unset] [(.long p1.toInt64)])) rfl (hb hby d1_2) _ ?_
    show Steps p.tables e below (s₁.setTop (mkF m 5 #[.val (.long q0), .second, .val (.int p1), .val (.int p2), .unset, .unset] [(.long (88 : Int64)), (.long p1.toInt64)])) t
    refine XS.lmul X0.here hx rfl (hb hby d1_5) rfl ?_
    show Steps p.tables e below (s₁.setTop (mkF m 6 #[.val (.long q0), .second, .val (.int p1), .val (.int p2), .unset, .unset] [(.long (p1.toInt64 * (88 : Int64)))])) t
    refine XS.iloadN X0.here hx rfl (hb hby d1_6) rfl ?_
    show Steps p.tables e below (s₁.setTop (mkF m 7 #[.val (.long q0), .second, .val (.int p1), .val (.int p2), .unset, .unset] [(.int p2), (.long (p1.toInt64 * (88 : Int64)))])) t
    refine XS.i2l X0.here hx rfl (hb hby d1_7) rfl ?_
    show Steps p.tables e below (s₁.setTop (mkF m 8 #[.val (.long q0), .second, .val (.int p1), .val (.int p2), .unset, .unset] [(.long p2.toInt64), (.long (p1.toInt64 * (88 : Int64)))])) t
    refine XS.iloadN X0.here hx rfl (hb hby d1_8) rfl ?_
    show Steps p.tables e below (s₁.setTop (mkF m 9 #[.val (.long q0), .second, .val (.int p1), .val (.int p2), .unset, .unset] [(.int p1), (.long p2.toInt64), (.long (p1.toInt64 * (88 : Int64)))])) t
    refine XS.i2l X0.here hx rfl (hb hby d1_9) rfl ?_
    show Steps p.tables e below (s₁.setTop (mkF m 10 #[.val (.long q0), .second, .val (.int p1), .val (.int p2), .unset, .unset] [(.long p1.toInt64), (.long p2.toInt64), (.long (p1.toInt64 * (88 : Int64)))])) t
    refine XS.lmul X0.here hx rfl (hb hby d1_10) rfl ?_
    show Steps p.tables e below (s₁.setTop (mkF m 11 #[.val (.long q0), .second, .val (.int p1), .val (.int p2), .unset, .unset] [(.long (p2.toInt64 * p1.toInt64)), (.long (p1.toInt64 * (88 : Int64)))])) t
    refine X0.ldc2Long hx hown (mvT hZ (hw _ (List.mem_of_getElem? (i := 7) rfl))) (g := (mkF m 11 #[.val (.long q0), .second, .val (.int p1), .val (.int p2), .unset, .unset] [(.long (p2.toInt64 * p1.toInt64)), (.long (p1.toInt64 * (88 : Int64)))])) rfl (hb hby d1_11) _ ?_
    show Steps p.tables e below (s₁.setTop (mkF m 14 #[.val (.long q0), .second, .val (.int p1), .val (.int p2), .unset, .unset] [(.long (12 : Int64)), (.long (p2.toInt64 * p1.toInt64)), (.long (p1.toInt64 * (88 : Int64)))])) t
    refine XS.lmul X0.here hx rfl (hb hby d1_14) rfl ?_
    show Steps p.tables e below (s₁.setTop (mkF m 15 #[.val (.long q0), .second, .val (.int p1), .val (.int p2), .unset, .unset] [(.long ((p2.toInt64 * p1.toInt64) * (12 : Int64))), (.long (p1.toInt64 * (88 : Int64)))])) t
    refine XS.ladd X0.here hx rfl (hb hby d1_15) rfl ?_
    show Steps p.tables e below (s₁.setTop (mkF m 16 #[.val (.long q0), .second, .val (.int p1), .val (.int p2), .unset, .unset] [(.long ((p1.toInt64 * (88 : Int64)) + ((p2.toInt64 * p1.toInt64) * (12 : Int64))))])) t
    show Steps p.tables e below (s₁.setTop (mkF m 16 #[.val (.long q0), .second, .val (.int p1), .val (.int p2), .unset, .unset] [(.long (v1_1 p1 p2))])) t
    refine XS.lstore X0.here hx rfl (hb hby d1_16) rfl (l' := #[.val (.long q0), .second, .val (.int p1), .val (.int p2), .val (.long (v1_1 p1 p2)), .second]) rfl ?_
    show Steps p.tables e below (s₁.setTop (mkF m 18 #[.val (.long q0), .second, .val (.int p1), .val (.int p2), .val (.long (v1_1 p1 p2)), .second] [])) t
    refine XS.lconst X0.here hx rfl (hb hby d1_18) ?_
    show Steps p.tables e below (s₁.setTop (mkF m 19 #[.val (.long q0), .second, .val (.int p1), .val (.int p2), .val (.long (v1_1 p1 p2)), .second] [(.long (0 : Int64))])) t
    refine XS.lloadN X0.here hx rfl (hb hby d1_19) rfl ?_
    show Steps p.tables e below (s₁.setTop (mkF m 20 #[.val (.long q0), .second, .val (.int p1), .val (.int p2), .val (.long (v1_1 p1 p2)), .second] [(.long q0), (.long (0 : Int64))])) t
    refine XS.lload X0.here hx rfl (hb hby d1_20) rfl ?_
    show Steps p.tables e below (s₁.setTop (mkF m 22 #[.val (.long q0), .second, .val (.int p1), .val (.int p2), .val (.long (v1_1 p1 p2)), .second] [(.long (v1_1 p1 p2)), (.long q0), (.long (0 : Int64))])) t
    refine XS.lsub X0.here hx rfl (hb hby d1_22) rfl ?_
    show Steps p.tables e below (s₁.setTop (mkF m 23 #[.val (.long q0), .second, .val (.int p1), .val (.int p2), .val (.long (v1_1 p1 p2)), .second] [(.long (q0 - (v1_1 p1 p2))), (.long (0 : Int64))])) t
    refine X0.ldc2Long hx hown (mvT hZ (hw _ (List.mem_of_getElem? (i := 7) rfl))) (g := (mkF m 23 #[.val (.long q0), .second, .val (.int p1), .val (.int p2), .val (.long (v1_1 p1 p2)), .second] [(.long (q0 - (v1_1 p1 p2))), (.long (0 : Int64))])) rfl (hb hby d1_23) _ ?_
    show Steps p.tables e below (s₁.setTop (mkF m 26 #[.val (.long q0), .second, .val (.int p1), .val (.int p2), .val (.long (v1_1 p1 p2)), .second] [(.long (12 : Int64)), (.long (q0 - (v1_1 p1 p2))), (.long (0 : Int64))])) t
    refine XS.ldiv X0.here hx rfl (hb hby d1_26) rfl (by decide) ?_
    show Steps p.tables e below (s₁.setTop (mkF m 27 #[.val (.long q0), .second, .val (.int p1), .val (.int p2), .val (.long (v1_1 p1 p2)), .second] [(.long ((q0 - (v1_1 p1 p2)) / (12 : Int64))), (.long (0 : Int64))])) t
    show Steps p.tables e below (s₁.setTop (mkF m 27 #[.val (.long q0), .second, .val (.int p1), .val (.int p2), .val (.long (v1_1 p1 p2)), .second] [(.long (v1_2 q0 p1 p2)), (.long (0 : Int64))])) t
    exact k
  obtain ⟨_, _, ⟨T4, L4, k4, n4⟩, -, X4, ⟨Lc4, hQ4, l4, y4, z4⟩, st4⟩ := Jvm.LawKit.callS X0 hx (y := (⟨"java/lang/Math", "max", "(JJ)J"⟩ : MethodName)) hown (mvT hZ (hw _ (List.mem_of_getElem? (i := 8) rfl))) (mvT hZ (hw _ (List.mem_of_getElem? (i := 9) rfl))) (mvT hZ (hw _ (List.mem_of_getElem? (i := 10) rfl))) (mvT hZ (hw _ (List.mem_of_getElem? (i := 11) rfl))) (by decide) (backOf (W := 0) (rm2 l Z aZ hw [] (0 : Int64) (v1_2 q0 p1 p2) h0 n0 Z0 ) hZ (hw _ (List.mem_of_getElem? (i := 11) rfl)) (hw _ (List.mem_of_getElem? (i := 10) rfl)) (by decide) (by decide)) (g := (mkF m 27 #[.val (.long q0), .second, .val (.int p1), .val (.int p2), .val (.long (v1_1 p1 p2)), .second] [(.long (v1_2 q0 p1 p2)), (.long (0 : Int64))])) rfl (by rw [hml]; rfl) (argsL := [(.long (0 : Int64)), (.long (v1_2 q0 p1 p2))]) (rest := []) (lenOf pd_31 rfl) rfl (by show 2 * 0 + _ ≤ _; exact Nat.le_of_eq rfl) (hb hby d1_27) (fun _ _ => ⟨rfl, e0, (by decide : 0 + 0 ≤ _), (by decide : 0 + 0 ≤ _)⟩)
  dsimp only [Pt.U, Pt.locs, Pt.cells, Pt.slots] at X4 l4 y4 z4 st4 hQ4
  subst l4 y4 z4
  obtain ⟨rfl, N4q, e4⟩ := hQ4
  have N4 := Fr.app N0 N4q
  have go5 : ∀ t, Steps p.tables e below (T4.setTop (mkF m 30 #[.val (.long q0), .second, .val (.int p1), .val (.int p2), .val (.long (v1_1 p1 p2)), .second] [(.long (f2 (0 : Int64) (v1_2 q0 p1 p2)))])) t → Steps p.tables e below (s₁.setTop (entryFrame m #[(.long q0), (.int p1), (.int p2)] 6)) t := fun t k => go3 _ (st4 _ k)
  have go7 : ∀ t, Steps p.tables e below (T4.setTop (mkF m 30 #[.val (.long q0), .second, .val (.int p1), .val (.int p2), .val (.long (v1_1 p1 p2)), .second] [(.long (v1_6 q0 p1 p2))])) t → Steps p.tables e below (s₁.setTop (entryFrame m #[(.long q0), (.int p1), (.int p2)] 6)) t := by
    intro t k
    refine go5 _ ?_
    show Steps p.tables e below (T4.setTop (mkF m 30 #[.val (.long q0), .second, .val (.int p1), .val (.int p2), .val (.long (v1_1 p1 p2)), .second] [(.long (v1_6 q0 p1 p2))])) t
    exact k
  obtain ⟨fs, hr, hrun, hended, hW, hsame⟩ := X4.leave (v := some (.long (v1_6 q0 p1 p2))) (fun h => by rw [Bd.returns] at h; cases h)
  refine ⟨_, _, go7 _ (Jvm.RoadKit.retOut X4 hx Bd.returns rfl (Or.inr (Or.inl ⟨rfl, rfl, _, rfl⟩)) (hb hby d1_30) hr), hrun, hended, _, _, rfl, ?_, ⟨_, rfl⟩, hW, hsame.mono (by decide) (by decide)⟩
  show Q1 _ _ q0 p1 p2 h0 _ (T4.setFrames fs).heap _
  have hE : (T4.setFrames fs).heap = h0 := e4
  rw [hE]
  exact ⟨by rw [f1], N4, rfl⟩
theorem pd_38 : parseMethodDescriptor "(JII)J" = some ⟨[.long, .int, .int], some .long⟩ := by decide +kernel
def v0_1 (q0 : Int64) : Int64 := (q0 >>> ((1 : Int32) &&& 0x3f).toInt64)
def v0_2 (p1 : Int32) : Int32 := (p1 &&& (2147483647 : Int32))
def v0_3 (p2 : Int32) : Int32 := (p2 &&& (4194303 : Int32))
def v0_7 (q0 : Int64) (p1 : Int32) (p2 : Int32) : Int64 := (f1 (v0_1 q0) (v0_2 p1) (v0_3 p2))
def v0_8 (p1 : Int32) (p2 : Int32) : Int64 := ((v0_2 p1).toInt64 * ((88 : Int64) + ((12 : Int64) * (v0_3 p2).toInt64)))
def v0_15 (p1 : Int32) (p2 : Int32) : Int64 := ((v0_8 p1 p2) + (12 : Int64))
def b0_20 (q0 : Int64) (p1 : Int32) (p2 : Int32) : Int32 := (if (v0_7 q0 p1 p2) = (0 : Int64) then (1 : Int32) else (0 : Int32))
def v0_23 (q0 : Int64) (p1 : Int32) (p2 : Int32) : Int64 := ((v0_8 p1 p2) + ((12 : Int64) * (v0_7 q0 p1 p2)))
def v0_25 (q0 : Int64) (p1 : Int32) (p2 : Int32) : Int64 := ((v0_8 p1 p2) + ((12 : Int64) * ((v0_7 q0 p1 p2) + (1 : Int64))))
def b0_28 (q0 : Int64) (p1 : Int32) (p2 : Int32) : Int32 := (if (v0_1 q0) < (v0_23 q0 p1 p2) then (0 : Int32) else (if (v0_1 q0) < (v0_25 q0 p1 p2) then (1 : Int32) else (0 : Int32)))
def f0 (q0 : Int64) (p1 : Int32) (p2 : Int32) : Int32 := (if (v0_7 q0 p1 p2) < (0 : Int64) then (0 : Int32) else (if (576460752303423488 : Int64) < (v0_7 q0 p1 p2) then (0 : Int32) else (if (v0_1 q0) < (v0_15 p1 p2) then (b0_20 q0 p1 p2) else (b0_28 q0 p1 p2))))
theorem own_fixI (R T : Int32) (hR : 0 ≤ R.toInt ∧ R.toInt < 2147483648) (hT : 0 ≤ T.toInt ∧ T.toInt < 4194304) : (R.toInt64 * ((88 : Int64) + (12 : Int64) * T.toInt64)).toInt = 88 * R.toInt + 12 * (R.toInt * T.toInt) ∧ (v1_1 R T).toInt = 88 * R.toInt + 12 * (R.toInt * T.toInt) ∧ 0 ≤ R.toInt * T.toInt ∧ R.toInt * T.toInt ≤ 9007199254740992 := by
  have m := mc (l1 := 0) (h1 := 2147483647) (l2 := 0) (h2 := 4194303) hR.1 (by omega : R.toInt ≤ 2147483647) hT.1 (by omega : T.toInt ≤ 4194303)
  have hM : 0 ≤ R.toInt * T.toInt ∧ R.toInt * T.toInt ≤ 9007199254740992 := by omega
  have z88 : (88 : Int64).toInt = 88 := rfl
  have z12 : (12 : Int64).toInt = 12 := rfl
  have cT : T.toInt64.toInt = T.toInt := c_i2l T
  have cR : R.toInt64.toInt = R.toInt := c_i2l R
  have e1 := c_lmul 12 T.toInt64; have r1 := rng64 (12 * T.toInt64)
  rw [z12, cT] at e1
  have e2 := c_ladd 88 (12 * T.toInt64); have r2 := rng64 (88 + 12 * T.toInt64)
  have k1 : (12 * T.toInt64).toInt = 12 * T.toInt := by omega
  have k2 : (88 + 12 * T.toInt64).toInt = 88 + 12 * T.toInt := by omega
  have e3 := c_lmul R.toInt64 (88 + 12 * T.toInt64); have r3 := rng64 (R.toInt64 * (88 + 12 * T.toInt64))
  have x1 : R.toInt * (88 + 12 * T.toInt) = 88 * R.toInt + 12 * (R.toInt * T.toInt) := by rw [Int.mul_add, Int.mul_left_comm, Int.mul_comm R.toInt 88]
  rw [cR, k2, x1] at e3
  have e4 := c_lmul R.toInt64 88; have r4 := rng64 (R.toInt64 * 88)
  rw [cR, z88] at e4
  have e5 := c_lmul T.toInt64 R.toInt64; have r5 := rng64 (T.toInt64 * R.toInt64)
  rw [cR, cT, Int.mul_comm T.toInt] at e5
  have k5 : (T.toInt64 * R.toInt64).toInt = R.toInt * T.toInt := by omega
  have e6 := c_lmul (T.toInt64 * R.toInt64) 12; have r6 := rng64 (T.toInt64 * R.toInt64 * 12)
  rw [k5, z12] at e6
  have e7 := c_ladd (R.toInt64 * 88) (T.toInt64 * R.toInt64 * 12); have r7 := rng64 (R.toInt64 * 88 + T.toInt64 * R.toInt64 * 12)
  refine ⟨by omega, ?_, hM⟩
  show (R.toInt64 * 88 + T.toInt64 * R.toInt64 * 12).toInt = _
  omega
theorem f0_one (q0 : Int64) (p1 p2 : Int32) : f0 q0 p1 p2 = 1 := by
  have hb : (v0_1 q0).toInt = q0.toInt / (2 ^ 1 : Nat) := c_lshr q0 1 1 (by decide)
  have rb := rng64 q0
  have hR : 0 ≤ (v0_2 p1).toInt ∧ (v0_2 p1).toInt < 2147483648 := by
    have h := c_mask p1 2147483647 31 (by decide) (by decide)
    show 0 ≤ (p1 &&& 2147483647).toInt ∧ (p1 &&& 2147483647).toInt < 2147483648
    omega
  have hT : 0 ≤ (v0_3 p2).toInt ∧ (v0_3 p2).toInt < 4194304 := by
    have h := c_mask p2 4194303 22 (by decide) (by decide)
    show 0 ≤ (p2 &&& 4194303).toInt ∧ (p2 &&& 4194303).toInt < 4194304
    omega
  obtain ⟨g1, g2, g3, g4⟩ := own_fixI _ _ hR hT
  have hF : (v0_8 p1 p2).toInt = 88 * (v0_2 p1).toInt + 12 * ((v0_2 p1).toInt * (v0_3 p2).toInt) := g1
  rw [← hF] at g2
  have hF2 : 0 ≤ (v0_8 p1 p2).toInt ∧ (v0_8 p1 p2).toInt ≤ 297000000000000000 := by omega
  have e1 := c_lsub (v0_1 q0) (v1_1 (v0_2 p1) (v0_3 p2)); have r1 := rng64 (v0_1 q0 - v1_1 (v0_2 p1) (v0_3 p2))
  have d1 : (v0_1 q0 - v1_1 (v0_2 p1) (v0_3 p2)).toInt = (v0_1 q0).toInt - (v0_8 p1 p2).toInt := by omega
  have e2 := c_ldiv (v0_1 q0 - v1_1 (v0_2 p1) (v0_3 p2)) 12 12 (by decide) (by decide)
  rw [d1] at e2
  have hr : (v0_7 q0 p1 p2).toInt = if 0 < ((v0_1 q0 - v1_1 (v0_2 p1) (v0_3 p2)) / 12).toInt then ((v0_1 q0 - v1_1 (v0_2 p1) (v0_3 p2)) / 12).toInt else 0 := by
    show (f1 (v0_1 q0) (v0_2 p1) (v0_3 p2)).toInt = _
    unfold f1 v1_6 f2 b2_3 v1_2
    simp only [Int64.lt_iff_toInt_lt, show (0 : Int64).toInt = 0 from rfl]
    split <;> rfl
  have z0 : (0 : Int64).toInt = 0 := rfl
  have z1 : (1 : Int64).toInt = 1 := rfl
  have z12 : (12 : Int64).toInt = 12 := rfl
  have z59 : (576460752303423488 : Int64).toInt = 576460752303423488 := rfl
  have a1 := c_ladd (v0_8 p1 p2) 12; have s1 := rng64 (v0_8 p1 p2 + 12)
  have hr2 : (0 ≤ (v0_1 q0).toInt - (v0_8 p1 p2).toInt → (v0_7 q0 p1 p2).toInt = ((v0_1 q0).toInt - (v0_8 p1 p2).toInt) / 12) ∧ ((v0_1 q0).toInt - (v0_8 p1 p2).toInt < 0 → (v0_7 q0 p1 p2).toInt = 0) := by
    rw [hr]; split <;> omega
  have a2 := c_lmul 12 (v0_7 q0 p1 p2); have s2 := rng64 (12 * v0_7 q0 p1 p2)
  rw [z12] at a2
  have a3 := c_ladd (v0_8 p1 p2) (12 * v0_7 q0 p1 p2); have s3 := rng64 (v0_8 p1 p2 + 12 * v0_7 q0 p1 p2)
  have a4 := c_ladd (v0_7 q0 p1 p2) 1; have s4 := rng64 (v0_7 q0 p1 p2 + 1)
  have a5 := c_lmul 12 (v0_7 q0 p1 p2 + 1); have s5 := rng64 (12 * (v0_7 q0 p1 p2 + 1))
  rw [z12] at a5
  have a6 := c_ladd (v0_8 p1 p2) (12 * (v0_7 q0 p1 p2 + 1)); have s6 := rng64 (v0_8 p1 p2 + 12 * (v0_7 q0 p1 p2 + 1))
  have hrb : 0 ≤ (v0_7 q0 p1 p2).toInt ∧ (v0_7 q0 p1 p2).toInt ≤ 400000000000000000 := by omega
  have b1 : (v0_8 p1 p2 + 12).toInt = (v0_8 p1 p2).toInt + 12 := by omega
  have b2 : (12 * v0_7 q0 p1 p2).toInt = 12 * (v0_7 q0 p1 p2).toInt := by omega
  have b3 : (v0_8 p1 p2 + 12 * v0_7 q0 p1 p2).toInt = (v0_8 p1 p2).toInt + 12 * (v0_7 q0 p1 p2).toInt := by omega
  have b4 : (v0_7 q0 p1 p2 + 1).toInt = (v0_7 q0 p1 p2).toInt + 1 := by omega
  have b5 : (12 * (v0_7 q0 p1 p2 + 1)).toInt = 12 * (v0_7 q0 p1 p2).toInt + 12 := by omega
  have b6 : (v0_8 p1 p2 + 12 * (v0_7 q0 p1 p2 + 1)).toInt = (v0_8 p1 p2).toInt + 12 * (v0_7 q0 p1 p2).toInt + 12 := by omega
  clear a1 a2 a3 a4 a5 a6 s1 s2 s3 s4 s5 s6 hr e1 e2 r1 d1 hb rb hF g1 g2
  simp only [f0, v0_15, b0_20, v0_23, v0_25, b0_28, Int64.lt_iff_toInt_lt, ← Int64.toInt_inj]
  (repeat' split) <;> first | rfl | (exfalso; omega)

theorem pn_46 : plainName "com/example/axiscope/axiscope/engine/NeighbourCandidatesEntriesWithinPinLaw" = true := by first | (simp [plainName, overriddenIn]; done) | decide +kernel
def Q0 (Z : State) (n0 : Nat) (q0 : Int64) (p1 : Int32) (p2 : Int32) (h0 : Heap) (v : Option Value) (h : Heap) (L : List Loc) : Prop := v = some (.int 1) ∧ Fr n0 L
theorem ef0 (m : MethodId) (q0 : Int64) (p1 : Int32) (p2 : Int32) : entryFrame m #[(.long q0), (.int p1), (.int p2)] maxLocals = mkF m 0 #[.val (.long q0), .second, .val (.int p1), .val (.int p2), .unset, .unset, .unset, .unset, .unset, .unset, .unset, .unset] [] := by first | (simp [entryFrame, mkF, argsToLocals, Value.category, maxLocals]; done) | rfl
set_option maxRecDepth 65536 in
set_option maxHeartbeats 40000000 in
theorem rm0 (l : Launch) (Z : State) (aZ : Array Value) (hw : ∀ d ∈ tables_1, d.before aZ Z = true) (ws : List Jvm.Cond) (q0 : Int64) (p1 : Int32) (p2 : Int32) (h0 : Heap) (n0 : Nat) (Z0 : n0 ≤ h0.size) :
    MetFree l x (head1 (Jvm.Cond.code x code maxLocals ret :: ws) room_1) (fun a U => a = #[(.long q0), (.int p1), (.int p2)] ∧ Z.Warmed39 U.vm ∧ U.heap = h0) (fun _ _ _ _ _ => True) (fun _ U o U' => ∃ v L, o = .returned v ∧ Q0 Z n0 q0 p1 p2 h0 v U'.heap L ∧ FrameEnd U o U' L room_1.cells room_1.slots) := by
  refine MetFree.of_bodySF (plainFor_of_name pn_46) hisR ?_
  intro p e s m args below meth c s₁ Bd hml0 hP hK
  obtain ⟨rfl, hZ, hh⟩ := hP
  have hx := Bd.exec
  have hby := Bd.bytes
  have hml : c.maxLocals = 12 := hml0
  have hown : s.vm.findClass "com/example/axiscope/axiscope/engine/NeighbourCandidatesEntriesWithinPinLaw" = some m.cls := findClass_of_methodNamed Bd.named
  have hnm := (name_of_methodNamed Bd.named Bd.method).1
  have X0 : Stand p l e room_1 s m #[(.long q0), (.int p1), (.int p2)] below meth c s₁ [] 0 0 := Stand.of_body Bd
  have e0 : s₁.heap = h0 := by rw [← hh, Bd.state]; rfl
  have N0 := Fr.nil n0
  have K0 : Keep h0 h0 [] := Keep.refl _ _
  have go0 : ∀ t, Steps p.tables e below (s₁.setTop (mkF m 0 #[.val (.long q0), .second, .val (.int p1), .val (.int p2), .unset, .unset, .unset, .unset, .unset, .unset, .unset, .unset] [])) t → Steps p.tables e below (s₁.setTop (entryFrame m #[(.long q0), (.int p1), (.int p2)] maxLocals)) t := fun t k => castTop (ef0 m q0 p1 p2) k
  have go4 : ∀ t, Steps p.tables e below (s₁.setTop (mkF m 23 #[.val (.long q0), .second, .val (.int p1), .val (.int p2), .val (.long (v0_1 q0)), .second, .val (.int (v0_2 p1)), .val (.int (v0_3 p2)), .unset, .unset, .unset, .unset] [(.int (v0_3 p2)), (.int (v0_2 p1)), (.long (v0_1 q0))])) t → Steps p.tables e below (s₁.setTop (entryFrame m #[(.long q0), (.int p1), (.int p2)] maxLocals)) t := by
    intro t k
    refine go0 _ ?_
    refine XS.lloadN X0.here hx rfl (hb hby at_0) rfl ?_
    show Steps p.tables e below (s₁.setTop (mkF m 1 #[.val (.long q0), .second, .val (.int p1), .val (.int p2), .unset, .unset, .unset, .unset, .unset, .unset, .unset, .unset] [(.long q0)])) t
    refine XS.iconst X0.here hx rfl (hb hby at_1) ?_
    show Steps p.tables e below (s₁.setTop (mkF m 2 #[.val (.long q0), .second, .val (.int p1), .val (.int p2), .unset, .unset, .unset, .unset, .unset, .unset, .unset, .unset] [(.int (1 : Int32)), (.long q0)])) t
    refine XS.lshr X0.here hx rfl (hb hby at_2) rfl ?_
    show Steps p.tables e below (s₁.setTop (mkF m 3 #[.val (.long q0), .second, .val (.int p1), .val (.int p2), .unset, .unset, .unset, .unset, .unset, .unset, .unset, .unset] [(.long (q0 >>> ((1 : Int32) &&& 0x3f).toInt64))])) t
    show Steps p.tables e below (s₁.setTop (mkF m 3 #[.val (.long q0), .second, .val (.int p1), .val (.int p2), .unset, .unset, .unset, .unset, .unset, .unset, .unset, .unset] [(.long (v0_1 q0))])) t
    refine XS.lstore X0.here hx rfl (hb hby at_3) rfl (l' := #[.val (.long q0), .second, .val (.int p1), .val (.int p2), .val (.long (v0_1 q0)), .second, .unset, .unset, .unset, .unset, .unset, .unset]) rfl ?_
    show Steps p.tables e below (s₁.setTop (mkF m 5 #[.val (.long q0), .second, .val (.int p1), .val (.int p2), .val (.long (v0_1 q0)), .second, .unset, .unset, .unset, .unset, .unset, .unset] [])) t
    refine XS.iloadN X0.here hx rfl (hb hby at_5) rfl ?_
    show Steps p.tables e below (s₁.setTop (mkF m 6 #[.val (.long q0), .second, .val (.int p1), .val (.int p2), .val (.long (v0_1 q0)), .second, .unset, .unset, .unset, .unset, .unset, .unset] [(.int p1)])) t
    refine X0.ldcInt hx hown (mvT hZ (hw _ (List.mem_of_getElem? (i := 0) rfl))) (g := (mkF m 6 #[.val (.long q0), .second, .val (.int p1), .val (.int p2), .val (.long (v0_1 q0)), .second, .unset, .unset, .unset, .unset, .unset, .unset] [(.int p1)])) rfl (hb hby at_6) _ ?_
    show Steps p.tables e below (s₁.setTop (mkF m 8 #[.val (.long q0), .second, .val (.int p1), .val (.int p2), .val (.long (v0_1 q0)), .second, .unset, .unset, .unset, .unset, .unset, .unset] [(.int (2147483647 : Int32)), (.int p1)])) t
    refine XS.iand X0.here hx rfl (hb hby at_8) rfl ?_
    show Steps p.tables e below (s₁.setTop (mkF m 9 #[.val (.long q0), .second, .val (.int p1), .val (.int p2), .val (.long (v0_1 q0)), .second, .unset, .unset, .unset, .unset, .unset, .unset] [(.int (p1 &&& (2147483647 : Int32)))])) t
    show Steps p.tables e below (s₁.setTop (mkF m 9 #[.val (.long q0), .second, .val (.int p1), .val (.int p2), .val (.long (v0_1 q0)), .second, .unset, .unset, .unset, .unset, .unset, .unset] [(.int (v0_2 p1))])) t
    refine XS.istore X0.here hx rfl (hb hby at_9) rfl (l' := #[.val (.long q0), .second, .val (.int p1), .val (.int p2), .val (.long (v0_1 q0)), .second, .val (.int (v0_2 p1)), .unset, .unset, .unset, .unset, .unset]) rfl ?_
    show Steps p.tables e below (s₁.setTop (mkF m 11 #[.val (.long q0), .second, .val (.int p1), .val (.int p2), .val (.long (v0_1 q0)), .second, .val (.int (v0_2 p1)), .unset, .unset, .unset, .unset, .unset] [])) t
    refine XS.iloadN X0.here hx rfl (hb hby at_11) rfl ?_
    show Steps p.tables e below (s₁.setTop (mkF m 12 #[.val (.long q0), .second, .val (.int p1), .val (.int p2), .val (.long (v0_1 q0)), .second, .val (.int (v0_2 p1)), .unset, .unset, .unset, .unset, .unset] [(.int p2)])) t
    refine X0.ldcInt hx hown (mvT hZ (hw _ (List.mem_of_getElem? (i := 1) rfl))) (g := (mkF m 12 #[.val (.long q0), .second, .val (.int p1), .val (.int p2), .val (.long (v0_1 q0)), .second, .val (.int (v0_2 p1)), .unset, .unset, .unset, .unset, .unset] [(.int p2)])) rfl (hb hby at_12) _ ?_
    show Steps p.tables e below (s₁.setTop (mkF m 14 #[.val (.long q0), .second, .val (.int p1), .val (.int p2), .val (.long (v0_1 q0)), .second, .val (.int (v0_2 p1)), .unset, .unset, .unset, .unset, .unset] [(.int (4194303 : Int32)), (.int p2)])) t
    refine XS.iand X0.here hx rfl (hb hby at_14) rfl ?_
    show Steps p.tables e below (s₁.setTop (mkF m 15 #[.val (.long q0), .second, .val (.int p1), .val (.int p2), .val (.long (v0_1 q0)), .second, .val (.int (v0_2 p1)), .unset, .unset, .unset, .unset, .unset] [(.int (p2 &&& (4194303 : Int32)))])) t
    show Steps p.tables e below (s₁.setTop (mkF m 15 #[.val (.long q0), .second, .val (.int p1), .val (.int p2), .val (.long (v0_1 q0)), .second, .val (.int (v0_2 p1)), .unset, .unset, .unset, .unset, .unset] [(.int (v0_3 p2))])) t
    refine XS.istore X0.here hx rfl (hb hby at_15) rfl (l' := #[.val (.long q0), .second, .val (.int p1), .val (.int p2), .val (.long (v0_1 q0)), .second, .val (.int (v0_2 p1)), .val (.int (v0_3 p2)), .unset, .unset, .unset, .unset]) rfl ?_
    show Steps p.tables e below (s₁.setTop (mkF m 17 #[.val (.long q0), .second, .val (.int p1), .val (.int p2), .val (.long (v0_1 q0)), .second, .val (.int (v0_2 p1)), .val (.int (v0_3 p2)), .unset, .unset, .unset, .unset] [])) t
    refine XS.lload X0.here hx rfl (hb hby at_17) rfl ?_
    show Steps p.tables e below (s₁.setTop (mkF m 19 #[.val (.long q0), .second, .val (.int p1), .val (.int p2), .val (.long (v0_1 q0)), .second, .val (.int (v0_2 p1)), .val (.int (v0_3 p2)), .unset, .unset, .unset, .unset] [(.long (v0_1 q0))])) t
    refine XS.iload X0.here hx rfl (hb hby at_19) rfl ?_
    show Steps p.tables e below (s₁.setTop (mkF m 21 #[.val (.long q0), .second, .val (.int p1), .val (.int p2), .val (.long (v0_1 q0)), .second, .val (.int (v0_2 p1)), .val (.int (v0_3 p2)), .unset, .unset, .unset, .unset] [(.int (v0_2 p1)), (.long (v0_1 q0))])) t
    refine XS.iload X0.here hx rfl (hb hby at_21) rfl ?_
    show Steps p.tables e below (s₁.setTop (mkF m 23 #[.val (.long q0), .second, .val (.int p1), .val (.int p2), .val (.long (v0_1 q0)), .second, .val (.int (v0_2 p1)), .val (.int (v0_3 p2)), .unset, .unset, .unset, .unset] [(.int (v0_3 p2)), (.int (v0_2 p1)), (.long (v0_1 q0))])) t
    exact k
  obtain ⟨_, _, ⟨T5, L5, k5, n5⟩, -, X5, ⟨Lc5, hQ5, l5, y5, z5⟩, st5⟩ := Jvm.LawKit.callS X0 hx (y := (⟨"com/example/axiscope/axiscope/engine/NeighbourCandidates", "entriesWithin", "(JII)J"⟩ : MethodName)) hown (mvT hZ (hw _ (List.mem_of_getElem? (i := 2) rfl))) (mvT hZ (hw _ (List.mem_of_getElem? (i := 3) rfl))) (mvT hZ (hw _ (List.mem_of_getElem? (i := 4) rfl))) (mvT hZ (hw _ (List.mem_of_getElem? (i := 5) rfl))) (by decide) (backOf (W := 0) (rm1 l Z aZ hw [] (v0_1 q0) (v0_2 p1) (v0_3 p2) h0 n0 Z0 ) hZ (hw _ (List.mem_of_getElem? (i := 5) rfl)) (hw _ (List.mem_of_getElem? (i := 4) rfl)) (by decide) (by decide)) (g := (mkF m 23 #[.val (.long q0), .second, .val (.int p1), .val (.int p2), .val (.long (v0_1 q0)), .second, .val (.int (v0_2 p1)), .val (.int (v0_3 p2)), .unset, .unset, .unset, .unset] [(.int (v0_3 p2)), (.int (v0_2 p1)), (.long (v0_1 q0))])) rfl (by rw [hml]; rfl) (argsL := [(.long (v0_1 q0)), (.int (v0_2 p1)), (.int (v0_3 p2))]) (rest := []) (lenOf pd_38 rfl) rfl (by show 2 * 0 + _ ≤ _; exact Nat.le_of_eq rfl) (hb hby at_23) (fun _ _ => ⟨rfl, e0, (by decide : 0 + 0 ≤ _), (by decide : 0 + 0 ≤ _)⟩)
  dsimp only [Pt.U, Pt.locs, Pt.cells, Pt.slots] at X5 l5 y5 z5 st5 hQ5
  subst l5 y5 z5
  obtain ⟨rfl, N5q, e5⟩ := hQ5
  have N5 := Fr.app N0 N5q
  have go6 : ∀ t, Steps p.tables e below (T5.setTop (mkF m 26 #[.val (.long q0), .second, .val (.int p1), .val (.int p2), .val (.long (v0_1 q0)), .second, .val (.int (v0_2 p1)), .val (.int (v0_3 p2)), .unset, .unset, .unset, .unset] [(.long (f1 (v0_1 q0) (v0_2 p1) (v0_3 p2)))])) t → Steps p.tables e below (s₁.setTop (entryFrame m #[(.long q0), (.int p1), (.int p2)] maxLocals)) t := fun t k => go4 _ (st5 _ k)
  have go9 : ∀ t, Steps p.tables e below (T5.setTop (mkF m 49 #[.val (.long q0), .second, .val (.int p1), .val (.int p2), .val (.long (v0_1 q0)), .second, .val (.int (v0_2 p1)), .val (.int (v0_3 p2)), .val (.long (v0_7 q0 p1 p2)), .second, .val (.long (v0_8 p1 p2)), .second] [(.int (XT.cmpL (v0_7 q0 p1 p2) (0 : Int64)))])) t → Steps p.tables e below (s₁.setTop (entryFrame m #[(.long q0), (.int p1), (.int p2)] maxLocals)) t := by
    intro t k
    refine go6 _ ?_
    show Steps p.tables e below (T5.setTop (mkF m 26 #[.val (.long q0), .second, .val (.int p1), .val (.int p2), .val (.long (v0_1 q0)), .second, .val (.int (v0_2 p1)), .val (.int (v0_3 p2)), .unset, .unset, .unset, .unset] [(.long (v0_7 q0 p1 p2))])) t
    refine XS.lstore X5.here hx rfl (hb hby at_26) rfl (l' := #[.val (.long q0), .second, .val (.int p1), .val (.int p2), .val (.long (v0_1 q0)), .second, .val (.int (v0_2 p1)), .val (.int (v0_3 p2)), .val (.long (v0_7 q0 p1 p2)), .second, .unset, .unset]) rfl ?_
    show Steps p.tables e below (T5.setTop (mkF m 28 #[.val (.long q0), .second, .val (.int p1), .val (.int p2), .val (.long (v0_1 q0)), .second, .val (.int (v0_2 p1)), .val (.int (v0_3 p2)), .val (.long (v0_7 q0 p1 p2)), .second, .unset, .unset] [])) t
    refine XS.iload X5.here hx rfl (hb hby at_28) rfl ?_
    show Steps p.tables e below (T5.setTop (mkF m 30 #[.val (.long q0), .second, .val (.int p1), .val (.int p2), .val (.long (v0_1 q0)), .second, .val (.int (v0_2 p1)), .val (.int (v0_3 p2)), .val (.long (v0_7 q0 p1 p2)), .second, .unset, .unset] [(.int (v0_2 p1))])) t
    refine XS.i2l X5.here hx rfl (hb hby at_30) rfl ?_
    show Steps p.tables e below (T5.setTop (mkF m 31 #[.val (.long q0), .second, .val (.int p1), .val (.int p2), .val (.long (v0_1 q0)), .second, .val (.int (v0_2 p1)), .val (.int (v0_3 p2)), .val (.long (v0_7 q0 p1 p2)), .second, .unset, .unset] [(.long (v0_2 p1).toInt64)])) t
    refine X5.ldc2Long hx hown (mvT hZ (hw _ (List.mem_of_getElem? (i := 12) rfl))) (g := (mkF m 31 #[.val (.long q0), .second, .val (.int p1), .val (.int p2), .val (.long (v0_1 q0)), .second, .val (.int (v0_2 p1)), .val (.int (v0_3 p2)), .val (.long (v0_7 q0 p1 p2)), .second, .unset, .unset] [(.long (v0_2 p1).toInt64)])) rfl (hb hby at_31) _ ?_
    show Steps p.tables e below (T5.setTop (mkF m 34 #[.val (.long q0), .second, .val (.int p1), .val (.int p2), .val (.long (v0_1 q0)), .second, .val (.int (v0_2 p1)), .val (.int (v0_3 p2)), .val (.long (v0_7 q0 p1 p2)), .second, .unset, .unset] [(.long (88 : Int64)), (.long (v0_2 p1).toInt64)])) t
    refine X5.ldc2Long hx hown (mvT hZ (hw _ (List.mem_of_getElem? (i := 13) rfl))) (g := (mkF m 34 #[.val (.long q0), .second, .val (.int p1), .val (.int p2), .val (.long (v0_1 q0)), .second, .val (.int (v0_2 p1)), .val (.int (v0_3 p2)), .val (.long (v0_7 q0 p1 p2)), .second, .unset, .unset] [(.long (88 : Int64)), (.long (v0_2 p1).toInt64)])) rfl (hb hby at_34) _ ?_
    show Steps p.tables e below (T5.setTop (mkF m 37 #[.val (.long q0), .second, .val (.int p1), .val (.int p2), .val (.long (v0_1 q0)), .second, .val (.int (v0_2 p1)), .val (.int (v0_3 p2)), .val (.long (v0_7 q0 p1 p2)), .second, .unset, .unset] [(.long (12 : Int64)), (.long (88 : Int64)), (.long (v0_2 p1).toInt64)])) t
    refine XS.iload X5.here hx rfl (hb hby at_37) rfl ?_
    show Steps p.tables e below (T5.setTop (mkF m 39 #[.val (.long q0), .second, .val (.int p1), .val (.int p2), .val (.long (v0_1 q0)), .second, .val (.int (v0_2 p1)), .val (.int (v0_3 p2)), .val (.long (v0_7 q0 p1 p2)), .second, .unset, .unset] [(.int (v0_3 p2)), (.long (12 : Int64)), (.long (88 : Int64)), (.long (v0_2 p1).toInt64)])) t
    refine XS.i2l X5.here hx rfl (hb hby at_39) rfl ?_
    show Steps p.tables e below (T5.setTop (mkF m 40 #[.val (.long q0), .second, .val (.int p1), .val (.int p2), .val (.long (v0_1 q0)), .second, .val (.int (v0_2 p1)), .val (.int (v0_3 p2)), .val (.long (v0_7 q0 p1 p2)), .second, .unset, .unset] [(.long (v0_3 p2).toInt64), (.long (12 : Int64)), (.long (88 : Int64)), (.long (v0_2 p1).toInt64)])) t
    refine XS.lmul X5.here hx rfl (hb hby at_40) rfl ?_
    show Steps p.tables e below (T5.setTop (mkF m 41 #[.val (.long q0), .second, .val (.int p1), .val (.int p2), .val (.long (v0_1 q0)), .second, .val (.int (v0_2 p1)), .val (.int (v0_3 p2)), .val (.long (v0_7 q0 p1 p2)), .second, .unset, .unset] [(.long ((12 : Int64) * (v0_3 p2).toInt64)), (.long (88 : Int64)), (.long (v0_2 p1).toInt64)])) t
    refine XS.ladd X5.here hx rfl (hb hby at_41) rfl ?_
    show Steps p.tables e below (T5.setTop (mkF m 42 #[.val (.long q0), .second, .val (.int p1), .val (.int p2), .val (.long (v0_1 q0)), .second, .val (.int (v0_2 p1)), .val (.int (v0_3 p2)), .val (.long (v0_7 q0 p1 p2)), .second, .unset, .unset] [(.long ((88 : Int64) + ((12 : Int64) * (v0_3 p2).toInt64))), (.long (v0_2 p1).toInt64)])) t
    refine XS.lmul X5.here hx rfl (hb hby at_42) rfl ?_
    show Steps p.tables e below (T5.setTop (mkF m 43 #[.val (.long q0), .second, .val (.int p1), .val (.int p2), .val (.long (v0_1 q0)), .second, .val (.int (v0_2 p1)), .val (.int (v0_3 p2)), .val (.long (v0_7 q0 p1 p2)), .second, .unset, .unset] [(.long ((v0_2 p1).toInt64 * ((88 : Int64) + ((12 : Int64) * (v0_3 p2).toInt64))))])) t
    show Steps p.tables e below (T5.setTop (mkF m 43 #[.val (.long q0), .second, .val (.int p1), .val (.int p2), .val (.long (v0_1 q0)), .second, .val (.int (v0_2 p1)), .val (.int (v0_3 p2)), .val (.long (v0_7 q0 p1 p2)), .second, .unset, .unset] [(.long (v0_8 p1 p2))])) t
    refine XS.lstore X5.here hx rfl (hb hby at_43) rfl (l' := #[.val (.long q0), .second, .val (.int p1), .val (.int p2), .val (.long (v0_1 q0)), .second, .val (.int (v0_2 p1)), .val (.int (v0_3 p2)), .val (.long (v0_7 q0 p1 p2)), .second, .val (.long (v0_8 p1 p2)), .second]) rfl ?_
    show Steps p.tables e below (T5.setTop (mkF m 45 #[.val (.long q0), .second, .val (.int p1), .val (.int p2), .val (.long (v0_1 q0)), .second, .val (.int (v0_2 p1)), .val (.int (v0_3 p2)), .val (.long (v0_7 q0 p1 p2)), .second, .val (.long (v0_8 p1 p2)), .second] [])) t
    refine XS.lload X5.here hx rfl (hb hby at_45) rfl ?_
    show Steps p.tables e below (T5.setTop (mkF m 47 #[.val (.long q0), .second, .val (.int p1), .val (.int p2), .val (.long (v0_1 q0)), .second, .val (.int (v0_2 p1)), .val (.int (v0_3 p2)), .val (.long (v0_7 q0 p1 p2)), .second, .val (.long (v0_8 p1 p2)), .second] [(.long (v0_7 q0 p1 p2))])) t
    refine XS.lconst X5.here hx rfl (hb hby at_47) ?_
    show Steps p.tables e below (T5.setTop (mkF m 48 #[.val (.long q0), .second, .val (.int p1), .val (.int p2), .val (.long (v0_1 q0)), .second, .val (.int (v0_2 p1)), .val (.int (v0_3 p2)), .val (.long (v0_7 q0 p1 p2)), .second, .val (.long (v0_8 p1 p2)), .second] [(.long (0 : Int64)), (.long (v0_7 q0 p1 p2))])) t
    refine XT.lcmp X5.here hx rfl (hb hby at_48) rfl ?_
    show Steps p.tables e below (T5.setTop (mkF m 49 #[.val (.long q0), .second, .val (.int p1), .val (.int p2), .val (.long (v0_1 q0)), .second, .val (.int (v0_2 p1)), .val (.int (v0_3 p2)), .val (.long (v0_7 q0 p1 p2)), .second, .val (.long (v0_8 p1 p2)), .second] [(.int (XT.cmpL (v0_7 q0 p1 p2) (0 : Int64)))])) t
    exact k
  by_cases hs10 : (v0_7 q0 p1 p2) < (0 : Int64)
  · have go11 : ∀ t, Steps p.tables e below (T5.setTop (mkF m 62 #[.val (.long q0), .second, .val (.int p1), .val (.int p2), .val (.long (v0_1 q0)), .second, .val (.int (v0_2 p1)), .val (.int (v0_3 p2)), .val (.long (v0_7 q0 p1 p2)), .second, .val (.long (v0_8 p1 p2)), .second] [(.int (0 : Int32))])) t → Steps p.tables e below (s₁.setTop (entryFrame m #[(.long q0), (.int p1), (.int p2)] maxLocals)) t := by
      intro t k
      refine go9 _ ?_
      refine XS.ifYes X5.here hx rfl (pc0 := 49) (pc' := 61) rfl (hb hby at_49) rfl (XT.ll_lt_t hs10) (by decide) (by decide) ?_
      show Steps p.tables e below (T5.setTop (mkF m 61 #[.val (.long q0), .second, .val (.int p1), .val (.int p2), .val (.long (v0_1 q0)), .second, .val (.int (v0_2 p1)), .val (.int (v0_3 p2)), .val (.long (v0_7 q0 p1 p2)), .second, .val (.long (v0_8 p1 p2)), .second] [])) t
      refine XS.iconst X5.here hx rfl (hb hby at_61) ?_
      show Steps p.tables e below (T5.setTop (mkF m 62 #[.val (.long q0), .second, .val (.int p1), .val (.int p2), .val (.long (v0_1 q0)), .second, .val (.int (v0_2 p1)), .val (.int (v0_3 p2)), .val (.long (v0_7 q0 p1 p2)), .second, .val (.long (v0_8 p1 p2)), .second] [(.int (0 : Int32))])) t
      exact k
    obtain ⟨fs, hr, hrun, hended, hW, hsame⟩ := X5.leave (v := some (.int (0 : Int32))) (fun h => by rw [Bd.returns] at h; cases h)
    refine ⟨_, _, go11 _ (Jvm.RoadKit.retOut X5 hx Bd.returns rfl (Or.inl ⟨rfl, Or.inr (Or.inl rfl), _, rfl⟩) (hb hby at_62) hr), hrun, hended, _, _, rfl, ?_, ⟨_, rfl⟩, hW, hsame.mono (by decide) (by decide)⟩
    show Q0 _ _ q0 p1 p2 h0 _ (T5.setFrames fs).heap _
    have hE : (T5.setFrames fs).heap = h0 := e5
    rw [hE]
    exact ⟨congrArg (fun z => some (Value.int z)) ((by rw [f0, if_pos hs10] : (0 : Int32) = (f0 q0 p1 p2)).trans (f0_one q0 p1 p2)), N5⟩
  · have go12 : ∀ t, Steps p.tables e below (T5.setTop (mkF m 58 #[.val (.long q0), .second, .val (.int p1), .val (.int p2), .val (.long (v0_1 q0)), .second, .val (.int (v0_2 p1)), .val (.int (v0_3 p2)), .val (.long (v0_7 q0 p1 p2)), .second, .val (.long (v0_8 p1 p2)), .second] [(.int (XT.cmpL (v0_7 q0 p1 p2) (576460752303423488 : Int64)))])) t → Steps p.tables e below (s₁.setTop (entryFrame m #[(.long q0), (.int p1), (.int p2)] maxLocals)) t := by
      intro t k
      refine go9 _ ?_
      refine XS.ifNo X5.here hx rfl (hb hby at_49) rfl (XT.ll_lt_f hs10) ?_
      show Steps p.tables e below (T5.setTop (mkF m 52 #[.val (.long q0), .second, .val (.int p1), .val (.int p2), .val (.long (v0_1 q0)), .second, .val (.int (v0_2 p1)), .val (.int (v0_3 p2)), .val (.long (v0_7 q0 p1 p2)), .second, .val (.long (v0_8 p1 p2)), .second] [])) t
      refine XS.lload X5.here hx rfl (hb hby at_52) rfl ?_
      show Steps p.tables e below (T5.setTop (mkF m 54 #[.val (.long q0), .second, .val (.int p1), .val (.int p2), .val (.long (v0_1 q0)), .second, .val (.int (v0_2 p1)), .val (.int (v0_3 p2)), .val (.long (v0_7 q0 p1 p2)), .second, .val (.long (v0_8 p1 p2)), .second] [(.long (v0_7 q0 p1 p2))])) t
      refine X5.ldc2Long hx hown (mvT hZ (hw _ (List.mem_of_getElem? (i := 14) rfl))) (g := (mkF m 54 #[.val (.long q0), .second, .val (.int p1), .val (.int p2), .val (.long (v0_1 q0)), .second, .val (.int (v0_2 p1)), .val (.int (v0_3 p2)), .val (.long (v0_7 q0 p1 p2)), .second, .val (.long (v0_8 p1 p2)), .second] [(.long (v0_7 q0 p1 p2))])) rfl (hb hby at_54) _ ?_
      show Steps p.tables e below (T5.setTop (mkF m 57 #[.val (.long q0), .second, .val (.int p1), .val (.int p2), .val (.long (v0_1 q0)), .second, .val (.int (v0_2 p1)), .val (.int (v0_3 p2)), .val (.long (v0_7 q0 p1 p2)), .second, .val (.long (v0_8 p1 p2)), .second] [(.long (576460752303423488 : Int64)), (.long (v0_7 q0 p1 p2))])) t
      refine XT.lcmp X5.here hx rfl (hb hby at_57) rfl ?_
      show Steps p.tables e below (T5.setTop (mkF m 58 #[.val (.long q0), .second, .val (.int p1), .val (.int p2), .val (.long (v0_1 q0)), .second, .val (.int (v0_2 p1)), .val (.int (v0_3 p2)), .val (.long (v0_7 q0 p1 p2)), .second, .val (.long (v0_8 p1 p2)), .second] [(.int (XT.cmpL (v0_7 q0 p1 p2) (576460752303423488 : Int64)))])) t
      exact k
    by_cases hs13 : (576460752303423488 : Int64) < (v0_7 q0 p1 p2)
    · have go14 : ∀ t, Steps p.tables e below (T5.setTop (mkF m 62 #[.val (.long q0), .second, .val (.int p1), .val (.int p2), .val (.long (v0_1 q0)), .second, .val (.int (v0_2 p1)), .val (.int (v0_3 p2)), .val (.long (v0_7 q0 p1 p2)), .second, .val (.long (v0_8 p1 p2)), .second] [(.int (0 : Int32))])) t → Steps p.tables e below (s₁.setTop (entryFrame m #[(.long q0), (.int p1), (.int p2)] maxLocals)) t := by
        intro t k
        refine go12 _ ?_
        refine XS.ifNo X5.here hx rfl (hb hby at_58) rfl (XT.ll_le_f hs13) ?_
        show Steps p.tables e below (T5.setTop (mkF m 61 #[.val (.long q0), .second, .val (.int p1), .val (.int p2), .val (.long (v0_1 q0)), .second, .val (.int (v0_2 p1)), .val (.int (v0_3 p2)), .val (.long (v0_7 q0 p1 p2)), .second, .val (.long (v0_8 p1 p2)), .second] [])) t
        refine XS.iconst X5.here hx rfl (hb hby at_61) ?_
        show Steps p.tables e below (T5.setTop (mkF m 62 #[.val (.long q0), .second, .val (.int p1), .val (.int p2), .val (.long (v0_1 q0)), .second, .val (.int (v0_2 p1)), .val (.int (v0_3 p2)), .val (.long (v0_7 q0 p1 p2)), .second, .val (.long (v0_8 p1 p2)), .second] [(.int (0 : Int32))])) t
        exact k
      obtain ⟨fs, hr, hrun, hended, hW, hsame⟩ := X5.leave (v := some (.int (0 : Int32))) (fun h => by rw [Bd.returns] at h; cases h)
      refine ⟨_, _, go14 _ (Jvm.RoadKit.retOut X5 hx Bd.returns rfl (Or.inl ⟨rfl, Or.inr (Or.inl rfl), _, rfl⟩) (hb hby at_62) hr), hrun, hended, _, _, rfl, ?_, ⟨_, rfl⟩, hW, hsame.mono (by decide) (by decide)⟩
      show Q0 _ _ q0 p1 p2 h0 _ (T5.setFrames fs).heap _
      have hE : (T5.setFrames fs).heap = h0 := e5
      rw [hE]
      exact ⟨congrArg (fun z => some (Value.int z)) ((by rw [f0, if_neg hs10, if_pos hs13] : (0 : Int32) = (f0 q0 p1 p2)).trans (f0_one q0 p1 p2)), N5⟩
    · have go16 : ∀ t, Steps p.tables e below (T5.setTop (mkF m 72 #[.val (.long q0), .second, .val (.int p1), .val (.int p2), .val (.long (v0_1 q0)), .second, .val (.int (v0_2 p1)), .val (.int (v0_3 p2)), .val (.long (v0_7 q0 p1 p2)), .second, .val (.long (v0_8 p1 p2)), .second] [(.int (XT.cmpL (v0_1 q0) (v0_15 p1 p2)))])) t → Steps p.tables e below (s₁.setTop (entryFrame m #[(.long q0), (.int p1), (.int p2)] maxLocals)) t := by
        intro t k
        refine go12 _ ?_
        refine XS.ifYes X5.here hx rfl (pc0 := 58) (pc' := 63) rfl (hb hby at_58) rfl (XT.ll_le_t hs13) (by decide) (by decide) ?_
        show Steps p.tables e below (T5.setTop (mkF m 63 #[.val (.long q0), .second, .val (.int p1), .val (.int p2), .val (.long (v0_1 q0)), .second, .val (.int (v0_2 p1)), .val (.int (v0_3 p2)), .val (.long (v0_7 q0 p1 p2)), .second, .val (.long (v0_8 p1 p2)), .second] [])) t
        refine XS.lload X5.here hx rfl (hb hby at_63) rfl ?_
        show Steps p.tables e below (T5.setTop (mkF m 65 #[.val (.long q0), .second, .val (.int p1), .val (.int p2), .val (.long (v0_1 q0)), .second, .val (.int (v0_2 p1)), .val (.int (v0_3 p2)), .val (.long (v0_7 q0 p1 p2)), .second, .val (.long (v0_8 p1 p2)), .second] [(.long (v0_1 q0))])) t
        refine XS.lload X5.here hx rfl (hb hby at_65) rfl ?_
        show Steps p.tables e below (T5.setTop (mkF m 67 #[.val (.long q0), .second, .val (.int p1), .val (.int p2), .val (.long (v0_1 q0)), .second, .val (.int (v0_2 p1)), .val (.int (v0_3 p2)), .val (.long (v0_7 q0 p1 p2)), .second, .val (.long (v0_8 p1 p2)), .second] [(.long (v0_8 p1 p2)), (.long (v0_1 q0))])) t
        refine X5.ldc2Long hx hown (mvT hZ (hw _ (List.mem_of_getElem? (i := 13) rfl))) (g := (mkF m 67 #[.val (.long q0), .second, .val (.int p1), .val (.int p2), .val (.long (v0_1 q0)), .second, .val (.int (v0_2 p1)), .val (.int (v0_3 p2)), .val (.long (v0_7 q0 p1 p2)), .second, .val (.long (v0_8 p1 p2)), .second] [(.long (v0_8 p1 p2)), (.long (v0_1 q0))])) rfl (hb hby at_67) _ ?_
        show Steps p.tables e below (T5.setTop (mkF m 70 #[.val (.long q0), .second, .val (.int p1), .val (.int p2), .val (.long (v0_1 q0)), .second, .val (.int (v0_2 p1)), .val (.int (v0_3 p2)), .val (.long (v0_7 q0 p1 p2)), .second, .val (.long (v0_8 p1 p2)), .second] [(.long (12 : Int64)), (.long (v0_8 p1 p2)), (.long (v0_1 q0))])) t
        refine XS.ladd X5.here hx rfl (hb hby at_70) rfl ?_
        show Steps p.tables e below (T5.setTop (mkF m 71 #[.val (.long q0), .second, .val (.int p1), .val (.int p2), .val (.long (v0_1 q0)), .second, .val (.int (v0_2 p1)), .val (.int (v0_3 p2)), .val (.long (v0_7 q0 p1 p2)), .second, .val (.long (v0_8 p1 p2)), .second] [(.long ((v0_8 p1 p2) + (12 : Int64))), (.long (v0_1 q0))])) t
        refine XT.lcmp X5.here hx rfl (hb hby at_71) rfl ?_
        show Steps p.tables e below (T5.setTop (mkF m 72 #[.val (.long q0), .second, .val (.int p1), .val (.int p2), .val (.long (v0_1 q0)), .second, .val (.int (v0_2 p1)), .val (.int (v0_3 p2)), .val (.long (v0_7 q0 p1 p2)), .second, .val (.long (v0_8 p1 p2)), .second] [(.int (XT.cmpL (v0_1 q0) (v0_15 p1 p2)))])) t
        exact k
      by_cases hs17 : (v0_1 q0) < (v0_15 p1 p2)
      · have go19 : ∀ t, Steps p.tables e below (T5.setTop (mkF m 87 #[.val (.long q0), .second, .val (.int p1), .val (.int p2), .val (.long (v0_1 q0)), .second, .val (.int (v0_2 p1)), .val (.int (v0_3 p2)), .val (.long (v0_7 q0 p1 p2)), .second, .val (.long (v0_8 p1 p2)), .second] [(.int (b0_20 q0 p1 p2))])) t → Steps p.tables e below (s₁.setTop (entryFrame m #[(.long q0), (.int p1), (.int p2)] maxLocals)) t := by
          intro t k
          refine go16 _ ?_
          refine XS.ifNo X5.here hx rfl (hb hby at_72) rfl (XT.ll_ge_f hs17) ?_
          show Steps p.tables e below (T5.setTop (mkF m 75 #[.val (.long q0), .second, .val (.int p1), .val (.int p2), .val (.long (v0_1 q0)), .second, .val (.int (v0_2 p1)), .val (.int (v0_3 p2)), .val (.long (v0_7 q0 p1 p2)), .second, .val (.long (v0_8 p1 p2)), .second] [])) t
          refine XS.lload X5.here hx rfl (hb hby at_75) rfl ?_
          show Steps p.tables e below (T5.setTop (mkF m 77 #[.val (.long q0), .second, .val (.int p1), .val (.int p2), .val (.long (v0_1 q0)), .second, .val (.int (v0_2 p1)), .val (.int (v0_3 p2)), .val (.long (v0_7 q0 p1 p2)), .second, .val (.long (v0_8 p1 p2)), .second] [(.long (v0_7 q0 p1 p2))])) t
          refine XS.lconst X5.here hx rfl (hb hby at_77) ?_
          show Steps p.tables e below (T5.setTop (mkF m 78 #[.val (.long q0), .second, .val (.int p1), .val (.int p2), .val (.long (v0_1 q0)), .second, .val (.int (v0_2 p1)), .val (.int (v0_3 p2)), .val (.long (v0_7 q0 p1 p2)), .second, .val (.long (v0_8 p1 p2)), .second] [(.long (0 : Int64)), (.long (v0_7 q0 p1 p2))])) t
          refine XT.lcmp X5.here hx rfl (hb hby at_78) rfl ?_
          show Steps p.tables e below (T5.setTop (mkF m 79 #[.val (.long q0), .second, .val (.int p1), .val (.int p2), .val (.long (v0_1 q0)), .second, .val (.int (v0_2 p1)), .val (.int (v0_3 p2)), .val (.long (v0_7 q0 p1 p2)), .second, .val (.long (v0_8 p1 p2)), .second] [(.int (XT.cmpL (v0_7 q0 p1 p2) (0 : Int64)))])) t
          by_cases hc18 : (v0_7 q0 p1 p2) = (0 : Int64)
          · refine XS.ifNo X5.here hx rfl (hb hby at_79) rfl (XT.ll_ne_f hc18) ?_
            show Steps p.tables e below (T5.setTop (mkF m 82 #[.val (.long q0), .second, .val (.int p1), .val (.int p2), .val (.long (v0_1 q0)), .second, .val (.int (v0_2 p1)), .val (.int (v0_3 p2)), .val (.long (v0_7 q0 p1 p2)), .second, .val (.long (v0_8 p1 p2)), .second] [])) t
            refine XS.iconst X5.here hx rfl (hb hby at_82) ?_
            show Steps p.tables e below (T5.setTop (mkF m 83 #[.val (.long q0), .second, .val (.int p1), .val (.int p2), .val (.long (v0_1 q0)), .second, .val (.int (v0_2 p1)), .val (.int (v0_3 p2)), .val (.long (v0_7 q0 p1 p2)), .second, .val (.long (v0_8 p1 p2)), .second] [(.int (1 : Int32))])) t
            refine XS.goto X5.here hx rfl (pc0 := 83) (pc' := 87) rfl (hb hby at_83) (by decide) (by decide) ?_
            show Steps p.tables e below (T5.setTop (mkF m 87 #[.val (.long q0), .second, .val (.int p1), .val (.int p2), .val (.long (v0_1 q0)), .second, .val (.int (v0_2 p1)), .val (.int (v0_3 p2)), .val (.long (v0_7 q0 p1 p2)), .second, .val (.long (v0_8 p1 p2)), .second] [(.int (1 : Int32))])) t
            have hq21 : (b0_20 q0 p1 p2) = (1 : Int32) := by rw [b0_20, if_pos hc18]
            rw [hq21] at k
            exact k
          · refine XS.ifYes X5.here hx rfl (pc0 := 79) (pc' := 86) rfl (hb hby at_79) rfl (XT.ll_ne_t hc18) (by decide) (by decide) ?_
            show Steps p.tables e below (T5.setTop (mkF m 86 #[.val (.long q0), .second, .val (.int p1), .val (.int p2), .val (.long (v0_1 q0)), .second, .val (.int (v0_2 p1)), .val (.int (v0_3 p2)), .val (.long (v0_7 q0 p1 p2)), .second, .val (.long (v0_8 p1 p2)), .second] [])) t
            refine XS.iconst X5.here hx rfl (hb hby at_86) ?_
            show Steps p.tables e below (T5.setTop (mkF m 87 #[.val (.long q0), .second, .val (.int p1), .val (.int p2), .val (.long (v0_1 q0)), .second, .val (.int (v0_2 p1)), .val (.int (v0_3 p2)), .val (.long (v0_7 q0 p1 p2)), .second, .val (.long (v0_8 p1 p2)), .second] [(.int (0 : Int32))])) t
            have hq22 : (b0_20 q0 p1 p2) = (0 : Int32) := by rw [b0_20, if_neg hc18]
            rw [hq22] at k
            exact k
        obtain ⟨fs, hr, hrun, hended, hW, hsame⟩ := X5.leave (v := some (.int (b0_20 q0 p1 p2))) (fun h => by rw [Bd.returns] at h; cases h)
        refine ⟨_, _, go19 _ (Jvm.RoadKit.retOut X5 hx Bd.returns (own_nz (by unfold b0_20; (repeat' split) <;> first | exact Or.inl rfl | exact Or.inr rfl)) (Or.inl ⟨rfl, Or.inr (Or.inl rfl), _, rfl⟩) (hb hby at_87) hr), hrun, hended, _, _, rfl, ?_, ⟨_, rfl⟩, hW, hsame.mono (by decide) (by decide)⟩
        show Q0 _ _ q0 p1 p2 h0 _ (T5.setFrames fs).heap _
        have hE : (T5.setFrames fs).heap = h0 := e5
        rw [hE]
        exact ⟨congrArg (fun z => some (Value.int z)) ((by rw [f0, if_neg hs10, if_neg hs13, if_pos hs17] : (b0_20 q0 p1 p2) = (f0 q0 p1 p2)).trans (f0_one q0 p1 p2)), N5⟩
      · have go27 : ∀ t, Steps p.tables e below (T5.setTop (mkF m 125 #[.val (.long q0), .second, .val (.int p1), .val (.int p2), .val (.long (v0_1 q0)), .second, .val (.int (v0_2 p1)), .val (.int (v0_3 p2)), .val (.long (v0_7 q0 p1 p2)), .second, .val (.long (v0_8 p1 p2)), .second] [(.int (b0_28 q0 p1 p2))])) t → Steps p.tables e below (s₁.setTop (entryFrame m #[(.long q0), (.int p1), (.int p2)] maxLocals)) t := by
          intro t k
          refine go16 _ ?_
          refine XS.ifYes X5.here hx rfl (pc0 := 72) (pc' := 88) rfl (hb hby at_72) rfl (XT.ll_ge_t hs17) (by decide) (by decide) ?_
          show Steps p.tables e below (T5.setTop (mkF m 88 #[.val (.long q0), .second, .val (.int p1), .val (.int p2), .val (.long (v0_1 q0)), .second, .val (.int (v0_2 p1)), .val (.int (v0_3 p2)), .val (.long (v0_7 q0 p1 p2)), .second, .val (.long (v0_8 p1 p2)), .second] [])) t
          refine XS.lload X5.here hx rfl (hb hby at_88) rfl ?_
          show Steps p.tables e below (T5.setTop (mkF m 90 #[.val (.long q0), .second, .val (.int p1), .val (.int p2), .val (.long (v0_1 q0)), .second, .val (.int (v0_2 p1)), .val (.int (v0_3 p2)), .val (.long (v0_7 q0 p1 p2)), .second, .val (.long (v0_8 p1 p2)), .second] [(.long (v0_8 p1 p2))])) t
          refine X5.ldc2Long hx hown (mvT hZ (hw _ (List.mem_of_getElem? (i := 13) rfl))) (g := (mkF m 90 #[.val (.long q0), .second, .val (.int p1), .val (.int p2), .val (.long (v0_1 q0)), .second, .val (.int (v0_2 p1)), .val (.int (v0_3 p2)), .val (.long (v0_7 q0 p1 p2)), .second, .val (.long (v0_8 p1 p2)), .second] [(.long (v0_8 p1 p2))])) rfl (hb hby at_90) _ ?_
          show Steps p.tables e below (T5.setTop (mkF m 93 #[.val (.long q0), .second, .val (.int p1), .val (.int p2), .val (.long (v0_1 q0)), .second, .val (.int (v0_2 p1)), .val (.int (v0_3 p2)), .val (.long (v0_7 q0 p1 p2)), .second, .val (.long (v0_8 p1 p2)), .second] [(.long (12 : Int64)), (.long (v0_8 p1 p2))])) t
          refine XS.lload X5.here hx rfl (hb hby at_93) rfl ?_
          show Steps p.tables e below (T5.setTop (mkF m 95 #[.val (.long q0), .second, .val (.int p1), .val (.int p2), .val (.long (v0_1 q0)), .second, .val (.int (v0_2 p1)), .val (.int (v0_3 p2)), .val (.long (v0_7 q0 p1 p2)), .second, .val (.long (v0_8 p1 p2)), .second] [(.long (v0_7 q0 p1 p2)), (.long (12 : Int64)), (.long (v0_8 p1 p2))])) t
          refine XS.lmul X5.here hx rfl (hb hby at_95) rfl ?_
          show Steps p.tables e below (T5.setTop (mkF m 96 #[.val (.long q0), .second, .val (.int p1), .val (.int p2), .val (.long (v0_1 q0)), .second, .val (.int (v0_2 p1)), .val (.int (v0_3 p2)), .val (.long (v0_7 q0 p1 p2)), .second, .val (.long (v0_8 p1 p2)), .second] [(.long ((12 : Int64) * (v0_7 q0 p1 p2))), (.long (v0_8 p1 p2))])) t
          refine XS.ladd X5.here hx rfl (hb hby at_96) rfl ?_
          show Steps p.tables e below (T5.setTop (mkF m 97 #[.val (.long q0), .second, .val (.int p1), .val (.int p2), .val (.long (v0_1 q0)), .second, .val (.int (v0_2 p1)), .val (.int (v0_3 p2)), .val (.long (v0_7 q0 p1 p2)), .second, .val (.long (v0_8 p1 p2)), .second] [(.long ((v0_8 p1 p2) + ((12 : Int64) * (v0_7 q0 p1 p2))))])) t
          refine XS.lload X5.here hx rfl (hb hby at_97) rfl ?_
          show Steps p.tables e below (T5.setTop (mkF m 99 #[.val (.long q0), .second, .val (.int p1), .val (.int p2), .val (.long (v0_1 q0)), .second, .val (.int (v0_2 p1)), .val (.int (v0_3 p2)), .val (.long (v0_7 q0 p1 p2)), .second, .val (.long (v0_8 p1 p2)), .second] [(.long (v0_1 q0)), (.long ((v0_8 p1 p2) + ((12 : Int64) * (v0_7 q0 p1 p2))))])) t
          refine XT.lcmp X5.here hx rfl (hb hby at_99) rfl ?_
          show Steps p.tables e below (T5.setTop (mkF m 100 #[.val (.long q0), .second, .val (.int p1), .val (.int p2), .val (.long (v0_1 q0)), .second, .val (.int (v0_2 p1)), .val (.int (v0_3 p2)), .val (.long (v0_7 q0 p1 p2)), .second, .val (.long (v0_8 p1 p2)), .second] [(.int (XT.cmpL (v0_23 q0 p1 p2) (v0_1 q0)))])) t
          by_cases hc24 : (v0_1 q0) < (v0_23 q0 p1 p2)
          · refine XS.ifYes X5.here hx rfl (pc0 := 100) (pc' := 124) rfl (hb hby at_100) rfl (XT.ll_gt_t hc24) (by decide) (by decide) ?_
            show Steps p.tables e below (T5.setTop (mkF m 124 #[.val (.long q0), .second, .val (.int p1), .val (.int p2), .val (.long (v0_1 q0)), .second, .val (.int (v0_2 p1)), .val (.int (v0_3 p2)), .val (.long (v0_7 q0 p1 p2)), .second, .val (.long (v0_8 p1 p2)), .second] [])) t
            refine XS.iconst X5.here hx rfl (hb hby at_124) ?_
            show Steps p.tables e below (T5.setTop (mkF m 125 #[.val (.long q0), .second, .val (.int p1), .val (.int p2), .val (.long (v0_1 q0)), .second, .val (.int (v0_2 p1)), .val (.int (v0_3 p2)), .val (.long (v0_7 q0 p1 p2)), .second, .val (.long (v0_8 p1 p2)), .second] [(.int (0 : Int32))])) t
            have hq29 : (b0_28 q0 p1 p2) = (0 : Int32) := by rw [b0_28, if_pos hc24]
            rw [hq29] at k
            exact k
          · refine XS.ifNo X5.here hx rfl (hb hby at_100) rfl (XT.ll_gt_f hc24) ?_
            show Steps p.tables e below (T5.setTop (mkF m 103 #[.val (.long q0), .second, .val (.int p1), .val (.int p2), .val (.long (v0_1 q0)), .second, .val (.int (v0_2 p1)), .val (.int (v0_3 p2)), .val (.long (v0_7 q0 p1 p2)), .second, .val (.long (v0_8 p1 p2)), .second] [])) t
            refine XS.lload X5.here hx rfl (hb hby at_103) rfl ?_
            show Steps p.tables e below (T5.setTop (mkF m 105 #[.val (.long q0), .second, .val (.int p1), .val (.int p2), .val (.long (v0_1 q0)), .second, .val (.int (v0_2 p1)), .val (.int (v0_3 p2)), .val (.long (v0_7 q0 p1 p2)), .second, .val (.long (v0_8 p1 p2)), .second] [(.long (v0_1 q0))])) t
            refine XS.lload X5.here hx rfl (hb hby at_105) rfl ?_
            show Steps p.tables e below (T5.setTop (mkF m 107 #[.val (.long q0), .second, .val (.int p1), .val (.int p2), .val (.long (v0_1 q0)), .second, .val (.int (v0_2 p1)), .val (.int (v0_3 p2)), .val (.long (v0_7 q0 p1 p2)), .second, .val (.long (v0_8 p1 p2)), .second] [(.long (v0_8 p1 p2)), (.long (v0_1 q0))])) t
            refine X5.ldc2Long hx hown (mvT hZ (hw _ (List.mem_of_getElem? (i := 13) rfl))) (g := (mkF m 107 #[.val (.long q0), .second, .val (.int p1), .val (.int p2), .val (.long (v0_1 q0)), .second, .val (.int (v0_2 p1)), .val (.int (v0_3 p2)), .val (.long (v0_7 q0 p1 p2)), .second, .val (.long (v0_8 p1 p2)), .second] [(.long (v0_8 p1 p2)), (.long (v0_1 q0))])) rfl (hb hby at_107) _ ?_
            show Steps p.tables e below (T5.setTop (mkF m 110 #[.val (.long q0), .second, .val (.int p1), .val (.int p2), .val (.long (v0_1 q0)), .second, .val (.int (v0_2 p1)), .val (.int (v0_3 p2)), .val (.long (v0_7 q0 p1 p2)), .second, .val (.long (v0_8 p1 p2)), .second] [(.long (12 : Int64)), (.long (v0_8 p1 p2)), (.long (v0_1 q0))])) t
            refine XS.lload X5.here hx rfl (hb hby at_110) rfl ?_
            show Steps p.tables e below (T5.setTop (mkF m 112 #[.val (.long q0), .second, .val (.int p1), .val (.int p2), .val (.long (v0_1 q0)), .second, .val (.int (v0_2 p1)), .val (.int (v0_3 p2)), .val (.long (v0_7 q0 p1 p2)), .second, .val (.long (v0_8 p1 p2)), .second] [(.long (v0_7 q0 p1 p2)), (.long (12 : Int64)), (.long (v0_8 p1 p2)), (.long (v0_1 q0))])) t
            refine XS.lconst X5.here hx rfl (hb hby at_112) ?_
            show Steps p.tables e below (T5.setTop (mkF m 113 #[.val (.long q0), .second, .val (.int p1), .val (.int p2), .val (.long (v0_1 q0)), .second, .val (.int (v0_2 p1)), .val (.int (v0_3 p2)), .val (.long (v0_7 q0 p1 p2)), .second, .val (.long (v0_8 p1 p2)), .second] [(.long (1 : Int64)), (.long (v0_7 q0 p1 p2)), (.long (12 : Int64)), (.long (v0_8 p1 p2)), (.long (v0_1 q0))])) t
            refine XS.ladd X5.here hx rfl (hb hby at_113) rfl ?_
            show Steps p.tables e below (T5.setTop (mkF m 114 #[.val (.long q0), .second, .val (.int p1), .val (.int p2), .val (.long (v0_1 q0)), .second, .val (.int (v0_2 p1)), .val (.int (v0_3 p2)), .val (.long (v0_7 q0 p1 p2)), .second, .val (.long (v0_8 p1 p2)), .second] [(.long ((v0_7 q0 p1 p2) + (1 : Int64))), (.long (12 : Int64)), (.long (v0_8 p1 p2)), (.long (v0_1 q0))])) t
            refine XS.lmul X5.here hx rfl (hb hby at_114) rfl ?_
            show Steps p.tables e below (T5.setTop (mkF m 115 #[.val (.long q0), .second, .val (.int p1), .val (.int p2), .val (.long (v0_1 q0)), .second, .val (.int (v0_2 p1)), .val (.int (v0_3 p2)), .val (.long (v0_7 q0 p1 p2)), .second, .val (.long (v0_8 p1 p2)), .second] [(.long ((12 : Int64) * ((v0_7 q0 p1 p2) + (1 : Int64)))), (.long (v0_8 p1 p2)), (.long (v0_1 q0))])) t
            refine XS.ladd X5.here hx rfl (hb hby at_115) rfl ?_
            show Steps p.tables e below (T5.setTop (mkF m 116 #[.val (.long q0), .second, .val (.int p1), .val (.int p2), .val (.long (v0_1 q0)), .second, .val (.int (v0_2 p1)), .val (.int (v0_3 p2)), .val (.long (v0_7 q0 p1 p2)), .second, .val (.long (v0_8 p1 p2)), .second] [(.long ((v0_8 p1 p2) + ((12 : Int64) * ((v0_7 q0 p1 p2) + (1 : Int64))))), (.long (v0_1 q0))])) t
            refine XT.lcmp X5.here hx rfl (hb hby at_116) rfl ?_
            show Steps p.tables e below (T5.setTop (mkF m 117 #[.val (.long q0), .second, .val (.int p1), .val (.int p2), .val (.long (v0_1 q0)), .second, .val (.int (v0_2 p1)), .val (.int (v0_3 p2)), .val (.long (v0_7 q0 p1 p2)), .second, .val (.long (v0_8 p1 p2)), .second] [(.int (XT.cmpL (v0_1 q0) (v0_25 q0 p1 p2)))])) t
            by_cases hc26 : (v0_1 q0) < (v0_25 q0 p1 p2)
            · refine XS.ifNo X5.here hx rfl (hb hby at_117) rfl (XT.ll_ge_f hc26) ?_
              show Steps p.tables e below (T5.setTop (mkF m 120 #[.val (.long q0), .second, .val (.int p1), .val (.int p2), .val (.long (v0_1 q0)), .second, .val (.int (v0_2 p1)), .val (.int (v0_3 p2)), .val (.long (v0_7 q0 p1 p2)), .second, .val (.long (v0_8 p1 p2)), .second] [])) t
              refine XS.iconst X5.here hx rfl (hb hby at_120) ?_
              show Steps p.tables e below (T5.setTop (mkF m 121 #[.val (.long q0), .second, .val (.int p1), .val (.int p2), .val (.long (v0_1 q0)), .second, .val (.int (v0_2 p1)), .val (.int (v0_3 p2)), .val (.long (v0_7 q0 p1 p2)), .second, .val (.long (v0_8 p1 p2)), .second] [(.int (1 : Int32))])) t
              refine XS.goto X5.here hx rfl (pc0 := 121) (pc' := 125) rfl (hb hby at_121) (by decide) (by decide) ?_
              show Steps p.tables e below (T5.setTop (mkF m 125 #[.val (.long q0), .second, .val (.int p1), .val (.int p2), .val (.long (v0_1 q0)), .second, .val (.int (v0_2 p1)), .val (.int (v0_3 p2)), .val (.long (v0_7 q0 p1 p2)), .second, .val (.long (v0_8 p1 p2)), .second] [(.int (1 : Int32))])) t
              have hq30 : (b0_28 q0 p1 p2) = (1 : Int32) := by rw [b0_28, if_neg hc24, if_pos hc26]
              rw [hq30] at k
              exact k
            · refine XS.ifYes X5.here hx rfl (pc0 := 117) (pc' := 124) rfl (hb hby at_117) rfl (XT.ll_ge_t hc26) (by decide) (by decide) ?_
              show Steps p.tables e below (T5.setTop (mkF m 124 #[.val (.long q0), .second, .val (.int p1), .val (.int p2), .val (.long (v0_1 q0)), .second, .val (.int (v0_2 p1)), .val (.int (v0_3 p2)), .val (.long (v0_7 q0 p1 p2)), .second, .val (.long (v0_8 p1 p2)), .second] [])) t
              refine XS.iconst X5.here hx rfl (hb hby at_124) ?_
              show Steps p.tables e below (T5.setTop (mkF m 125 #[.val (.long q0), .second, .val (.int p1), .val (.int p2), .val (.long (v0_1 q0)), .second, .val (.int (v0_2 p1)), .val (.int (v0_3 p2)), .val (.long (v0_7 q0 p1 p2)), .second, .val (.long (v0_8 p1 p2)), .second] [(.int (0 : Int32))])) t
              have hq31 : (b0_28 q0 p1 p2) = (0 : Int32) := by rw [b0_28, if_neg hc24, if_neg hc26]
              rw [hq31] at k
              exact k
        obtain ⟨fs, hr, hrun, hended, hW, hsame⟩ := X5.leave (v := some (.int (b0_28 q0 p1 p2))) (fun h => by rw [Bd.returns] at h; cases h)
        refine ⟨_, _, go27 _ (Jvm.RoadKit.retOut X5 hx Bd.returns (own_nz (by unfold b0_28; (repeat' split) <;> first | exact Or.inl rfl | exact Or.inr rfl)) (Or.inl ⟨rfl, Or.inr (Or.inl rfl), _, rfl⟩) (hb hby at_125) hr), hrun, hended, _, _, rfl, ?_, ⟨_, rfl⟩, hW, hsame.mono (by decide) (by decide)⟩
        show Q0 _ _ q0 p1 p2 h0 _ (T5.setFrames fs).heap _
        have hE : (T5.setFrames fs).heap = h0 := e5
        rw [hE]
        exact ⟨congrArg (fun z => some (Value.int z)) ((by rw [f0, if_neg hs10, if_neg hs13, if_neg hs17] : (b0_28 q0 p1 p2) = (f0 q0 p1 p2)).trans (f0_one q0 p1 p2)), N5⟩
set_option maxRecDepth 65536 in
set_option maxHeartbeats 40000000 in
theorem comes_1 {Post : Tables → Env → Array Value → State → Outcome → State → Prop} (hpost : ∀ tb e args s v u, (limb_1_1.after args s (.returned v) u = true ∧ limb_1_2.after args s (.returned v) u = true ∧ True) → FrameEnd s (.returned v) u (Jvm.fieldLocs frame_1_writes args s ++ Jvm.arrayLocs frame_1_arrays args s ++ Jvm.staticLocs frame_1_statics s) 0 0 → Post tb e args s (.returned v) u) :
    ArmFor flags0 classFile x code maxLocals ret World_1 tables_1 room_1 Calls_1 rest_1 Pre_1 Post := by
  intro l hfl _ _ p e ha hc hk s m args below hf hA hF happ hP
  obtain ⟨hcalls, hrest, hpre⟩ := hP
  obtain ⟨-, -, -, hnamed, -, -, -, hat⟩ := (Spec.applies_iff hf).mp happ
  obtain ⟨hg, hn⟩ := and_e (Cond.before_iff.mp (show (Jvm.Cond.and given_1 narrow_1).before args s = true from hpre))
  obtain ⟨hcount, hg1⟩ := and_e hg
  obtain ⟨ha0, hb0⟩ := and_e hg1
  obtain ⟨ha1, hb1⟩ := and_e hb0
  obtain ⟨w0, w1, w2, rfl⟩ : ∃ w0 w1 w2 : Value, args = #[w0, w1, w2] := by
    have hs : args.size = 3 := by simpa [Cond.value, given_1] using hcount
    obtain ⟨L⟩ := args
    match L, hs with
    | [w0, w1, w2], _ => exact ⟨w0, w1, w2, rfl⟩
  have hw := fun d (hd : d ∈ tables_1) => atoms_spec (ws := Jvm.Cond.code x code maxLocals ret :: tables_1) hat d (List.mem_cons_of_mem _ hd)
  have hfit : Fit s := fun {y c} hc i hi => by
    obtain ⟨ha, rfl⟩ := Array.getElem?_eq_some_iff.mp hc
    have q := List.all_eq_true.mp ((Array.all_eq_true_iff_forall_mem.mp hF) _ (Array.getElem_mem ha)) i (List.mem_range.mpr hi)
    simpa [Array.getElem?_eq_getElem hi] using q
  obtain ⟨i0, ei0⟩ := isL_v ha0
  obtain rfl : w0 = (.long i0) := Option.some.inj ei0
  obtain ⟨i1, ei1⟩ := is_v ha1
  obtain rfl : w1 = (.int i1) := Option.some.inj ei1
  obtain ⟨i2, ei2⟩ := is_v hb1
  obtain rfl : w2 = (.int i2) := Option.some.inj ei2
  obtain ⟨n, o, h1, h2, h3, _, L, rfl, ⟨rfl, N⟩, hq⟩ := rm0 l s _ hw tables_1 i0 i1 i2 s.heap s.heap.size (Nat.le_refl _) p e ha hc hk s m _ below hf ((Spec.applies_iff_loose hf).mp happ).1 ⟨rfl, State.Warmed39.refl s, rfl⟩ trivial
  refine ⟨n, _, h1, h2, h3, hpost _ _ _ _ _ _ ⟨Cond.after_iff.mpr rfl, Cond.after_iff.mpr (eq_i res_at (Term.int_eval (1)) rfl), trivial⟩ ⟨hq.1, hq.2.1, (hq.2.2.sift fun y hy => Or.inr (N y hy)).mono (by decide) (by decide)⟩⟩
theorem main_1_1 : Claimed_1_1 := comes_1 fun _ _ _ _ _ _ h hF => ⟨h.1, hF⟩
theorem main_1_2 : Claimed_1_2 := comes_1 fun _ _ _ _ _ _ h hF => ⟨h.2.1, hF⟩
end Jvm.Pilot.@@N@@
namespace Jvm.Pilot.@@N@@
open Jvm Jvm.ClassFile Sem Op Lib Jvm.Free Jvm.Stand Jvm.Pilot.@@N@@.Jvm.D
/-! MADE BY PROGRAM (witnessworld.py) out of the Statement's table words and the real class files: 10 classes; the members and pool entries that the words name. The judged class is class 1, her method 1. -/
namespace start1
open Jvm.ClassFile
def u (s : String) : CpInfo := .utf8 (stringToUtf16 s)
/-- a pool by its gaps: so many unusable entries, then the entry; so many at the end -/
def gap : Nat → List CpInfo → List CpInfo
  | 0, r => r
  | n + 1, r => .unusable :: gap n r
def poolList (es : List (Nat × CpInfo)) (last : Nat) : List CpInfo := es.foldr (fun e r => gap e.1 (e.2 :: r)) (gap last [])
def pool (es : List (Nat × CpInfo)) (last : Nat) : Array CpInfo := ⟨poolList es last⟩
def fileOf (pool : Array CpInfo) (this : Nat) (attrs : Array Attribute := #[]) (ms : Array MethodInfo := #[]) (fl : Nat := 33) (sup : Nat := 0) (ifs : Array Nat := #[]) (fds : Array FieldInfo := #[]) : ClassFile where
  minorVersion := 0
  majorVersion := 65
  constantPool := pool
  accessFlags := fl
  thisClass := this
  superClass := sup
  interfaces := ifs
  fields := fds
  methods := ms
  attributes := attrs
def plain (name : String) (sup : Option ClassId) : Class where
  name := name
  kind := .ordinary
  loader := none
  accessFlags := 33
  super := sup
  interfaces := #[]
  cf := none
  fields := #[]
  methods := #[]
  instanceTypes := #[]
  staticTypes := #[]
  resolved := #[]
  callSites := []
  init := .initialized
  statics := none
  mirror := none

def pool0 : Array CpInfo := pool [(5, u "<init>"), (0, u "()V"), (1, .class_ 10), (1, u "java/lang/Object")] 113

def k0m0 : Method := { name := "<init>", desc := "()V", sig := { parameters := [], returnType := none }, accessFlags := 1, code := none }
/-- java/lang/Object -/
def k0 : Class := { plain "java/lang/Object" none with
  accessFlags := 33
  interfaces := #[]
  cf := some (fileOf pool0 8 #[] #[{ accessFlags := 1, nameIndex := 5, descriptorIndex := 6, attributes := #[] }] 33 0 #[] #[])
  fields := #[]
  methods := #[k0m0]
  instanceTypes := #[]
  staticTypes := #[]
  resolved := Array.replicate 124 none
  statics := none }

def pool1 : Array CpInfo := pool [(2, .class_ 4), (1, u "java/lang/Object"), (0, u "<init>"), (0, u "()V"), (0, .integer 2147483647), (0, .integer 4194303), (0, .methodref 10 11), (0, .class_ 12), (0, .nameAndType 13 14), (0, u "com/example/axiscope/axiscope/engine/NeighbourCandidates"), (0, u "entriesWithin"), (0, u "(JII)J"), (0, .long 88), (1, .long 12), (1, .long 576460752303423488), (1, .class_ 22), (0, u "com/example/axiscope/axiscope/engine/NeighbourCandidatesEntriesWithinPinLaw"), (2, u "law"), (0, u "(JII)Z")] 3

def k1m0 : Method := { name := "<init>", desc := "()V", sig := { parameters := [], returnType := none }, accessFlags := 1, code := none }
def k1c1 : Code := { maxStack := 10, maxLocals := 12, code := code, exceptionTable := #[], attributes := #[] }
def k1m1 : Method := { name := "law", desc := "(JII)Z", sig := { parameters := [.long, .int, .int], returnType := some .boolean }, accessFlags := 9, code := some k1c1 }
/-- com/example/axiscope/axiscope/engine/NeighbourCandidatesEntriesWithinPinLaw -/
def k1 : Class := { plain "com/example/axiscope/axiscope/engine/NeighbourCandidatesEntriesWithinPinLaw" (some 0) with
  accessFlags := 49
  interfaces := #[]
  cf := some (fileOf pool1 21 #[] #[{ accessFlags := 1, nameIndex := 5, descriptorIndex := 6, attributes := #[] }, { accessFlags := 9, nameIndex := 25, descriptorIndex := 26, attributes := #[] }] 49 2 #[] #[])
  fields := #[]
  methods := #[k1m0, k1m1]
  instanceTypes := #[]
  staticTypes := #[]
  resolved := Array.replicate 30 none
  statics := none }

def pool2 : Array CpInfo := pool [(6, .class_ 8), (1, u "java/lang/Object"), (3, .class_ 14), (1, u "com/example/axiscope/axiscope/engine/NeighbourCandidates"), (0, u "nearest"), (0, u "I"), (2, u "reach"), (0, u "Lcom/example/axiscope/axiscope/engine/NeighbourCandidates$Reach;"), (2, u "rowCount"), (1, u "[I"), (2, u "others"), (0, u "[[I"), (1, u "[D"), (2, u "distances"), (0, u "[[D"), (2, u "locks"), (0, u "[Ljava/lang/Object;"), (6, u "counts"), (2, u "takes"), (15, u "spare"), (0, u "Ljava/util/concurrent/atomic/AtomicLong;"), (0, .long 88), (1, .long 12), (1, .methodref 72 73), (0, .class_ 74), (0, .nameAndType 75 76), (0, u "java/lang/Math"), (0, u "max"), (0, u "(JJ)J"), (5, u "TAKES"), (0, u "Ljava/lang/invoke/VarHandle;"), (15, .class_ 101), (1, u "com/example/axiscope/axiscope/engine/NeighbourCandidates$Reach"), (48, u "MOST_ENTRIES"), (0, u "J"), (3, u "ENTRY_BYTES"), (1, u "ROW_BYTES"), (7, u "entriesWithin"), (0, u "(JII)J")] 15

def k2c0 : Code := { maxStack := 6, maxLocals := 6, code := prog_11_method_3_code, exceptionTable := #[], attributes := #[] }
def k2m0 : Method := { name := "entriesWithin", desc := "(JII)J", sig := { parameters := [.long, .int, .int], returnType := some .long }, accessFlags := 8, code := some k2c0 }
/-- com/example/axiscope/axiscope/engine/NeighbourCandidates -/
def k2 : Class := { plain "com/example/axiscope/axiscope/engine/NeighbourCandidates" (some 0) with
  accessFlags := 48
  interfaces := #[]
  cf := some (fileOf pool2 12 #[.nestMembers #[99]] #[{ accessFlags := 8, nameIndex := 165, descriptorIndex := 166, attributes := #[] }] 48 6 #[] #[{ accessFlags := 24, nameIndex := 150, descriptorIndex := 151, attributes := #[] }, { accessFlags := 26, nameIndex := 155, descriptorIndex := 16, attributes := #[] }, { accessFlags := 26, nameIndex := 157, descriptorIndex := 16, attributes := #[] }, { accessFlags := 26, nameIndex := 82, descriptorIndex := 83, attributes := #[] }, { accessFlags := 18, nameIndex := 15, descriptorIndex := 16, attributes := #[] }, { accessFlags := 18, nameIndex := 19, descriptorIndex := 20, attributes := #[] }, { accessFlags := 18, nameIndex := 23, descriptorIndex := 16, attributes := #[] }, { accessFlags := 18, nameIndex := 28, descriptorIndex := 29, attributes := #[] }, { accessFlags := 18, nameIndex := 34, descriptorIndex := 35, attributes := #[] }, { accessFlags := 18, nameIndex := 46, descriptorIndex := 25, attributes := #[] }, { accessFlags := 18, nameIndex := 49, descriptorIndex := 31, attributes := #[] }, { accessFlags := 18, nameIndex := 38, descriptorIndex := 39, attributes := #[] }, { accessFlags := 18, nameIndex := 65, descriptorIndex := 66, attributes := #[] }])
  fields := #[{ name := "MOST_ENTRIES", type := .long, accessFlags := 24, slot := 0, constantValue := 0 }, { name := "ENTRY_BYTES", type := .int, accessFlags := 26, slot := 1, constantValue := 0 }, { name := "ROW_BYTES", type := .int, accessFlags := 26, slot := 2, constantValue := 0 }, { name := "TAKES", type := (.object "java/lang/invoke/VarHandle"), accessFlags := 26, slot := 3, constantValue := 0 }, { name := "nearest", type := .int, accessFlags := 18, slot := 0, constantValue := 0 }, { name := "reach", type := (.object "com/example/axiscope/axiscope/engine/NeighbourCandidates$Reach"), accessFlags := 18, slot := 1, constantValue := 0 }, { name := "rowCount", type := .int, accessFlags := 18, slot := 2, constantValue := 0 }, { name := "others", type := (.array (.array .int)), accessFlags := 18, slot := 3, constantValue := 0 }, { name := "distances", type := (.array (.array .double)), accessFlags := 18, slot := 4, constantValue := 0 }, { name := "counts", type := (.array .int), accessFlags := 18, slot := 5, constantValue := 0 }, { name := "takes", type := (.array .double), accessFlags := 18, slot := 6, constantValue := 0 }, { name := "locks", type := (.array (.object "java/lang/Object")), accessFlags := 18, slot := 7, constantValue := 0 }, { name := "spare", type := (.object "java/util/concurrent/atomic/AtomicLong"), accessFlags := 18, slot := 8, constantValue := 0 }]
  methods := #[k2m0]
  instanceTypes := #[.int, (.object "com/example/axiscope/axiscope/engine/NeighbourCandidates$Reach"), .int, (.array (.array .int)), (.array (.array .double)), (.array .int), (.array .double), (.array (.object "java/lang/Object")), (.object "java/util/concurrent/atomic/AtomicLong")]
  staticTypes := #[.long, .int, .int, (.object "java/lang/invoke/VarHandle")]
  resolved := Array.replicate 182 none
  statics := none }

def pool3 : Array CpInfo := pool [(1, .class_ 2), (0, u "java/lang/Math"), (1, .class_ 6), (1, u "java/lang/Object"), (0, u "<init>"), (0, u "()V"), (89, .class_ 100), (1, u "java/lang/Math$RandomNumberGeneratorHolder"), (20, u "(JJ)J"), (50, u "negativeZeroFloatBits"), (0, u "J"), (2, u "negativeZeroDoubleBits"), (21, u "max"), (46, u "$assertionsDisabled"), (0, u "Z"), (91, u "twoToTheDoubleScaleDown"), (0, u "D"), (4, u "twoToTheDoubleScaleUp"), (9, u "E"), (3, u "PI"), (2, u "TAU"), (2, u "DEGREES_TO_RADIANS"), (0, u "RADIANS_TO_DEGREES")] 94

def k3m0 : Method := { name := "<init>", desc := "()V", sig := { parameters := [], returnType := none }, accessFlags := 2, code := none }
def k3c1 : Code := { maxStack := 4, maxLocals := 4, code := jdk_29_method_66_code, exceptionTable := #[], attributes := #[] }
def k3m1 : Method := { name := "max", desc := "(JJ)J", sig := { parameters := [.long, .long], returnType := some .long }, accessFlags := 9, code := some k3c1 }
/-- java/lang/Math -/
def k3 : Class := { plain "java/lang/Math" (some 0) with
  accessFlags := 49
  interfaces := #[]
  cf := some (fileOf pool3 1 #[.nestMembers #[98]] #[{ accessFlags := 2, nameIndex := 7, descriptorIndex := 8, attributes := #[] }, { accessFlags := 9, nameIndex := 198, descriptorIndex := 121, attributes := #[] }] 49 4 #[] #[{ accessFlags := 25, nameIndex := 354, descriptorIndex := 339, attributes := #[] }, { accessFlags := 25, nameIndex := 358, descriptorIndex := 339, attributes := #[] }, { accessFlags := 25, nameIndex := 361, descriptorIndex := 339, attributes := #[] }, { accessFlags := 26, nameIndex := 364, descriptorIndex := 339, attributes := #[] }, { accessFlags := 26, nameIndex := 365, descriptorIndex := 339, attributes := #[] }, { accessFlags := 26, nameIndex := 172, descriptorIndex := 173, attributes := #[] }, { accessFlags := 26, nameIndex := 176, descriptorIndex := 173, attributes := #[] }, { accessFlags := 8, nameIndex := 344, descriptorIndex := 339, attributes := #[] }, { accessFlags := 8, nameIndex := 338, descriptorIndex := 339, attributes := #[] }, { accessFlags := 4120, nameIndex := 245, descriptorIndex := 246, attributes := #[] }])
  fields := #[{ name := "E", type := .double, accessFlags := 25, slot := 0, constantValue := 0 }, { name := "PI", type := .double, accessFlags := 25, slot := 1, constantValue := 0 }, { name := "TAU", type := .double, accessFlags := 25, slot := 2, constantValue := 0 }, { name := "DEGREES_TO_RADIANS", type := .double, accessFlags := 26, slot := 3, constantValue := 0 }, { name := "RADIANS_TO_DEGREES", type := .double, accessFlags := 26, slot := 4, constantValue := 0 }, { name := "negativeZeroFloatBits", type := .long, accessFlags := 26, slot := 5, constantValue := 0 }, { name := "negativeZeroDoubleBits", type := .long, accessFlags := 26, slot := 6, constantValue := 0 }, { name := "twoToTheDoubleScaleUp", type := .double, accessFlags := 8, slot := 7, constantValue := 0 }, { name := "twoToTheDoubleScaleDown", type := .double, accessFlags := 8, slot := 8, constantValue := 0 }, { name := "$assertionsDisabled", type := .boolean, accessFlags := 4120, slot := 9, constantValue := 0 }]
  methods := #[k3m0, k3m1]
  instanceTypes := #[]
  staticTypes := #[.double, .double, .double, .double, .double, .long, .long, .double, .double, .boolean]
  resolved := Array.replicate 460 none
  statics := none }

def pool4 : Array CpInfo := pool [(1, u "java/lang/Cloneable"), (0, .class_ 1), (0, u "java/lang/Object"), (0, .class_ 3)] 3

/-- java/lang/Cloneable -/
def k4 : Class := { plain "java/lang/Cloneable" (some 0) with
  accessFlags := 1537
  interfaces := #[]
  cf := some (fileOf pool4 2 #[] #[] 1537 4 #[] #[])
  fields := #[]
  methods := #[]
  instanceTypes := #[]
  staticTypes := #[]
  resolved := Array.replicate 8 none
  statics := none }

def pool5 : Array CpInfo := pool [(1, u "java/io/Serializable"), (0, .class_ 1), (0, u "java/lang/Object"), (0, .class_ 3)] 3

/-- java/io/Serializable -/
def k5 : Class := { plain "java/io/Serializable" (some 0) with
  accessFlags := 1537
  interfaces := #[]
  cf := some (fileOf pool5 2 #[] #[] 1537 4 #[] #[])
  fields := #[]
  methods := #[]
  instanceTypes := #[]
  staticTypes := #[]
  resolved := Array.replicate 8 none
  statics := none }

/-- the primitive byte -/
def k6 : Class := { plain "byte" none with kind := .primitive 'B', accessFlags := 0x411 }
/-- [B -/
def k7 : Class := { plain "[B" (some 0) with kind := .array 6 .byte, interfaces := #[4, 5], accessFlags := 1041 }

/-- the primitive int -/
def k8 : Class := { plain "int" none with kind := .primitive 'I', accessFlags := 0x411 }
/-- [I -/
def k9 : Class := { plain "[I" (some 0) with kind := .array 8 .int, interfaces := #[4, 5], accessFlags := 1041 }

def heap : Heap := #[]
def classes : Array Class := #[k0, k1, k2, k3, k4, k5, k6, k7, k8, k9]
def interned : List (Array UInt16 × Addr) := []
def slotsUsed : Nat := 0
def theMethod : MethodId := ⟨1, 1⟩
def args0 : Array Value := #[.long 5, .int 3, .int 2]
def aboutOver (below : List Frame) : State where
  vm := { classes := classes, interned := interned.toArray }
  heap := heap
  slotsUsed := slotsUsed
  threads := #[{ frames := .invoking theMethod args0 :: below }]
def below0 : List Frame := [.native { method := ⟨0, 0⟩, args := #[] }]
def about1 : State := aboutOver below0
def p0 : Program := .bare "" "" ""
def e0 : Env := launch0.env 0 0 0
theorem w_frames : about1.frames = Frame.invoking theMethod args0 :: below0 := rfl
set_option maxRecDepth 65536 in
theorem w_args : argsFit about1.vm theMethod args0 = true := by decide +kernel
set_option maxRecDepth 65536 in
theorem w_heap : heapFits about1 = true := by decide +kernel
set_option maxRecDepth 65536 in
theorem w_runnable : about1.curStatus? = some .runnable := by decide +kernel
set_option maxRecDepth 65536 in
theorem w_alone : about1.alone = true := by decide +kernel
set_option maxRecDepth 65536 in
theorem w_named : about1.methodNamed? x = some theMethod := by decide +kernel
set_option maxRecDepth 65536 in
theorem w_hears : about1.hears theMethod below0 = true := by decide +kernel
set_option maxRecDepth 65536 in
theorem w_ripe : about1.ripe theMethod args0 below0 = true := by decide +kernel
theorem w_running : about1.status = .running := rfl
set_option maxRecDepth 65536 in
theorem w_room : about1.hasRoom e0.platform room_1 = true :=
  launch0.hasRoom_least _ room_1 (by decide +kernel) (by decide +kernel) (by decide +kernel) (by decide +kernel) (by decide +kernel) (by decide +kernel)
theorem allAtoms_all (ts : List Jvm.Cond) (a : Array Jvm.Value) (st : Jvm.State) : (allAtoms ts).before a st = ts.all (fun c => c.before a st) := by
  induction ts with
  | nil => rfl
  | cons c t ih =>
    show (Jvm.Cond.and c (allAtoms t)).before a st = _
    rw [Jvm.Cond.before_and, ih, List.all_cons]
def words1 : List Jvm.Cond := Jvm.Cond.code x code maxLocals ret :: tables_1
/-- a 'code' word, met by the world's own term for the bytes: nothing is compared byte by byte -/
theorem code_word {y : MethodName} {bytes : ByteArray} {mx : Nat} {rt : Option FieldType} {a : Array Value} {s : State} {m : MethodId} {meth : Method} {c : Code} (h1 : s.methodNamed? y = some m) (h2 : s.vm.method? m = some meth) (h3 : meth.code = some c) (h4 : c.code = bytes)
    (h5 : (c.maxLocals == mx && c.exceptionTable.isEmpty && decide (c.maxStack ≤ mostOperands) && decide (meth.sig.returnType = rt) && !meth.locks && decide (parseMethodDescriptor y.desc = some meth.sig)) = true) : (Jvm.Cond.code y bytes mx rt).before a s = true := by
  simp only [Bool.and_eq_true, beq_iff_eq, Bool.not_eq_true', decide_eq_true_eq] at h5
  obtain ⟨⟨⟨⟨⟨g1, g2⟩, g3⟩, g4⟩, g5⟩, g6⟩ := h5
  simp [Cond.before, Cond.holds, Cond.value, h1, h2, h3, h4, g1, g2, g3, g4, g5, g6]
def isCode : Jvm.Cond → Bool
  | .code _ _ _ _ => true
  | _ => false
theorem all_split {L : List Jvm.Cond} {P : Jvm.Cond → Bool} (h1 : L.all (fun c => isCode c || P c) = true) (h2 : ∀ c ∈ L.filter isCode, P c = true) : L.all P = true := by
  refine List.all_eq_true.mpr fun c hc => ?_
  have h := List.all_eq_true.mp h1 c hc
  rcases Bool.eq_false_or_eq_true (isCode c) with hi | hi
  · exact h2 c (List.mem_filter.mpr ⟨hc, hi⟩)
  · simpa [hi] using h
set_option maxRecDepth 65536 in
theorem w_c0 : (Jvm.Cond.code x code maxLocals ret).before args0 about1 = true := code_word (m := ⟨1, 1⟩) (meth := k1m1) (c := k1c1) (by decide +kernel) rfl rfl rfl (by decide +kernel)
set_option maxRecDepth 65536 in
theorem w_c1 : (Jvm.Cond.code ({ cls := "com/example/axiscope/axiscope/engine/NeighbourCandidates", name := "entriesWithin", desc := "(JII)J" } : Jvm.MethodName) prog_11_method_3_code (6 : Nat) (Option.some Jvm.ClassFile.FieldType.long)).before args0 about1 = true := code_word (m := ⟨2, 0⟩) (meth := k2m0) (c := k2c0) (by decide +kernel) rfl rfl rfl (by decide +kernel)
set_option maxRecDepth 65536 in
theorem w_c2 : (Jvm.Cond.code ({ cls := "java/lang/Math", name := "max", desc := "(JJ)J" } : Jvm.MethodName) jdk_29_method_66_code (4 : Nat) (Option.some Jvm.ClassFile.FieldType.long)).before args0 about1 = true := code_word (m := ⟨3, 1⟩) (meth := k3m1) (c := k3c1) (by decide +kernel) rfl rfl rfl (by decide +kernel)
def codes1 : List Jvm.Cond := [Jvm.Cond.code x code maxLocals ret, Jvm.Cond.code ({ cls := "com/example/axiscope/axiscope/engine/NeighbourCandidates", name := "entriesWithin", desc := "(JII)J" } : Jvm.MethodName) prog_11_method_3_code (6 : Nat) (Option.some Jvm.ClassFile.FieldType.long), Jvm.Cond.code ({ cls := "java/lang/Math", name := "max", desc := "(JJ)J" } : Jvm.MethodName) jdk_29_method_66_code (4 : Nat) (Option.some Jvm.ClassFile.FieldType.long)]
set_option maxRecDepth 65536 in
theorem codes_eq : words1.filter isCode = codes1 := rfl
theorem w_codes : ∀ c ∈ words1.filter isCode, c.before args0 about1 = true := by
  rw [codes_eq]
  intro c hc
  simp only [codes1, List.mem_cons, List.not_mem_nil, or_false] at hc
  rcases hc with rfl | rfl | rfl
  · exact w_c0
  · exact w_c1
  · exact w_c2
set_option maxRecDepth 65536 in
theorem w_t1 : words1.all (fun c => isCode c || c.before args0 about1) = true := by decide +kernel
theorem w_tables : (allAtoms (Jvm.Cond.code x code maxLocals ret :: tables_1)).before args0 about1 = true := by
  rw [allAtoms_all]
  show words1.all (fun c => c.before args0 about1) = true
  refine all_split ?_ w_codes
  rw [w_t1]
set_option maxRecDepth 65536 in
theorem w_case : (Jvm.Cond.and given_1 narrow_1).before args0 about1 = true := by decide +kernel
theorem w_applies : (headSpec (Jvm.Cond.code x code maxLocals ret :: tables_1) room_1).applies x e0.platform about1 = true :=
  (Spec.applies_iff w_frames).mpr ⟨w_running, w_runnable, w_alone, w_named, w_hears, w_ripe, w_room, w_tables⟩
theorem atStart : AtStart classFile x code maxLocals ret World_1 tables_1 room_1 Calls_1 rest_1 Pre_1 launch0 p0 e0 about1 theMethod args0 below0 :=
  ⟨lists_1, trivial, launch0.admits_env _ _ _, launch0.least_env, fairChoices_fair.cas, fairChoices_fair.clock, w_frames, w_args, w_heap, w_applies, trivial, trivial, w_case⟩
end start1
theorem witness_1 : WitnessClaimed_1 := ⟨start1.p0, start1.e0, start1.about1, start1.theMethod, start1.args0, start1.below0, start1.atStart⟩
end Jvm.Pilot.@@N@@
