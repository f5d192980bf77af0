import JvmDerived
import JvmDerived.Pilot.@@N@@Statement
import JvmDerived.Pilot.@@N@@Code
set_option linter.unusedVariables false
set_option linter.unusedSimpArgs false
namespace Jvm.Pilot.@@N@@
open Jvm Jvm.ClassFile Sem Op Lib Jvm.Free Jvm.Stand Jvm.LawKit Jvm.RoadKit Bundle Jvm.Pilot.@@N@@.Jvm.D
theorem own_exa_ns {Z : State} {h : Heap} {a : Addr} {C : String} (E : Exa Z h a C) : ∀ c : Cell, h[a]? = some c → c.vm.isStatics = false := fun c hc => by
  obtain ⟨cell, k, h1, -, -, h4, -⟩ := E
  rw [h1] at hc; cases hc; exact h4
theorem own_sta_keep {Z : State} {h h' : Heap} {C n d : String} {v : Value} {ws : List Addr} (F : Sta Z h C n d v) (K : Keep h h' ws) (q : ∀ x ∈ ws, ∀ c : Cell, h[x]? = some c → c.vm.isStatics = false) : Sta Z h' C n d v := by
  obtain ⟨cf, i, k, f, st, cell, h1, h2, h3, h4, h5, h6, h7⟩ := F
  exact ⟨cf, i, k, f, st, cell, h1, h2, h3, h4, K.2.1 st cell h5 (fun hm => by have := q st hm cell h5; rw [h6] at this; cases this), h6, h7⟩
theorem own_ins_keep {Z : State} {h h' : Heap} {a : Addr} {C : String} {b : Bool} {ws : List Addr} (F : Ins Z h a C b) (K : Keep h h' ws) : Ins Z h' a C b := by
  obtain ⟨cell, cT, h1, h2, h3⟩ := F
  obtain ⟨c', q1, q2, q3, -⟩ := K.2.2 a cell h1
  exact ⟨c', cT, q1, h2, by rw [q3, q2]; exact h3⟩
theorem own_ne {r c : Int32} (k : Int) (hc : c.toInt = k) (h : ¬ r = c) : ¬ r.toInt = k := fun e => h (Int32.toInt_inj.mp (e.trans hc.symm))
theorem own_cat1 {v : Value} (h : v.isRef = true) : 2 * 0 + ([v].map fun v => v.category).sum ≤ 1 := by simp [XT.cat1 h]
theorem own_nz {z : Int32} (h : z = 0 ∨ z = 1) : narrow .boolean (.int z) = .int z := by rcases h with rfl | rfl <;> rfl
def own_s0 : Int64 := 0
def own_s1 (x0 : Int64) : Int64 := (0 : Int64) + x0
def own_s2 (x0 x1 : Int64) : Int64 := own_s1 x0 + x1
def own_s3 (x0 x1 x2 : Int64) : Int64 := own_s2 x0 x1 + x2
def own_s4 (x0 x1 x2 x3 : Int64) : Int64 := own_s3 x0 x1 x2 + x3
def own_Sm (x : Int64) : Prop := -2147483648 < x.toInt ∧ x.toInt ≤ 0
theorem own_r1 {x0 : Int64} (h0 : own_Sm x0) : -2147483648 < (own_s1 x0).toInt ∧ (own_s1 x0).toInt ≤ 0 := by
  have e := c_ladd 0 x0; have r := rng64 (0 + x0); have z : (0 : Int64).toInt = 0 := rfl
  unfold own_Sm at h0; unfold own_s1; omega
theorem own_r2 {x0 x1 : Int64} (h0 : own_Sm x0) (h1 : own_Sm x1) : -4294967296 < (own_s2 x0 x1).toInt ∧ (own_s2 x0 x1).toInt ≤ 0 := by
  have a := own_r1 h0; have e := c_ladd (own_s1 x0) x1; have r := rng64 (own_s1 x0 + x1)
  unfold own_Sm at h1; unfold own_s2; omega
theorem own_r3 {x0 x1 x2 : Int64} (h0 : own_Sm x0) (h1 : own_Sm x1) (h2 : own_Sm x2) : -6442450944 < (own_s3 x0 x1 x2).toInt ∧ (own_s3 x0 x1 x2).toInt ≤ 0 := by
  have a := own_r2 h0 h1; have e := c_ladd (own_s2 x0 x1) x2; have r := rng64 (own_s2 x0 x1 + x2)
  unfold own_Sm at h2; unfold own_s3; omega
theorem own_r4 {x0 x1 x2 x3 : Int64} (h0 : own_Sm x0) (h1 : own_Sm x1) (h2 : own_Sm x2) (h3 : own_Sm x3) : -8589934592 < (own_s4 x0 x1 x2 x3).toInt ∧ (own_s4 x0 x1 x2 x3).toInt ≤ 0 := by
  have a := own_r3 h0 h1 h2; have e := c_ladd (own_s3 x0 x1 x2) x3; have r := rng64 (own_s3 x0 x1 x2 + x3)
  unfold own_Sm at h3; unfold own_s4; omega
theorem own_B {x : Int64} (h : -8589934592 < x.toInt ∧ x.toInt ≤ 0) : B53 x := ⟨by omega, by omega⟩
theorem own_wSm {x : Int64} (h : own_Sm x) : -8589934592 < x.toInt ∧ x.toInt ≤ 0 := ⟨by have := h.1; omega, h.2⟩
theorem own_w1 {x0 : Int64} (h0 : own_Sm x0) : -8589934592 < (own_s1 x0).toInt ∧ (own_s1 x0).toInt ≤ 0 := by have := own_r1 h0; omega
theorem own_w2 {x0 x1 : Int64} (h0 : own_Sm x0) (h1 : own_Sm x1) : -8589934592 < (own_s2 x0 x1).toInt ∧ (own_s2 x0 x1).toInt ≤ 0 := by have := own_r2 h0 h1; omega
theorem own_w3 {x0 x1 x2 : Int64} (h0 : own_Sm x0) (h1 : own_Sm x1) (h2 : own_Sm x2) : -8589934592 < (own_s3 x0 x1 x2).toInt ∧ (own_s3 x0 x1 x2).toInt ≤ 0 := by have := own_r3 h0 h1 h2; omega
theorem own_a1 {x0 : Int64} (h0 : own_Sm x0) : FP.dadd FP.dconst0 (FP.l2d x0) = FP.l2d (own_s1 x0) := by
  have z : FP.dconst0 = FP.l2d 0 := by decide +kernel
  rw [z]; exact dadd_w (own_B (by have z : (0 : Int64).toInt = 0 := rfl
                                  omega)) (own_B (own_wSm h0))
theorem own_a2 {x0 x1 : Int64} (h0 : own_Sm x0) (h1 : own_Sm x1) : FP.dadd (FP.l2d (own_s1 x0)) (FP.l2d x1) = FP.l2d (own_s2 x0 x1) := dadd_w (own_B (own_w1 h0)) (own_B (own_wSm h1))
theorem own_a3 {x0 x1 x2 : Int64} (h0 : own_Sm x0) (h1 : own_Sm x1) (h2 : own_Sm x2) : FP.dadd (FP.l2d (own_s2 x0 x1)) (FP.l2d x2) = FP.l2d (own_s3 x0 x1 x2) := dadd_w (own_B (own_w2 h0 h1)) (own_B (own_wSm h2))
theorem own_a4 {x0 x1 x2 x3 : Int64} (h0 : own_Sm x0) (h1 : own_Sm x1) (h2 : own_Sm x2) (h3 : own_Sm x3) : FP.dadd (FP.l2d (own_s3 x0 x1 x2)) (FP.l2d x3) = FP.l2d (own_s4 x0 x1 x2 x3) := dadd_w (own_B (own_w3 h0 h1 h2)) (own_B (own_wSm h3))
theorem own_c {x : Int64} (h : -8589934592 < x.toInt ∧ x.toInt ≤ 0) : cmpValue (FP.dcmp (FP.l2d x) FP.dconst0) .l = lcmpW x 0 := by
  have z : FP.dconst0 = FP.l2d 0 := by decide +kernel
  rw [z]; exact dcmpV_w (own_B h) (own_B (by have z : (0 : Int64).toInt = 0 := rfl
                                             omega)) .l
theorem own_q {n : Int32} {x : Int64} (h : ¬ lcmpW x 0 = 0) : Jvm.Free.Fl.NoNaN64 (FP.ddiv (FP.i2d n) (FP.l2d x)) := Jvm.Free.Fl.ddiv_out (Jvm.Free.Fl.i2d_fin n).noNaN (Jvm.Free.Fl.l2d_fin x) (Jvm.Free.Fl.l2d_nz fun q => h ((lw_eq x 0).mpr q))
theorem own_neg1 : FP.dneg (FP.i2d (1 : Int32)) = FP.i2d (-(1 : Int32)) := by decide +kernel
theorem own_neg2 : FP.dneg (FP.i2d (2 : Int32)) = FP.i2d (-(2 : Int32)) := by decide +kernel
theorem own_neg3 : FP.dneg (FP.i2d (3 : Int32)) = FP.i2d (-(3 : Int32)) := by decide +kernel
theorem own_neg4 : FP.dneg (FP.i2d (4 : Int32)) = FP.i2d (-(4 : Int32)) := by decide +kernel
theorem own_qL {a : UInt64} {n : Int32} {x : Int64} (e : a = FP.i2d n) (h : ¬ x = 0) : Jvm.Free.Fl.NoNaN64 (FP.ddiv a (FP.l2d x)) := e ▸ Jvm.Free.Fl.ddiv_out (Jvm.Free.Fl.i2d_fin n).noNaN (Jvm.Free.Fl.l2d_fin x) (Jvm.Free.Fl.l2d_nz h)
theorem own_sm (x : Int32) : own_Sm (-(x &&& 2147483647).toInt64) := by
  have h := c_mask x 2147483647 31 (by decide) (by decide)
  have e := c_lneg (x &&& 2147483647).toInt64; have r := rng64 (-(x &&& 2147483647).toInt64)
  rw [c_i2l] at e
  unfold own_Sm; omega
theorem d1_0 : decode prog_7_method_2_code 0 = .ok (.dconst 0, 1) := by decide +kernel
theorem d1_1 : decode prog_7_method_2_code 1 = .ok (.dstore_n 2, 1) := by decide +kernel
theorem d1_2 : decode prog_7_method_2_code 2 = .ok (.iconst 0, 1) := by decide +kernel
theorem d1_3 : decode prog_7_method_2_code 3 = .ok (.istore 4, 2) := by decide +kernel
theorem d1_5 : decode prog_7_method_2_code 5 = .ok (.iload 4, 2) := by decide +kernel
theorem d1_7 : decode prog_7_method_2_code 7 = .ok (.iload_n 1, 1) := by decide +kernel
theorem d1_8 : decode prog_7_method_2_code 8 = .ok (.if_icmp .ge 16, 3) := by decide +kernel
theorem d1_24 : decode prog_7_method_2_code 24 = .ok (.dload_n 2, 1) := by decide +kernel
theorem d1_25 : decode prog_7_method_2_code 25 = .ok (.dconst 0, 1) := by decide +kernel
theorem d1_26 : decode prog_7_method_2_code 26 = .ok (.dcmp .l, 1) := by decide +kernel
theorem d1_27 : decode prog_7_method_2_code 27 = .ok (.ifCond .ne 7, 3) := by decide +kernel
theorem d1_30 : decode prog_7_method_2_code 30 = .ok (.dconst 0, 1) := by decide +kernel
theorem d1_31 : decode prog_7_method_2_code 31 = .ok (.goto 8, 3) := by decide +kernel
theorem d1_39 : decode prog_7_method_2_code 39 = .ok (.dreturn, 1) := by decide +kernel
theorem pn_14 : plainName "com/example/axiscope/axiscope/engine/Hill" = true := by first | (simp [plainName, overriddenIn]; done) | decide +kernel
def f1e0 : UInt64 := FP.dconst0
def Q1e0 (Z : State) (n0 : Nat) (a0 : Addr) (k_a0 : ClassId) (x0 : Int64) (x1 : Int64) (x2 : Int64) (x3 : Int64) (h0 : Heap) (v : Option Value) (h : Heap) (L : List Loc) : Prop := v = some (.double f1e0) ∧ Fr n0 L ∧ h = h0
theorem ef1e0 (m : MethodId) (a0 : Addr) : entryFrame m #[(.ref a0), (.int (0 : Int32))] 5 = mkF m 0 #[.val (.ref a0), .val (.int (0 : Int32)), .unset, .unset, .unset] [] := by first | (simp [entryFrame, mkF, argsToLocals, Value.category]; done) | rfl
set_option maxRecDepth 65536 in
set_option maxHeartbeats 40000000 in
theorem rm1e0 (l : Launch) (Z : State) (aZ : Array Value) (hw : ∀ d ∈ tables_1, d.before aZ Z = true) (ws : List Jvm.Cond) (a0 : Addr) (k_a0 : ClassId) (x0 : Int64) (x1 : Int64) (x2 : Int64) (x3 : Int64) (h0 : Heap) (n0 : Nat) (Z0 : n0 ≤ h0.size) (V_a0 : Arv Z h0 a0 k_a0 .double (4 : Int32) [(.double (FP.l2d x0)), (.double (FP.l2d x1)), (.double (FP.l2d x2)), (.double (FP.l2d x3))] (.double 0)) (hb0 : own_Sm x0) (hb1 : own_Sm x1) (hb2 : own_Sm x2) (hb3 : own_Sm x3) :
    MetFree l (⟨"com/example/axiscope/axiscope/engine/Hill", "estimate", "([DI)D"⟩ : MethodName) (head1 (Jvm.Cond.code (⟨"com/example/axiscope/axiscope/engine/Hill", "estimate", "([DI)D"⟩ : MethodName) prog_7_method_2_code 5 (some .double) :: ws) ({ frames := 0, cells := 0, slots := 0, locals := 0 } : Room)) (fun a U => a = #[(.ref a0), (.int (0 : Int32))] ∧ Z.Warmed39 U.vm ∧ U.heap = h0) (fun _ _ _ _ _ => True) (fun _ U o U' => ∃ v L, o = .returned v ∧ Q1e0 Z n0 a0 k_a0 x0 x1 x2 x3 h0 v U'.heap L ∧ FrameEnd U o U' L ({ frames := 0, cells := 0, slots := 0, locals := 0 } : Room).cells ({ frames := 0, cells := 0, slots := 0, locals := 0 } : Room).slots) := by
  refine MetFree.of_bodySF (plainFor_of_name pn_14) hisR ?_
  intro p e s m args below meth c s₁ Bd hml0 hP hK
  obtain ⟨rfl, hZ, hh⟩ := hP
  have hx := Bd.exec
  have hby := Bd.bytes
  have hml : c.maxLocals = 5 := hml0
  have hown : s.vm.findClass "com/example/axiscope/axiscope/engine/Hill" = some m.cls := findClass_of_methodNamed Bd.named
  have hnm := (name_of_methodNamed Bd.named Bd.method).1
  have X0 : Stand p l e ({ frames := 0, cells := 0, slots := 0, locals := 0 } : Room) s m #[(.ref a0), (.int (0 : Int32))] below meth c s₁ [] 0 0 := Stand.of_body Bd
  have e0 : s₁.heap = h0 := by rw [← hh, Bd.state]; rfl
  have N0 := Fr.nil n0
  have K0 : Keep h0 h0 [] := Keep.refl _ _
  have go0 : ∀ t, Steps p.tables e below (s₁.setTop (mkF m 0 #[.val (.ref a0), .val (.int (0 : Int32)), .unset, .unset, .unset] [])) t → Steps p.tables e below (s₁.setTop (entryFrame m #[(.ref a0), (.int (0 : Int32))] 5)) t := fun t k => castTop (ef1e0 m a0) k
  have go1 : ∀ t, Steps p.tables e below (s₁.setTop (mkF m 39 #[.val (.ref a0), .val (.int (0 : Int32)), .val (.double FP.dconst0), .second, .val (.int (0 : Int32))] [(.double FP.dconst0)])) t → Steps p.tables e below (s₁.setTop (entryFrame m #[(.ref a0), (.int (0 : Int32))] 5)) t := by
    intro t k
    refine go0 _ ?_
    refine XS.dconst0 X0.here hx rfl (hb hby d1_0) (v := FP.dconst0) rfl ?_
    show Steps p.tables e below (s₁.setTop (mkF m 1 #[.val (.ref a0), .val (.int (0 : Int32)), .unset, .unset, .unset] [(.double FP.dconst0)])) t
    refine XS.dstoreN X0.here hx rfl (hb hby d1_1) rfl (l' := #[.val (.ref a0), .val (.int (0 : Int32)), .val (.double FP.dconst0), .second, .unset]) rfl ?_
    show Steps p.tables e below (s₁.setTop (mkF m 2 #[.val (.ref a0), .val (.int (0 : Int32)), .val (.double FP.dconst0), .second, .unset] [])) t
    refine XS.iconst X0.here hx rfl (hb hby d1_2) ?_
    show Steps p.tables e below (s₁.setTop (mkF m 3 #[.val (.ref a0), .val (.int (0 : Int32)), .val (.double FP.dconst0), .second, .unset] [(.int (0 : Int32))])) t
    refine XS.istore X0.here hx rfl (hb hby d1_3) rfl (l' := #[.val (.ref a0), .val (.int (0 : Int32)), .val (.double FP.dconst0), .second, .val (.int (0 : Int32))]) rfl ?_
    show Steps p.tables e below (s₁.setTop (mkF m 5 #[.val (.ref a0), .val (.int (0 : Int32)), .val (.double FP.dconst0), .second, .val (.int (0 : Int32))] [])) t
    refine XS.iload X0.here hx rfl (hb hby d1_5) rfl ?_
    show Steps p.tables e below (s₁.setTop (mkF m 7 #[.val (.ref a0), .val (.int (0 : Int32)), .val (.double FP.dconst0), .second, .val (.int (0 : Int32))] [(.int (0 : Int32))])) t
    refine XS.iloadN X0.here hx rfl (hb hby d1_7) rfl ?_
    show Steps p.tables e below (s₁.setTop (mkF m 8 #[.val (.ref a0), .val (.int (0 : Int32)), .val (.double FP.dconst0), .second, .val (.int (0 : Int32))] [(.int (0 : Int32)), (.int (0 : Int32))])) t
    refine XS.icmpYes X0.here hx rfl (pc0 := 8) (pc' := 24) rfl (hb hby d1_8) rfl (XT.ii_ge_t (by decide : ¬ ((0 : Int32) < (0 : Int32)))) (by decide) (by decide) ?_
    show Steps p.tables e below (s₁.setTop (mkF m 24 #[.val (.ref a0), .val (.int (0 : Int32)), .val (.double FP.dconst0), .second, .val (.int (0 : Int32))] [])) t
    refine XS.dloadN X0.here hx rfl (hb hby d1_24) rfl ?_
    show Steps p.tables e below (s₁.setTop (mkF m 25 #[.val (.ref a0), .val (.int (0 : Int32)), .val (.double FP.dconst0), .second, .val (.int (0 : Int32))] [(.double FP.dconst0)])) t
    refine XS.dconst0 X0.here hx rfl (hb hby d1_25) (v := FP.dconst0) rfl ?_
    show Steps p.tables e below (s₁.setTop (mkF m 26 #[.val (.ref a0), .val (.int (0 : Int32)), .val (.double FP.dconst0), .second, .val (.int (0 : Int32))] [(.double FP.dconst0), (.double FP.dconst0)])) t
    refine XS.dcmpS X0.here hx rfl (hb hby d1_26) rfl (v := (0 : Int32)) (by decide +kernel) ?_
    show Steps p.tables e below (s₁.setTop (mkF m 27 #[.val (.ref a0), .val (.int (0 : Int32)), .val (.double FP.dconst0), .second, .val (.int (0 : Int32))] [(.int (0 : Int32))])) t
    refine XS.ifNo X0.here hx rfl (hb hby d1_27) rfl (XT.i0_ne_f (by decide : ((0 : Int32) = (0 : Int32)))) ?_
    show Steps p.tables e below (s₁.setTop (mkF m 30 #[.val (.ref a0), .val (.int (0 : Int32)), .val (.double FP.dconst0), .second, .val (.int (0 : Int32))] [])) t
    refine XS.dconst0 X0.here hx rfl (hb hby d1_30) (v := FP.dconst0) rfl ?_
    show Steps p.tables e below (s₁.setTop (mkF m 31 #[.val (.ref a0), .val (.int (0 : Int32)), .val (.double FP.dconst0), .second, .val (.int (0 : Int32))] [(.double FP.dconst0)])) t
    refine XS.goto X0.here hx rfl (pc0 := 31) (pc' := 39) rfl (hb hby d1_31) (by decide) (by decide) ?_
    show Steps p.tables e below (s₁.setTop (mkF m 39 #[.val (.ref a0), .val (.int (0 : Int32)), .val (.double FP.dconst0), .second, .val (.int (0 : Int32))] [(.double FP.dconst0)])) t
    exact k
  obtain ⟨fs, hr, hrun, hended, hW, hsame⟩ := X0.leave (v := some (.double FP.dconst0)) (fun h => by rw [Bd.returns] at h; cases h)
  refine ⟨_, _, go1 _ (Jvm.RoadKit.retOut X0 hx Bd.returns rfl (Or.inr (Or.inr (Or.inl ⟨rfl, rfl, _, rfl⟩))) (hb hby d1_39) hr), hrun, hended, _, _, rfl, ?_, ⟨_, rfl⟩, hW, hsame.mono (by decide) (by decide)⟩
  show Q1e0 _ _ a0 k_a0 x0 x1 x2 x3 h0 _ (s₁.setFrames fs).heap _
  have hE : (s₁.setFrames fs).heap = h0 := e0
  rw [hE]
  exact ⟨by rw [f1e0], N0, rfl⟩
theorem d1_11 : decode prog_7_method_2_code 11 = .ok (.dload_n 2, 1) := by decide +kernel
theorem d1_12 : decode prog_7_method_2_code 12 = .ok (.aload_n 0, 1) := by decide +kernel
theorem d1_13 : decode prog_7_method_2_code 13 = .ok (.iload 4, 2) := by decide +kernel
theorem d1_15 : decode prog_7_method_2_code 15 = .ok (.daload, 1) := by decide +kernel
theorem d1_16 : decode prog_7_method_2_code 16 = .ok (.dadd, 1) := by decide +kernel
theorem d1_17 : decode prog_7_method_2_code 17 = .ok (.dstore_n 2, 1) := by decide +kernel
theorem d1_18 : decode prog_7_method_2_code 18 = .ok (.iinc 4 1, 3) := by decide +kernel
theorem d1_21 : decode prog_7_method_2_code 21 = .ok (.goto (-16), 3) := by decide +kernel
theorem d1_34 : decode prog_7_method_2_code 34 = .ok (.iload_n 1, 1) := by decide +kernel
theorem d1_35 : decode prog_7_method_2_code 35 = .ok (.ineg, 1) := by decide +kernel
theorem d1_36 : decode prog_7_method_2_code 36 = .ok (.i2d, 1) := by decide +kernel
theorem d1_37 : decode prog_7_method_2_code 37 = .ok (.dload_n 2, 1) := by decide +kernel
theorem d1_38 : decode prog_7_method_2_code 38 = .ok (.ddiv, 1) := by decide +kernel
def b1e1_4 (x0 : Int64) : UInt64 := (if (lcmpW (own_s1 x0) (0 : Int64)) = (0 : Int32) then FP.dconst0 else (FP.ddiv (FP.i2d (-(1 : Int32))) (FP.l2d (own_s1 x0))))
def f1e1 (x0 : Int64) : UInt64 := (b1e1_4 x0)
def Q1e1 (Z : State) (n0 : Nat) (a0 : Addr) (k_a0 : ClassId) (x0 : Int64) (x1 : Int64) (x2 : Int64) (x3 : Int64) (h0 : Heap) (v : Option Value) (h : Heap) (L : List Loc) : Prop := v = some (.double (f1e1 x0)) ∧ Fr n0 L ∧ h = h0
theorem ef1e1 (m : MethodId) (a0 : Addr) : entryFrame m #[(.ref a0), (.int (1 : Int32))] 5 = mkF m 0 #[.val (.ref a0), .val (.int (1 : Int32)), .unset, .unset, .unset] [] := by first | (simp [entryFrame, mkF, argsToLocals, Value.category]; done) | rfl
set_option maxRecDepth 65536 in
set_option maxHeartbeats 40000000 in
theorem rm1e1 (l : Launch) (Z : State) (aZ : Array Value) (hw : ∀ d ∈ tables_1, d.before aZ Z = true) (ws : List Jvm.Cond) (a0 : Addr) (k_a0 : ClassId) (x0 : Int64) (x1 : Int64) (x2 : Int64) (x3 : Int64) (h0 : Heap) (n0 : Nat) (Z0 : n0 ≤ h0.size) (V_a0 : Arv Z h0 a0 k_a0 .double (4 : Int32) [(.double (FP.l2d x0)), (.double (FP.l2d x1)), (.double (FP.l2d x2)), (.double (FP.l2d x3))] (.double 0)) (hb0 : own_Sm x0) (hb1 : own_Sm x1) (hb2 : own_Sm x2) (hb3 : own_Sm x3) :
    MetFree l (⟨"com/example/axiscope/axiscope/engine/Hill", "estimate", "([DI)D"⟩ : MethodName) (head1 (Jvm.Cond.code (⟨"com/example/axiscope/axiscope/engine/Hill", "estimate", "([DI)D"⟩ : MethodName) prog_7_method_2_code 5 (some .double) :: ws) ({ frames := 0, cells := 0, slots := 0, locals := 0 } : Room)) (fun a U => a = #[(.ref a0), (.int (1 : Int32))] ∧ Z.Warmed39 U.vm ∧ U.heap = h0) (fun _ _ _ _ _ => True) (fun _ U o U' => ∃ v L, o = .returned v ∧ Q1e1 Z n0 a0 k_a0 x0 x1 x2 x3 h0 v U'.heap L ∧ FrameEnd U o U' L ({ frames := 0, cells := 0, slots := 0, locals := 0 } : Room).cells ({ frames := 0, cells := 0, slots := 0, locals := 0 } : Room).slots) := by
  refine MetFree.of_bodySF (plainFor_of_name pn_14) hisR ?_
  intro p e s m args below meth c s₁ Bd hml0 hP hK
  obtain ⟨rfl, hZ, hh⟩ := hP
  have hx := Bd.exec
  have hby := Bd.bytes
  have hml : c.maxLocals = 5 := hml0
  have hown : s.vm.findClass "com/example/axiscope/axiscope/engine/Hill" = some m.cls := findClass_of_methodNamed Bd.named
  have hnm := (name_of_methodNamed Bd.named Bd.method).1
  have X0 : Stand p l e ({ frames := 0, cells := 0, slots := 0, locals := 0 } : Room) s m #[(.ref a0), (.int (1 : Int32))] below meth c s₁ [] 0 0 := Stand.of_body Bd
  have e0 : s₁.heap = h0 := by rw [← hh, Bd.state]; rfl
  have N0 := Fr.nil n0
  have K0 : Keep h0 h0 [] := Keep.refl _ _
  have go0 : ∀ t, Steps p.tables e below (s₁.setTop (mkF m 0 #[.val (.ref a0), .val (.int (1 : Int32)), .unset, .unset, .unset] [])) t → Steps p.tables e below (s₁.setTop (entryFrame m #[(.ref a0), (.int (1 : Int32))] 5)) t := fun t k => castTop (ef1e1 m a0) k
  obtain ⟨cl1, Ar1, q1, S1, N1, H1, G1⟩ := id V_a0
  have go3 : ∀ t, Steps p.tables e below (s₁.setTop (mkF m 39 #[.val (.ref a0), .val (.int (1 : Int32)), .val (.double (FP.l2d (own_s1 x0))), .second, .val (.int (1 : Int32))] [(.double (b1e1_4 x0))])) t → Steps p.tables e below (s₁.setTop (entryFrame m #[(.ref a0), (.int (1 : Int32))] 5)) t := by
    intro t k
    refine go0 _ ?_
    refine XS.dconst0 X0.here hx rfl (hb hby d1_0) (v := FP.dconst0) rfl ?_
    show Steps p.tables e below (s₁.setTop (mkF m 1 #[.val (.ref a0), .val (.int (1 : Int32)), .unset, .unset, .unset] [(.double FP.dconst0)])) t
    refine XS.dstoreN X0.here hx rfl (hb hby d1_1) rfl (l' := #[.val (.ref a0), .val (.int (1 : Int32)), .val (.double FP.dconst0), .second, .unset]) rfl ?_
    show Steps p.tables e below (s₁.setTop (mkF m 2 #[.val (.ref a0), .val (.int (1 : Int32)), .val (.double FP.dconst0), .second, .unset] [])) t
    refine XS.iconst X0.here hx rfl (hb hby d1_2) ?_
    show Steps p.tables e below (s₁.setTop (mkF m 3 #[.val (.ref a0), .val (.int (1 : Int32)), .val (.double FP.dconst0), .second, .unset] [(.int (0 : Int32))])) t
    refine XS.istore X0.here hx rfl (hb hby d1_3) rfl (l' := #[.val (.ref a0), .val (.int (1 : Int32)), .val (.double FP.dconst0), .second, .val (.int (0 : Int32))]) rfl ?_
    show Steps p.tables e below (s₁.setTop (mkF m 5 #[.val (.ref a0), .val (.int (1 : Int32)), .val (.double FP.dconst0), .second, .val (.int (0 : Int32))] [])) t
    refine XS.iload X0.here hx rfl (hb hby d1_5) rfl ?_
    show Steps p.tables e below (s₁.setTop (mkF m 7 #[.val (.ref a0), .val (.int (1 : Int32)), .val (.double FP.dconst0), .second, .val (.int (0 : Int32))] [(.int (0 : Int32))])) t
    refine XS.iloadN X0.here hx rfl (hb hby d1_7) rfl ?_
    show Steps p.tables e below (s₁.setTop (mkF m 8 #[.val (.ref a0), .val (.int (1 : Int32)), .val (.double FP.dconst0), .second, .val (.int (0 : Int32))] [(.int (1 : Int32)), (.int (0 : Int32))])) t
    refine XS.icmpNo X0.here hx rfl (hb hby d1_8) rfl (XT.ii_ge_f (by decide : ((0 : Int32) < (1 : Int32)))) ?_
    show Steps p.tables e below (s₁.setTop (mkF m 11 #[.val (.ref a0), .val (.int (1 : Int32)), .val (.double FP.dconst0), .second, .val (.int (0 : Int32))] [])) t
    refine XS.dloadN X0.here hx rfl (hb hby d1_11) rfl ?_
    show Steps p.tables e below (s₁.setTop (mkF m 12 #[.val (.ref a0), .val (.int (1 : Int32)), .val (.double FP.dconst0), .second, .val (.int (0 : Int32))] [(.double FP.dconst0)])) t
    refine XS.aloadN X0.here hx rfl (hb hby d1_12) rfl rfl ?_
    show Steps p.tables e below (s₁.setTop (mkF m 13 #[.val (.ref a0), .val (.int (1 : Int32)), .val (.double FP.dconst0), .second, .val (.int (0 : Int32))] [(.ref a0), (.double FP.dconst0)])) t
    refine XS.iload X0.here hx rfl (hb hby d1_13) rfl ?_
    show Steps p.tables e below (s₁.setTop (mkF m 15 #[.val (.ref a0), .val (.int (1 : Int32)), .val (.double FP.dconst0), .second, .val (.int (0 : Int32))] [(.int (0 : Int32)), (.ref a0), (.double FP.dconst0)])) t
    refine X0.daload hx (j := (0 : Int32)) (v := (.double (FP.l2d x0))) (by rw [e0]; exact Ar1.1) (State.isArrayOf_alike hZ.alike Ar1.2.1) Ar1.2.2 (inb_of S1 ⟨by decide, by decide⟩) (Has.at H1 (inb_of S1 ⟨by decide, by decide⟩) rfl) (g := (mkF m 15 #[.val (.ref a0), .val (.int (1 : Int32)), .val (.double FP.dconst0), .second, .val (.int (0 : Int32))] [(.int (0 : Int32)), (.ref a0), (.double FP.dconst0)])) rfl rfl (hb hby d1_15) _ ?_
    show Steps p.tables e below (s₁.setTop (mkF m 16 #[.val (.ref a0), .val (.int (1 : Int32)), .val (.double FP.dconst0), .second, .val (.int (0 : Int32))] [(.double (FP.l2d x0)), (.double FP.dconst0)])) t
    refine XS.daddS X0.here hx rfl (hb hby d1_16) rfl (nn_w (own_a1 hb0)) (v := (FP.l2d (own_s1 x0))) (own_a1 hb0) ?_
    show Steps p.tables e below (s₁.setTop (mkF m 17 #[.val (.ref a0), .val (.int (1 : Int32)), .val (.double FP.dconst0), .second, .val (.int (0 : Int32))] [(.double (FP.l2d (own_s1 x0)))])) t
    refine XS.dstoreN X0.here hx rfl (hb hby d1_17) rfl (l' := #[.val (.ref a0), .val (.int (1 : Int32)), .val (.double (FP.l2d (own_s1 x0))), .second, .val (.int (0 : Int32))]) rfl ?_
    show Steps p.tables e below (s₁.setTop (mkF m 18 #[.val (.ref a0), .val (.int (1 : Int32)), .val (.double (FP.l2d (own_s1 x0))), .second, .val (.int (0 : Int32))] [])) t
    refine XS.iinc X0.here hx rfl (hb hby d1_18) rfl (l' := #[.val (.ref a0), .val (.int (1 : Int32)), .val (.double (FP.l2d (own_s1 x0))), .second, .val (.int (1 : Int32))]) rfl ?_
    show Steps p.tables e below (s₁.setTop (mkF m 21 #[.val (.ref a0), .val (.int (1 : Int32)), .val (.double (FP.l2d (own_s1 x0))), .second, .val (.int (1 : Int32))] [])) t
    refine XS.goto X0.here hx rfl (pc0 := 21) (pc' := 5) rfl (hb hby d1_21) (by decide) (by decide) ?_
    show Steps p.tables e below (s₁.setTop (mkF m 5 #[.val (.ref a0), .val (.int (1 : Int32)), .val (.double (FP.l2d (own_s1 x0))), .second, .val (.int (1 : Int32))] [])) t
    refine XS.iload X0.here hx rfl (hb hby d1_5) rfl ?_
    show Steps p.tables e below (s₁.setTop (mkF m 7 #[.val (.ref a0), .val (.int (1 : Int32)), .val (.double (FP.l2d (own_s1 x0))), .second, .val (.int (1 : Int32))] [(.int (1 : Int32))])) t
    refine XS.iloadN X0.here hx rfl (hb hby d1_7) rfl ?_
    show Steps p.tables e below (s₁.setTop (mkF m 8 #[.val (.ref a0), .val (.int (1 : Int32)), .val (.double (FP.l2d (own_s1 x0))), .second, .val (.int (1 : Int32))] [(.int (1 : Int32)), (.int (1 : Int32))])) t
    refine XS.icmpYes X0.here hx rfl (pc0 := 8) (pc' := 24) rfl (hb hby d1_8) rfl (XT.ii_ge_t (by decide : ¬ ((1 : Int32) < (1 : Int32)))) (by decide) (by decide) ?_
    show Steps p.tables e below (s₁.setTop (mkF m 24 #[.val (.ref a0), .val (.int (1 : Int32)), .val (.double (FP.l2d (own_s1 x0))), .second, .val (.int (1 : Int32))] [])) t
    refine XS.dloadN X0.here hx rfl (hb hby d1_24) rfl ?_
    show Steps p.tables e below (s₁.setTop (mkF m 25 #[.val (.ref a0), .val (.int (1 : Int32)), .val (.double (FP.l2d (own_s1 x0))), .second, .val (.int (1 : Int32))] [(.double (FP.l2d (own_s1 x0)))])) t
    refine XS.dconst0 X0.here hx rfl (hb hby d1_25) (v := FP.dconst0) rfl ?_
    show Steps p.tables e below (s₁.setTop (mkF m 26 #[.val (.ref a0), .val (.int (1 : Int32)), .val (.double (FP.l2d (own_s1 x0))), .second, .val (.int (1 : Int32))] [(.double FP.dconst0), (.double (FP.l2d (own_s1 x0)))])) t
    refine XS.dcmpS X0.here hx rfl (hb hby d1_26) rfl (v := (lcmpW (own_s1 x0) (0 : Int64))) (own_c (own_w1 hb0)) ?_
    show Steps p.tables e below (s₁.setTop (mkF m 27 #[.val (.ref a0), .val (.int (1 : Int32)), .val (.double (FP.l2d (own_s1 x0))), .second, .val (.int (1 : Int32))] [(.int (lcmpW (own_s1 x0) (0 : Int64)))])) t
    by_cases hc2 : (lcmpW (own_s1 x0) (0 : Int64)) = (0 : Int32)
    · refine XS.ifNo X0.here hx rfl (hb hby d1_27) rfl (XT.i0_ne_f hc2) ?_
      show Steps p.tables e below (s₁.setTop (mkF m 30 #[.val (.ref a0), .val (.int (1 : Int32)), .val (.double (FP.l2d (own_s1 x0))), .second, .val (.int (1 : Int32))] [])) t
      refine XS.dconst0 X0.here hx rfl (hb hby d1_30) (v := FP.dconst0) rfl ?_
      show Steps p.tables e below (s₁.setTop (mkF m 31 #[.val (.ref a0), .val (.int (1 : Int32)), .val (.double (FP.l2d (own_s1 x0))), .second, .val (.int (1 : Int32))] [(.double FP.dconst0)])) t
      refine XS.goto X0.here hx rfl (pc0 := 31) (pc' := 39) rfl (hb hby d1_31) (by decide) (by decide) ?_
      show Steps p.tables e below (s₁.setTop (mkF m 39 #[.val (.ref a0), .val (.int (1 : Int32)), .val (.double (FP.l2d (own_s1 x0))), .second, .val (.int (1 : Int32))] [(.double FP.dconst0)])) t
      have hq5 : (b1e1_4 x0) = FP.dconst0 := by rw [b1e1_4, if_pos hc2]
      rw [hq5] at k
      exact k
    · refine XS.ifYes X0.here hx rfl (pc0 := 27) (pc' := 34) rfl (hb hby d1_27) rfl (XT.i0_ne_t hc2) (by decide) (by decide) ?_
      show Steps p.tables e below (s₁.setTop (mkF m 34 #[.val (.ref a0), .val (.int (1 : Int32)), .val (.double (FP.l2d (own_s1 x0))), .second, .val (.int (1 : Int32))] [])) t
      refine XS.iloadN X0.here hx rfl (hb hby d1_34) rfl ?_
      show Steps p.tables e below (s₁.setTop (mkF m 35 #[.val (.ref a0), .val (.int (1 : Int32)), .val (.double (FP.l2d (own_s1 x0))), .second, .val (.int (1 : Int32))] [(.int (1 : Int32))])) t
      refine XS.ineg X0.here hx rfl (hb hby d1_35) rfl ?_
      show Steps p.tables e below (s₁.setTop (mkF m 36 #[.val (.ref a0), .val (.int (1 : Int32)), .val (.double (FP.l2d (own_s1 x0))), .second, .val (.int (1 : Int32))] [(.int (-(1 : Int32)))])) t
      refine XS.i2dS X0.here hx rfl (hb hby d1_36) rfl (v := (FP.i2d (-(1 : Int32)))) rfl ?_
      show Steps p.tables e below (s₁.setTop (mkF m 37 #[.val (.ref a0), .val (.int (1 : Int32)), .val (.double (FP.l2d (own_s1 x0))), .second, .val (.int (1 : Int32))] [(.double (FP.i2d (-(1 : Int32))))])) t
      refine XS.dloadN X0.here hx rfl (hb hby d1_37) rfl ?_
      show Steps p.tables e below (s₁.setTop (mkF m 38 #[.val (.ref a0), .val (.int (1 : Int32)), .val (.double (FP.l2d (own_s1 x0))), .second, .val (.int (1 : Int32))] [(.double (FP.l2d (own_s1 x0))), (.double (FP.i2d (-(1 : Int32))))])) t
      refine XS.ddivS X0.here hx rfl (hb hby d1_38) rfl (own_q hc2) (v := (FP.ddiv (FP.i2d (-(1 : Int32))) (FP.l2d (own_s1 x0)))) rfl ?_
      show Steps p.tables e below (s₁.setTop (mkF m 39 #[.val (.ref a0), .val (.int (1 : Int32)), .val (.double (FP.l2d (own_s1 x0))), .second, .val (.int (1 : Int32))] [(.double (FP.ddiv (FP.i2d (-(1 : Int32))) (FP.l2d (own_s1 x0))))])) t
      have hq6 : (b1e1_4 x0) = (FP.ddiv (FP.i2d (-(1 : Int32))) (FP.l2d (own_s1 x0))) := by rw [b1e1_4, if_neg hc2]
      rw [hq6] at k
      exact k
  obtain ⟨fs, hr, hrun, hended, hW, hsame⟩ := X0.leave (v := some (.double (b1e1_4 x0))) (fun h => by rw [Bd.returns] at h; cases h)
  refine ⟨_, _, go3 _ (Jvm.RoadKit.retOut X0 hx Bd.returns rfl (Or.inr (Or.inr (Or.inl ⟨rfl, rfl, _, rfl⟩))) (hb hby d1_39) hr), hrun, hended, _, _, rfl, ?_, ⟨_, rfl⟩, hW, hsame.mono (by decide) (by decide)⟩
  show Q1e1 _ _ a0 k_a0 x0 x1 x2 x3 h0 _ (s₁.setFrames fs).heap _
  have hE : (s₁.setFrames fs).heap = h0 := e0
  rw [hE]
  exact ⟨by rw [f1e1], N0, rfl⟩
def b1e2_4 (x0 : Int64) (x1 : Int64) : UInt64 := (if (lcmpW (own_s2 x0 x1) (0 : Int64)) = (0 : Int32) then FP.dconst0 else (FP.ddiv (FP.i2d (-(2 : Int32))) (FP.l2d (own_s2 x0 x1))))
def f1e2 (x0 : Int64) (x1 : Int64) : UInt64 := (b1e2_4 x0 x1)
def Q1e2 (Z : State) (n0 : Nat) (a0 : Addr) (k_a0 : ClassId) (x0 : Int64) (x1 : Int64) (x2 : Int64) (x3 : Int64) (h0 : Heap) (v : Option Value) (h : Heap) (L : List Loc) : Prop := v = some (.double (f1e2 x0 x1)) ∧ Fr n0 L ∧ h = h0
theorem ef1e2 (m : MethodId) (a0 : Addr) : entryFrame m #[(.ref a0), (.int (2 : Int32))] 5 = mkF m 0 #[.val (.ref a0), .val (.int (2 : Int32)), .unset, .unset, .unset] [] := by first | (simp [entryFrame, mkF, argsToLocals, Value.category]; done) | rfl
set_option maxRecDepth 65536 in
set_option maxHeartbeats 40000000 in
theorem rm1e2 (l : Launch) (Z : State) (aZ : Array Value) (hw : ∀ d ∈ tables_1, d.before aZ Z = true) (ws : List Jvm.Cond) (a0 : Addr) (k_a0 : ClassId) (x0 : Int64) (x1 : Int64) (x2 : Int64) (x3 : Int64) (h0 : Heap) (n0 : Nat) (Z0 : n0 ≤ h0.size) (V_a0 : Arv Z h0 a0 k_a0 .double (4 : Int32) [(.double (FP.l2d x0)), (.double (FP.l2d x1)), (.double (FP.l2d x2)), (.double (FP.l2d x3))] (.double 0)) (hb0 : own_Sm x0) (hb1 : own_Sm x1) (hb2 : own_Sm x2) (hb3 : own_Sm x3) :
    MetFree l (⟨"com/example/axiscope/axiscope/engine/Hill", "estimate", "([DI)D"⟩ : MethodName) (head1 (Jvm.Cond.code (⟨"com/example/axiscope/axiscope/engine/Hill", "estimate", "([DI)D"⟩ : MethodName) prog_7_method_2_code 5 (some .double) :: ws) ({ frames := 0, cells := 0, slots := 0, locals := 0 } : Room)) (fun a U => a = #[(.ref a0), (.int (2 : Int32))] ∧ Z.Warmed39 U.vm ∧ U.heap = h0) (fun _ _ _ _ _ => True) (fun _ U o U' => ∃ v L, o = .returned v ∧ Q1e2 Z n0 a0 k_a0 x0 x1 x2 x3 h0 v U'.heap L ∧ FrameEnd U o U' L ({ frames := 0, cells := 0, slots := 0, locals := 0 } : Room).cells ({ frames := 0, cells := 0, slots := 0, locals := 0 } : Room).slots) := by
  refine MetFree.of_bodySF (plainFor_of_name pn_14) hisR ?_
  intro p e s m args below meth c s₁ Bd hml0 hP hK
  obtain ⟨rfl, hZ, hh⟩ := hP
  have hx := Bd.exec
  have hby := Bd.bytes
  have hml : c.maxLocals = 5 := hml0
  have hown : s.vm.findClass "com/example/axiscope/axiscope/engine/Hill" = some m.cls := findClass_of_methodNamed Bd.named
  have hnm := (name_of_methodNamed Bd.named Bd.method).1
  have X0 : Stand p l e ({ frames := 0, cells := 0, slots := 0, locals := 0 } : Room) s m #[(.ref a0), (.int (2 : Int32))] below meth c s₁ [] 0 0 := Stand.of_body Bd
  have e0 : s₁.heap = h0 := by rw [← hh, Bd.state]; rfl
  have N0 := Fr.nil n0
  have K0 : Keep h0 h0 [] := Keep.refl _ _
  have go0 : ∀ t, Steps p.tables e below (s₁.setTop (mkF m 0 #[.val (.ref a0), .val (.int (2 : Int32)), .unset, .unset, .unset] [])) t → Steps p.tables e below (s₁.setTop (entryFrame m #[(.ref a0), (.int (2 : Int32))] 5)) t := fun t k => castTop (ef1e2 m a0) k
  obtain ⟨cl1, Ar1, q1, S1, N1, H1, G1⟩ := id V_a0
  have go3 : ∀ t, Steps p.tables e below (s₁.setTop (mkF m 39 #[.val (.ref a0), .val (.int (2 : Int32)), .val (.double (FP.l2d (own_s2 x0 x1))), .second, .val (.int (2 : Int32))] [(.double (b1e2_4 x0 x1))])) t → Steps p.tables e below (s₁.setTop (entryFrame m #[(.ref a0), (.int (2 : Int32))] 5)) t := by
    intro t k
    refine go0 _ ?_
    refine XS.dconst0 X0.here hx rfl (hb hby d1_0) (v := FP.dconst0) rfl ?_
    show Steps p.tables e below (s₁.setTop (mkF m 1 #[.val (.ref a0), .val (.int (2 : Int32)), .unset, .unset, .unset] [(.double FP.dconst0)])) t
    refine XS.dstoreN X0.here hx rfl (hb hby d1_1) rfl (l' := #[.val (.ref a0), .val (.int (2 : Int32)), .val (.double FP.dconst0), .second, .unset]) rfl ?_
    show Steps p.tables e below (s₁.setTop (mkF m 2 #[.val (.ref a0), .val (.int (2 : Int32)), .val (.double FP.dconst0), .second, .unset] [])) t
    refine XS.iconst X0.here hx rfl (hb hby d1_2) ?_
    show Steps p.tables e below (s₁.setTop (mkF m 3 #[.val (.ref a0), .val (.int (2 : Int32)), .val (.double FP.dconst0), .second, .unset] [(.int (0 : Int32))])) t
    refine XS.istore X0.here hx rfl (hb hby d1_3) rfl (l' := #[.val (.ref a0), .val (.int (2 : Int32)), .val (.double FP.dconst0), .second, .val (.int (0 : Int32))]) rfl ?_
    show Steps p.tables e below (s₁.setTop (mkF m 5 #[.val (.ref a0), .val (.int (2 : Int32)), .val (.double FP.dconst0), .second, .val (.int (0 : Int32))] [])) t
    refine XS.iload X0.here hx rfl (hb hby d1_5) rfl ?_
    show Steps p.tables e below (s₁.setTop (mkF m 7 #[.val (.ref a0), .val (.int (2 : Int32)), .val (.double FP.dconst0), .second, .val (.int (0 : Int32))] [(.int (0 : Int32))])) t
    refine XS.iloadN X0.here hx rfl (hb hby d1_7) rfl ?_
    show Steps p.tables e below (s₁.setTop (mkF m 8 #[.val (.ref a0), .val (.int (2 : Int32)), .val (.double FP.dconst0), .second, .val (.int (0 : Int32))] [(.int (2 : Int32)), (.int (0 : Int32))])) t
    refine XS.icmpNo X0.here hx rfl (hb hby d1_8) rfl (XT.ii_ge_f (by decide : ((0 : Int32) < (2 : Int32)))) ?_
    show Steps p.tables e below (s₁.setTop (mkF m 11 #[.val (.ref a0), .val (.int (2 : Int32)), .val (.double FP.dconst0), .second, .val (.int (0 : Int32))] [])) t
    refine XS.dloadN X0.here hx rfl (hb hby d1_11) rfl ?_
    show Steps p.tables e below (s₁.setTop (mkF m 12 #[.val (.ref a0), .val (.int (2 : Int32)), .val (.double FP.dconst0), .second, .val (.int (0 : Int32))] [(.double FP.dconst0)])) t
    refine XS.aloadN X0.here hx rfl (hb hby d1_12) rfl rfl ?_
    show Steps p.tables e below (s₁.setTop (mkF m 13 #[.val (.ref a0), .val (.int (2 : Int32)), .val (.double FP.dconst0), .second, .val (.int (0 : Int32))] [(.ref a0), (.double FP.dconst0)])) t
    refine XS.iload X0.here hx rfl (hb hby d1_13) rfl ?_
    show Steps p.tables e below (s₁.setTop (mkF m 15 #[.val (.ref a0), .val (.int (2 : Int32)), .val (.double FP.dconst0), .second, .val (.int (0 : Int32))] [(.int (0 : Int32)), (.ref a0), (.double FP.dconst0)])) t
    refine X0.daload hx (j := (0 : Int32)) (v := (.double (FP.l2d x0))) (by rw [e0]; exact Ar1.1) (State.isArrayOf_alike hZ.alike Ar1.2.1) Ar1.2.2 (inb_of S1 ⟨by decide, by decide⟩) (Has.at H1 (inb_of S1 ⟨by decide, by decide⟩) rfl) (g := (mkF m 15 #[.val (.ref a0), .val (.int (2 : Int32)), .val (.double FP.dconst0), .second, .val (.int (0 : Int32))] [(.int (0 : Int32)), (.ref a0), (.double FP.dconst0)])) rfl rfl (hb hby d1_15) _ ?_
    show Steps p.tables e below (s₁.setTop (mkF m 16 #[.val (.ref a0), .val (.int (2 : Int32)), .val (.double FP.dconst0), .second, .val (.int (0 : Int32))] [(.double (FP.l2d x0)), (.double FP.dconst0)])) t
    refine XS.daddS X0.here hx rfl (hb hby d1_16) rfl (nn_w (own_a1 hb0)) (v := (FP.l2d (own_s1 x0))) (own_a1 hb0) ?_
    show Steps p.tables e below (s₁.setTop (mkF m 17 #[.val (.ref a0), .val (.int (2 : Int32)), .val (.double FP.dconst0), .second, .val (.int (0 : Int32))] [(.double (FP.l2d (own_s1 x0)))])) t
    refine XS.dstoreN X0.here hx rfl (hb hby d1_17) rfl (l' := #[.val (.ref a0), .val (.int (2 : Int32)), .val (.double (FP.l2d (own_s1 x0))), .second, .val (.int (0 : Int32))]) rfl ?_
    show Steps p.tables e below (s₁.setTop (mkF m 18 #[.val (.ref a0), .val (.int (2 : Int32)), .val (.double (FP.l2d (own_s1 x0))), .second, .val (.int (0 : Int32))] [])) t
    refine XS.iinc X0.here hx rfl (hb hby d1_18) rfl (l' := #[.val (.ref a0), .val (.int (2 : Int32)), .val (.double (FP.l2d (own_s1 x0))), .second, .val (.int (1 : Int32))]) rfl ?_
    show Steps p.tables e below (s₁.setTop (mkF m 21 #[.val (.ref a0), .val (.int (2 : Int32)), .val (.double (FP.l2d (own_s1 x0))), .second, .val (.int (1 : Int32))] [])) t
    refine XS.goto X0.here hx rfl (pc0 := 21) (pc' := 5) rfl (hb hby d1_21) (by decide) (by decide) ?_
    show Steps p.tables e below (s₁.setTop (mkF m 5 #[.val (.ref a0), .val (.int (2 : Int32)), .val (.double (FP.l2d (own_s1 x0))), .second, .val (.int (1 : Int32))] [])) t
    refine XS.iload X0.here hx rfl (hb hby d1_5) rfl ?_
    show Steps p.tables e below (s₁.setTop (mkF m 7 #[.val (.ref a0), .val (.int (2 : Int32)), .val (.double (FP.l2d (own_s1 x0))), .second, .val (.int (1 : Int32))] [(.int (1 : Int32))])) t
    refine XS.iloadN X0.here hx rfl (hb hby d1_7) rfl ?_
    show Steps p.tables e below (s₁.setTop (mkF m 8 #[.val (.ref a0), .val (.int (2 : Int32)), .val (.double (FP.l2d (own_s1 x0))), .second, .val (.int (1 : Int32))] [(.int (2 : Int32)), (.int (1 : Int32))])) t
    refine XS.icmpNo X0.here hx rfl (hb hby d1_8) rfl (XT.ii_ge_f (by decide : ((1 : Int32) < (2 : Int32)))) ?_
    show Steps p.tables e below (s₁.setTop (mkF m 11 #[.val (.ref a0), .val (.int (2 : Int32)), .val (.double (FP.l2d (own_s1 x0))), .second, .val (.int (1 : Int32))] [])) t
    refine XS.dloadN X0.here hx rfl (hb hby d1_11) rfl ?_
    show Steps p.tables e below (s₁.setTop (mkF m 12 #[.val (.ref a0), .val (.int (2 : Int32)), .val (.double (FP.l2d (own_s1 x0))), .second, .val (.int (1 : Int32))] [(.double (FP.l2d (own_s1 x0)))])) t
    refine XS.aloadN X0.here hx rfl (hb hby d1_12) rfl rfl ?_
    show Steps p.tables e below (s₁.setTop (mkF m 13 #[.val (.ref a0), .val (.int (2 : Int32)), .val (.double (FP.l2d (own_s1 x0))), .second, .val (.int (1 : Int32))] [(.ref a0), (.double (FP.l2d (own_s1 x0)))])) t
    refine XS.iload X0.here hx rfl (hb hby d1_13) rfl ?_
    show Steps p.tables e below (s₁.setTop (mkF m 15 #[.val (.ref a0), .val (.int (2 : Int32)), .val (.double (FP.l2d (own_s1 x0))), .second, .val (.int (1 : Int32))] [(.int (1 : Int32)), (.ref a0), (.double (FP.l2d (own_s1 x0)))])) t
    refine X0.daload hx (j := (1 : Int32)) (v := (.double (FP.l2d x1))) (by rw [e0]; exact Ar1.1) (State.isArrayOf_alike hZ.alike Ar1.2.1) Ar1.2.2 (inb_of S1 ⟨by decide, by decide⟩) (Has.at H1 (inb_of S1 ⟨by decide, by decide⟩) rfl) (g := (mkF m 15 #[.val (.ref a0), .val (.int (2 : Int32)), .val (.double (FP.l2d (own_s1 x0))), .second, .val (.int (1 : Int32))] [(.int (1 : Int32)), (.ref a0), (.double (FP.l2d (own_s1 x0)))])) rfl rfl (hb hby d1_15) _ ?_
    show Steps p.tables e below (s₁.setTop (mkF m 16 #[.val (.ref a0), .val (.int (2 : Int32)), .val (.double (FP.l2d (own_s1 x0))), .second, .val (.int (1 : Int32))] [(.double (FP.l2d x1)), (.double (FP.l2d (own_s1 x0)))])) t
    refine XS.daddS X0.here hx rfl (hb hby d1_16) rfl (nn_w (own_a2 hb0 hb1)) (v := (FP.l2d (own_s2 x0 x1))) (own_a2 hb0 hb1) ?_
    show Steps p.tables e below (s₁.setTop (mkF m 17 #[.val (.ref a0), .val (.int (2 : Int32)), .val (.double (FP.l2d (own_s1 x0))), .second, .val (.int (1 : Int32))] [(.double (FP.l2d (own_s2 x0 x1)))])) t
    refine XS.dstoreN X0.here hx rfl (hb hby d1_17) rfl (l' := #[.val (.ref a0), .val (.int (2 : Int32)), .val (.double (FP.l2d (own_s2 x0 x1))), .second, .val (.int (1 : Int32))]) rfl ?_
    show Steps p.tables e below (s₁.setTop (mkF m 18 #[.val (.ref a0), .val (.int (2 : Int32)), .val (.double (FP.l2d (own_s2 x0 x1))), .second, .val (.int (1 : Int32))] [])) t
    refine XS.iinc X0.here hx rfl (hb hby d1_18) rfl (l' := #[.val (.ref a0), .val (.int (2 : Int32)), .val (.double (FP.l2d (own_s2 x0 x1))), .second, .val (.int (2 : Int32))]) rfl ?_
    show Steps p.tables e below (s₁.setTop (mkF m 21 #[.val (.ref a0), .val (.int (2 : Int32)), .val (.double (FP.l2d (own_s2 x0 x1))), .second, .val (.int (2 : Int32))] [])) t
    refine XS.goto X0.here hx rfl (pc0 := 21) (pc' := 5) rfl (hb hby d1_21) (by decide) (by decide) ?_
    show Steps p.tables e below (s₁.setTop (mkF m 5 #[.val (.ref a0), .val (.int (2 : Int32)), .val (.double (FP.l2d (own_s2 x0 x1))), .second, .val (.int (2 : Int32))] [])) t
    refine XS.iload X0.here hx rfl (hb hby d1_5) rfl ?_
    show Steps p.tables e below (s₁.setTop (mkF m 7 #[.val (.ref a0), .val (.int (2 : Int32)), .val (.double (FP.l2d (own_s2 x0 x1))), .second, .val (.int (2 : Int32))] [(.int (2 : Int32))])) t
    refine XS.iloadN X0.here hx rfl (hb hby d1_7) rfl ?_
    show Steps p.tables e below (s₁.setTop (mkF m 8 #[.val (.ref a0), .val (.int (2 : Int32)), .val (.double (FP.l2d (own_s2 x0 x1))), .second, .val (.int (2 : Int32))] [(.int (2 : Int32)), (.int (2 : Int32))])) t
    refine XS.icmpYes X0.here hx rfl (pc0 := 8) (pc' := 24) rfl (hb hby d1_8) rfl (XT.ii_ge_t (by decide : ¬ ((2 : Int32) < (2 : Int32)))) (by decide) (by decide) ?_
    show Steps p.tables e below (s₁.setTop (mkF m 24 #[.val (.ref a0), .val (.int (2 : Int32)), .val (.double (FP.l2d (own_s2 x0 x1))), .second, .val (.int (2 : Int32))] [])) t
    refine XS.dloadN X0.here hx rfl (hb hby d1_24) rfl ?_
    show Steps p.tables e below (s₁.setTop (mkF m 25 #[.val (.ref a0), .val (.int (2 : Int32)), .val (.double (FP.l2d (own_s2 x0 x1))), .second, .val (.int (2 : Int32))] [(.double (FP.l2d (own_s2 x0 x1)))])) t
    refine XS.dconst0 X0.here hx rfl (hb hby d1_25) (v := FP.dconst0) rfl ?_
    show Steps p.tables e below (s₁.setTop (mkF m 26 #[.val (.ref a0), .val (.int (2 : Int32)), .val (.double (FP.l2d (own_s2 x0 x1))), .second, .val (.int (2 : Int32))] [(.double FP.dconst0), (.double (FP.l2d (own_s2 x0 x1)))])) t
    refine XS.dcmpS X0.here hx rfl (hb hby d1_26) rfl (v := (lcmpW (own_s2 x0 x1) (0 : Int64))) (own_c (own_w2 hb0 hb1)) ?_
    show Steps p.tables e below (s₁.setTop (mkF m 27 #[.val (.ref a0), .val (.int (2 : Int32)), .val (.double (FP.l2d (own_s2 x0 x1))), .second, .val (.int (2 : Int32))] [(.int (lcmpW (own_s2 x0 x1) (0 : Int64)))])) t
    by_cases hc2 : (lcmpW (own_s2 x0 x1) (0 : Int64)) = (0 : Int32)
    · refine XS.ifNo X0.here hx rfl (hb hby d1_27) rfl (XT.i0_ne_f hc2) ?_
      show Steps p.tables e below (s₁.setTop (mkF m 30 #[.val (.ref a0), .val (.int (2 : Int32)), .val (.double (FP.l2d (own_s2 x0 x1))), .second, .val (.int (2 : Int32))] [])) t
      refine XS.dconst0 X0.here hx rfl (hb hby d1_30) (v := FP.dconst0) rfl ?_
      show Steps p.tables e below (s₁.setTop (mkF m 31 #[.val (.ref a0), .val (.int (2 : Int32)), .val (.double (FP.l2d (own_s2 x0 x1))), .second, .val (.int (2 : Int32))] [(.double FP.dconst0)])) t
      refine XS.goto X0.here hx rfl (pc0 := 31) (pc' := 39) rfl (hb hby d1_31) (by decide) (by decide) ?_
      show Steps p.tables e below (s₁.setTop (mkF m 39 #[.val (.ref a0), .val (.int (2 : Int32)), .val (.double (FP.l2d (own_s2 x0 x1))), .second, .val (.int (2 : Int32))] [(.double FP.dconst0)])) t
      have hq5 : (b1e2_4 x0 x1) = FP.dconst0 := by rw [b1e2_4, if_pos hc2]
      rw [hq5] at k
      exact k
    · refine XS.ifYes X0.here hx rfl (pc0 := 27) (pc' := 34) rfl (hb hby d1_27) rfl (XT.i0_ne_t hc2) (by decide) (by decide) ?_
      show Steps p.tables e below (s₁.setTop (mkF m 34 #[.val (.ref a0), .val (.int (2 : Int32)), .val (.double (FP.l2d (own_s2 x0 x1))), .second, .val (.int (2 : Int32))] [])) t
      refine XS.iloadN X0.here hx rfl (hb hby d1_34) rfl ?_
      show Steps p.tables e below (s₁.setTop (mkF m 35 #[.val (.ref a0), .val (.int (2 : Int32)), .val (.double (FP.l2d (own_s2 x0 x1))), .second, .val (.int (2 : Int32))] [(.int (2 : Int32))])) t
      refine XS.ineg X0.here hx rfl (hb hby d1_35) rfl ?_
      show Steps p.tables e below (s₁.setTop (mkF m 36 #[.val (.ref a0), .val (.int (2 : Int32)), .val (.double (FP.l2d (own_s2 x0 x1))), .second, .val (.int (2 : Int32))] [(.int (-(2 : Int32)))])) t
      refine XS.i2dS X0.here hx rfl (hb hby d1_36) rfl (v := (FP.i2d (-(2 : Int32)))) rfl ?_
      show Steps p.tables e below (s₁.setTop (mkF m 37 #[.val (.ref a0), .val (.int (2 : Int32)), .val (.double (FP.l2d (own_s2 x0 x1))), .second, .val (.int (2 : Int32))] [(.double (FP.i2d (-(2 : Int32))))])) t
      refine XS.dloadN X0.here hx rfl (hb hby d1_37) rfl ?_
      show Steps p.tables e below (s₁.setTop (mkF m 38 #[.val (.ref a0), .val (.int (2 : Int32)), .val (.double (FP.l2d (own_s2 x0 x1))), .second, .val (.int (2 : Int32))] [(.double (FP.l2d (own_s2 x0 x1))), (.double (FP.i2d (-(2 : Int32))))])) t
      refine XS.ddivS X0.here hx rfl (hb hby d1_38) rfl (own_q hc2) (v := (FP.ddiv (FP.i2d (-(2 : Int32))) (FP.l2d (own_s2 x0 x1)))) rfl ?_
      show Steps p.tables e below (s₁.setTop (mkF m 39 #[.val (.ref a0), .val (.int (2 : Int32)), .val (.double (FP.l2d (own_s2 x0 x1))), .second, .val (.int (2 : Int32))] [(.double (FP.ddiv (FP.i2d (-(2 : Int32))) (FP.l2d (own_s2 x0 x1))))])) t
      have hq6 : (b1e2_4 x0 x1) = (FP.ddiv (FP.i2d (-(2 : Int32))) (FP.l2d (own_s2 x0 x1))) := by rw [b1e2_4, if_neg hc2]
      rw [hq6] at k
      exact k
  obtain ⟨fs, hr, hrun, hended, hW, hsame⟩ := X0.leave (v := some (.double (b1e2_4 x0 x1))) (fun h => by rw [Bd.returns] at h; cases h)
  refine ⟨_, _, go3 _ (Jvm.RoadKit.retOut X0 hx Bd.returns rfl (Or.inr (Or.inr (Or.inl ⟨rfl, rfl, _, rfl⟩))) (hb hby d1_39) hr), hrun, hended, _, _, rfl, ?_, ⟨_, rfl⟩, hW, hsame.mono (by decide) (by decide)⟩
  show Q1e2 _ _ a0 k_a0 x0 x1 x2 x3 h0 _ (s₁.setFrames fs).heap _
  have hE : (s₁.setFrames fs).heap = h0 := e0
  rw [hE]
  exact ⟨by rw [f1e2], N0, rfl⟩
def b1e3_4 (x0 : Int64) (x1 : Int64) (x2 : Int64) : UInt64 := (if (lcmpW (own_s3 x0 x1 x2) (0 : Int64)) = (0 : Int32) then FP.dconst0 else (FP.ddiv (FP.i2d (-(3 : Int32))) (FP.l2d (own_s3 x0 x1 x2))))
def f1e3 (x0 : Int64) (x1 : Int64) (x2 : Int64) : UInt64 := (b1e3_4 x0 x1 x2)
def Q1e3 (Z : State) (n0 : Nat) (a0 : Addr) (k_a0 : ClassId) (x0 : Int64) (x1 : Int64) (x2 : Int64) (x3 : Int64) (h0 : Heap) (v : Option Value) (h : Heap) (L : List Loc) : Prop := v = some (.double (f1e3 x0 x1 x2)) ∧ Fr n0 L ∧ h = h0
theorem ef1e3 (m : MethodId) (a0 : Addr) : entryFrame m #[(.ref a0), (.int (3 : Int32))] 5 = mkF m 0 #[.val (.ref a0), .val (.int (3 : Int32)), .unset, .unset, .unset] [] := by first | (simp [entryFrame, mkF, argsToLocals, Value.category]; done) | rfl
set_option maxRecDepth 65536 in
set_option maxHeartbeats 40000000 in
theorem rm1e3 (l : Launch) (Z : State) (aZ : Array Value) (hw : ∀ d ∈ tables_1, d.before aZ Z = true) (ws : List Jvm.Cond) (a0 : Addr) (k_a0 : ClassId) (x0 : Int64) (x1 : Int64) (x2 : Int64) (x3 : Int64) (h0 : Heap) (n0 : Nat) (Z0 : n0 ≤ h0.size) (V_a0 : Arv Z h0 a0 k_a0 .double (4 : Int32) [(.double (FP.l2d x0)), (.double (FP.l2d x1)), (.double (FP.l2d x2)), (.double (FP.l2d x3))] (.double 0)) (hb0 : own_Sm x0) (hb1 : own_Sm x1) (hb2 : own_Sm x2) (hb3 : own_Sm x3) :
    MetFree l (⟨"com/example/axiscope/axiscope/engine/Hill", "estimate", "([DI)D"⟩ : MethodName) (head1 (Jvm.Cond.code (⟨"com/example/axiscope/axiscope/engine/Hill", "estimate", "([DI)D"⟩ : MethodName) prog_7_method_2_code 5 (some .double) :: ws) ({ frames := 0, cells := 0, slots := 0, locals := 0 } : Room)) (fun a U => a = #[(.ref a0), (.int (3 : Int32))] ∧ Z.Warmed39 U.vm ∧ U.heap = h0) (fun _ _ _ _ _ => True) (fun _ U o U' => ∃ v L, o = .returned v ∧ Q1e3 Z n0 a0 k_a0 x0 x1 x2 x3 h0 v U'.heap L ∧ FrameEnd U o U' L ({ frames := 0, cells := 0, slots := 0, locals := 0 } : Room).cells ({ frames := 0, cells := 0, slots := 0, locals := 0 } : Room).slots) := by
  refine MetFree.of_bodySF (plainFor_of_name pn_14) hisR ?_
  intro p e s m args below meth c s₁ Bd hml0 hP hK
  obtain ⟨rfl, hZ, hh⟩ := hP
  have hx := Bd.exec
  have hby := Bd.bytes
  have hml : c.maxLocals = 5 := hml0
  have hown : s.vm.findClass "com/example/axiscope/axiscope/engine/Hill" = some m.cls := findClass_of_methodNamed Bd.named
  have hnm := (name_of_methodNamed Bd.named Bd.method).1
  have X0 : Stand p l e ({ frames := 0, cells := 0, slots := 0, locals := 0 } : Room) s m #[(.ref a0), (.int (3 : Int32))] below meth c s₁ [] 0 0 := Stand.of_body Bd
  have e0 : s₁.heap = h0 := by rw [← hh, Bd.state]; rfl
  have N0 := Fr.nil n0
  have K0 : Keep h0 h0 [] := Keep.refl _ _
  have go0 : ∀ t, Steps p.tables e below (s₁.setTop (mkF m 0 #[.val (.ref a0), .val (.int (3 : Int32)), .unset, .unset, .unset] [])) t → Steps p.tables e below (s₁.setTop (entryFrame m #[(.ref a0), (.int (3 : Int32))] 5)) t := fun t k => castTop (ef1e3 m a0) k
  obtain ⟨cl1, Ar1, q1, S1, N1, H1, G1⟩ := id V_a0
  have go3 : ∀ t, Steps p.tables e below (s₁.setTop (mkF m 39 #[.val (.ref a0), .val (.int (3 : Int32)), .val (.double (FP.l2d (own_s3 x0 x1 x2))), .second, .val (.int (3 : Int32))] [(.double (b1e3_4 x0 x1 x2))])) t → Steps p.tables e below (s₁.setTop (entryFrame m #[(.ref a0), (.int (3 : Int32))] 5)) t := by
    intro t k
    refine go0 _ ?_
    refine XS.dconst0 X0.here hx rfl (hb hby d1_0) (v := FP.dconst0) rfl ?_
    show Steps p.tables e below (s₁.setTop (mkF m 1 #[.val (.ref a0), .val (.int (3 : Int32)), .unset, .unset, .unset] [(.double FP.dconst0)])) t
    refine XS.dstoreN X0.here hx rfl (hb hby d1_1) rfl (l' := #[.val (.ref a0), .val (.int (3 : Int32)), .val (.double FP.dconst0), .second, .unset]) rfl ?_
    show Steps p.tables e below (s₁.setTop (mkF m 2 #[.val (.ref a0), .val (.int (3 : Int32)), .val (.double FP.dconst0), .second, .unset] [])) t
    refine XS.iconst X0.here hx rfl (hb hby d1_2) ?_
    show Steps p.tables e below (s₁.setTop (mkF m 3 #[.val (.ref a0), .val (.int (3 : Int32)), .val (.double FP.dconst0), .second, .unset] [(.int (0 : Int32))])) t
    refine XS.istore X0.here hx rfl (hb hby d1_3) rfl (l' := #[.val (.ref a0), .val (.int (3 : Int32)), .val (.double FP.dconst0), .second, .val (.int (0 : Int32))]) rfl ?_
    show Steps p.tables e below (s₁.setTop (mkF m 5 #[.val (.ref a0), .val (.int (3 : Int32)), .val (.double FP.dconst0), .second, .val (.int (0 : Int32))] [])) t
    refine XS.iload X0.here hx rfl (hb hby d1_5) rfl ?_
    show Steps p.tables e below (s₁.setTop (mkF m 7 #[.val (.ref a0), .val (.int (3 : Int32)), .val (.double FP.dconst0), .second, .val (.int (0 : Int32))] [(.int (0 : Int32))])) t
    refine XS.iloadN X0.here hx rfl (hb hby d1_7) rfl ?_
    show Steps p.tables e below (s₁.setTop (mkF m 8 #[.val (.ref a0), .val (.int (3 : Int32)), .val (.double FP.dconst0), .second, .val (.int (0 : Int32))] [(.int (3 : Int32)), (.int (0 : Int32))])) t
    refine XS.icmpNo X0.here hx rfl (hb hby d1_8) rfl (XT.ii_ge_f (by decide : ((0 : Int32) < (3 : Int32)))) ?_
    show Steps p.tables e below (s₁.setTop (mkF m 11 #[.val (.ref a0), .val (.int (3 : Int32)), .val (.double FP.dconst0), .second, .val (.int (0 : Int32))] [])) t
    refine XS.dloadN X0.here hx rfl (hb hby d1_11) rfl ?_
    show Steps p.tables e below (s₁.setTop (mkF m 12 #[.val (.ref a0), .val (.int (3 : Int32)), .val (.double FP.dconst0), .second, .val (.int (0 : Int32))] [(.double FP.dconst0)])) t
    refine XS.aloadN X0.here hx rfl (hb hby d1_12) rfl rfl ?_
    show Steps p.tables e below (s₁.setTop (mkF m 13 #[.val (.ref a0), .val (.int (3 : Int32)), .val (.double FP.dconst0), .second, .val (.int (0 : Int32))] [(.ref a0), (.double FP.dconst0)])) t
    refine XS.iload X0.here hx rfl (hb hby d1_13) rfl ?_
    show Steps p.tables e below (s₁.setTop (mkF m 15 #[.val (.ref a0), .val (.int (3 : Int32)), .val (.double FP.dconst0), .second, .val (.int (0 : Int32))] [(.int (0 : Int32)), (.ref a0), (.double FP.dconst0)])) t
    refine X0.daload hx (j := (0 : Int32)) (v := (.double (FP.l2d x0))) (by rw [e0]; exact Ar1.1) (State.isArrayOf_alike hZ.alike Ar1.2.1) Ar1.2.2 (inb_of S1 ⟨by decide, by decide⟩) (Has.at H1 (inb_of S1 ⟨by decide, by decide⟩) rfl) (g := (mkF m 15 #[.val (.ref a0), .val (.int (3 : Int32)), .val (.double FP.dconst0), .second, .val (.int (0 : Int32))] [(.int (0 : Int32)), (.ref a0), (.double FP.dconst0)])) rfl rfl (hb hby d1_15) _ ?_
    show Steps p.tables e below (s₁.setTop (mkF m 16 #[.val (.ref a0), .val (.int (3 : Int32)), .val (.double FP.dconst0), .second, .val (.int (0 : Int32))] [(.double (FP.l2d x0)), (.double FP.dconst0)])) t
    refine XS.daddS X0.here hx rfl (hb hby d1_16) rfl (nn_w (own_a1 hb0)) (v := (FP.l2d (own_s1 x0))) (own_a1 hb0) ?_
    show Steps p.tables e below (s₁.setTop (mkF m 17 #[.val (.ref a0), .val (.int (3 : Int32)), .val (.double FP.dconst0), .second, .val (.int (0 : Int32))] [(.double (FP.l2d (own_s1 x0)))])) t
    refine XS.dstoreN X0.here hx rfl (hb hby d1_17) rfl (l' := #[.val (.ref a0), .val (.int (3 : Int32)), .val (.double (FP.l2d (own_s1 x0))), .second, .val (.int (0 : Int32))]) rfl ?_
    show Steps p.tables e below (s₁.setTop (mkF m 18 #[.val (.ref a0), .val (.int (3 : Int32)), .val (.double (FP.l2d (own_s1 x0))), .second, .val (.int (0 : Int32))] [])) t
    refine XS.iinc X0.here hx rfl (hb hby d1_18) rfl (l' := #[.val (.ref a0), .val (.int (3 : Int32)), .val (.double (FP.l2d (own_s1 x0))), .second, .val (.int (1 : Int32))]) rfl ?_
    show Steps p.tables e below (s₁.setTop (mkF m 21 #[.val (.ref a0), .val (.int (3 : Int32)), .val (.double (FP.l2d (own_s1 x0))), .second, .val (.int (1 : Int32))] [])) t
    refine XS.goto X0.here hx rfl (pc0 := 21) (pc' := 5) rfl (hb hby d1_21) (by decide) (by decide) ?_
    show Steps p.tables e below (s₁.setTop (mkF m 5 #[.val (.ref a0), .val (.int (3 : Int32)), .val (.double (FP.l2d (own_s1 x0))), .second, .val (.int (1 : Int32))] [])) t
    refine XS.iload X0.here hx rfl (hb hby d1_5) rfl ?_
    show Steps p.tables e below (s₁.setTop (mkF m 7 #[.val (.ref a0), .val (.int (3 : Int32)), .val (.double (FP.l2d (own_s1 x0))), .second, .val (.int (1 : Int32))] [(.int (1 : Int32))])) t
    refine XS.iloadN X0.here hx rfl (hb hby d1_7) rfl ?_
    show Steps p.tables e below (s₁.setTop (mkF m 8 #[.val (.ref a0), .val (.int (3 : Int32)), .val (.double (FP.l2d (own_s1 x0))), .second, .val (.int (1 : Int32))] [(.int (3 : Int32)), (.int (1 : Int32))])) t
    refine XS.icmpNo X0.here hx rfl (hb hby d1_8) rfl (XT.ii_ge_f (by decide : ((1 : Int32) < (3 : Int32)))) ?_
    show Steps p.tables e below (s₁.setTop (mkF m 11 #[.val (.ref a0), .val (.int (3 : Int32)), .val (.double (FP.l2d (own_s1 x0))), .second, .val (.int (1 : Int32))] [])) t
    refine XS.dloadN X0.here hx rfl (hb hby d1_11) rfl ?_
    show Steps p.tables e below (s₁.setTop (mkF m 12 #[.val (.ref a0), .val (.int (3 : Int32)), .val (.double (FP.l2d (own_s1 x0))), .second, .val (.int (1 : Int32))] [(.double (FP.l2d (own_s1 x0)))])) t
    refine XS.aloadN X0.here hx rfl (hb hby d1_12) rfl rfl ?_
    show Steps p.tables e below (s₁.setTop (mkF m 13 #[.val (.ref a0), .val (.int (3 : Int32)), .val (.double (FP.l2d (own_s1 x0))), .second, .val (.int (1 : Int32))] [(.ref a0), (.double (FP.l2d (own_s1 x0)))])) t
    refine XS.iload X0.here hx rfl (hb hby d1_13) rfl ?_
    show Steps p.tables e below (s₁.setTop (mkF m 15 #[.val (.ref a0), .val (.int (3 : Int32)), .val (.double (FP.l2d (own_s1 x0))), .second, .val (.int (1 : Int32))] [(.int (1 : Int32)), (.ref a0), (.double (FP.l2d (own_s1 x0)))])) t
    refine X0.daload hx (j := (1 : Int32)) (v := (.double (FP.l2d x1))) (by rw [e0]; exact Ar1.1) (State.isArrayOf_alike hZ.alike Ar1.2.1) Ar1.2.2 (inb_of S1 ⟨by decide, by decide⟩) (Has.at H1 (inb_of S1 ⟨by decide, by decide⟩) rfl) (g := (mkF m 15 #[.val (.ref a0), .val (.int (3 : Int32)), .val (.double (FP.l2d (own_s1 x0))), .second, .val (.int (1 : Int32))] [(.int (1 : Int32)), (.ref a0), (.double (FP.l2d (own_s1 x0)))])) rfl rfl (hb hby d1_15) _ ?_
    show Steps p.tables e below (s₁.setTop (mkF m 16 #[.val (.ref a0), .val (.int (3 : Int32)), .val (.double (FP.l2d (own_s1 x0))), .second, .val (.int (1 : Int32))] [(.double (FP.l2d x1)), (.double (FP.l2d (own_s1 x0)))])) t
    refine XS.daddS X0.here hx rfl (hb hby d1_16) rfl (nn_w (own_a2 hb0 hb1)) (v := (FP.l2d (own_s2 x0 x1))) (own_a2 hb0 hb1) ?_
    show Steps p.tables e below (s₁.setTop (mkF m 17 #[.val (.ref a0), .val (.int (3 : Int32)), .val (.double (FP.l2d (own_s1 x0))), .second, .val (.int (1 : Int32))] [(.double (FP.l2d (own_s2 x0 x1)))])) t
    refine XS.dstoreN X0.here hx rfl (hb hby d1_17) rfl (l' := #[.val (.ref a0), .val (.int (3 : Int32)), .val (.double (FP.l2d (own_s2 x0 x1))), .second, .val (.int (1 : Int32))]) rfl ?_
    show Steps p.tables e below (s₁.setTop (mkF m 18 #[.val (.ref a0), .val (.int (3 : Int32)), .val (.double (FP.l2d (own_s2 x0 x1))), .second, .val (.int (1 : Int32))] [])) t
    refine XS.iinc X0.here hx rfl (hb hby d1_18) rfl (l' := #[.val (.ref a0), .val (.int (3 : Int32)), .val (.double (FP.l2d (own_s2 x0 x1))), .second, .val (.int (2 : Int32))]) rfl ?_
    show Steps p.tables e below (s₁.setTop (mkF m 21 #[.val (.ref a0), .val (.int (3 : Int32)), .val (.double (FP.l2d (own_s2 x0 x1))), .second, .val (.int (2 : Int32))] [])) t
    refine XS.goto X0.here hx rfl (pc0 := 21) (pc' := 5) rfl (hb hby d1_21) (by decide) (by decide) ?_
    show Steps p.tables e below (s₁.setTop (mkF m 5 #[.val (.ref a0), .val (.int (3 : Int32)), .val (.double (FP.l2d (own_s2 x0 x1))), .second, .val (.int (2 : Int32))] [])) t
    refine XS.iload X0.here hx rfl (hb hby d1_5) rfl ?_
    show Steps p.tables e below (s₁.setTop (mkF m 7 #[.val (.ref a0), .val (.int (3 : Int32)), .val (.double (FP.l2d (own_s2 x0 x1))), .second, .val (.int (2 : Int32))] [(.int (2 : Int32))])) t
    refine XS.iloadN X0.here hx rfl (hb hby d1_7) rfl ?_
    show Steps p.tables e below (s₁.setTop (mkF m 8 #[.val (.ref a0), .val (.int (3 : Int32)), .val (.double (FP.l2d (own_s2 x0 x1))), .second, .val (.int (2 : Int32))] [(.int (3 : Int32)), (.int (2 : Int32))])) t
    refine XS.icmpNo X0.here hx rfl (hb hby d1_8) rfl (XT.ii_ge_f (by decide : ((2 : Int32) < (3 : Int32)))) ?_
    show Steps p.tables e below (s₁.setTop (mkF m 11 #[.val (.ref a0), .val (.int (3 : Int32)), .val (.double (FP.l2d (own_s2 x0 x1))), .second, .val (.int (2 : Int32))] [])) t
    refine XS.dloadN X0.here hx rfl (hb hby d1_11) rfl ?_
    show Steps p.tables e below (s₁.setTop (mkF m 12 #[.val (.ref a0), .val (.int (3 : Int32)), .val (.double (FP.l2d (own_s2 x0 x1))), .second, .val (.int (2 : Int32))] [(.double (FP.l2d (own_s2 x0 x1)))])) t
    refine XS.aloadN X0.here hx rfl (hb hby d1_12) rfl rfl ?_
    show Steps p.tables e below (s₁.setTop (mkF m 13 #[.val (.ref a0), .val (.int (3 : Int32)), .val (.double (FP.l2d (own_s2 x0 x1))), .second, .val (.int (2 : Int32))] [(.ref a0), (.double (FP.l2d (own_s2 x0 x1)))])) t
    refine XS.iload X0.here hx rfl (hb hby d1_13) rfl ?_
    show Steps p.tables e below (s₁.setTop (mkF m 15 #[.val (.ref a0), .val (.int (3 : Int32)), .val (.double (FP.l2d (own_s2 x0 x1))), .second, .val (.int (2 : Int32))] [(.int (2 : Int32)), (.ref a0), (.double (FP.l2d (own_s2 x0 x1)))])) t
    refine X0.daload hx (j := (2 : Int32)) (v := (.double (FP.l2d x2))) (by rw [e0]; exact Ar1.1) (State.isArrayOf_alike hZ.alike Ar1.2.1) Ar1.2.2 (inb_of S1 ⟨by decide, by decide⟩) (Has.at H1 (inb_of S1 ⟨by decide, by decide⟩) rfl) (g := (mkF m 15 #[.val (.ref a0), .val (.int (3 : Int32)), .val (.double (FP.l2d (own_s2 x0 x1))), .second, .val (.int (2 : Int32))] [(.int (2 : Int32)), (.ref a0), (.double (FP.l2d (own_s2 x0 x1)))])) rfl rfl (hb hby d1_15) _ ?_
    show Steps p.tables e below (s₁.setTop (mkF m 16 #[.val (.ref a0), .val (.int (3 : Int32)), .val (.double (FP.l2d (own_s2 x0 x1))), .second, .val (.int (2 : Int32))] [(.double (FP.l2d x2)), (.double (FP.l2d (own_s2 x0 x1)))])) t
    refine XS.daddS X0.here hx rfl (hb hby d1_16) rfl (nn_w (own_a3 hb0 hb1 hb2)) (v := (FP.l2d (own_s3 x0 x1 x2))) (own_a3 hb0 hb1 hb2) ?_
    show Steps p.tables e below (s₁.setTop (mkF m 17 #[.val (.ref a0), .val (.int (3 : Int32)), .val (.double (FP.l2d (own_s2 x0 x1))), .second, .val (.int (2 : Int32))] [(.double (FP.l2d (own_s3 x0 x1 x2)))])) t
    refine XS.dstoreN X0.here hx rfl (hb hby d1_17) rfl (l' := #[.val (.ref a0), .val (.int (3 : Int32)), .val (.double (FP.l2d (own_s3 x0 x1 x2))), .second, .val (.int (2 : Int32))]) rfl ?_
    show Steps p.tables e below (s₁.setTop (mkF m 18 #[.val (.ref a0), .val (.int (3 : Int32)), .val (.double (FP.l2d (own_s3 x0 x1 x2))), .second, .val (.int (2 : Int32))] [])) t
    refine XS.iinc X0.here hx rfl (hb hby d1_18) rfl (l' := #[.val (.ref a0), .val (.int (3 : Int32)), .val (.double (FP.l2d (own_s3 x0 x1 x2))), .second, .val (.int (3 : Int32))]) rfl ?_
    show Steps p.tables e below (s₁.setTop (mkF m 21 #[.val (.ref a0), .val (.int (3 : Int32)), .val (.double (FP.l2d (own_s3 x0 x1 x2))), .second, .val (.int (3 : Int32))] [])) t
    refine XS.goto X0.here hx rfl (pc0 := 21) (pc' := 5) rfl (hb hby d1_21) (by decide) (by decide) ?_
    show Steps p.tables e below (s₁.setTop (mkF m 5 #[.val (.ref a0), .val (.int (3 : Int32)), .val (.double (FP.l2d (own_s3 x0 x1 x2))), .second, .val (.int (3 : Int32))] [])) t
    refine XS.iload X0.here hx rfl (hb hby d1_5) rfl ?_
    show Steps p.tables e below (s₁.setTop (mkF m 7 #[.val (.ref a0), .val (.int (3 : Int32)), .val (.double (FP.l2d (own_s3 x0 x1 x2))), .second, .val (.int (3 : Int32))] [(.int (3 : Int32))])) t
    refine XS.iloadN X0.here hx rfl (hb hby d1_7) rfl ?_
    show Steps p.tables e below (s₁.setTop (mkF m 8 #[.val (.ref a0), .val (.int (3 : Int32)), .val (.double (FP.l2d (own_s3 x0 x1 x2))), .second, .val (.int (3 : Int32))] [(.int (3 : Int32)), (.int (3 : Int32))])) t
    refine XS.icmpYes X0.here hx rfl (pc0 := 8) (pc' := 24) rfl (hb hby d1_8) rfl (XT.ii_ge_t (by decide : ¬ ((3 : Int32) < (3 : Int32)))) (by decide) (by decide) ?_
    show Steps p.tables e below (s₁.setTop (mkF m 24 #[.val (.ref a0), .val (.int (3 : Int32)), .val (.double (FP.l2d (own_s3 x0 x1 x2))), .second, .val (.int (3 : Int32))] [])) t
    refine XS.dloadN X0.here hx rfl (hb hby d1_24) rfl ?_
    show Steps p.tables e below (s₁.setTop (mkF m 25 #[.val (.ref a0), .val (.int (3 : Int32)), .val (.double (FP.l2d (own_s3 x0 x1 x2))), .second, .val (.int (3 : Int32))] [(.double (FP.l2d (own_s3 x0 x1 x2)))])) t
    refine XS.dconst0 X0.here hx rfl (hb hby d1_25) (v := FP.dconst0) rfl ?_
    show Steps p.tables e below (s₁.setTop (mkF m 26 #[.val (.ref a0), .val (.int (3 : Int32)), .val (.double (FP.l2d (own_s3 x0 x1 x2))), .second, .val (.int (3 : Int32))] [(.double FP.dconst0), (.double (FP.l2d (own_s3 x0 x1 x2)))])) t
    refine XS.dcmpS X0.here hx rfl (hb hby d1_26) rfl (v := (lcmpW (own_s3 x0 x1 x2) (0 : Int64))) (own_c (own_w3 hb0 hb1 hb2)) ?_
    show Steps p.tables e below (s₁.setTop (mkF m 27 #[.val (.ref a0), .val (.int (3 : Int32)), .val (.double (FP.l2d (own_s3 x0 x1 x2))), .second, .val (.int (3 : Int32))] [(.int (lcmpW (own_s3 x0 x1 x2) (0 : Int64)))])) t
    by_cases hc2 : (lcmpW (own_s3 x0 x1 x2) (0 : Int64)) = (0 : Int32)
    · refine XS.ifNo X0.here hx rfl (hb hby d1_27) rfl (XT.i0_ne_f hc2) ?_
      show Steps p.tables e below (s₁.setTop (mkF m 30 #[.val (.ref a0), .val (.int (3 : Int32)), .val (.double (FP.l2d (own_s3 x0 x1 x2))), .second, .val (.int (3 : Int32))] [])) t
      refine XS.dconst0 X0.here hx rfl (hb hby d1_30) (v := FP.dconst0) rfl ?_
      show Steps p.tables e below (s₁.setTop (mkF m 31 #[.val (.ref a0), .val (.int (3 : Int32)), .val (.double (FP.l2d (own_s3 x0 x1 x2))), .second, .val (.int (3 : Int32))] [(.double FP.dconst0)])) t
      refine XS.goto X0.here hx rfl (pc0 := 31) (pc' := 39) rfl (hb hby d1_31) (by decide) (by decide) ?_
      show Steps p.tables e below (s₁.setTop (mkF m 39 #[.val (.ref a0), .val (.int (3 : Int32)), .val (.double (FP.l2d (own_s3 x0 x1 x2))), .second, .val (.int (3 : Int32))] [(.double FP.dconst0)])) t
      have hq5 : (b1e3_4 x0 x1 x2) = FP.dconst0 := by rw [b1e3_4, if_pos hc2]
      rw [hq5] at k
      exact k
    · refine XS.ifYes X0.here hx rfl (pc0 := 27) (pc' := 34) rfl (hb hby d1_27) rfl (XT.i0_ne_t hc2) (by decide) (by decide) ?_
      show Steps p.tables e below (s₁.setTop (mkF m 34 #[.val (.ref a0), .val (.int (3 : Int32)), .val (.double (FP.l2d (own_s3 x0 x1 x2))), .second, .val (.int (3 : Int32))] [])) t
      refine XS.iloadN X0.here hx rfl (hb hby d1_34) rfl ?_
      show Steps p.tables e below (s₁.setTop (mkF m 35 #[.val (.ref a0), .val (.int (3 : Int32)), .val (.double (FP.l2d (own_s3 x0 x1 x2))), .second, .val (.int (3 : Int32))] [(.int (3 : Int32))])) t
      refine XS.ineg X0.here hx rfl (hb hby d1_35) rfl ?_
      show Steps p.tables e below (s₁.setTop (mkF m 36 #[.val (.ref a0), .val (.int (3 : Int32)), .val (.double (FP.l2d (own_s3 x0 x1 x2))), .second, .val (.int (3 : Int32))] [(.int (-(3 : Int32)))])) t
      refine XS.i2dS X0.here hx rfl (hb hby d1_36) rfl (v := (FP.i2d (-(3 : Int32)))) rfl ?_
      show Steps p.tables e below (s₁.setTop (mkF m 37 #[.val (.ref a0), .val (.int (3 : Int32)), .val (.double (FP.l2d (own_s3 x0 x1 x2))), .second, .val (.int (3 : Int32))] [(.double (FP.i2d (-(3 : Int32))))])) t
      refine XS.dloadN X0.here hx rfl (hb hby d1_37) rfl ?_
      show Steps p.tables e below (s₁.setTop (mkF m 38 #[.val (.ref a0), .val (.int (3 : Int32)), .val (.double (FP.l2d (own_s3 x0 x1 x2))), .second, .val (.int (3 : Int32))] [(.double (FP.l2d (own_s3 x0 x1 x2))), (.double (FP.i2d (-(3 : Int32))))])) t
      refine XS.ddivS X0.here hx rfl (hb hby d1_38) rfl (own_q hc2) (v := (FP.ddiv (FP.i2d (-(3 : Int32))) (FP.l2d (own_s3 x0 x1 x2)))) rfl ?_
      show Steps p.tables e below (s₁.setTop (mkF m 39 #[.val (.ref a0), .val (.int (3 : Int32)), .val (.double (FP.l2d (own_s3 x0 x1 x2))), .second, .val (.int (3 : Int32))] [(.double (FP.ddiv (FP.i2d (-(3 : Int32))) (FP.l2d (own_s3 x0 x1 x2))))])) t
      have hq6 : (b1e3_4 x0 x1 x2) = (FP.ddiv (FP.i2d (-(3 : Int32))) (FP.l2d (own_s3 x0 x1 x2))) := by rw [b1e3_4, if_neg hc2]
      rw [hq6] at k
      exact k
  obtain ⟨fs, hr, hrun, hended, hW, hsame⟩ := X0.leave (v := some (.double (b1e3_4 x0 x1 x2))) (fun h => by rw [Bd.returns] at h; cases h)
  refine ⟨_, _, go3 _ (Jvm.RoadKit.retOut X0 hx Bd.returns rfl (Or.inr (Or.inr (Or.inl ⟨rfl, rfl, _, rfl⟩))) (hb hby d1_39) hr), hrun, hended, _, _, rfl, ?_, ⟨_, rfl⟩, hW, hsame.mono (by decide) (by decide)⟩
  show Q1e3 _ _ a0 k_a0 x0 x1 x2 x3 h0 _ (s₁.setFrames fs).heap _
  have hE : (s₁.setFrames fs).heap = h0 := e0
  rw [hE]
  exact ⟨by rw [f1e3], N0, rfl⟩
def b1e4_4 (x0 : Int64) (x1 : Int64) (x2 : Int64) (x3 : Int64) : UInt64 := (if (lcmpW (own_s4 x0 x1 x2 x3) (0 : Int64)) = (0 : Int32) then FP.dconst0 else (FP.ddiv (FP.i2d (-(4 : Int32))) (FP.l2d (own_s4 x0 x1 x2 x3))))
def f1e4 (x0 : Int64) (x1 : Int64) (x2 : Int64) (x3 : Int64) : UInt64 := (b1e4_4 x0 x1 x2 x3)
def Q1e4 (Z : State) (n0 : Nat) (a0 : Addr) (k_a0 : ClassId) (x0 : Int64) (x1 : Int64) (x2 : Int64) (x3 : Int64) (h0 : Heap) (v : Option Value) (h : Heap) (L : List Loc) : Prop := v = some (.double (f1e4 x0 x1 x2 x3)) ∧ Fr n0 L ∧ h = h0
theorem ef1e4 (m : MethodId) (a0 : Addr) : entryFrame m #[(.ref a0), (.int (4 : Int32))] 5 = mkF m 0 #[.val (.ref a0), .val (.int (4 : Int32)), .unset, .unset, .unset] [] := by first | (simp [entryFrame, mkF, argsToLocals, Value.category]; done) | rfl
set_option maxRecDepth 65536 in
set_option maxHeartbeats 40000000 in
theorem rm1e4 (l : Launch) (Z : State) (aZ : Array Value) (hw : ∀ d ∈ tables_1, d.before aZ Z = true) (ws : List Jvm.Cond) (a0 : Addr) (k_a0 : ClassId) (x0 : Int64) (x1 : Int64) (x2 : Int64) (x3 : Int64) (h0 : Heap) (n0 : Nat) (Z0 : n0 ≤ h0.size) (V_a0 : Arv Z h0 a0 k_a0 .double (4 : Int32) [(.double (FP.l2d x0)), (.double (FP.l2d x1)), (.double (FP.l2d x2)), (.double (FP.l2d x3))] (.double 0)) (hb0 : own_Sm x0) (hb1 : own_Sm x1) (hb2 : own_Sm x2) (hb3 : own_Sm x3) :
    MetFree l (⟨"com/example/axiscope/axiscope/engine/Hill", "estimate", "([DI)D"⟩ : MethodName) (head1 (Jvm.Cond.code (⟨"com/example/axiscope/axiscope/engine/Hill", "estimate", "([DI)D"⟩ : MethodName) prog_7_method_2_code 5 (some .double) :: ws) ({ frames := 0, cells := 0, slots := 0, locals := 0 } : Room)) (fun a U => a = #[(.ref a0), (.int (4 : Int32))] ∧ Z.Warmed39 U.vm ∧ U.heap = h0) (fun _ _ _ _ _ => True) (fun _ U o U' => ∃ v L, o = .returned v ∧ Q1e4 Z n0 a0 k_a0 x0 x1 x2 x3 h0 v U'.heap L ∧ FrameEnd U o U' L ({ frames := 0, cells := 0, slots := 0, locals := 0 } : Room).cells ({ frames := 0, cells := 0, slots := 0, locals := 0 } : Room).slots) := by
  refine MetFree.of_bodySF (plainFor_of_name pn_14) hisR ?_
  intro p e s m args below meth c s₁ Bd hml0 hP hK
  obtain ⟨rfl, hZ, hh⟩ := hP
  have hx := Bd.exec
  have hby := Bd.bytes
  have hml : c.maxLocals = 5 := hml0
  have hown : s.vm.findClass "com/example/axiscope/axiscope/engine/Hill" = some m.cls := findClass_of_methodNamed Bd.named
  have hnm := (name_of_methodNamed Bd.named Bd.method).1
  have X0 : Stand p l e ({ frames := 0, cells := 0, slots := 0, locals := 0 } : Room) s m #[(.ref a0), (.int (4 : Int32))] below meth c s₁ [] 0 0 := Stand.of_body Bd
  have e0 : s₁.heap = h0 := by rw [← hh, Bd.state]; rfl
  have N0 := Fr.nil n0
  have K0 : Keep h0 h0 [] := Keep.refl _ _
  have go0 : ∀ t, Steps p.tables e below (s₁.setTop (mkF m 0 #[.val (.ref a0), .val (.int (4 : Int32)), .unset, .unset, .unset] [])) t → Steps p.tables e below (s₁.setTop (entryFrame m #[(.ref a0), (.int (4 : Int32))] 5)) t := fun t k => castTop (ef1e4 m a0) k
  obtain ⟨cl1, Ar1, q1, S1, N1, H1, G1⟩ := id V_a0
  have go3 : ∀ t, Steps p.tables e below (s₁.setTop (mkF m 39 #[.val (.ref a0), .val (.int (4 : Int32)), .val (.double (FP.l2d (own_s4 x0 x1 x2 x3))), .second, .val (.int (4 : Int32))] [(.double (b1e4_4 x0 x1 x2 x3))])) t → Steps p.tables e below (s₁.setTop (entryFrame m #[(.ref a0), (.int (4 : Int32))] 5)) t := by
    intro t k
    refine go0 _ ?_
    refine XS.dconst0 X0.here hx rfl (hb hby d1_0) (v := FP.dconst0) rfl ?_
    show Steps p.tables e below (s₁.setTop (mkF m 1 #[.val (.ref a0), .val (.int (4 : Int32)), .unset, .unset, .unset] [(.double FP.dconst0)])) t
    refine XS.dstoreN X0.here hx rfl (hb hby d1_1) rfl (l' := #[.val (.ref a0), .val (.int (4 : Int32)), .val (.double FP.dconst0), .second, .unset]) rfl ?_
    show Steps p.tables e below (s₁.setTop (mkF m 2 #[.val (.ref a0), .val (.int (4 : Int32)), .val (.double FP.dconst0), .second, .unset] [])) t
    refine XS.iconst X0.here hx rfl (hb hby d1_2) ?_
    show Steps p.tables e below (s₁.setTop (mkF m 3 #[.val (.ref a0), .val (.int (4 : Int32)), .val (.double FP.dconst0), .second, .unset] [(.int (0 : Int32))])) t
    refine XS.istore X0.here hx rfl (hb hby d1_3) rfl (l' := #[.val (.ref a0), .val (.int (4 : Int32)), .val (.double FP.dconst0), .second, .val (.int (0 : Int32))]) rfl ?_
    show Steps p.tables e below (s₁.setTop (mkF m 5 #[.val (.ref a0), .val (.int (4 : Int32)), .val (.double FP.dconst0), .second, .val (.int (0 : Int32))] [])) t
    refine XS.iload X0.here hx rfl (hb hby d1_5) rfl ?_
    show Steps p.tables e below (s₁.setTop (mkF m 7 #[.val (.ref a0), .val (.int (4 : Int32)), .val (.double FP.dconst0), .second, .val (.int (0 : Int32))] [(.int (0 : Int32))])) t
    refine XS.iloadN X0.here hx rfl (hb hby d1_7) rfl ?_
    show Steps p.tables e below (s₁.setTop (mkF m 8 #[.val (.ref a0), .val (.int (4 : Int32)), .val (.double FP.dconst0), .second, .val (.int (0 : Int32))] [(.int (4 : Int32)), (.int (0 : Int32))])) t
    refine XS.icmpNo X0.here hx rfl (hb hby d1_8) rfl (XT.ii_ge_f (by decide : ((0 : Int32) < (4 : Int32)))) ?_
    show Steps p.tables e below (s₁.setTop (mkF m 11 #[.val (.ref a0), .val (.int (4 : Int32)), .val (.double FP.dconst0), .second, .val (.int (0 : Int32))] [])) t
    refine XS.dloadN X0.here hx rfl (hb hby d1_11) rfl ?_
    show Steps p.tables e below (s₁.setTop (mkF m 12 #[.val (.ref a0), .val (.int (4 : Int32)), .val (.double FP.dconst0), .second, .val (.int (0 : Int32))] [(.double FP.dconst0)])) t
    refine XS.aloadN X0.here hx rfl (hb hby d1_12) rfl rfl ?_
    show Steps p.tables e below (s₁.setTop (mkF m 13 #[.val (.ref a0), .val (.int (4 : Int32)), .val (.double FP.dconst0), .second, .val (.int (0 : Int32))] [(.ref a0), (.double FP.dconst0)])) t
    refine XS.iload X0.here hx rfl (hb hby d1_13) rfl ?_
    show Steps p.tables e below (s₁.setTop (mkF m 15 #[.val (.ref a0), .val (.int (4 : Int32)), .val (.double FP.dconst0), .second, .val (.int (0 : Int32))] [(.int (0 : Int32)), (.ref a0), (.double FP.dconst0)])) t
    refine X0.daload hx (j := (0 : Int32)) (v := (.double (FP.l2d x0))) (by rw [e0]; exact Ar1.1) (State.isArrayOf_alike hZ.alike Ar1.2.1) Ar1.2.2 (inb_of S1 ⟨by decide, by decide⟩) (Has.at H1 (inb_of S1 ⟨by decide, by decide⟩) rfl) (g := (mkF m 15 #[.val (.ref a0), .val (.int (4 : Int32)), .val (.double FP.dconst0), .second, .val (.int (0 : Int32))] [(.int (0 : Int32)), (.ref a0), (.double FP.dconst0)])) rfl rfl (hb hby d1_15) _ ?_
    show Steps p.tables e below (s₁.setTop (mkF m 16 #[.val (.ref a0), .val (.int (4 : Int32)), .val (.double FP.dconst0), .second, .val (.int (0 : Int32))] [(.double (FP.l2d x0)), (.double FP.dconst0)])) t
    refine XS.daddS X0.here hx rfl (hb hby d1_16) rfl (nn_w (own_a1 hb0)) (v := (FP.l2d (own_s1 x0))) (own_a1 hb0) ?_
    show Steps p.tables e below (s₁.setTop (mkF m 17 #[.val (.ref a0), .val (.int (4 : Int32)), .val (.double FP.dconst0), .second, .val (.int (0 : Int32))] [(.double (FP.l2d (own_s1 x0)))])) t
    refine XS.dstoreN X0.here hx rfl (hb hby d1_17) rfl (l' := #[.val (.ref a0), .val (.int (4 : Int32)), .val (.double (FP.l2d (own_s1 x0))), .second, .val (.int (0 : Int32))]) rfl ?_
    show Steps p.tables e below (s₁.setTop (mkF m 18 #[.val (.ref a0), .val (.int (4 : Int32)), .val (.double (FP.l2d (own_s1 x0))), .second, .val (.int (0 : Int32))] [])) t
    refine XS.iinc X0.here hx rfl (hb hby d1_18) rfl (l' := #[.val (.ref a0), .val (.int (4 : Int32)), .val (.double (FP.l2d (own_s1 x0))), .second, .val (.int (1 : Int32))]) rfl ?_
    show Steps p.tables e below (s₁.setTop (mkF m 21 #[.val (.ref a0), .val (.int (4 : Int32)), .val (.double (FP.l2d (own_s1 x0))), .second, .val (.int (1 : Int32))] [])) t
    refine XS.goto X0.here hx rfl (pc0 := 21) (pc' := 5) rfl (hb hby d1_21) (by decide) (by decide) ?_
    show Steps p.tables e below (s₁.setTop (mkF m 5 #[.val (.ref a0), .val (.int (4 : Int32)), .val (.double (FP.l2d (own_s1 x0))), .second, .val (.int (1 : Int32))] [])) t
    refine XS.iload X0.here hx rfl (hb hby d1_5) rfl ?_
    show Steps p.tables e below (s₁.setTop (mkF m 7 #[.val (.ref a0), .val (.int (4 : Int32)), .val (.double (FP.l2d (own_s1 x0))), .second, .val (.int (1 : Int32))] [(.int (1 : Int32))])) t
    refine XS.iloadN X0.here hx rfl (hb hby d1_7) rfl ?_
    show Steps p.tables e below (s₁.setTop (mkF m 8 #[.val (.ref a0), .val (.int (4 : Int32)), .val (.double (FP.l2d (own_s1 x0))), .second, .val (.int (1 : Int32))] [(.int (4 : Int32)), (.int (1 : Int32))])) t
    refine XS.icmpNo X0.here hx rfl (hb hby d1_8) rfl (XT.ii_ge_f (by decide : ((1 : Int32) < (4 : Int32)))) ?_
    show Steps p.tables e below (s₁.setTop (mkF m 11 #[.val (.ref a0), .val (.int (4 : Int32)), .val (.double (FP.l2d (own_s1 x0))), .second, .val (.int (1 : Int32))] [])) t
    refine XS.dloadN X0.here hx rfl (hb hby d1_11) rfl ?_
    show Steps p.tables e below (s₁.setTop (mkF m 12 #[.val (.ref a0), .val (.int (4 : Int32)), .val (.double (FP.l2d (own_s1 x0))), .second, .val (.int (1 : Int32))] [(.double (FP.l2d (own_s1 x0)))])) t
    refine XS.aloadN X0.here hx rfl (hb hby d1_12) rfl rfl ?_
    show Steps p.tables e below (s₁.setTop (mkF m 13 #[.val (.ref a0), .val (.int (4 : Int32)), .val (.double (FP.l2d (own_s1 x0))), .second, .val (.int (1 : Int32))] [(.ref a0), (.double (FP.l2d (own_s1 x0)))])) t
    refine XS.iload X0.here hx rfl (hb hby d1_13) rfl ?_
    show Steps p.tables e below (s₁.setTop (mkF m 15 #[.val (.ref a0), .val (.int (4 : Int32)), .val (.double (FP.l2d (own_s1 x0))), .second, .val (.int (1 : Int32))] [(.int (1 : Int32)), (.ref a0), (.double (FP.l2d (own_s1 x0)))])) t
    refine X0.daload hx (j := (1 : Int32)) (v := (.double (FP.l2d x1))) (by rw [e0]; exact Ar1.1) (State.isArrayOf_alike hZ.alike Ar1.2.1) Ar1.2.2 (inb_of S1 ⟨by decide, by decide⟩) (Has.at H1 (inb_of S1 ⟨by decide, by decide⟩) rfl) (g := (mkF m 15 #[.val (.ref a0), .val (.int (4 : Int32)), .val (.double (FP.l2d (own_s1 x0))), .second, .val (.int (1 : Int32))] [(.int (1 : Int32)), (.ref a0), (.double (FP.l2d (own_s1 x0)))])) rfl rfl (hb hby d1_15) _ ?_
    show Steps p.tables e below (s₁.setTop (mkF m 16 #[.val (.ref a0), .val (.int (4 : Int32)), .val (.double (FP.l2d (own_s1 x0))), .second, .val (.int (1 : Int32))] [(.double (FP.l2d x1)), (.double (FP.l2d (own_s1 x0)))])) t
    refine XS.daddS X0.here hx rfl (hb hby d1_16) rfl (nn_w (own_a2 hb0 hb1)) (v := (FP.l2d (own_s2 x0 x1))) (own_a2 hb0 hb1) ?_
    show Steps p.tables e below (s₁.setTop (mkF m 17 #[.val (.ref a0), .val (.int (4 : Int32)), .val (.double (FP.l2d (own_s1 x0))), .second, .val (.int (1 : Int32))] [(.double (FP.l2d (own_s2 x0 x1)))])) t
    refine XS.dstoreN X0.here hx rfl (hb hby d1_17) rfl (l' := #[.val (.ref a0), .val (.int (4 : Int32)), .val (.double (FP.l2d (own_s2 x0 x1))), .second, .val (.int (1 : Int32))]) rfl ?_
    show Steps p.tables e below (s₁.setTop (mkF m 18 #[.val (.ref a0), .val (.int (4 : Int32)), .val (.double (FP.l2d (own_s2 x0 x1))), .second, .val (.int (1 : Int32))] [])) t
    refine XS.iinc X0.here hx rfl (hb hby d1_18) rfl (l' := #[.val (.ref a0), .val (.int (4 : Int32)), .val (.double (FP.l2d (own_s2 x0 x1))), .second, .val (.int (2 : Int32))]) rfl ?_
    show Steps p.tables e below (s₁.setTop (mkF m 21 #[.val (.ref a0), .val (.int (4 : Int32)), .val (.double (FP.l2d (own_s2 x0 x1))), .second, .val (.int (2 : Int32))] [])) t
    refine XS.goto X0.here hx rfl (pc0 := 21) (pc' := 5) rfl (hb hby d1_21) (by decide) (by decide) ?_
    show Steps p.tables e below (s₁.setTop (mkF m 5 #[.val (.ref a0), .val (.int (4 : Int32)), .val (.double (FP.l2d (own_s2 x0 x1))), .second, .val (.int (2 : Int32))] [])) t
    refine XS.iload X0.here hx rfl (hb hby d1_5) rfl ?_
    show Steps p.tables e below (s₁.setTop (mkF m 7 #[.val (.ref a0), .val (.int (4 : Int32)), .val (.double (FP.l2d (own_s2 x0 x1))), .second, .val (.int (2 : Int32))] [(.int (2 : Int32))])) t
    refine XS.iloadN X0.here hx rfl (hb hby d1_7) rfl ?_
    show Steps p.tables e below (s₁.setTop (mkF m 8 #[.val (.ref a0), .val (.int (4 : Int32)), .val (.double (FP.l2d (own_s2 x0 x1))), .second, .val (.int (2 : Int32))] [(.int (4 : Int32)), (.int (2 : Int32))])) t
    refine XS.icmpNo X0.here hx rfl (hb hby d1_8) rfl (XT.ii_ge_f (by decide : ((2 : Int32) < (4 : Int32)))) ?_
    show Steps p.tables e below (s₁.setTop (mkF m 11 #[.val (.ref a0), .val (.int (4 : Int32)), .val (.double (FP.l2d (own_s2 x0 x1))), .second, .val (.int (2 : Int32))] [])) t
    refine XS.dloadN X0.here hx rfl (hb hby d1_11) rfl ?_
    show Steps p.tables e below (s₁.setTop (mkF m 12 #[.val (.ref a0), .val (.int (4 : Int32)), .val (.double (FP.l2d (own_s2 x0 x1))), .second, .val (.int (2 : Int32))] [(.double (FP.l2d (own_s2 x0 x1)))])) t
    refine XS.aloadN X0.here hx rfl (hb hby d1_12) rfl rfl ?_
    show Steps p.tables e below (s₁.setTop (mkF m 13 #[.val (.ref a0), .val (.int (4 : Int32)), .val (.double (FP.l2d (own_s2 x0 x1))), .second, .val (.int (2 : Int32))] [(.ref a0), (.double (FP.l2d (own_s2 x0 x1)))])) t
    refine XS.iload X0.here hx rfl (hb hby d1_13) rfl ?_
    show Steps p.tables e below (s₁.setTop (mkF m 15 #[.val (.ref a0), .val (.int (4 : Int32)), .val (.double (FP.l2d (own_s2 x0 x1))), .second, .val (.int (2 : Int32))] [(.int (2 : Int32)), (.ref a0), (.double (FP.l2d (own_s2 x0 x1)))])) t
    refine X0.daload hx (j := (2 : Int32)) (v := (.double (FP.l2d x2))) (by rw [e0]; exact Ar1.1) (State.isArrayOf_alike hZ.alike Ar1.2.1) Ar1.2.2 (inb_of S1 ⟨by decide, by decide⟩) (Has.at H1 (inb_of S1 ⟨by decide, by decide⟩) rfl) (g := (mkF m 15 #[.val (.ref a0), .val (.int (4 : Int32)), .val (.double (FP.l2d (own_s2 x0 x1))), .second, .val (.int (2 : Int32))] [(.int (2 : Int32)), (.ref a0), (.double (FP.l2d (own_s2 x0 x1)))])) rfl rfl (hb hby d1_15) _ ?_
    show Steps p.tables e below (s₁.setTop (mkF m 16 #[.val (.ref a0), .val (.int (4 : Int32)), .val (.double (FP.l2d (own_s2 x0 x1))), .second, .val (.int (2 : Int32))] [(.double (FP.l2d x2)), (.double (FP.l2d (own_s2 x0 x1)))])) t
    refine XS.daddS X0.here hx rfl (hb hby d1_16) rfl (nn_w (own_a3 hb0 hb1 hb2)) (v := (FP.l2d (own_s3 x0 x1 x2))) (own_a3 hb0 hb1 hb2) ?_
    show Steps p.tables e below (s₁.setTop (mkF m 17 #[.val (.ref a0), .val (.int (4 : Int32)), .val (.double (FP.l2d (own_s2 x0 x1))), .second, .val (.int (2 : Int32))] [(.double (FP.l2d (own_s3 x0 x1 x2)))])) t
    refine XS.dstoreN X0.here hx rfl (hb hby d1_17) rfl (l' := #[.val (.ref a0), .val (.int (4 : Int32)), .val (.double (FP.l2d (own_s3 x0 x1 x2))), .second, .val (.int (2 : Int32))]) rfl ?_
    show Steps p.tables e below (s₁.setTop (mkF m 18 #[.val (.ref a0), .val (.int (4 : Int32)), .val (.double (FP.l2d (own_s3 x0 x1 x2))), .second, .val (.int (2 : Int32))] [])) t
    refine XS.iinc X0.here hx rfl (hb hby d1_18) rfl (l' := #[.val (.ref a0), .val (.int (4 : Int32)), .val (.double (FP.l2d (own_s3 x0 x1 x2))), .second, .val (.int (3 : Int32))]) rfl ?_
    show Steps p.tables e below (s₁.setTop (mkF m 21 #[.val (.ref a0), .val (.int (4 : Int32)), .val (.double (FP.l2d (own_s3 x0 x1 x2))), .second, .val (.int (3 : Int32))] [])) t
    refine XS.goto X0.here hx rfl (pc0 := 21) (pc' := 5) rfl (hb hby d1_21) (by decide) (by decide) ?_
    show Steps p.tables e below (s₁.setTop (mkF m 5 #[.val (.ref a0), .val (.int (4 : Int32)), .val (.double (FP.l2d (own_s3 x0 x1 x2))), .second, .val (.int (3 : Int32))] [])) t
    refine XS.iload X0.here hx rfl (hb hby d1_5) rfl ?_
    show Steps p.tables e below (s₁.setTop (mkF m 7 #[.val (.ref a0), .val (.int (4 : Int32)), .val (.double (FP.l2d (own_s3 x0 x1 x2))), .second, .val (.int (3 : Int32))] [(.int (3 : Int32))])) t
    refine XS.iloadN X0.here hx rfl (hb hby d1_7) rfl ?_
    show Steps p.tables e below (s₁.setTop (mkF m 8 #[.val (.ref a0), .val (.int (4 : Int32)), .val (.double (FP.l2d (own_s3 x0 x1 x2))), .second, .val (.int (3 : Int32))] [(.int (4 : Int32)), (.int (3 : Int32))])) t
    refine XS.icmpNo X0.here hx rfl (hb hby d1_8) rfl (XT.ii_ge_f (by decide : ((3 : Int32) < (4 : Int32)))) ?_
    show Steps p.tables e below (s₁.setTop (mkF m 11 #[.val (.ref a0), .val (.int (4 : Int32)), .val (.double (FP.l2d (own_s3 x0 x1 x2))), .second, .val (.int (3 : Int32))] [])) t
    refine XS.dloadN X0.here hx rfl (hb hby d1_11) rfl ?_
    show Steps p.tables e below (s₁.setTop (mkF m 12 #[.val (.ref a0), .val (.int (4 : Int32)), .val (.double (FP.l2d (own_s3 x0 x1 x2))), .second, .val (.int (3 : Int32))] [(.double (FP.l2d (own_s3 x0 x1 x2)))])) t
    refine XS.aloadN X0.here hx rfl (hb hby d1_12) rfl rfl ?_
    show Steps p.tables e below (s₁.setTop (mkF m 13 #[.val (.ref a0), .val (.int (4 : Int32)), .val (.double (FP.l2d (own_s3 x0 x1 x2))), .second, .val (.int (3 : Int32))] [(.ref a0), (.double (FP.l2d (own_s3 x0 x1 x2)))])) t
    refine XS.iload X0.here hx rfl (hb hby d1_13) rfl ?_
    show Steps p.tables e below (s₁.setTop (mkF m 15 #[.val (.ref a0), .val (.int (4 : Int32)), .val (.double (FP.l2d (own_s3 x0 x1 x2))), .second, .val (.int (3 : Int32))] [(.int (3 : Int32)), (.ref a0), (.double (FP.l2d (own_s3 x0 x1 x2)))])) t
    refine X0.daload hx (j := (3 : Int32)) (v := (.double (FP.l2d x3))) (by rw [e0]; exact Ar1.1) (State.isArrayOf_alike hZ.alike Ar1.2.1) Ar1.2.2 (inb_of S1 ⟨by decide, by decide⟩) (Has.at H1 (inb_of S1 ⟨by decide, by decide⟩) rfl) (g := (mkF m 15 #[.val (.ref a0), .val (.int (4 : Int32)), .val (.double (FP.l2d (own_s3 x0 x1 x2))), .second, .val (.int (3 : Int32))] [(.int (3 : Int32)), (.ref a0), (.double (FP.l2d (own_s3 x0 x1 x2)))])) rfl rfl (hb hby d1_15) _ ?_
    show Steps p.tables e below (s₁.setTop (mkF m 16 #[.val (.ref a0), .val (.int (4 : Int32)), .val (.double (FP.l2d (own_s3 x0 x1 x2))), .second, .val (.int (3 : Int32))] [(.double (FP.l2d x3)), (.double (FP.l2d (own_s3 x0 x1 x2)))])) t
    refine XS.daddS X0.here hx rfl (hb hby d1_16) rfl (nn_w (own_a4 hb0 hb1 hb2 hb3)) (v := (FP.l2d (own_s4 x0 x1 x2 x3))) (own_a4 hb0 hb1 hb2 hb3) ?_
    show Steps p.tables e below (s₁.setTop (mkF m 17 #[.val (.ref a0), .val (.int (4 : Int32)), .val (.double (FP.l2d (own_s3 x0 x1 x2))), .second, .val (.int (3 : Int32))] [(.double (FP.l2d (own_s4 x0 x1 x2 x3)))])) t
    refine XS.dstoreN X0.here hx rfl (hb hby d1_17) rfl (l' := #[.val (.ref a0), .val (.int (4 : Int32)), .val (.double (FP.l2d (own_s4 x0 x1 x2 x3))), .second, .val (.int (3 : Int32))]) rfl ?_
    show Steps p.tables e below (s₁.setTop (mkF m 18 #[.val (.ref a0), .val (.int (4 : Int32)), .val (.double (FP.l2d (own_s4 x0 x1 x2 x3))), .second, .val (.int (3 : Int32))] [])) t
    refine XS.iinc X0.here hx rfl (hb hby d1_18) rfl (l' := #[.val (.ref a0), .val (.int (4 : Int32)), .val (.double (FP.l2d (own_s4 x0 x1 x2 x3))), .second, .val (.int (4 : Int32))]) rfl ?_
    show Steps p.tables e below (s₁.setTop (mkF m 21 #[.val (.ref a0), .val (.int (4 : Int32)), .val (.double (FP.l2d (own_s4 x0 x1 x2 x3))), .second, .val (.int (4 : Int32))] [])) t
    refine XS.goto X0.here hx rfl (pc0 := 21) (pc' := 5) rfl (hb hby d1_21) (by decide) (by decide) ?_
    show Steps p.tables e below (s₁.setTop (mkF m 5 #[.val (.ref a0), .val (.int (4 : Int32)), .val (.double (FP.l2d (own_s4 x0 x1 x2 x3))), .second, .val (.int (4 : Int32))] [])) t
    refine XS.iload X0.here hx rfl (hb hby d1_5) rfl ?_
    show Steps p.tables e below (s₁.setTop (mkF m 7 #[.val (.ref a0), .val (.int (4 : Int32)), .val (.double (FP.l2d (own_s4 x0 x1 x2 x3))), .second, .val (.int (4 : Int32))] [(.int (4 : Int32))])) t
    refine XS.iloadN X0.here hx rfl (hb hby d1_7) rfl ?_
    show Steps p.tables e below (s₁.setTop (mkF m 8 #[.val (.ref a0), .val (.int (4 : Int32)), .val (.double (FP.l2d (own_s4 x0 x1 x2 x3))), .second, .val (.int (4 : Int32))] [(.int (4 : Int32)), (.int (4 : Int32))])) t
    refine XS.icmpYes X0.here hx rfl (pc0 := 8) (pc' := 24) rfl (hb hby d1_8) rfl (XT.ii_ge_t (by decide : ¬ ((4 : Int32) < (4 : Int32)))) (by decide) (by decide) ?_
    show Steps p.tables e below (s₁.setTop (mkF m 24 #[.val (.ref a0), .val (.int (4 : Int32)), .val (.double (FP.l2d (own_s4 x0 x1 x2 x3))), .second, .val (.int (4 : Int32))] [])) t
    refine XS.dloadN X0.here hx rfl (hb hby d1_24) rfl ?_
    show Steps p.tables e below (s₁.setTop (mkF m 25 #[.val (.ref a0), .val (.int (4 : Int32)), .val (.double (FP.l2d (own_s4 x0 x1 x2 x3))), .second, .val (.int (4 : Int32))] [(.double (FP.l2d (own_s4 x0 x1 x2 x3)))])) t
    refine XS.dconst0 X0.here hx rfl (hb hby d1_25) (v := FP.dconst0) rfl ?_
    show Steps p.tables e below (s₁.setTop (mkF m 26 #[.val (.ref a0), .val (.int (4 : Int32)), .val (.double (FP.l2d (own_s4 x0 x1 x2 x3))), .second, .val (.int (4 : Int32))] [(.double FP.dconst0), (.double (FP.l2d (own_s4 x0 x1 x2 x3)))])) t
    refine XS.dcmpS X0.here hx rfl (hb hby d1_26) rfl (v := (lcmpW (own_s4 x0 x1 x2 x3) (0 : Int64))) (own_c (own_r4 hb0 hb1 hb2 hb3)) ?_
    show Steps p.tables e below (s₁.setTop (mkF m 27 #[.val (.ref a0), .val (.int (4 : Int32)), .val (.double (FP.l2d (own_s4 x0 x1 x2 x3))), .second, .val (.int (4 : Int32))] [(.int (lcmpW (own_s4 x0 x1 x2 x3) (0 : Int64)))])) t
    by_cases hc2 : (lcmpW (own_s4 x0 x1 x2 x3) (0 : Int64)) = (0 : Int32)
    · refine XS.ifNo X0.here hx rfl (hb hby d1_27) rfl (XT.i0_ne_f hc2) ?_
      show Steps p.tables e below (s₁.setTop (mkF m 30 #[.val (.ref a0), .val (.int (4 : Int32)), .val (.double (FP.l2d (own_s4 x0 x1 x2 x3))), .second, .val (.int (4 : Int32))] [])) t
      refine XS.dconst0 X0.here hx rfl (hb hby d1_30) (v := FP.dconst0) rfl ?_
      show Steps p.tables e below (s₁.setTop (mkF m 31 #[.val (.ref a0), .val (.int (4 : Int32)), .val (.double (FP.l2d (own_s4 x0 x1 x2 x3))), .second, .val (.int (4 : Int32))] [(.double FP.dconst0)])) t
      refine XS.goto X0.here hx rfl (pc0 := 31) (pc' := 39) rfl (hb hby d1_31) (by decide) (by decide) ?_
      show Steps p.tables e below (s₁.setTop (mkF m 39 #[.val (.ref a0), .val (.int (4 : Int32)), .val (.double (FP.l2d (own_s4 x0 x1 x2 x3))), .second, .val (.int (4 : Int32))] [(.double FP.dconst0)])) t
      have hq5 : (b1e4_4 x0 x1 x2 x3) = FP.dconst0 := by rw [b1e4_4, if_pos hc2]
      rw [hq5] at k
      exact k
    · refine XS.ifYes X0.here hx rfl (pc0 := 27) (pc' := 34) rfl (hb hby d1_27) rfl (XT.i0_ne_t hc2) (by decide) (by decide) ?_
      show Steps p.tables e below (s₁.setTop (mkF m 34 #[.val (.ref a0), .val (.int (4 : Int32)), .val (.double (FP.l2d (own_s4 x0 x1 x2 x3))), .second, .val (.int (4 : Int32))] [])) t
      refine XS.iloadN X0.here hx rfl (hb hby d1_34) rfl ?_
      show Steps p.tables e below (s₁.setTop (mkF m 35 #[.val (.ref a0), .val (.int (4 : Int32)), .val (.double (FP.l2d (own_s4 x0 x1 x2 x3))), .second, .val (.int (4 : Int32))] [(.int (4 : Int32))])) t
      refine XS.ineg X0.here hx rfl (hb hby d1_35) rfl ?_
      show Steps p.tables e below (s₁.setTop (mkF m 36 #[.val (.ref a0), .val (.int (4 : Int32)), .val (.double (FP.l2d (own_s4 x0 x1 x2 x3))), .second, .val (.int (4 : Int32))] [(.int (-(4 : Int32)))])) t
      refine XS.i2dS X0.here hx rfl (hb hby d1_36) rfl (v := (FP.i2d (-(4 : Int32)))) rfl ?_
      show Steps p.tables e below (s₁.setTop (mkF m 37 #[.val (.ref a0), .val (.int (4 : Int32)), .val (.double (FP.l2d (own_s4 x0 x1 x2 x3))), .second, .val (.int (4 : Int32))] [(.double (FP.i2d (-(4 : Int32))))])) t
      refine XS.dloadN X0.here hx rfl (hb hby d1_37) rfl ?_
      show Steps p.tables e below (s₁.setTop (mkF m 38 #[.val (.ref a0), .val (.int (4 : Int32)), .val (.double (FP.l2d (own_s4 x0 x1 x2 x3))), .second, .val (.int (4 : Int32))] [(.double (FP.l2d (own_s4 x0 x1 x2 x3))), (.double (FP.i2d (-(4 : Int32))))])) t
      refine XS.ddivS X0.here hx rfl (hb hby d1_38) rfl (own_q hc2) (v := (FP.ddiv (FP.i2d (-(4 : Int32))) (FP.l2d (own_s4 x0 x1 x2 x3)))) rfl ?_
      show Steps p.tables e below (s₁.setTop (mkF m 39 #[.val (.ref a0), .val (.int (4 : Int32)), .val (.double (FP.l2d (own_s4 x0 x1 x2 x3))), .second, .val (.int (4 : Int32))] [(.double (FP.ddiv (FP.i2d (-(4 : Int32))) (FP.l2d (own_s4 x0 x1 x2 x3))))])) t
      have hq6 : (b1e4_4 x0 x1 x2 x3) = (FP.ddiv (FP.i2d (-(4 : Int32))) (FP.l2d (own_s4 x0 x1 x2 x3))) := by rw [b1e4_4, if_neg hc2]
      rw [hq6] at k
      exact k
  obtain ⟨fs, hr, hrun, hended, hW, hsame⟩ := X0.leave (v := some (.double (b1e4_4 x0 x1 x2 x3))) (fun h => by rw [Bd.returns] at h; cases h)
  refine ⟨_, _, go3 _ (Jvm.RoadKit.retOut X0 hx Bd.returns rfl (Or.inr (Or.inr (Or.inl ⟨rfl, rfl, _, rfl⟩))) (hb hby d1_39) hr), hrun, hended, _, _, rfl, ?_, ⟨_, rfl⟩, hW, hsame.mono (by decide) (by decide)⟩
  show Q1e4 _ _ a0 k_a0 x0 x1 x2 x3 h0 _ (s₁.setFrames fs).heap _
  have hE : (s₁.setFrames fs).heap = h0 := e0
  rw [hE]
  exact ⟨by rw [f1e4], N0, rfl⟩
theorem own_dead5 (x : Int32) (h0 : ¬ (x &&& 2147483647) % 5 = 0) (h1 : ¬ (x &&& 2147483647) % 5 = 1) (h2 : ¬ (x &&& 2147483647) % 5 = 2) (h3 : ¬ (x &&& 2147483647) % 5 = 3) (h4 : ¬ (x &&& 2147483647) % 5 = 4) : False := by
  have hm := c_mask x 2147483647 31 (by decide) (by decide)
  have hr := (c_irem (x &&& 2147483647) 5 5 (by decide)).1 (by omega)
  have g0 := own_ne 0 rfl h0
  have g1 := own_ne 1 rfl h1
  have g2 := own_ne 2 rfl h2
  have g3 := own_ne 3 rfl h3
  have g4 := own_ne 4 rfl h4
  omega
theorem pd_37 : parseMethodDescriptor "([DI)D" = some ⟨[(.array .double), .int], some .double⟩ := by decide +kernel
def v0_1 (p0 : Int32) : Int32 := ((p0 &&& (2147483647 : Int32)) % (5 : Int32))
def v0_2 (p1 : Int32) : Int64 := (-(p1 &&& (2147483647 : Int32)).toInt64)
def v0_3 (p2 : Int32) : Int64 := (-(p2 &&& (2147483647 : Int32)).toInt64)
def v0_4 (p3 : Int32) : Int64 := (-(p3 &&& (2147483647 : Int32)).toInt64)
def v0_5 (p4 : Int32) : Int64 := (-(p4 &&& (2147483647 : Int32)).toInt64)
def b0_37 : Int32 := (if (cmpValue (FP.dcmp f1e0 FP.dconst0) .l) = (0 : Int32) then (1 : Int32) else (0 : Int32))
def v0_42 (p1 : Int32) : Int64 := ((0 : Int64) + (v0_2 p1))
def b0_45 (p1 : Int32) : UInt64 := (if (v0_42 p1) = (0 : Int64) then FP.dconst0 else (FP.ddiv (FP.dneg (FP.i2d (1 : Int32))) (FP.l2d (v0_42 p1))))
def b0_53 (p1 : Int32) : Int32 := (if (cmpValue (FP.dcmp (f1e1 (v0_2 p1)) (b0_45 p1)) .l) = (0 : Int32) then (1 : Int32) else (0 : Int32))
def b0_60 (p1 : Int32) (p2 : Int32) : UInt64 := (if ((v0_42 p1) + (v0_3 p2)) = (0 : Int64) then FP.dconst0 else (FP.ddiv (FP.dneg (FP.i2d (2 : Int32))) (FP.l2d ((v0_42 p1) + (v0_3 p2)))))
def v0_66 (p1 : Int32) (p2 : Int32) : UInt64 := (f1e2 (v0_2 p1) (v0_3 p2))
def b0_69 (p1 : Int32) (p2 : Int32) : Int32 := (if (cmpValue (FP.dcmp (v0_66 p1 p2) (b0_60 p1 p2)) .l) = (0 : Int32) then (1 : Int32) else (0 : Int32))
def v0_74 (p1 : Int32) (p2 : Int32) (p3 : Int32) : Int64 := (((v0_42 p1) + (v0_3 p2)) + (v0_4 p3))
def b0_77 (p1 : Int32) (p2 : Int32) (p3 : Int32) : UInt64 := (if (v0_74 p1 p2 p3) = (0 : Int64) then FP.dconst0 else (FP.ddiv (FP.dneg (FP.i2d (3 : Int32))) (FP.l2d (v0_74 p1 p2 p3))))
def v0_83 (p1 : Int32) (p2 : Int32) (p3 : Int32) : UInt64 := (f1e3 (v0_2 p1) (v0_3 p2) (v0_4 p3))
def b0_86 (p1 : Int32) (p2 : Int32) (p3 : Int32) : Int32 := (if (cmpValue (FP.dcmp (v0_83 p1 p2 p3) (b0_77 p1 p2 p3)) .l) = (0 : Int32) then (1 : Int32) else (0 : Int32))
def v0_91 (p1 : Int32) (p2 : Int32) (p3 : Int32) (p4 : Int32) : Int64 := ((v0_74 p1 p2 p3) + (v0_5 p4))
def b0_94 (p1 : Int32) (p2 : Int32) (p3 : Int32) (p4 : Int32) : UInt64 := (if (v0_91 p1 p2 p3 p4) = (0 : Int64) then FP.dconst0 else (FP.ddiv (FP.dneg (FP.i2d (4 : Int32))) (FP.l2d (v0_91 p1 p2 p3 p4))))
def v0_100 (p1 : Int32) (p2 : Int32) (p3 : Int32) (p4 : Int32) : UInt64 := (f1e4 (v0_2 p1) (v0_3 p2) (v0_4 p3) (v0_5 p4))
def b0_103 (p1 : Int32) (p2 : Int32) (p3 : Int32) (p4 : Int32) : Int32 := (if (cmpValue (FP.dcmp (v0_100 p1 p2 p3 p4) (b0_94 p1 p2 p3 p4)) .l) = (0 : Int32) then (1 : Int32) else (0 : Int32))
def f0 (p0 : Int32) (p1 : Int32) (p2 : Int32) (p3 : Int32) (p4 : Int32) : Int32 := (if (v0_1 p0) = (0 : Int32) then b0_37 else (if (v0_1 p0) = (1 : Int32) then (b0_53 p1) else (if (v0_1 p0) = (2 : Int32) then (b0_69 p1 p2) else (if (v0_1 p0) = (3 : Int32) then (b0_86 p1 p2 p3) else (if (v0_1 p0) = (4 : Int32) then (b0_103 p1 p2 p3 p4) else (1 : Int32))))))
theorem own_fin {a b : UInt64} (e : a = b) (h : Jvm.Free.Fl.NoNaN64 a) : (if cmpValue (FP.dcmp a b) .l = (0 : Int32) then (1 : Int32) else 0) = 1 := by
  subst e; exact if_pos (dcmpV_self h .l)
theorem own_z : Jvm.Free.Fl.NoNaN64 FP.dconst0 := by unfold Jvm.Free.Fl.NoNaN64; decide +kernel
theorem own_pair {n : Int32} {x : Int64} {a : UInt64} (e : a = FP.i2d n) : (if lcmpW x 0 = (0 : Int32) then FP.dconst0 else FP.ddiv (FP.i2d n) (FP.l2d x)) = (if x = 0 then FP.dconst0 else FP.ddiv a (FP.l2d x)) ∧ Jvm.Free.Fl.NoNaN64 (if lcmpW x 0 = (0 : Int32) then FP.dconst0 else FP.ddiv (FP.i2d n) (FP.l2d x)) := by
  subst e
  by_cases h : x = 0
  · have h2 := (lw_eq x 0).mpr h
    rw [if_pos h2, if_pos h]; exact ⟨rfl, own_z⟩
  · have h2 : ¬ lcmpW x 0 = 0 := fun q => h ((lw_eq x 0).mp q)
    rw [if_neg h2, if_neg h]; exact ⟨rfl, own_q h2⟩
theorem f0_one (p0 : Int32) (p1 : Int32) (p2 : Int32) (p3 : Int32) (p4 : Int32) : f0 p0 p1 p2 p3 p4 = 1 := by
  unfold f0
  by_cases h0 : v0_1 p0 = (0 : Int32)
  · rw [if_pos h0]; decide +kernel
  rw [if_neg h0]
  by_cases h1 : v0_1 p0 = (1 : Int32)
  · rw [if_pos h1]; exact own_fin (own_pair own_neg1).1 (own_pair own_neg1).2
  rw [if_neg h1]
  by_cases h2 : v0_1 p0 = (2 : Int32)
  · rw [if_pos h2]; exact own_fin (own_pair own_neg2).1 (own_pair own_neg2).2
  rw [if_neg h2]
  by_cases h3 : v0_1 p0 = (3 : Int32)
  · rw [if_pos h3]; exact own_fin (own_pair own_neg3).1 (own_pair own_neg3).2
  rw [if_neg h3]
  by_cases h4 : v0_1 p0 = (4 : Int32)
  · rw [if_pos h4]; exact own_fin (own_pair own_neg4).1 (own_pair own_neg4).2
  rw [if_neg h4]

theorem pn_53 : plainName "com/example/axiscope/axiscope/engine/HillEstimatePinLaw" = true := by first | (simp [plainName, overriddenIn]; done) | decide +kernel
def Q0 (Z : State) (n0 : Nat) (p0 : Int32) (p1 : Int32) (p2 : Int32) (p3 : Int32) (p4 : Int32) (h0 : Heap) (v : Option Value) (h : Heap) (L : List Loc) : Prop := v = some (.int 1) ∧ Fr n0 L
theorem ef0 (m : MethodId) (p0 : Int32) (p1 : Int32) (p2 : Int32) (p3 : Int32) (p4 : Int32) : entryFrame m #[(.int p0), (.int p1), (.int p2), (.int p3), (.int p4)] maxLocals = mkF m 0 #[.val (.int p0), .val (.int p1), .val (.int p2), .val (.int p3), .val (.int p4), .unset, .unset, .unset, .unset, .unset, .unset, .unset, .unset, .unset, .unset, .unset, .unset, .unset, .unset, .unset, .unset] [] := by first | (simp [entryFrame, mkF, argsToLocals, Value.category, maxLocals]; done) | rfl
set_option maxRecDepth 65536 in
set_option maxHeartbeats 40000000 in
theorem rm0 (l : Launch) (Z : State) (aZ : Array Value) (hw : ∀ d ∈ tables_1, d.before aZ Z = true) (ws : List Jvm.Cond) (p0 : Int32) (p1 : Int32) (p2 : Int32) (p3 : Int32) (p4 : Int32) (h0 : Heap) (n0 : Nat) (Z0 : n0 ≤ h0.size) :
    MetFree l x (head1 (Jvm.Cond.code x code maxLocals ret :: ws) room_1) (fun a U => a = #[(.int p0), (.int p1), (.int p2), (.int p3), (.int p4)] ∧ Z.Warmed39 U.vm ∧ U.heap = h0) (fun _ _ _ _ _ => True) (fun _ U o U' => ∃ v L, o = .returned v ∧ Q0 Z n0 p0 p1 p2 p3 p4 h0 v U'.heap L ∧ FrameEnd U o U' L room_1.cells room_1.slots) := by
  refine MetFree.of_bodySF (plainFor_of_name pn_53) hisR ?_
  intro p e s m args below meth c s₁ Bd hml0 hP hK
  obtain ⟨rfl, hZ, hh⟩ := hP
  have hx := Bd.exec
  have hby := Bd.bytes
  have hml : c.maxLocals = 21 := hml0
  have hown : s.vm.findClass "com/example/axiscope/axiscope/engine/HillEstimatePinLaw" = some m.cls := findClass_of_methodNamed Bd.named
  have hnm := (name_of_methodNamed Bd.named Bd.method).1
  have X0 : Stand p l e room_1 s m #[(.int p0), (.int p1), (.int p2), (.int p3), (.int p4)] below meth c s₁ [] 0 0 := Stand.of_body Bd
  have e0 : s₁.heap = h0 := by rw [← hh, Bd.state]; rfl
  have N0 := Fr.nil n0
  have K0 : Keep h0 h0 [] := Keep.refl _ _
  have go0 : ∀ t, Steps p.tables e below (s₁.setTop (mkF m 0 #[.val (.int p0), .val (.int p1), .val (.int p2), .val (.int p3), .val (.int p4), .unset, .unset, .unset, .unset, .unset, .unset, .unset, .unset, .unset, .unset, .unset, .unset, .unset, .unset, .unset, .unset] [])) t → Steps p.tables e below (s₁.setTop (entryFrame m #[(.int p0), (.int p1), (.int p2), (.int p3), (.int p4)] maxLocals)) t := fun t k => castTop (ef0 m p0 p1 p2 p3 p4) k
  have go6 : ∀ t, Steps p.tables e below (s₁.setTop (mkF m 42 #[.val (.int p0), .val (.int p1), .val (.int p2), .val (.int p3), .val (.int p4), .val (.int (v0_1 p0)), .val (.long (v0_2 p1)), .second, .val (.long (v0_3 p2)), .second, .val (.long (v0_4 p3)), .second, .val (.long (v0_5 p4)), .second, .unset, .unset, .unset, .unset, .unset, .unset, .unset] [(.int (4 : Int32))])) t → Steps p.tables e below (s₁.setTop (entryFrame m #[(.int p0), (.int p1), (.int p2), (.int p3), (.int p4)] maxLocals)) t := by
    intro t k
    refine go0 _ ?_
    refine XS.iloadN X0.here hx rfl (hb hby at_0) rfl ?_
    show Steps p.tables e below (s₁.setTop (mkF m 1 #[.val (.int p0), .val (.int p1), .val (.int p2), .val (.int p3), .val (.int p4), .unset, .unset, .unset, .unset, .unset, .unset, .unset, .unset, .unset, .unset, .unset, .unset, .unset, .unset, .unset, .unset] [(.int p0)])) t
    refine X0.ldcInt hx hown (mvT hZ (hw _ (List.mem_of_getElem? (i := 0) rfl))) (g := (mkF m 1 #[.val (.int p0), .val (.int p1), .val (.int p2), .val (.int p3), .val (.int p4), .unset, .unset, .unset, .unset, .unset, .unset, .unset, .unset, .unset, .unset, .unset, .unset, .unset, .unset, .unset, .unset] [(.int p0)])) rfl (hb hby at_1) _ ?_
    show Steps p.tables e below (s₁.setTop (mkF m 3 #[.val (.int p0), .val (.int p1), .val (.int p2), .val (.int p3), .val (.int p4), .unset, .unset, .unset, .unset, .unset, .unset, .unset, .unset, .unset, .unset, .unset, .unset, .unset, .unset, .unset, .unset] [(.int (2147483647 : Int32)), (.int p0)])) t
    refine XS.iand X0.here hx rfl (hb hby at_3) rfl ?_
    show Steps p.tables e below (s₁.setTop (mkF m 4 #[.val (.int p0), .val (.int p1), .val (.int p2), .val (.int p3), .val (.int p4), .unset, .unset, .unset, .unset, .unset, .unset, .unset, .unset, .unset, .unset, .unset, .unset, .unset, .unset, .unset, .unset] [(.int (p0 &&& (2147483647 : Int32)))])) t
    refine XS.iconst X0.here hx rfl (hb hby at_4) ?_
    show Steps p.tables e below (s₁.setTop (mkF m 5 #[.val (.int p0), .val (.int p1), .val (.int p2), .val (.int p3), .val (.int p4), .unset, .unset, .unset, .unset, .unset, .unset, .unset, .unset, .unset, .unset, .unset, .unset, .unset, .unset, .unset, .unset] [(.int (5 : Int32)), (.int (p0 &&& (2147483647 : Int32)))])) t
    refine iremM X0 hx rfl (hb hby at_5) rfl (by decide) ?_
    show Steps p.tables e below (s₁.setTop (mkF m 6 #[.val (.int p0), .val (.int p1), .val (.int p2), .val (.int p3), .val (.int p4), .unset, .unset, .unset, .unset, .unset, .unset, .unset, .unset, .unset, .unset, .unset, .unset, .unset, .unset, .unset, .unset] [(.int ((p0 &&& (2147483647 : Int32)) % (5 : Int32)))])) t
    show Steps p.tables e below (s₁.setTop (mkF m 6 #[.val (.int p0), .val (.int p1), .val (.int p2), .val (.int p3), .val (.int p4), .unset, .unset, .unset, .unset, .unset, .unset, .unset, .unset, .unset, .unset, .unset, .unset, .unset, .unset, .unset, .unset] [(.int (v0_1 p0))])) t
    refine XS.istore X0.here hx rfl (hb hby at_6) rfl (l' := #[.val (.int p0), .val (.int p1), .val (.int p2), .val (.int p3), .val (.int p4), .val (.int (v0_1 p0)), .unset, .unset, .unset, .unset, .unset, .unset, .unset, .unset, .unset, .unset, .unset, .unset, .unset, .unset, .unset]) rfl ?_
    show Steps p.tables e below (s₁.setTop (mkF m 8 #[.val (.int p0), .val (.int p1), .val (.int p2), .val (.int p3), .val (.int p4), .val (.int (v0_1 p0)), .unset, .unset, .unset, .unset, .unset, .unset, .unset, .unset, .unset, .unset, .unset, .unset, .unset, .unset, .unset] [])) t
    refine XS.iloadN X0.here hx rfl (hb hby at_8) rfl ?_
    show Steps p.tables e below (s₁.setTop (mkF m 9 #[.val (.int p0), .val (.int p1), .val (.int p2), .val (.int p3), .val (.int p4), .val (.int (v0_1 p0)), .unset, .unset, .unset, .unset, .unset, .unset, .unset, .unset, .unset, .unset, .unset, .unset, .unset, .unset, .unset] [(.int p1)])) t
    refine X0.ldcInt hx hown (mvT hZ (hw _ (List.mem_of_getElem? (i := 0) rfl))) (g := (mkF m 9 #[.val (.int p0), .val (.int p1), .val (.int p2), .val (.int p3), .val (.int p4), .val (.int (v0_1 p0)), .unset, .unset, .unset, .unset, .unset, .unset, .unset, .unset, .unset, .unset, .unset, .unset, .unset, .unset, .unset] [(.int p1)])) rfl (hb hby at_9) _ ?_
    show Steps p.tables e below (s₁.setTop (mkF m 11 #[.val (.int p0), .val (.int p1), .val (.int p2), .val (.int p3), .val (.int p4), .val (.int (v0_1 p0)), .unset, .unset, .unset, .unset, .unset, .unset, .unset, .unset, .unset, .unset, .unset, .unset, .unset, .unset, .unset] [(.int (2147483647 : Int32)), (.int p1)])) t
    refine XS.iand X0.here hx rfl (hb hby at_11) rfl ?_
    show Steps p.tables e below (s₁.setTop (mkF m 12 #[.val (.int p0), .val (.int p1), .val (.int p2), .val (.int p3), .val (.int p4), .val (.int (v0_1 p0)), .unset, .unset, .unset, .unset, .unset, .unset, .unset, .unset, .unset, .unset, .unset, .unset, .unset, .unset, .unset] [(.int (p1 &&& (2147483647 : Int32)))])) t
    refine XS.i2l X0.here hx rfl (hb hby at_12) rfl ?_
    show Steps p.tables e below (s₁.setTop (mkF m 13 #[.val (.int p0), .val (.int p1), .val (.int p2), .val (.int p3), .val (.int p4), .val (.int (v0_1 p0)), .unset, .unset, .unset, .unset, .unset, .unset, .unset, .unset, .unset, .unset, .unset, .unset, .unset, .unset, .unset] [(.long (p1 &&& (2147483647 : Int32)).toInt64)])) t
    refine XS.lneg X0.here hx rfl (hb hby at_13) rfl ?_
    show Steps p.tables e below (s₁.setTop (mkF m 14 #[.val (.int p0), .val (.int p1), .val (.int p2), .val (.int p3), .val (.int p4), .val (.int (v0_1 p0)), .unset, .unset, .unset, .unset, .unset, .unset, .unset, .unset, .unset, .unset, .unset, .unset, .unset, .unset, .unset] [(.long (-(p1 &&& (2147483647 : Int32)).toInt64))])) t
    show Steps p.tables e below (s₁.setTop (mkF m 14 #[.val (.int p0), .val (.int p1), .val (.int p2), .val (.int p3), .val (.int p4), .val (.int (v0_1 p0)), .unset, .unset, .unset, .unset, .unset, .unset, .unset, .unset, .unset, .unset, .unset, .unset, .unset, .unset, .unset] [(.long (v0_2 p1))])) t
    refine XS.lstore X0.here hx rfl (hb hby at_14) rfl (l' := #[.val (.int p0), .val (.int p1), .val (.int p2), .val (.int p3), .val (.int p4), .val (.int (v0_1 p0)), .val (.long (v0_2 p1)), .second, .unset, .unset, .unset, .unset, .unset, .unset, .unset, .unset, .unset, .unset, .unset, .unset, .unset]) rfl ?_
    show Steps p.tables e below (s₁.setTop (mkF m 16 #[.val (.int p0), .val (.int p1), .val (.int p2), .val (.int p3), .val (.int p4), .val (.int (v0_1 p0)), .val (.long (v0_2 p1)), .second, .unset, .unset, .unset, .unset, .unset, .unset, .unset, .unset, .unset, .unset, .unset, .unset, .unset] [])) t
    refine XS.iloadN X0.here hx rfl (hb hby at_16) rfl ?_
    show Steps p.tables e below (s₁.setTop (mkF m 17 #[.val (.int p0), .val (.int p1), .val (.int p2), .val (.int p3), .val (.int p4), .val (.int (v0_1 p0)), .val (.long (v0_2 p1)), .second, .unset, .unset, .unset, .unset, .unset, .unset, .unset, .unset, .unset, .unset, .unset, .unset, .unset] [(.int p2)])) t
    refine X0.ldcInt hx hown (mvT hZ (hw _ (List.mem_of_getElem? (i := 0) rfl))) (g := (mkF m 17 #[.val (.int p0), .val (.int p1), .val (.int p2), .val (.int p3), .val (.int p4), .val (.int (v0_1 p0)), .val (.long (v0_2 p1)), .second, .unset, .unset, .unset, .unset, .unset, .unset, .unset, .unset, .unset, .unset, .unset, .unset, .unset] [(.int p2)])) rfl (hb hby at_17) _ ?_
    show Steps p.tables e below (s₁.setTop (mkF m 19 #[.val (.int p0), .val (.int p1), .val (.int p2), .val (.int p3), .val (.int p4), .val (.int (v0_1 p0)), .val (.long (v0_2 p1)), .second, .unset, .unset, .unset, .unset, .unset, .unset, .unset, .unset, .unset, .unset, .unset, .unset, .unset] [(.int (2147483647 : Int32)), (.int p2)])) t
    refine XS.iand X0.here hx rfl (hb hby at_19) rfl ?_
    show Steps p.tables e below (s₁.setTop (mkF m 20 #[.val (.int p0), .val (.int p1), .val (.int p2), .val (.int p3), .val (.int p4), .val (.int (v0_1 p0)), .val (.long (v0_2 p1)), .second, .unset, .unset, .unset, .unset, .unset, .unset, .unset, .unset, .unset, .unset, .unset, .unset, .unset] [(.int (p2 &&& (2147483647 : Int32)))])) t
    refine XS.i2l X0.here hx rfl (hb hby at_20) rfl ?_
    show Steps p.tables e below (s₁.setTop (mkF m 21 #[.val (.int p0), .val (.int p1), .val (.int p2), .val (.int p3), .val (.int p4), .val (.int (v0_1 p0)), .val (.long (v0_2 p1)), .second, .unset, .unset, .unset, .unset, .unset, .unset, .unset, .unset, .unset, .unset, .unset, .unset, .unset] [(.long (p2 &&& (2147483647 : Int32)).toInt64)])) t
    refine XS.lneg X0.here hx rfl (hb hby at_21) rfl ?_
    show Steps p.tables e below (s₁.setTop (mkF m 22 #[.val (.int p0), .val (.int p1), .val (.int p2), .val (.int p3), .val (.int p4), .val (.int (v0_1 p0)), .val (.long (v0_2 p1)), .second, .unset, .unset, .unset, .unset, .unset, .unset, .unset, .unset, .unset, .unset, .unset, .unset, .unset] [(.long (-(p2 &&& (2147483647 : Int32)).toInt64))])) t
    show Steps p.tables e below (s₁.setTop (mkF m 22 #[.val (.int p0), .val (.int p1), .val (.int p2), .val (.int p3), .val (.int p4), .val (.int (v0_1 p0)), .val (.long (v0_2 p1)), .second, .unset, .unset, .unset, .unset, .unset, .unset, .unset, .unset, .unset, .unset, .unset, .unset, .unset] [(.long (v0_3 p2))])) t
    refine XS.lstore X0.here hx rfl (hb hby at_22) rfl (l' := #[.val (.int p0), .val (.int p1), .val (.int p2), .val (.int p3), .val (.int p4), .val (.int (v0_1 p0)), .val (.long (v0_2 p1)), .second, .val (.long (v0_3 p2)), .second, .unset, .unset, .unset, .unset, .unset, .unset, .unset, .unset, .unset, .unset, .unset]) rfl ?_
    show Steps p.tables e below (s₁.setTop (mkF m 24 #[.val (.int p0), .val (.int p1), .val (.int p2), .val (.int p3), .val (.int p4), .val (.int (v0_1 p0)), .val (.long (v0_2 p1)), .second, .val (.long (v0_3 p2)), .second, .unset, .unset, .unset, .unset, .unset, .unset, .unset, .unset, .unset, .unset, .unset] [])) t
    refine XS.iloadN X0.here hx rfl (hb hby at_24) rfl ?_
    show Steps p.tables e below (s₁.setTop (mkF m 25 #[.val (.int p0), .val (.int p1), .val (.int p2), .val (.int p3), .val (.int p4), .val (.int (v0_1 p0)), .val (.long (v0_2 p1)), .second, .val (.long (v0_3 p2)), .second, .unset, .unset, .unset, .unset, .unset, .unset, .unset, .unset, .unset, .unset, .unset] [(.int p3)])) t
    refine X0.ldcInt hx hown (mvT hZ (hw _ (List.mem_of_getElem? (i := 0) rfl))) (g := (mkF m 25 #[.val (.int p0), .val (.int p1), .val (.int p2), .val (.int p3), .val (.int p4), .val (.int (v0_1 p0)), .val (.long (v0_2 p1)), .second, .val (.long (v0_3 p2)), .second, .unset, .unset, .unset, .unset, .unset, .unset, .unset, .unset, .unset, .unset, .unset] [(.int p3)])) rfl (hb hby at_25) _ ?_
    show Steps p.tables e below (s₁.setTop (mkF m 27 #[.val (.int p0), .val (.int p1), .val (.int p2), .val (.int p3), .val (.int p4), .val (.int (v0_1 p0)), .val (.long (v0_2 p1)), .second, .val (.long (v0_3 p2)), .second, .unset, .unset, .unset, .unset, .unset, .unset, .unset, .unset, .unset, .unset, .unset] [(.int (2147483647 : Int32)), (.int p3)])) t
    refine XS.iand X0.here hx rfl (hb hby at_27) rfl ?_
    show Steps p.tables e below (s₁.setTop (mkF m 28 #[.val (.int p0), .val (.int p1), .val (.int p2), .val (.int p3), .val (.int p4), .val (.int (v0_1 p0)), .val (.long (v0_2 p1)), .second, .val (.long (v0_3 p2)), .second, .unset, .unset, .unset, .unset, .unset, .unset, .unset, .unset, .unset, .unset, .unset] [(.int (p3 &&& (2147483647 : Int32)))])) t
    refine XS.i2l X0.here hx rfl (hb hby at_28) rfl ?_
    show Steps p.tables e below (s₁.setTop (mkF m 29 #[.val (.int p0), .val (.int p1), .val (.int p2), .val (.int p3), .val (.int p4), .val (.int (v0_1 p0)), .val (.long (v0_2 p1)), .second, .val (.long (v0_3 p2)), .second, .unset, .unset, .unset, .unset, .unset, .unset, .unset, .unset, .unset, .unset, .unset] [(.long (p3 &&& (2147483647 : Int32)).toInt64)])) t
    refine XS.lneg X0.here hx rfl (hb hby at_29) rfl ?_
    show Steps p.tables e below (s₁.setTop (mkF m 30 #[.val (.int p0), .val (.int p1), .val (.int p2), .val (.int p3), .val (.int p4), .val (.int (v0_1 p0)), .val (.long (v0_2 p1)), .second, .val (.long (v0_3 p2)), .second, .unset, .unset, .unset, .unset, .unset, .unset, .unset, .unset, .unset, .unset, .unset] [(.long (-(p3 &&& (2147483647 : Int32)).toInt64))])) t
    show Steps p.tables e below (s₁.setTop (mkF m 30 #[.val (.int p0), .val (.int p1), .val (.int p2), .val (.int p3), .val (.int p4), .val (.int (v0_1 p0)), .val (.long (v0_2 p1)), .second, .val (.long (v0_3 p2)), .second, .unset, .unset, .unset, .unset, .unset, .unset, .unset, .unset, .unset, .unset, .unset] [(.long (v0_4 p3))])) t
    refine XS.lstore X0.here hx rfl (hb hby at_30) rfl (l' := #[.val (.int p0), .val (.int p1), .val (.int p2), .val (.int p3), .val (.int p4), .val (.int (v0_1 p0)), .val (.long (v0_2 p1)), .second, .val (.long (v0_3 p2)), .second, .val (.long (v0_4 p3)), .second, .unset, .unset, .unset, .unset, .unset, .unset, .unset, .unset, .unset]) rfl ?_
    show Steps p.tables e below (s₁.setTop (mkF m 32 #[.val (.int p0), .val (.int p1), .val (.int p2), .val (.int p3), .val (.int p4), .val (.int (v0_1 p0)), .val (.long (v0_2 p1)), .second, .val (.long (v0_3 p2)), .second, .val (.long (v0_4 p3)), .second, .unset, .unset, .unset, .unset, .unset, .unset, .unset, .unset, .unset] [])) t
    refine XS.iload X0.here hx rfl (hb hby at_32) rfl ?_
    show Steps p.tables e below (s₁.setTop (mkF m 34 #[.val (.int p0), .val (.int p1), .val (.int p2), .val (.int p3), .val (.int p4), .val (.int (v0_1 p0)), .val (.long (v0_2 p1)), .second, .val (.long (v0_3 p2)), .second, .val (.long (v0_4 p3)), .second, .unset, .unset, .unset, .unset, .unset, .unset, .unset, .unset, .unset] [(.int p4)])) t
    refine X0.ldcInt hx hown (mvT hZ (hw _ (List.mem_of_getElem? (i := 0) rfl))) (g := (mkF m 34 #[.val (.int p0), .val (.int p1), .val (.int p2), .val (.int p3), .val (.int p4), .val (.int (v0_1 p0)), .val (.long (v0_2 p1)), .second, .val (.long (v0_3 p2)), .second, .val (.long (v0_4 p3)), .second, .unset, .unset, .unset, .unset, .unset, .unset, .unset, .unset, .unset] [(.int p4)])) rfl (hb hby at_34) _ ?_
    show Steps p.tables e below (s₁.setTop (mkF m 36 #[.val (.int p0), .val (.int p1), .val (.int p2), .val (.int p3), .val (.int p4), .val (.int (v0_1 p0)), .val (.long (v0_2 p1)), .second, .val (.long (v0_3 p2)), .second, .val (.long (v0_4 p3)), .second, .unset, .unset, .unset, .unset, .unset, .unset, .unset, .unset, .unset] [(.int (2147483647 : Int32)), (.int p4)])) t
    refine XS.iand X0.here hx rfl (hb hby at_36) rfl ?_
    show Steps p.tables e below (s₁.setTop (mkF m 37 #[.val (.int p0), .val (.int p1), .val (.int p2), .val (.int p3), .val (.int p4), .val (.int (v0_1 p0)), .val (.long (v0_2 p1)), .second, .val (.long (v0_3 p2)), .second, .val (.long (v0_4 p3)), .second, .unset, .unset, .unset, .unset, .unset, .unset, .unset, .unset, .unset] [(.int (p4 &&& (2147483647 : Int32)))])) t
    refine XS.i2l X0.here hx rfl (hb hby at_37) rfl ?_
    show Steps p.tables e below (s₁.setTop (mkF m 38 #[.val (.int p0), .val (.int p1), .val (.int p2), .val (.int p3), .val (.int p4), .val (.int (v0_1 p0)), .val (.long (v0_2 p1)), .second, .val (.long (v0_3 p2)), .second, .val (.long (v0_4 p3)), .second, .unset, .unset, .unset, .unset, .unset, .unset, .unset, .unset, .unset] [(.long (p4 &&& (2147483647 : Int32)).toInt64)])) t
    refine XS.lneg X0.here hx rfl (hb hby at_38) rfl ?_
    show Steps p.tables e below (s₁.setTop (mkF m 39 #[.val (.int p0), .val (.int p1), .val (.int p2), .val (.int p3), .val (.int p4), .val (.int (v0_1 p0)), .val (.long (v0_2 p1)), .second, .val (.long (v0_3 p2)), .second, .val (.long (v0_4 p3)), .second, .unset, .unset, .unset, .unset, .unset, .unset, .unset, .unset, .unset] [(.long (-(p4 &&& (2147483647 : Int32)).toInt64))])) t
    show Steps p.tables e below (s₁.setTop (mkF m 39 #[.val (.int p0), .val (.int p1), .val (.int p2), .val (.int p3), .val (.int p4), .val (.int (v0_1 p0)), .val (.long (v0_2 p1)), .second, .val (.long (v0_3 p2)), .second, .val (.long (v0_4 p3)), .second, .unset, .unset, .unset, .unset, .unset, .unset, .unset, .unset, .unset] [(.long (v0_5 p4))])) t
    refine XS.lstore X0.here hx rfl (hb hby at_39) rfl (l' := #[.val (.int p0), .val (.int p1), .val (.int p2), .val (.int p3), .val (.int p4), .val (.int (v0_1 p0)), .val (.long (v0_2 p1)), .second, .val (.long (v0_3 p2)), .second, .val (.long (v0_4 p3)), .second, .val (.long (v0_5 p4)), .second, .unset, .unset, .unset, .unset, .unset, .unset, .unset]) rfl ?_
    show Steps p.tables e below (s₁.setTop (mkF m 41 #[.val (.int p0), .val (.int p1), .val (.int p2), .val (.int p3), .val (.int p4), .val (.int (v0_1 p0)), .val (.long (v0_2 p1)), .second, .val (.long (v0_3 p2)), .second, .val (.long (v0_4 p3)), .second, .val (.long (v0_5 p4)), .second, .unset, .unset, .unset, .unset, .unset, .unset, .unset] [])) t
    refine XS.iconst X0.here hx rfl (hb hby at_41) ?_
    show Steps p.tables e below (s₁.setTop (mkF m 42 #[.val (.int p0), .val (.int p1), .val (.int p2), .val (.int p3), .val (.int p4), .val (.int (v0_1 p0)), .val (.long (v0_2 p1)), .second, .val (.long (v0_3 p2)), .second, .val (.long (v0_4 p3)), .second, .val (.long (v0_5 p4)), .second, .unset, .unset, .unset, .unset, .unset, .unset, .unset] [(.int (4 : Int32))])) t
    exact k
  obtain ⟨T7, h7, k7, X7, e7, E7, A7, st7⟩ := newP X0 hx hZ (hw _ (List.mem_of_getElem? (i := 1) rfl)) e0 (g := (mkF m 42 #[.val (.int p0), .val (.int p1), .val (.int p2), .val (.int p3), .val (.int p4), .val (.int (v0_1 p0)), .val (.long (v0_2 p1)), .second, .val (.long (v0_3 p2)), .second, .val (.long (v0_4 p3)), .second, .val (.long (v0_5 p4)), .second, .unset, .unset, .unset, .unset, .unset, .unset, .unset] [(.int (4 : Int32))])) rfl (hb hby at_42) rfl (by decide) (cap := 4) (by decide) (by decide) (by decide) (by decide)
  obtain ⟨b7, g7⟩ : ∃ z, z = h0.size := ⟨_, rfl⟩
  rw [← g7] at A7 st7
  have low7 : n0 ≤ b7 := Nat.le_trans Z0 (Nat.le_of_eq g7.symm)
  have fsh7 : h0.size ≤ b7 := Nat.le_trans K0.1 (Nat.le_of_eq g7.symm)
  have K7 : Keep h0 h7 [] := K0.ext E7
  have Zs7 : n0 ≤ h7.size := Nat.le_trans Z0 E7.1
  have go8 : ∀ t, Steps p.tables e below (T7.setTop (mkF m 44 #[.val (.int p0), .val (.int p1), .val (.int p2), .val (.int p3), .val (.int p4), .val (.int (v0_1 p0)), .val (.long (v0_2 p1)), .second, .val (.long (v0_3 p2)), .second, .val (.long (v0_4 p3)), .second, .val (.long (v0_5 p4)), .second, .unset, .unset, .unset, .unset, .unset, .unset, .unset] [(.ref b7)])) t → Steps p.tables e below (s₁.setTop (entryFrame m #[(.int p0), (.int p1), (.int p2), (.int p3), (.int p4)] maxLocals)) t := fun t k => go6 _ (st7 _ k)
  have F9 : Arv Z h7 b7 k7 .double (4 : Int32) [(.double 0), (.double 0), (.double 0), (.double 0)] (.double 0) := (Arv.new A7 (by decide)).pad (pad_rep [] (.double 0) 4)
  have go10 : ∀ t, Steps p.tables e below (T7.setTop (mkF m 52 #[.val (.int p0), .val (.int p1), .val (.int p2), .val (.int p3), .val (.int p4), .val (.int (v0_1 p0)), .val (.long (v0_2 p1)), .second, .val (.long (v0_3 p2)), .second, .val (.long (v0_4 p3)), .second, .val (.long (v0_5 p4)), .second, .val (.ref b7), .unset, .unset, .unset, .unset, .unset, .unset] [(.double (FP.l2d (v0_2 p1))), (.int (0 : Int32)), (.ref b7)])) t → Steps p.tables e below (s₁.setTop (entryFrame m #[(.int p0), (.int p1), (.int p2), (.int p3), (.int p4)] maxLocals)) t := by
    intro t k
    refine go8 _ ?_
    refine XS.astore X7.here hx rfl (hb hby at_44) rfl rfl (l' := #[.val (.int p0), .val (.int p1), .val (.int p2), .val (.int p3), .val (.int p4), .val (.int (v0_1 p0)), .val (.long (v0_2 p1)), .second, .val (.long (v0_3 p2)), .second, .val (.long (v0_4 p3)), .second, .val (.long (v0_5 p4)), .second, .val (.ref b7), .unset, .unset, .unset, .unset, .unset, .unset]) rfl ?_
    show Steps p.tables e below (T7.setTop (mkF m 46 #[.val (.int p0), .val (.int p1), .val (.int p2), .val (.int p3), .val (.int p4), .val (.int (v0_1 p0)), .val (.long (v0_2 p1)), .second, .val (.long (v0_3 p2)), .second, .val (.long (v0_4 p3)), .second, .val (.long (v0_5 p4)), .second, .val (.ref b7), .unset, .unset, .unset, .unset, .unset, .unset] [])) t
    refine XS.aload X7.here hx rfl (hb hby at_46) rfl rfl ?_
    show Steps p.tables e below (T7.setTop (mkF m 48 #[.val (.int p0), .val (.int p1), .val (.int p2), .val (.int p3), .val (.int p4), .val (.int (v0_1 p0)), .val (.long (v0_2 p1)), .second, .val (.long (v0_3 p2)), .second, .val (.long (v0_4 p3)), .second, .val (.long (v0_5 p4)), .second, .val (.ref b7), .unset, .unset, .unset, .unset, .unset, .unset] [(.ref b7)])) t
    refine XS.iconst X7.here hx rfl (hb hby at_48) ?_
    show Steps p.tables e below (T7.setTop (mkF m 49 #[.val (.int p0), .val (.int p1), .val (.int p2), .val (.int p3), .val (.int p4), .val (.int (v0_1 p0)), .val (.long (v0_2 p1)), .second, .val (.long (v0_3 p2)), .second, .val (.long (v0_4 p3)), .second, .val (.long (v0_5 p4)), .second, .val (.ref b7), .unset, .unset, .unset, .unset, .unset, .unset] [(.int (0 : Int32)), (.ref b7)])) t
    refine XS.lload X7.here hx rfl (hb hby at_49) rfl ?_
    show Steps p.tables e below (T7.setTop (mkF m 51 #[.val (.int p0), .val (.int p1), .val (.int p2), .val (.int p3), .val (.int p4), .val (.int (v0_1 p0)), .val (.long (v0_2 p1)), .second, .val (.long (v0_3 p2)), .second, .val (.long (v0_4 p3)), .second, .val (.long (v0_5 p4)), .second, .val (.ref b7), .unset, .unset, .unset, .unset, .unset, .unset] [(.long (v0_2 p1)), (.int (0 : Int32)), (.ref b7)])) t
    refine XS.l2dS X7.here hx rfl (hb hby at_51) rfl (v := (FP.l2d (v0_2 p1))) rfl ?_
    show Steps p.tables e below (T7.setTop (mkF m 52 #[.val (.int p0), .val (.int p1), .val (.int p2), .val (.int p3), .val (.int p4), .val (.int (v0_1 p0)), .val (.long (v0_2 p1)), .second, .val (.long (v0_3 p2)), .second, .val (.long (v0_4 p3)), .second, .val (.long (v0_5 p4)), .second, .val (.ref b7), .unset, .unset, .unset, .unset, .unset, .unset] [(.double (FP.l2d (v0_2 p1))), (.int (0 : Int32)), (.ref b7)])) t
    exact k
  obtain ⟨cl12, Ar12, q12, S12, N12, H12, G12⟩ := id F9
  obtain ⟨T11, h11, X11, e11, W11, st11⟩ := stD X7 hx hZ e7 Ar12 (j := (0 : Int32)) (inb_of S12 ⟨by decide, by decide⟩) (g := (mkF m 52 #[.val (.int p0), .val (.int p1), .val (.int p2), .val (.int p3), .val (.int p4), .val (.int (v0_1 p0)), .val (.long (v0_2 p1)), .second, .val (.long (v0_3 p2)), .second, .val (.long (v0_4 p3)), .second, .val (.long (v0_5 p4)), .second, .val (.ref b7), .unset, .unset, .unset, .unset, .unset, .unset] [(.double (FP.l2d (v0_2 p1))), (.int (0 : Int32)), (.ref b7)])) rfl rfl (hb hby at_52)
  have go13 : ∀ t, Steps p.tables e below (T11.setTop (mkF m 53 #[.val (.int p0), .val (.int p1), .val (.int p2), .val (.int p3), .val (.int p4), .val (.int (v0_1 p0)), .val (.long (v0_2 p1)), .second, .val (.long (v0_3 p2)), .second, .val (.long (v0_4 p3)), .second, .val (.long (v0_5 p4)), .second, .val (.ref b7), .unset, .unset, .unset, .unset, .unset, .unset] [])) t → Steps p.tables e below (s₁.setTop (entryFrame m #[(.int p0), (.int p1), (.int p2), (.int p3), (.int p4)] maxLocals)) t := fun t k => go10 _ (st11 _ k)
  have N11 := Fr.snoc X11 N0 low7
  have K11 : Keep h0 h11 [] := K7.wr W11 (Or.inr fsh7)
  have Zs11 : n0 ≤ h11.size := Nat.le_trans Zs7 (Keep.of_wr W11).1
  have F14 : Arv Z h11 b7 k7 .double (4 : Int32) [(.double (FP.l2d (v0_2 p1))), (.double 0), (.double 0), (.double 0)] (.double 0) := Arv.set Ar12 q12 S12 N12 H12 G12 rfl W11 0 rfl (Nat.le_of_ble_eq_true rfl)
  have go15 : ∀ t, Steps p.tables e below (T11.setTop (mkF m 59 #[.val (.int p0), .val (.int p1), .val (.int p2), .val (.int p3), .val (.int p4), .val (.int (v0_1 p0)), .val (.long (v0_2 p1)), .second, .val (.long (v0_3 p2)), .second, .val (.long (v0_4 p3)), .second, .val (.long (v0_5 p4)), .second, .val (.ref b7), .unset, .unset, .unset, .unset, .unset, .unset] [(.double (FP.l2d (v0_3 p2))), (.int (1 : Int32)), (.ref b7)])) t → Steps p.tables e below (s₁.setTop (entryFrame m #[(.int p0), (.int p1), (.int p2), (.int p3), (.int p4)] maxLocals)) t := by
    intro t k
    refine go13 _ ?_
    refine XS.aload X11.here hx rfl (hb hby at_53) rfl rfl ?_
    show Steps p.tables e below (T11.setTop (mkF m 55 #[.val (.int p0), .val (.int p1), .val (.int p2), .val (.int p3), .val (.int p4), .val (.int (v0_1 p0)), .val (.long (v0_2 p1)), .second, .val (.long (v0_3 p2)), .second, .val (.long (v0_4 p3)), .second, .val (.long (v0_5 p4)), .second, .val (.ref b7), .unset, .unset, .unset, .unset, .unset, .unset] [(.ref b7)])) t
    refine XS.iconst X11.here hx rfl (hb hby at_55) ?_
    show Steps p.tables e below (T11.setTop (mkF m 56 #[.val (.int p0), .val (.int p1), .val (.int p2), .val (.int p3), .val (.int p4), .val (.int (v0_1 p0)), .val (.long (v0_2 p1)), .second, .val (.long (v0_3 p2)), .second, .val (.long (v0_4 p3)), .second, .val (.long (v0_5 p4)), .second, .val (.ref b7), .unset, .unset, .unset, .unset, .unset, .unset] [(.int (1 : Int32)), (.ref b7)])) t
    refine XS.lload X11.here hx rfl (hb hby at_56) rfl ?_
    show Steps p.tables e below (T11.setTop (mkF m 58 #[.val (.int p0), .val (.int p1), .val (.int p2), .val (.int p3), .val (.int p4), .val (.int (v0_1 p0)), .val (.long (v0_2 p1)), .second, .val (.long (v0_3 p2)), .second, .val (.long (v0_4 p3)), .second, .val (.long (v0_5 p4)), .second, .val (.ref b7), .unset, .unset, .unset, .unset, .unset, .unset] [(.long (v0_3 p2)), (.int (1 : Int32)), (.ref b7)])) t
    refine XS.l2dS X11.here hx rfl (hb hby at_58) rfl (v := (FP.l2d (v0_3 p2))) rfl ?_
    show Steps p.tables e below (T11.setTop (mkF m 59 #[.val (.int p0), .val (.int p1), .val (.int p2), .val (.int p3), .val (.int p4), .val (.int (v0_1 p0)), .val (.long (v0_2 p1)), .second, .val (.long (v0_3 p2)), .second, .val (.long (v0_4 p3)), .second, .val (.long (v0_5 p4)), .second, .val (.ref b7), .unset, .unset, .unset, .unset, .unset, .unset] [(.double (FP.l2d (v0_3 p2))), (.int (1 : Int32)), (.ref b7)])) t
    exact k
  obtain ⟨cl17, Ar17, q17, S17, N17, H17, G17⟩ := id F14
  obtain ⟨T16, h16, X16, e16, W16, st16⟩ := stD X11 hx hZ e11 Ar17 (j := (1 : Int32)) (inb_of S17 ⟨by decide, by decide⟩) (g := (mkF m 59 #[.val (.int p0), .val (.int p1), .val (.int p2), .val (.int p3), .val (.int p4), .val (.int (v0_1 p0)), .val (.long (v0_2 p1)), .second, .val (.long (v0_3 p2)), .second, .val (.long (v0_4 p3)), .second, .val (.long (v0_5 p4)), .second, .val (.ref b7), .unset, .unset, .unset, .unset, .unset, .unset] [(.double (FP.l2d (v0_3 p2))), (.int (1 : Int32)), (.ref b7)])) rfl rfl (hb hby at_59)
  have go18 : ∀ t, Steps p.tables e below (T16.setTop (mkF m 60 #[.val (.int p0), .val (.int p1), .val (.int p2), .val (.int p3), .val (.int p4), .val (.int (v0_1 p0)), .val (.long (v0_2 p1)), .second, .val (.long (v0_3 p2)), .second, .val (.long (v0_4 p3)), .second, .val (.long (v0_5 p4)), .second, .val (.ref b7), .unset, .unset, .unset, .unset, .unset, .unset] [])) t → Steps p.tables e below (s₁.setTop (entryFrame m #[(.int p0), (.int p1), (.int p2), (.int p3), (.int p4)] maxLocals)) t := fun t k => go15 _ (st16 _ k)
  have N16 := Fr.snoc X16 N11 low7
  have K16 : Keep h0 h16 [] := K11.wr W16 (Or.inr fsh7)
  have Zs16 : n0 ≤ h16.size := Nat.le_trans Zs11 (Keep.of_wr W16).1
  have F19 : Arv Z h16 b7 k7 .double (4 : Int32) [(.double (FP.l2d (v0_2 p1))), (.double (FP.l2d (v0_3 p2))), (.double 0), (.double 0)] (.double 0) := Arv.set Ar17 q17 S17 N17 H17 G17 rfl W16 1 rfl (Nat.le_of_ble_eq_true rfl)
  have go20 : ∀ t, Steps p.tables e below (T16.setTop (mkF m 66 #[.val (.int p0), .val (.int p1), .val (.int p2), .val (.int p3), .val (.int p4), .val (.int (v0_1 p0)), .val (.long (v0_2 p1)), .second, .val (.long (v0_3 p2)), .second, .val (.long (v0_4 p3)), .second, .val (.long (v0_5 p4)), .second, .val (.ref b7), .unset, .unset, .unset, .unset, .unset, .unset] [(.double (FP.l2d (v0_4 p3))), (.int (2 : Int32)), (.ref b7)])) t → Steps p.tables e below (s₁.setTop (entryFrame m #[(.int p0), (.int p1), (.int p2), (.int p3), (.int p4)] maxLocals)) t := by
    intro t k
    refine go18 _ ?_
    refine XS.aload X16.here hx rfl (hb hby at_60) rfl rfl ?_
    show Steps p.tables e below (T16.setTop (mkF m 62 #[.val (.int p0), .val (.int p1), .val (.int p2), .val (.int p3), .val (.int p4), .val (.int (v0_1 p0)), .val (.long (v0_2 p1)), .second, .val (.long (v0_3 p2)), .second, .val (.long (v0_4 p3)), .second, .val (.long (v0_5 p4)), .second, .val (.ref b7), .unset, .unset, .unset, .unset, .unset, .unset] [(.ref b7)])) t
    refine XS.iconst X16.here hx rfl (hb hby at_62) ?_
    show Steps p.tables e below (T16.setTop (mkF m 63 #[.val (.int p0), .val (.int p1), .val (.int p2), .val (.int p3), .val (.int p4), .val (.int (v0_1 p0)), .val (.long (v0_2 p1)), .second, .val (.long (v0_3 p2)), .second, .val (.long (v0_4 p3)), .second, .val (.long (v0_5 p4)), .second, .val (.ref b7), .unset, .unset, .unset, .unset, .unset, .unset] [(.int (2 : Int32)), (.ref b7)])) t
    refine XS.lload X16.here hx rfl (hb hby at_63) rfl ?_
    show Steps p.tables e below (T16.setTop (mkF m 65 #[.val (.int p0), .val (.int p1), .val (.int p2), .val (.int p3), .val (.int p4), .val (.int (v0_1 p0)), .val (.long (v0_2 p1)), .second, .val (.long (v0_3 p2)), .second, .val (.long (v0_4 p3)), .second, .val (.long (v0_5 p4)), .second, .val (.ref b7), .unset, .unset, .unset, .unset, .unset, .unset] [(.long (v0_4 p3)), (.int (2 : Int32)), (.ref b7)])) t
    refine XS.l2dS X16.here hx rfl (hb hby at_65) rfl (v := (FP.l2d (v0_4 p3))) rfl ?_
    show Steps p.tables e below (T16.setTop (mkF m 66 #[.val (.int p0), .val (.int p1), .val (.int p2), .val (.int p3), .val (.int p4), .val (.int (v0_1 p0)), .val (.long (v0_2 p1)), .second, .val (.long (v0_3 p2)), .second, .val (.long (v0_4 p3)), .second, .val (.long (v0_5 p4)), .second, .val (.ref b7), .unset, .unset, .unset, .unset, .unset, .unset] [(.double (FP.l2d (v0_4 p3))), (.int (2 : Int32)), (.ref b7)])) t
    exact k
  obtain ⟨cl22, Ar22, q22, S22, N22, H22, G22⟩ := id F19
  obtain ⟨T21, h21, X21, e21, W21, st21⟩ := stD X16 hx hZ e16 Ar22 (j := (2 : Int32)) (inb_of S22 ⟨by decide, by decide⟩) (g := (mkF m 66 #[.val (.int p0), .val (.int p1), .val (.int p2), .val (.int p3), .val (.int p4), .val (.int (v0_1 p0)), .val (.long (v0_2 p1)), .second, .val (.long (v0_3 p2)), .second, .val (.long (v0_4 p3)), .second, .val (.long (v0_5 p4)), .second, .val (.ref b7), .unset, .unset, .unset, .unset, .unset, .unset] [(.double (FP.l2d (v0_4 p3))), (.int (2 : Int32)), (.ref b7)])) rfl rfl (hb hby at_66)
  have go23 : ∀ t, Steps p.tables e below (T21.setTop (mkF m 67 #[.val (.int p0), .val (.int p1), .val (.int p2), .val (.int p3), .val (.int p4), .val (.int (v0_1 p0)), .val (.long (v0_2 p1)), .second, .val (.long (v0_3 p2)), .second, .val (.long (v0_4 p3)), .second, .val (.long (v0_5 p4)), .second, .val (.ref b7), .unset, .unset, .unset, .unset, .unset, .unset] [])) t → Steps p.tables e below (s₁.setTop (entryFrame m #[(.int p0), (.int p1), (.int p2), (.int p3), (.int p4)] maxLocals)) t := fun t k => go20 _ (st21 _ k)
  have N21 := Fr.snoc X21 N16 low7
  have K21 : Keep h0 h21 [] := K16.wr W21 (Or.inr fsh7)
  have Zs21 : n0 ≤ h21.size := Nat.le_trans Zs16 (Keep.of_wr W21).1
  have F24 : Arv Z h21 b7 k7 .double (4 : Int32) [(.double (FP.l2d (v0_2 p1))), (.double (FP.l2d (v0_3 p2))), (.double (FP.l2d (v0_4 p3))), (.double 0)] (.double 0) := Arv.set Ar22 q22 S22 N22 H22 G22 rfl W21 2 rfl (Nat.le_of_ble_eq_true rfl)
  have go25 : ∀ t, Steps p.tables e below (T21.setTop (mkF m 73 #[.val (.int p0), .val (.int p1), .val (.int p2), .val (.int p3), .val (.int p4), .val (.int (v0_1 p0)), .val (.long (v0_2 p1)), .second, .val (.long (v0_3 p2)), .second, .val (.long (v0_4 p3)), .second, .val (.long (v0_5 p4)), .second, .val (.ref b7), .unset, .unset, .unset, .unset, .unset, .unset] [(.double (FP.l2d (v0_5 p4))), (.int (3 : Int32)), (.ref b7)])) t → Steps p.tables e below (s₁.setTop (entryFrame m #[(.int p0), (.int p1), (.int p2), (.int p3), (.int p4)] maxLocals)) t := by
    intro t k
    refine go23 _ ?_
    refine XS.aload X21.here hx rfl (hb hby at_67) rfl rfl ?_
    show Steps p.tables e below (T21.setTop (mkF m 69 #[.val (.int p0), .val (.int p1), .val (.int p2), .val (.int p3), .val (.int p4), .val (.int (v0_1 p0)), .val (.long (v0_2 p1)), .second, .val (.long (v0_3 p2)), .second, .val (.long (v0_4 p3)), .second, .val (.long (v0_5 p4)), .second, .val (.ref b7), .unset, .unset, .unset, .unset, .unset, .unset] [(.ref b7)])) t
    refine XS.iconst X21.here hx rfl (hb hby at_69) ?_
    show Steps p.tables e below (T21.setTop (mkF m 70 #[.val (.int p0), .val (.int p1), .val (.int p2), .val (.int p3), .val (.int p4), .val (.int (v0_1 p0)), .val (.long (v0_2 p1)), .second, .val (.long (v0_3 p2)), .second, .val (.long (v0_4 p3)), .second, .val (.long (v0_5 p4)), .second, .val (.ref b7), .unset, .unset, .unset, .unset, .unset, .unset] [(.int (3 : Int32)), (.ref b7)])) t
    refine XS.lload X21.here hx rfl (hb hby at_70) rfl ?_
    show Steps p.tables e below (T21.setTop (mkF m 72 #[.val (.int p0), .val (.int p1), .val (.int p2), .val (.int p3), .val (.int p4), .val (.int (v0_1 p0)), .val (.long (v0_2 p1)), .second, .val (.long (v0_3 p2)), .second, .val (.long (v0_4 p3)), .second, .val (.long (v0_5 p4)), .second, .val (.ref b7), .unset, .unset, .unset, .unset, .unset, .unset] [(.long (v0_5 p4)), (.int (3 : Int32)), (.ref b7)])) t
    refine XS.l2dS X21.here hx rfl (hb hby at_72) rfl (v := (FP.l2d (v0_5 p4))) rfl ?_
    show Steps p.tables e below (T21.setTop (mkF m 73 #[.val (.int p0), .val (.int p1), .val (.int p2), .val (.int p3), .val (.int p4), .val (.int (v0_1 p0)), .val (.long (v0_2 p1)), .second, .val (.long (v0_3 p2)), .second, .val (.long (v0_4 p3)), .second, .val (.long (v0_5 p4)), .second, .val (.ref b7), .unset, .unset, .unset, .unset, .unset, .unset] [(.double (FP.l2d (v0_5 p4))), (.int (3 : Int32)), (.ref b7)])) t
    exact k
  obtain ⟨cl27, Ar27, q27, S27, N27, H27, G27⟩ := id F24
  obtain ⟨T26, h26, X26, e26, W26, st26⟩ := stD X21 hx hZ e21 Ar27 (j := (3 : Int32)) (inb_of S27 ⟨by decide, by decide⟩) (g := (mkF m 73 #[.val (.int p0), .val (.int p1), .val (.int p2), .val (.int p3), .val (.int p4), .val (.int (v0_1 p0)), .val (.long (v0_2 p1)), .second, .val (.long (v0_3 p2)), .second, .val (.long (v0_4 p3)), .second, .val (.long (v0_5 p4)), .second, .val (.ref b7), .unset, .unset, .unset, .unset, .unset, .unset] [(.double (FP.l2d (v0_5 p4))), (.int (3 : Int32)), (.ref b7)])) rfl rfl (hb hby at_73)
  have go28 : ∀ t, Steps p.tables e below (T26.setTop (mkF m 74 #[.val (.int p0), .val (.int p1), .val (.int p2), .val (.int p3), .val (.int p4), .val (.int (v0_1 p0)), .val (.long (v0_2 p1)), .second, .val (.long (v0_3 p2)), .second, .val (.long (v0_4 p3)), .second, .val (.long (v0_5 p4)), .second, .val (.ref b7), .unset, .unset, .unset, .unset, .unset, .unset] [])) t → Steps p.tables e below (s₁.setTop (entryFrame m #[(.int p0), (.int p1), (.int p2), (.int p3), (.int p4)] maxLocals)) t := fun t k => go25 _ (st26 _ k)
  have N26 := Fr.snoc X26 N21 low7
  have K26 : Keep h0 h26 [] := K21.wr W26 (Or.inr fsh7)
  have Zs26 : n0 ≤ h26.size := Nat.le_trans Zs21 (Keep.of_wr W26).1
  have F29 : Arv Z h26 b7 k7 .double (4 : Int32) [(.double (FP.l2d (v0_2 p1))), (.double (FP.l2d (v0_3 p2))), (.double (FP.l2d (v0_4 p3))), (.double (FP.l2d (v0_5 p4)))] (.double 0) := Arv.set Ar27 q27 S27 N27 H27 G27 rfl W26 3 rfl (Nat.le_of_ble_eq_true rfl)
  by_cases hs30 : (v0_1 p0) = (0 : Int32)
  · have go31 : ∀ t, Steps p.tables e below (T26.setTop (mkF m 74 #[.val (.int p0), .val (.int p1), .val (.int p2), .val (.int p3), .val (.int p4), .val (.int (0 : Int32)), .val (.long (v0_2 p1)), .second, .val (.long (v0_3 p2)), .second, .val (.long (v0_4 p3)), .second, .val (.long (v0_5 p4)), .second, .val (.ref b7), .unset, .unset, .unset, .unset, .unset, .unset] [])) t → Steps p.tables e below (s₁.setTop (entryFrame m #[(.int p0), (.int p1), (.int p2), (.int p3), (.int p4)] maxLocals)) t := by
      have q := go28
      rw [hs30] at q
      exact q
    have go32 : ∀ t, Steps p.tables e below (T26.setTop (mkF m 153 #[.val (.int p0), .val (.int p1), .val (.int p2), .val (.int p3), .val (.int p4), .val (.int (0 : Int32)), .val (.long (v0_2 p1)), .second, .val (.long (v0_3 p2)), .second, .val (.long (v0_4 p3)), .second, .val (.long (v0_5 p4)), .second, .val (.ref b7), .val (.long (0 : Int64)), .second, .val (.double FP.dconst0), .second, .unset, .unset] [(.int (0 : Int32)), (.ref b7)])) t → Steps p.tables e below (s₁.setTop (entryFrame m #[(.int p0), (.int p1), (.int p2), (.int p3), (.int p4)] maxLocals)) t := by
      intro t k
      refine go31 _ ?_
      refine XS.lconst X26.here hx rfl (hb hby at_74) ?_
      show Steps p.tables e below (T26.setTop (mkF m 75 #[.val (.int p0), .val (.int p1), .val (.int p2), .val (.int p3), .val (.int p4), .val (.int (0 : Int32)), .val (.long (v0_2 p1)), .second, .val (.long (v0_3 p2)), .second, .val (.long (v0_4 p3)), .second, .val (.long (v0_5 p4)), .second, .val (.ref b7), .unset, .unset, .unset, .unset, .unset, .unset] [(.long (0 : Int64))])) t
      refine XS.lstore X26.here hx rfl (hb hby at_75) rfl (l' := #[.val (.int p0), .val (.int p1), .val (.int p2), .val (.int p3), .val (.int p4), .val (.int (0 : Int32)), .val (.long (v0_2 p1)), .second, .val (.long (v0_3 p2)), .second, .val (.long (v0_4 p3)), .second, .val (.long (v0_5 p4)), .second, .val (.ref b7), .val (.long (0 : Int64)), .second, .unset, .unset, .unset, .unset]) rfl ?_
      show Steps p.tables e below (T26.setTop (mkF m 77 #[.val (.int p0), .val (.int p1), .val (.int p2), .val (.int p3), .val (.int p4), .val (.int (0 : Int32)), .val (.long (v0_2 p1)), .second, .val (.long (v0_3 p2)), .second, .val (.long (v0_4 p3)), .second, .val (.long (v0_5 p4)), .second, .val (.ref b7), .val (.long (0 : Int64)), .second, .unset, .unset, .unset, .unset] [])) t
      refine XS.iload X26.here hx rfl (hb hby at_77) rfl ?_
      show Steps p.tables e below (T26.setTop (mkF m 79 #[.val (.int p0), .val (.int p1), .val (.int p2), .val (.int p3), .val (.int p4), .val (.int (0 : Int32)), .val (.long (v0_2 p1)), .second, .val (.long (v0_3 p2)), .second, .val (.long (v0_4 p3)), .second, .val (.long (v0_5 p4)), .second, .val (.ref b7), .val (.long (0 : Int64)), .second, .unset, .unset, .unset, .unset] [(.int (0 : Int32))])) t
      refine XS.ifYes X26.here hx rfl (pc0 := 79) (pc' := 89) rfl (hb hby at_79) rfl (XT.i0_le_t (by decide : ¬ ((0 : Int32) < (0 : Int32)))) (by decide) (by decide) ?_
      show Steps p.tables e below (T26.setTop (mkF m 89 #[.val (.int p0), .val (.int p1), .val (.int p2), .val (.int p3), .val (.int p4), .val (.int (0 : Int32)), .val (.long (v0_2 p1)), .second, .val (.long (v0_3 p2)), .second, .val (.long (v0_4 p3)), .second, .val (.long (v0_5 p4)), .second, .val (.ref b7), .val (.long (0 : Int64)), .second, .unset, .unset, .unset, .unset] [])) t
      refine XS.iload X26.here hx rfl (hb hby at_89) rfl ?_
      show Steps p.tables e below (T26.setTop (mkF m 91 #[.val (.int p0), .val (.int p1), .val (.int p2), .val (.int p3), .val (.int p4), .val (.int (0 : Int32)), .val (.long (v0_2 p1)), .second, .val (.long (v0_3 p2)), .second, .val (.long (v0_4 p3)), .second, .val (.long (v0_5 p4)), .second, .val (.ref b7), .val (.long (0 : Int64)), .second, .unset, .unset, .unset, .unset] [(.int (0 : Int32))])) t
      refine XS.iconst X26.here hx rfl (hb hby at_91) ?_
      show Steps p.tables e below (T26.setTop (mkF m 92 #[.val (.int p0), .val (.int p1), .val (.int p2), .val (.int p3), .val (.int p4), .val (.int (0 : Int32)), .val (.long (v0_2 p1)), .second, .val (.long (v0_3 p2)), .second, .val (.long (v0_4 p3)), .second, .val (.long (v0_5 p4)), .second, .val (.ref b7), .val (.long (0 : Int64)), .second, .unset, .unset, .unset, .unset] [(.int (1 : Int32)), (.int (0 : Int32))])) t
      refine XS.icmpYes X26.here hx rfl (pc0 := 92) (pc' := 102) rfl (hb hby at_92) rfl (XT.ii_le_t (by decide : ¬ ((1 : Int32) < (0 : Int32)))) (by decide) (by decide) ?_
      show Steps p.tables e below (T26.setTop (mkF m 102 #[.val (.int p0), .val (.int p1), .val (.int p2), .val (.int p3), .val (.int p4), .val (.int (0 : Int32)), .val (.long (v0_2 p1)), .second, .val (.long (v0_3 p2)), .second, .val (.long (v0_4 p3)), .second, .val (.long (v0_5 p4)), .second, .val (.ref b7), .val (.long (0 : Int64)), .second, .unset, .unset, .unset, .unset] [])) t
      refine XS.iload X26.here hx rfl (hb hby at_102) rfl ?_
      show Steps p.tables e below (T26.setTop (mkF m 104 #[.val (.int p0), .val (.int p1), .val (.int p2), .val (.int p3), .val (.int p4), .val (.int (0 : Int32)), .val (.long (v0_2 p1)), .second, .val (.long (v0_3 p2)), .second, .val (.long (v0_4 p3)), .second, .val (.long (v0_5 p4)), .second, .val (.ref b7), .val (.long (0 : Int64)), .second, .unset, .unset, .unset, .unset] [(.int (0 : Int32))])) t
      refine XS.iconst X26.here hx rfl (hb hby at_104) ?_
      show Steps p.tables e below (T26.setTop (mkF m 105 #[.val (.int p0), .val (.int p1), .val (.int p2), .val (.int p3), .val (.int p4), .val (.int (0 : Int32)), .val (.long (v0_2 p1)), .second, .val (.long (v0_3 p2)), .second, .val (.long (v0_4 p3)), .second, .val (.long (v0_5 p4)), .second, .val (.ref b7), .val (.long (0 : Int64)), .second, .unset, .unset, .unset, .unset] [(.int (2 : Int32)), (.int (0 : Int32))])) t
      refine XS.icmpYes X26.here hx rfl (pc0 := 105) (pc' := 115) rfl (hb hby at_105) rfl (XT.ii_le_t (by decide : ¬ ((2 : Int32) < (0 : Int32)))) (by decide) (by decide) ?_
      show Steps p.tables e below (T26.setTop (mkF m 115 #[.val (.int p0), .val (.int p1), .val (.int p2), .val (.int p3), .val (.int p4), .val (.int (0 : Int32)), .val (.long (v0_2 p1)), .second, .val (.long (v0_3 p2)), .second, .val (.long (v0_4 p3)), .second, .val (.long (v0_5 p4)), .second, .val (.ref b7), .val (.long (0 : Int64)), .second, .unset, .unset, .unset, .unset] [])) t
      refine XS.iload X26.here hx rfl (hb hby at_115) rfl ?_
      show Steps p.tables e below (T26.setTop (mkF m 117 #[.val (.int p0), .val (.int p1), .val (.int p2), .val (.int p3), .val (.int p4), .val (.int (0 : Int32)), .val (.long (v0_2 p1)), .second, .val (.long (v0_3 p2)), .second, .val (.long (v0_4 p3)), .second, .val (.long (v0_5 p4)), .second, .val (.ref b7), .val (.long (0 : Int64)), .second, .unset, .unset, .unset, .unset] [(.int (0 : Int32))])) t
      refine XS.iconst X26.here hx rfl (hb hby at_117) ?_
      show Steps p.tables e below (T26.setTop (mkF m 118 #[.val (.int p0), .val (.int p1), .val (.int p2), .val (.int p3), .val (.int p4), .val (.int (0 : Int32)), .val (.long (v0_2 p1)), .second, .val (.long (v0_3 p2)), .second, .val (.long (v0_4 p3)), .second, .val (.long (v0_5 p4)), .second, .val (.ref b7), .val (.long (0 : Int64)), .second, .unset, .unset, .unset, .unset] [(.int (3 : Int32)), (.int (0 : Int32))])) t
      refine XS.icmpYes X26.here hx rfl (pc0 := 118) (pc' := 128) rfl (hb hby at_118) rfl (XT.ii_le_t (by decide : ¬ ((3 : Int32) < (0 : Int32)))) (by decide) (by decide) ?_
      show Steps p.tables e below (T26.setTop (mkF m 128 #[.val (.int p0), .val (.int p1), .val (.int p2), .val (.int p3), .val (.int p4), .val (.int (0 : Int32)), .val (.long (v0_2 p1)), .second, .val (.long (v0_3 p2)), .second, .val (.long (v0_4 p3)), .second, .val (.long (v0_5 p4)), .second, .val (.ref b7), .val (.long (0 : Int64)), .second, .unset, .unset, .unset, .unset] [])) t
      refine XS.lload X26.here hx rfl (hb hby at_128) rfl ?_
      show Steps p.tables e below (T26.setTop (mkF m 130 #[.val (.int p0), .val (.int p1), .val (.int p2), .val (.int p3), .val (.int p4), .val (.int (0 : Int32)), .val (.long (v0_2 p1)), .second, .val (.long (v0_3 p2)), .second, .val (.long (v0_4 p3)), .second, .val (.long (v0_5 p4)), .second, .val (.ref b7), .val (.long (0 : Int64)), .second, .unset, .unset, .unset, .unset] [(.long (0 : Int64))])) t
      refine XS.lconst X26.here hx rfl (hb hby at_130) ?_
      show Steps p.tables e below (T26.setTop (mkF m 131 #[.val (.int p0), .val (.int p1), .val (.int p2), .val (.int p3), .val (.int p4), .val (.int (0 : Int32)), .val (.long (v0_2 p1)), .second, .val (.long (v0_3 p2)), .second, .val (.long (v0_4 p3)), .second, .val (.long (v0_5 p4)), .second, .val (.ref b7), .val (.long (0 : Int64)), .second, .unset, .unset, .unset, .unset] [(.long (0 : Int64)), (.long (0 : Int64))])) t
      refine XT.lcmp X26.here hx rfl (hb hby at_131) rfl ?_
      show Steps p.tables e below (T26.setTop (mkF m 132 #[.val (.int p0), .val (.int p1), .val (.int p2), .val (.int p3), .val (.int p4), .val (.int (0 : Int32)), .val (.long (v0_2 p1)), .second, .val (.long (v0_3 p2)), .second, .val (.long (v0_4 p3)), .second, .val (.long (v0_5 p4)), .second, .val (.ref b7), .val (.long (0 : Int64)), .second, .unset, .unset, .unset, .unset] [(.int (XT.cmpL (0 : Int64) (0 : Int64)))])) t
      refine XS.ifNo X26.here hx rfl (hb hby at_132) rfl (XT.ll_ne_f (by decide : ((0 : Int64) = (0 : Int64)))) ?_
      show Steps p.tables e below (T26.setTop (mkF m 135 #[.val (.int p0), .val (.int p1), .val (.int p2), .val (.int p3), .val (.int p4), .val (.int (0 : Int32)), .val (.long (v0_2 p1)), .second, .val (.long (v0_3 p2)), .second, .val (.long (v0_4 p3)), .second, .val (.long (v0_5 p4)), .second, .val (.ref b7), .val (.long (0 : Int64)), .second, .unset, .unset, .unset, .unset] [])) t
      refine XS.dconst0 X26.here hx rfl (hb hby at_135) (v := FP.dconst0) rfl ?_
      show Steps p.tables e below (T26.setTop (mkF m 136 #[.val (.int p0), .val (.int p1), .val (.int p2), .val (.int p3), .val (.int p4), .val (.int (0 : Int32)), .val (.long (v0_2 p1)), .second, .val (.long (v0_3 p2)), .second, .val (.long (v0_4 p3)), .second, .val (.long (v0_5 p4)), .second, .val (.ref b7), .val (.long (0 : Int64)), .second, .unset, .unset, .unset, .unset] [(.double FP.dconst0)])) t
      refine XS.goto X26.here hx rfl (pc0 := 136) (pc' := 147) rfl (hb hby at_136) (by decide) (by decide) ?_
      show Steps p.tables e below (T26.setTop (mkF m 147 #[.val (.int p0), .val (.int p1), .val (.int p2), .val (.int p3), .val (.int p4), .val (.int (0 : Int32)), .val (.long (v0_2 p1)), .second, .val (.long (v0_3 p2)), .second, .val (.long (v0_4 p3)), .second, .val (.long (v0_5 p4)), .second, .val (.ref b7), .val (.long (0 : Int64)), .second, .unset, .unset, .unset, .unset] [(.double FP.dconst0)])) t
      refine XS.dstore X26.here hx rfl (hb hby at_147) rfl (l' := #[.val (.int p0), .val (.int p1), .val (.int p2), .val (.int p3), .val (.int p4), .val (.int (0 : Int32)), .val (.long (v0_2 p1)), .second, .val (.long (v0_3 p2)), .second, .val (.long (v0_4 p3)), .second, .val (.long (v0_5 p4)), .second, .val (.ref b7), .val (.long (0 : Int64)), .second, .val (.double FP.dconst0), .second, .unset, .unset]) rfl ?_
      show Steps p.tables e below (T26.setTop (mkF m 149 #[.val (.int p0), .val (.int p1), .val (.int p2), .val (.int p3), .val (.int p4), .val (.int (0 : Int32)), .val (.long (v0_2 p1)), .second, .val (.long (v0_3 p2)), .second, .val (.long (v0_4 p3)), .second, .val (.long (v0_5 p4)), .second, .val (.ref b7), .val (.long (0 : Int64)), .second, .val (.double FP.dconst0), .second, .unset, .unset] [])) t
      refine XS.aload X26.here hx rfl (hb hby at_149) rfl rfl ?_
      show Steps p.tables e below (T26.setTop (mkF m 151 #[.val (.int p0), .val (.int p1), .val (.int p2), .val (.int p3), .val (.int p4), .val (.int (0 : Int32)), .val (.long (v0_2 p1)), .second, .val (.long (v0_3 p2)), .second, .val (.long (v0_4 p3)), .second, .val (.long (v0_5 p4)), .second, .val (.ref b7), .val (.long (0 : Int64)), .second, .val (.double FP.dconst0), .second, .unset, .unset] [(.ref b7)])) t
      refine XS.iload X26.here hx rfl (hb hby at_151) rfl ?_
      show Steps p.tables e below (T26.setTop (mkF m 153 #[.val (.int p0), .val (.int p1), .val (.int p2), .val (.int p3), .val (.int p4), .val (.int (0 : Int32)), .val (.long (v0_2 p1)), .second, .val (.long (v0_3 p2)), .second, .val (.long (v0_4 p3)), .second, .val (.long (v0_5 p4)), .second, .val (.ref b7), .val (.long (0 : Int64)), .second, .val (.double FP.dconst0), .second, .unset, .unset] [(.int (0 : Int32)), (.ref b7)])) t
      exact k
    obtain ⟨_, _, ⟨T33, L33, k33, n33⟩, -, X33, ⟨Lc33, hQ33, l33, y33, z33⟩, st33⟩ := Jvm.LawKit.callS X26 hx (y := (⟨"com/example/axiscope/axiscope/engine/Hill", "estimate", "([DI)D"⟩ : MethodName)) hown (mvT hZ (hw _ (List.mem_of_getElem? (i := 2) rfl))) (mvT hZ (hw _ (List.mem_of_getElem? (i := 3) rfl))) (mvT hZ (hw _ (List.mem_of_getElem? (i := 4) rfl))) (mvT hZ (hw _ (List.mem_of_getElem? (i := 5) rfl))) (by decide) (backOf (W := 0) (rm1e0 l Z aZ hw [] b7 k7 (v0_2 p1) (v0_3 p2) (v0_4 p3) (v0_5 p4) h26 n0 Zs26 F29 (own_sm p1) (own_sm p2) (own_sm p3) (own_sm p4)) hZ (hw _ (List.mem_of_getElem? (i := 5) rfl)) (hw _ (List.mem_of_getElem? (i := 4) rfl)) (by decide) (by decide)) (g := (mkF m 153 #[.val (.int p0), .val (.int p1), .val (.int p2), .val (.int p3), .val (.int p4), .val (.int (0 : Int32)), .val (.long (v0_2 p1)), .second, .val (.long (v0_3 p2)), .second, .val (.long (v0_4 p3)), .second, .val (.long (v0_5 p4)), .second, .val (.ref b7), .val (.long (0 : Int64)), .second, .val (.double FP.dconst0), .second, .unset, .unset] [(.int (0 : Int32)), (.ref b7)])) rfl (by rw [hml]; rfl) (argsL := [(.ref b7), (.int (0 : Int32))]) (rest := []) (lenOf pd_37 rfl) rfl (by show 2 * 0 + _ ≤ _; exact Nat.le_of_eq rfl) (hb hby at_153) (fun _ _ => ⟨rfl, e26, (by decide : 1 + 0 ≤ _), (by decide : 4 + 0 ≤ _)⟩)
    dsimp only [Pt.U, Pt.locs, Pt.cells, Pt.slots] at X33 l33 y33 z33 st33 hQ33
    subst l33 y33 z33
    obtain ⟨rfl, N33q, e33⟩ := hQ33
    have N33 := Fr.app N26 N33q
    have go34 : ∀ t, Steps p.tables e below (T33.setTop (mkF m 156 #[.val (.int p0), .val (.int p1), .val (.int p2), .val (.int p3), .val (.int p4), .val (.int (0 : Int32)), .val (.long (v0_2 p1)), .second, .val (.long (v0_3 p2)), .second, .val (.long (v0_4 p3)), .second, .val (.long (v0_5 p4)), .second, .val (.ref b7), .val (.long (0 : Int64)), .second, .val (.double FP.dconst0), .second, .unset, .unset] [(.double f1e0)])) t → Steps p.tables e below (s₁.setTop (entryFrame m #[(.int p0), (.int p1), (.int p2), (.int p3), (.int p4)] maxLocals)) t := fun t k => go32 _ (st33 _ k)
    have go36 : ∀ t, Steps p.tables e below (T33.setTop (mkF m 171 #[.val (.int p0), .val (.int p1), .val (.int p2), .val (.int p3), .val (.int p4), .val (.int (0 : Int32)), .val (.long (v0_2 p1)), .second, .val (.long (v0_3 p2)), .second, .val (.long (v0_4 p3)), .second, .val (.long (v0_5 p4)), .second, .val (.ref b7), .val (.long (0 : Int64)), .second, .val (.double FP.dconst0), .second, .val (.double f1e0), .second] [(.int b0_37)])) t → Steps p.tables e below (s₁.setTop (entryFrame m #[(.int p0), (.int p1), (.int p2), (.int p3), (.int p4)] maxLocals)) t := by
      intro t k
      refine go34 _ ?_
      refine XS.dstore X33.here hx rfl (hb hby at_156) rfl (l' := #[.val (.int p0), .val (.int p1), .val (.int p2), .val (.int p3), .val (.int p4), .val (.int (0 : Int32)), .val (.long (v0_2 p1)), .second, .val (.long (v0_3 p2)), .second, .val (.long (v0_4 p3)), .second, .val (.long (v0_5 p4)), .second, .val (.ref b7), .val (.long (0 : Int64)), .second, .val (.double FP.dconst0), .second, .val (.double f1e0), .second]) rfl ?_
      show Steps p.tables e below (T33.setTop (mkF m 158 #[.val (.int p0), .val (.int p1), .val (.int p2), .val (.int p3), .val (.int p4), .val (.int (0 : Int32)), .val (.long (v0_2 p1)), .second, .val (.long (v0_3 p2)), .second, .val (.long (v0_4 p3)), .second, .val (.long (v0_5 p4)), .second, .val (.ref b7), .val (.long (0 : Int64)), .second, .val (.double FP.dconst0), .second, .val (.double f1e0), .second] [])) t
      refine XS.dload X33.here hx rfl (hb hby at_158) rfl ?_
      show Steps p.tables e below (T33.setTop (mkF m 160 #[.val (.int p0), .val (.int p1), .val (.int p2), .val (.int p3), .val (.int p4), .val (.int (0 : Int32)), .val (.long (v0_2 p1)), .second, .val (.long (v0_3 p2)), .second, .val (.long (v0_4 p3)), .second, .val (.long (v0_5 p4)), .second, .val (.ref b7), .val (.long (0 : Int64)), .second, .val (.double FP.dconst0), .second, .val (.double f1e0), .second] [(.double f1e0)])) t
      refine XS.dload X33.here hx rfl (hb hby at_160) rfl ?_
      show Steps p.tables e below (T33.setTop (mkF m 162 #[.val (.int p0), .val (.int p1), .val (.int p2), .val (.int p3), .val (.int p4), .val (.int (0 : Int32)), .val (.long (v0_2 p1)), .second, .val (.long (v0_3 p2)), .second, .val (.long (v0_4 p3)), .second, .val (.long (v0_5 p4)), .second, .val (.ref b7), .val (.long (0 : Int64)), .second, .val (.double FP.dconst0), .second, .val (.double f1e0), .second] [(.double FP.dconst0), (.double f1e0)])) t
      refine XS.dcmpS X33.here hx rfl (hb hby at_162) rfl (v := (cmpValue (FP.dcmp f1e0 FP.dconst0) .l)) rfl ?_
      show Steps p.tables e below (T33.setTop (mkF m 163 #[.val (.int p0), .val (.int p1), .val (.int p2), .val (.int p3), .val (.int p4), .val (.int (0 : Int32)), .val (.long (v0_2 p1)), .second, .val (.long (v0_3 p2)), .second, .val (.long (v0_4 p3)), .second, .val (.long (v0_5 p4)), .second, .val (.ref b7), .val (.long (0 : Int64)), .second, .val (.double FP.dconst0), .second, .val (.double f1e0), .second] [(.int (cmpValue (FP.dcmp f1e0 FP.dconst0) .l))])) t
      by_cases hc35 : (cmpValue (FP.dcmp f1e0 FP.dconst0) .l) = (0 : Int32)
      · refine XS.ifNo X33.here hx rfl (hb hby at_163) rfl (XT.i0_ne_f hc35) ?_
        show Steps p.tables e below (T33.setTop (mkF m 166 #[.val (.int p0), .val (.int p1), .val (.int p2), .val (.int p3), .val (.int p4), .val (.int (0 : Int32)), .val (.long (v0_2 p1)), .second, .val (.long (v0_3 p2)), .second, .val (.long (v0_4 p3)), .second, .val (.long (v0_5 p4)), .second, .val (.ref b7), .val (.long (0 : Int64)), .second, .val (.double FP.dconst0), .second, .val (.double f1e0), .second] [])) t
        refine XS.iconst X33.here hx rfl (hb hby at_166) ?_
        show Steps p.tables e below (T33.setTop (mkF m 167 #[.val (.int p0), .val (.int p1), .val (.int p2), .val (.int p3), .val (.int p4), .val (.int (0 : Int32)), .val (.long (v0_2 p1)), .second, .val (.long (v0_3 p2)), .second, .val (.long (v0_4 p3)), .second, .val (.long (v0_5 p4)), .second, .val (.ref b7), .val (.long (0 : Int64)), .second, .val (.double FP.dconst0), .second, .val (.double f1e0), .second] [(.int (1 : Int32))])) t
        refine XS.goto X33.here hx rfl (pc0 := 167) (pc' := 171) rfl (hb hby at_167) (by decide) (by decide) ?_
        show Steps p.tables e below (T33.setTop (mkF m 171 #[.val (.int p0), .val (.int p1), .val (.int p2), .val (.int p3), .val (.int p4), .val (.int (0 : Int32)), .val (.long (v0_2 p1)), .second, .val (.long (v0_3 p2)), .second, .val (.long (v0_4 p3)), .second, .val (.long (v0_5 p4)), .second, .val (.ref b7), .val (.long (0 : Int64)), .second, .val (.double FP.dconst0), .second, .val (.double f1e0), .second] [(.int (1 : Int32))])) t
        have hq38 : b0_37 = (1 : Int32) := by rw [b0_37, if_pos hc35]
        rw [hq38] at k
        exact k
      · refine XS.ifYes X33.here hx rfl (pc0 := 163) (pc' := 170) rfl (hb hby at_163) rfl (XT.i0_ne_t hc35) (by decide) (by decide) ?_
        show Steps p.tables e below (T33.setTop (mkF m 170 #[.val (.int p0), .val (.int p1), .val (.int p2), .val (.int p3), .val (.int p4), .val (.int (0 : Int32)), .val (.long (v0_2 p1)), .second, .val (.long (v0_3 p2)), .second, .val (.long (v0_4 p3)), .second, .val (.long (v0_5 p4)), .second, .val (.ref b7), .val (.long (0 : Int64)), .second, .val (.double FP.dconst0), .second, .val (.double f1e0), .second] [])) t
        refine XS.iconst X33.here hx rfl (hb hby at_170) ?_
        show Steps p.tables e below (T33.setTop (mkF m 171 #[.val (.int p0), .val (.int p1), .val (.int p2), .val (.int p3), .val (.int p4), .val (.int (0 : Int32)), .val (.long (v0_2 p1)), .second, .val (.long (v0_3 p2)), .second, .val (.long (v0_4 p3)), .second, .val (.long (v0_5 p4)), .second, .val (.ref b7), .val (.long (0 : Int64)), .second, .val (.double FP.dconst0), .second, .val (.double f1e0), .second] [(.int (0 : Int32))])) t
        have hq39 : b0_37 = (0 : Int32) := by rw [b0_37, if_neg hc35]
        rw [hq39] at k
        exact k
    obtain ⟨fs, hr, hrun, hended, hW, hsame⟩ := X33.leave (v := some (.int b0_37)) (fun h => by rw [Bd.returns] at h; cases h)
    refine ⟨_, _, go36 _ (Jvm.RoadKit.retOut X33 hx Bd.returns (own_nz (by unfold b0_37; (repeat' split) <;> first | exact Or.inl rfl | exact Or.inr rfl)) (Or.inl ⟨rfl, Or.inr (Or.inl rfl), _, rfl⟩) (hb hby at_171) hr), hrun, hended, _, _, rfl, ?_, ⟨_, rfl⟩, hW, hsame.mono (by decide) (by decide)⟩
    show Q0 _ _ p0 p1 p2 p3 p4 h0 _ (T33.setFrames fs).heap _
    have hE : (T33.setFrames fs).heap = h26 := e33
    rw [hE]
    exact ⟨congrArg (fun z => some (Value.int z)) ((by rw [f0, if_pos hs30] : b0_37 = (f0 p0 p1 p2 p3 p4)).trans (f0_one p0 p1 p2 p3 p4)), N33⟩
  · by_cases hs40 : (v0_1 p0) = (1 : Int32)
    · have go41 : ∀ t, Steps p.tables e below (T26.setTop (mkF m 74 #[.val (.int p0), .val (.int p1), .val (.int p2), .val (.int p3), .val (.int p4), .val (.int (1 : Int32)), .val (.long (v0_2 p1)), .second, .val (.long (v0_3 p2)), .second, .val (.long (v0_4 p3)), .second, .val (.long (v0_5 p4)), .second, .val (.ref b7), .unset, .unset, .unset, .unset, .unset, .unset] [])) t → Steps p.tables e below (s₁.setTop (entryFrame m #[(.int p0), (.int p1), (.int p2), (.int p3), (.int p4)] maxLocals)) t := by
        have q := go28
        rw [hs40] at q
        exact q
      have go44 : ∀ t, Steps p.tables e below (T26.setTop (mkF m 147 #[.val (.int p0), .val (.int p1), .val (.int p2), .val (.int p3), .val (.int p4), .val (.int (1 : Int32)), .val (.long (v0_2 p1)), .second, .val (.long (v0_3 p2)), .second, .val (.long (v0_4 p3)), .second, .val (.long (v0_5 p4)), .second, .val (.ref b7), .val (.long (v0_42 p1)), .second, .unset, .unset, .unset, .unset] [(.double (b0_45 p1))])) t → Steps p.tables e below (s₁.setTop (entryFrame m #[(.int p0), (.int p1), (.int p2), (.int p3), (.int p4)] maxLocals)) t := by
        intro t k
        refine go41 _ ?_
        refine XS.lconst X26.here hx rfl (hb hby at_74) ?_
        show Steps p.tables e below (T26.setTop (mkF m 75 #[.val (.int p0), .val (.int p1), .val (.int p2), .val (.int p3), .val (.int p4), .val (.int (1 : Int32)), .val (.long (v0_2 p1)), .second, .val (.long (v0_3 p2)), .second, .val (.long (v0_4 p3)), .second, .val (.long (v0_5 p4)), .second, .val (.ref b7), .unset, .unset, .unset, .unset, .unset, .unset] [(.long (0 : Int64))])) t
        refine XS.lstore X26.here hx rfl (hb hby at_75) rfl (l' := #[.val (.int p0), .val (.int p1), .val (.int p2), .val (.int p3), .val (.int p4), .val (.int (1 : Int32)), .val (.long (v0_2 p1)), .second, .val (.long (v0_3 p2)), .second, .val (.long (v0_4 p3)), .second, .val (.long (v0_5 p4)), .second, .val (.ref b7), .val (.long (0 : Int64)), .second, .unset, .unset, .unset, .unset]) rfl ?_
        show Steps p.tables e below (T26.setTop (mkF m 77 #[.val (.int p0), .val (.int p1), .val (.int p2), .val (.int p3), .val (.int p4), .val (.int (1 : Int32)), .val (.long (v0_2 p1)), .second, .val (.long (v0_3 p2)), .second, .val (.long (v0_4 p3)), .second, .val (.long (v0_5 p4)), .second, .val (.ref b7), .val (.long (0 : Int64)), .second, .unset, .unset, .unset, .unset] [])) t
        refine XS.iload X26.here hx rfl (hb hby at_77) rfl ?_
        show Steps p.tables e below (T26.setTop (mkF m 79 #[.val (.int p0), .val (.int p1), .val (.int p2), .val (.int p3), .val (.int p4), .val (.int (1 : Int32)), .val (.long (v0_2 p1)), .second, .val (.long (v0_3 p2)), .second, .val (.long (v0_4 p3)), .second, .val (.long (v0_5 p4)), .second, .val (.ref b7), .val (.long (0 : Int64)), .second, .unset, .unset, .unset, .unset] [(.int (1 : Int32))])) t
        refine XS.ifNo X26.here hx rfl (hb hby at_79) rfl (XT.i0_le_f (by decide : ((0 : Int32) < (1 : Int32)))) ?_
        show Steps p.tables e below (T26.setTop (mkF m 82 #[.val (.int p0), .val (.int p1), .val (.int p2), .val (.int p3), .val (.int p4), .val (.int (1 : Int32)), .val (.long (v0_2 p1)), .second, .val (.long (v0_3 p2)), .second, .val (.long (v0_4 p3)), .second, .val (.long (v0_5 p4)), .second, .val (.ref b7), .val (.long (0 : Int64)), .second, .unset, .unset, .unset, .unset] [])) t
        refine XS.lload X26.here hx rfl (hb hby at_82) rfl ?_
        show Steps p.tables e below (T26.setTop (mkF m 84 #[.val (.int p0), .val (.int p1), .val (.int p2), .val (.int p3), .val (.int p4), .val (.int (1 : Int32)), .val (.long (v0_2 p1)), .second, .val (.long (v0_3 p2)), .second, .val (.long (v0_4 p3)), .second, .val (.long (v0_5 p4)), .second, .val (.ref b7), .val (.long (0 : Int64)), .second, .unset, .unset, .unset, .unset] [(.long (0 : Int64))])) t
        refine XS.lload X26.here hx rfl (hb hby at_84) rfl ?_
        show Steps p.tables e below (T26.setTop (mkF m 86 #[.val (.int p0), .val (.int p1), .val (.int p2), .val (.int p3), .val (.int p4), .val (.int (1 : Int32)), .val (.long (v0_2 p1)), .second, .val (.long (v0_3 p2)), .second, .val (.long (v0_4 p3)), .second, .val (.long (v0_5 p4)), .second, .val (.ref b7), .val (.long (0 : Int64)), .second, .unset, .unset, .unset, .unset] [(.long (v0_2 p1)), (.long (0 : Int64))])) t
        refine XS.ladd X26.here hx rfl (hb hby at_86) rfl ?_
        show Steps p.tables e below (T26.setTop (mkF m 87 #[.val (.int p0), .val (.int p1), .val (.int p2), .val (.int p3), .val (.int p4), .val (.int (1 : Int32)), .val (.long (v0_2 p1)), .second, .val (.long (v0_3 p2)), .second, .val (.long (v0_4 p3)), .second, .val (.long (v0_5 p4)), .second, .val (.ref b7), .val (.long (0 : Int64)), .second, .unset, .unset, .unset, .unset] [(.long ((0 : Int64) + (v0_2 p1)))])) t
        show Steps p.tables e below (T26.setTop (mkF m 87 #[.val (.int p0), .val (.int p1), .val (.int p2), .val (.int p3), .val (.int p4), .val (.int (1 : Int32)), .val (.long (v0_2 p1)), .second, .val (.long (v0_3 p2)), .second, .val (.long (v0_4 p3)), .second, .val (.long (v0_5 p4)), .second, .val (.ref b7), .val (.long (0 : Int64)), .second, .unset, .unset, .unset, .unset] [(.long (v0_42 p1))])) t
        refine XS.lstore X26.here hx rfl (hb hby at_87) rfl (l' := #[.val (.int p0), .val (.int p1), .val (.int p2), .val (.int p3), .val (.int p4), .val (.int (1 : Int32)), .val (.long (v0_2 p1)), .second, .val (.long (v0_3 p2)), .second, .val (.long (v0_4 p3)), .second, .val (.long (v0_5 p4)), .second, .val (.ref b7), .val (.long (v0_42 p1)), .second, .unset, .unset, .unset, .unset]) rfl ?_
        show Steps p.tables e below (T26.setTop (mkF m 89 #[.val (.int p0), .val (.int p1), .val (.int p2), .val (.int p3), .val (.int p4), .val (.int (1 : Int32)), .val (.long (v0_2 p1)), .second, .val (.long (v0_3 p2)), .second, .val (.long (v0_4 p3)), .second, .val (.long (v0_5 p4)), .second, .val (.ref b7), .val (.long (v0_42 p1)), .second, .unset, .unset, .unset, .unset] [])) t
        refine XS.iload X26.here hx rfl (hb hby at_89) rfl ?_
        show Steps p.tables e below (T26.setTop (mkF m 91 #[.val (.int p0), .val (.int p1), .val (.int p2), .val (.int p3), .val (.int p4), .val (.int (1 : Int32)), .val (.long (v0_2 p1)), .second, .val (.long (v0_3 p2)), .second, .val (.long (v0_4 p3)), .second, .val (.long (v0_5 p4)), .second, .val (.ref b7), .val (.long (v0_42 p1)), .second, .unset, .unset, .unset, .unset] [(.int (1 : Int32))])) t
        refine XS.iconst X26.here hx rfl (hb hby at_91) ?_
        show Steps p.tables e below (T26.setTop (mkF m 92 #[.val (.int p0), .val (.int p1), .val (.int p2), .val (.int p3), .val (.int p4), .val (.int (1 : Int32)), .val (.long (v0_2 p1)), .second, .val (.long (v0_3 p2)), .second, .val (.long (v0_4 p3)), .second, .val (.long (v0_5 p4)), .second, .val (.ref b7), .val (.long (v0_42 p1)), .second, .unset, .unset, .unset, .unset] [(.int (1 : Int32)), (.int (1 : Int32))])) t
        refine XS.icmpYes X26.here hx rfl (pc0 := 92) (pc' := 102) rfl (hb hby at_92) rfl (XT.ii_le_t (by decide : ¬ ((1 : Int32) < (1 : Int32)))) (by decide) (by decide) ?_
        show Steps p.tables e below (T26.setTop (mkF m 102 #[.val (.int p0), .val (.int p1), .val (.int p2), .val (.int p3), .val (.int p4), .val (.int (1 : Int32)), .val (.long (v0_2 p1)), .second, .val (.long (v0_3 p2)), .second, .val (.long (v0_4 p3)), .second, .val (.long (v0_5 p4)), .second, .val (.ref b7), .val (.long (v0_42 p1)), .second, .unset, .unset, .unset, .unset] [])) t
        refine XS.iload X26.here hx rfl (hb hby at_102) rfl ?_
        show Steps p.tables e below (T26.setTop (mkF m 104 #[.val (.int p0), .val (.int p1), .val (.int p2), .val (.int p3), .val (.int p4), .val (.int (1 : Int32)), .val (.long (v0_2 p1)), .second, .val (.long (v0_3 p2)), .second, .val (.long (v0_4 p3)), .second, .val (.long (v0_5 p4)), .second, .val (.ref b7), .val (.long (v0_42 p1)), .second, .unset, .unset, .unset, .unset] [(.int (1 : Int32))])) t
        refine XS.iconst X26.here hx rfl (hb hby at_104) ?_
        show Steps p.tables e below (T26.setTop (mkF m 105 #[.val (.int p0), .val (.int p1), .val (.int p2), .val (.int p3), .val (.int p4), .val (.int (1 : Int32)), .val (.long (v0_2 p1)), .second, .val (.long (v0_3 p2)), .second, .val (.long (v0_4 p3)), .second, .val (.long (v0_5 p4)), .second, .val (.ref b7), .val (.long (v0_42 p1)), .second, .unset, .unset, .unset, .unset] [(.int (2 : Int32)), (.int (1 : Int32))])) t
        refine XS.icmpYes X26.here hx rfl (pc0 := 105) (pc' := 115) rfl (hb hby at_105) rfl (XT.ii_le_t (by decide : ¬ ((2 : Int32) < (1 : Int32)))) (by decide) (by decide) ?_
        show Steps p.tables e below (T26.setTop (mkF m 115 #[.val (.int p0), .val (.int p1), .val (.int p2), .val (.int p3), .val (.int p4), .val (.int (1 : Int32)), .val (.long (v0_2 p1)), .second, .val (.long (v0_3 p2)), .second, .val (.long (v0_4 p3)), .second, .val (.long (v0_5 p4)), .second, .val (.ref b7), .val (.long (v0_42 p1)), .second, .unset, .unset, .unset, .unset] [])) t
        refine XS.iload X26.here hx rfl (hb hby at_115) rfl ?_
        show Steps p.tables e below (T26.setTop (mkF m 117 #[.val (.int p0), .val (.int p1), .val (.int p2), .val (.int p3), .val (.int p4), .val (.int (1 : Int32)), .val (.long (v0_2 p1)), .second, .val (.long (v0_3 p2)), .second, .val (.long (v0_4 p3)), .second, .val (.long (v0_5 p4)), .second, .val (.ref b7), .val (.long (v0_42 p1)), .second, .unset, .unset, .unset, .unset] [(.int (1 : Int32))])) t
        refine XS.iconst X26.here hx rfl (hb hby at_117) ?_
        show Steps p.tables e below (T26.setTop (mkF m 118 #[.val (.int p0), .val (.int p1), .val (.int p2), .val (.int p3), .val (.int p4), .val (.int (1 : Int32)), .val (.long (v0_2 p1)), .second, .val (.long (v0_3 p2)), .second, .val (.long (v0_4 p3)), .second, .val (.long (v0_5 p4)), .second, .val (.ref b7), .val (.long (v0_42 p1)), .second, .unset, .unset, .unset, .unset] [(.int (3 : Int32)), (.int (1 : Int32))])) t
        refine XS.icmpYes X26.here hx rfl (pc0 := 118) (pc' := 128) rfl (hb hby at_118) rfl (XT.ii_le_t (by decide : ¬ ((3 : Int32) < (1 : Int32)))) (by decide) (by decide) ?_
        show Steps p.tables e below (T26.setTop (mkF m 128 #[.val (.int p0), .val (.int p1), .val (.int p2), .val (.int p3), .val (.int p4), .val (.int (1 : Int32)), .val (.long (v0_2 p1)), .second, .val (.long (v0_3 p2)), .second, .val (.long (v0_4 p3)), .second, .val (.long (v0_5 p4)), .second, .val (.ref b7), .val (.long (v0_42 p1)), .second, .unset, .unset, .unset, .unset] [])) t
        refine XS.lload X26.here hx rfl (hb hby at_128) rfl ?_
        show Steps p.tables e below (T26.setTop (mkF m 130 #[.val (.int p0), .val (.int p1), .val (.int p2), .val (.int p3), .val (.int p4), .val (.int (1 : Int32)), .val (.long (v0_2 p1)), .second, .val (.long (v0_3 p2)), .second, .val (.long (v0_4 p3)), .second, .val (.long (v0_5 p4)), .second, .val (.ref b7), .val (.long (v0_42 p1)), .second, .unset, .unset, .unset, .unset] [(.long (v0_42 p1))])) t
        refine XS.lconst X26.here hx rfl (hb hby at_130) ?_
        show Steps p.tables e below (T26.setTop (mkF m 131 #[.val (.int p0), .val (.int p1), .val (.int p2), .val (.int p3), .val (.int p4), .val (.int (1 : Int32)), .val (.long (v0_2 p1)), .second, .val (.long (v0_3 p2)), .second, .val (.long (v0_4 p3)), .second, .val (.long (v0_5 p4)), .second, .val (.ref b7), .val (.long (v0_42 p1)), .second, .unset, .unset, .unset, .unset] [(.long (0 : Int64)), (.long (v0_42 p1))])) t
        refine XT.lcmp X26.here hx rfl (hb hby at_131) rfl ?_
        show Steps p.tables e below (T26.setTop (mkF m 132 #[.val (.int p0), .val (.int p1), .val (.int p2), .val (.int p3), .val (.int p4), .val (.int (1 : Int32)), .val (.long (v0_2 p1)), .second, .val (.long (v0_3 p2)), .second, .val (.long (v0_4 p3)), .second, .val (.long (v0_5 p4)), .second, .val (.ref b7), .val (.long (v0_42 p1)), .second, .unset, .unset, .unset, .unset] [(.int (XT.cmpL (v0_42 p1) (0 : Int64)))])) t
        by_cases hc43 : (v0_42 p1) = (0 : Int64)
        · refine XS.ifNo X26.here hx rfl (hb hby at_132) rfl (XT.ll_ne_f hc43) ?_
          show Steps p.tables e below (T26.setTop (mkF m 135 #[.val (.int p0), .val (.int p1), .val (.int p2), .val (.int p3), .val (.int p4), .val (.int (1 : Int32)), .val (.long (v0_2 p1)), .second, .val (.long (v0_3 p2)), .second, .val (.long (v0_4 p3)), .second, .val (.long (v0_5 p4)), .second, .val (.ref b7), .val (.long (v0_42 p1)), .second, .unset, .unset, .unset, .unset] [])) t
          refine XS.dconst0 X26.here hx rfl (hb hby at_135) (v := FP.dconst0) rfl ?_
          show Steps p.tables e below (T26.setTop (mkF m 136 #[.val (.int p0), .val (.int p1), .val (.int p2), .val (.int p3), .val (.int p4), .val (.int (1 : Int32)), .val (.long (v0_2 p1)), .second, .val (.long (v0_3 p2)), .second, .val (.long (v0_4 p3)), .second, .val (.long (v0_5 p4)), .second, .val (.ref b7), .val (.long (v0_42 p1)), .second, .unset, .unset, .unset, .unset] [(.double FP.dconst0)])) t
          refine XS.goto X26.here hx rfl (pc0 := 136) (pc' := 147) rfl (hb hby at_136) (by decide) (by decide) ?_
          show Steps p.tables e below (T26.setTop (mkF m 147 #[.val (.int p0), .val (.int p1), .val (.int p2), .val (.int p3), .val (.int p4), .val (.int (1 : Int32)), .val (.long (v0_2 p1)), .second, .val (.long (v0_3 p2)), .second, .val (.long (v0_4 p3)), .second, .val (.long (v0_5 p4)), .second, .val (.ref b7), .val (.long (v0_42 p1)), .second, .unset, .unset, .unset, .unset] [(.double FP.dconst0)])) t
          have hq46 : (b0_45 p1) = FP.dconst0 := by rw [b0_45, if_pos hc43]
          rw [hq46] at k
          exact k
        · refine XS.ifYes X26.here hx rfl (pc0 := 132) (pc' := 139) rfl (hb hby at_132) rfl (XT.ll_ne_t hc43) (by decide) (by decide) ?_
          show Steps p.tables e below (T26.setTop (mkF m 139 #[.val (.int p0), .val (.int p1), .val (.int p2), .val (.int p3), .val (.int p4), .val (.int (1 : Int32)), .val (.long (v0_2 p1)), .second, .val (.long (v0_3 p2)), .second, .val (.long (v0_4 p3)), .second, .val (.long (v0_5 p4)), .second, .val (.ref b7), .val (.long (v0_42 p1)), .second, .unset, .unset, .unset, .unset] [])) t
          refine XS.iload X26.here hx rfl (hb hby at_139) rfl ?_
          show Steps p.tables e below (T26.setTop (mkF m 141 #[.val (.int p0), .val (.int p1), .val (.int p2), .val (.int p3), .val (.int p4), .val (.int (1 : Int32)), .val (.long (v0_2 p1)), .second, .val (.long (v0_3 p2)), .second, .val (.long (v0_4 p3)), .second, .val (.long (v0_5 p4)), .second, .val (.ref b7), .val (.long (v0_42 p1)), .second, .unset, .unset, .unset, .unset] [(.int (1 : Int32))])) t
          refine XS.i2dS X26.here hx rfl (hb hby at_141) rfl (v := (FP.i2d (1 : Int32))) rfl ?_
          show Steps p.tables e below (T26.setTop (mkF m 142 #[.val (.int p0), .val (.int p1), .val (.int p2), .val (.int p3), .val (.int p4), .val (.int (1 : Int32)), .val (.long (v0_2 p1)), .second, .val (.long (v0_3 p2)), .second, .val (.long (v0_4 p3)), .second, .val (.long (v0_5 p4)), .second, .val (.ref b7), .val (.long (v0_42 p1)), .second, .unset, .unset, .unset, .unset] [(.double (FP.i2d (1 : Int32)))])) t
          refine XS.dnegS X26.here hx rfl (hb hby at_142) rfl (v := (FP.dneg (FP.i2d (1 : Int32)))) rfl ?_
          show Steps p.tables e below (T26.setTop (mkF m 143 #[.val (.int p0), .val (.int p1), .val (.int p2), .val (.int p3), .val (.int p4), .val (.int (1 : Int32)), .val (.long (v0_2 p1)), .second, .val (.long (v0_3 p2)), .second, .val (.long (v0_4 p3)), .second, .val (.long (v0_5 p4)), .second, .val (.ref b7), .val (.long (v0_42 p1)), .second, .unset, .unset, .unset, .unset] [(.double (FP.dneg (FP.i2d (1 : Int32))))])) t
          refine XS.lload X26.here hx rfl (hb hby at_143) rfl ?_
          show Steps p.tables e below (T26.setTop (mkF m 145 #[.val (.int p0), .val (.int p1), .val (.int p2), .val (.int p3), .val (.int p4), .val (.int (1 : Int32)), .val (.long (v0_2 p1)), .second, .val (.long (v0_3 p2)), .second, .val (.long (v0_4 p3)), .second, .val (.long (v0_5 p4)), .second, .val (.ref b7), .val (.long (v0_42 p1)), .second, .unset, .unset, .unset, .unset] [(.long (v0_42 p1)), (.double (FP.dneg (FP.i2d (1 : Int32))))])) t
          refine XS.l2dS X26.here hx rfl (hb hby at_145) rfl (v := (FP.l2d (v0_42 p1))) rfl ?_
          show Steps p.tables e below (T26.setTop (mkF m 146 #[.val (.int p0), .val (.int p1), .val (.int p2), .val (.int p3), .val (.int p4), .val (.int (1 : Int32)), .val (.long (v0_2 p1)), .second, .val (.long (v0_3 p2)), .second, .val (.long (v0_4 p3)), .second, .val (.long (v0_5 p4)), .second, .val (.ref b7), .val (.long (v0_42 p1)), .second, .unset, .unset, .unset, .unset] [(.double (FP.l2d (v0_42 p1))), (.double (FP.dneg (FP.i2d (1 : Int32))))])) t
          refine XS.ddivS X26.here hx rfl (hb hby at_146) rfl (own_qL own_neg1 hc43) (v := (FP.ddiv (FP.dneg (FP.i2d (1 : Int32))) (FP.l2d (v0_42 p1)))) rfl ?_
          show Steps p.tables e below (T26.setTop (mkF m 147 #[.val (.int p0), .val (.int p1), .val (.int p2), .val (.int p3), .val (.int p4), .val (.int (1 : Int32)), .val (.long (v0_2 p1)), .second, .val (.long (v0_3 p2)), .second, .val (.long (v0_4 p3)), .second, .val (.long (v0_5 p4)), .second, .val (.ref b7), .val (.long (v0_42 p1)), .second, .unset, .unset, .unset, .unset] [(.double (FP.ddiv (FP.dneg (FP.i2d (1 : Int32))) (FP.l2d (v0_42 p1))))])) t
          have hq47 : (b0_45 p1) = (FP.ddiv (FP.dneg (FP.i2d (1 : Int32))) (FP.l2d (v0_42 p1))) := by rw [b0_45, if_neg hc43]
          rw [hq47] at k
          exact k
      have go48 : ∀ t, Steps p.tables e below (T26.setTop (mkF m 153 #[.val (.int p0), .val (.int p1), .val (.int p2), .val (.int p3), .val (.int p4), .val (.int (1 : Int32)), .val (.long (v0_2 p1)), .second, .val (.long (v0_3 p2)), .second, .val (.long (v0_4 p3)), .second, .val (.long (v0_5 p4)), .second, .val (.ref b7), .val (.long (v0_42 p1)), .second, .val (.double (b0_45 p1)), .second, .unset, .unset] [(.int (1 : Int32)), (.ref b7)])) t → Steps p.tables e below (s₁.setTop (entryFrame m #[(.int p0), (.int p1), (.int p2), (.int p3), (.int p4)] maxLocals)) t := by
        intro t k
        refine go44 _ ?_
        refine XS.dstore X26.here hx rfl (hb hby at_147) rfl (l' := #[.val (.int p0), .val (.int p1), .val (.int p2), .val (.int p3), .val (.int p4), .val (.int (1 : Int32)), .val (.long (v0_2 p1)), .second, .val (.long (v0_3 p2)), .second, .val (.long (v0_4 p3)), .second, .val (.long (v0_5 p4)), .second, .val (.ref b7), .val (.long (v0_42 p1)), .second, .val (.double (b0_45 p1)), .second, .unset, .unset]) rfl ?_
        show Steps p.tables e below (T26.setTop (mkF m 149 #[.val (.int p0), .val (.int p1), .val (.int p2), .val (.int p3), .val (.int p4), .val (.int (1 : Int32)), .val (.long (v0_2 p1)), .second, .val (.long (v0_3 p2)), .second, .val (.long (v0_4 p3)), .second, .val (.long (v0_5 p4)), .second, .val (.ref b7), .val (.long (v0_42 p1)), .second, .val (.double (b0_45 p1)), .second, .unset, .unset] [])) t
        refine XS.aload X26.here hx rfl (hb hby at_149) rfl rfl ?_
        show Steps p.tables e below (T26.setTop (mkF m 151 #[.val (.int p0), .val (.int p1), .val (.int p2), .val (.int p3), .val (.int p4), .val (.int (1 : Int32)), .val (.long (v0_2 p1)), .second, .val (.long (v0_3 p2)), .second, .val (.long (v0_4 p3)), .second, .val (.long (v0_5 p4)), .second, .val (.ref b7), .val (.long (v0_42 p1)), .second, .val (.double (b0_45 p1)), .second, .unset, .unset] [(.ref b7)])) t
        refine XS.iload X26.here hx rfl (hb hby at_151) rfl ?_
        show Steps p.tables e below (T26.setTop (mkF m 153 #[.val (.int p0), .val (.int p1), .val (.int p2), .val (.int p3), .val (.int p4), .val (.int (1 : Int32)), .val (.long (v0_2 p1)), .second, .val (.long (v0_3 p2)), .second, .val (.long (v0_4 p3)), .second, .val (.long (v0_5 p4)), .second, .val (.ref b7), .val (.long (v0_42 p1)), .second, .val (.double (b0_45 p1)), .second, .unset, .unset] [(.int (1 : Int32)), (.ref b7)])) t
        exact k
      obtain ⟨_, _, ⟨T49, L49, k49, n49⟩, -, X49, ⟨Lc49, hQ49, l49, y49, z49⟩, st49⟩ := Jvm.LawKit.callS X26 hx (y := (⟨"com/example/axiscope/axiscope/engine/Hill", "estimate", "([DI)D"⟩ : MethodName)) hown (mvT hZ (hw _ (List.mem_of_getElem? (i := 2) rfl))) (mvT hZ (hw _ (List.mem_of_getElem? (i := 3) rfl))) (mvT hZ (hw _ (List.mem_of_getElem? (i := 4) rfl))) (mvT hZ (hw _ (List.mem_of_getElem? (i := 5) rfl))) (by decide) (backOf (W := 0) (rm1e1 l Z aZ hw [] b7 k7 (v0_2 p1) (v0_3 p2) (v0_4 p3) (v0_5 p4) h26 n0 Zs26 F29 (own_sm p1) (own_sm p2) (own_sm p3) (own_sm p4)) hZ (hw _ (List.mem_of_getElem? (i := 5) rfl)) (hw _ (List.mem_of_getElem? (i := 4) rfl)) (by decide) (by decide)) (g := (mkF m 153 #[.val (.int p0), .val (.int p1), .val (.int p2), .val (.int p3), .val (.int p4), .val (.int (1 : Int32)), .val (.long (v0_2 p1)), .second, .val (.long (v0_3 p2)), .second, .val (.long (v0_4 p3)), .second, .val (.long (v0_5 p4)), .second, .val (.ref b7), .val (.long (v0_42 p1)), .second, .val (.double (b0_45 p1)), .second, .unset, .unset] [(.int (1 : Int32)), (.ref b7)])) rfl (by rw [hml]; rfl) (argsL := [(.ref b7), (.int (1 : Int32))]) (rest := []) (lenOf pd_37 rfl) rfl (by show 2 * 0 + _ ≤ _; exact Nat.le_of_eq rfl) (hb hby at_153) (fun _ _ => ⟨rfl, e26, (by decide : 1 + 0 ≤ _), (by decide : 4 + 0 ≤ _)⟩)
      dsimp only [Pt.U, Pt.locs, Pt.cells, Pt.slots] at X49 l49 y49 z49 st49 hQ49
      subst l49 y49 z49
      obtain ⟨rfl, N49q, e49⟩ := hQ49
      have N49 := Fr.app N26 N49q
      have go50 : ∀ t, Steps p.tables e below (T49.setTop (mkF m 156 #[.val (.int p0), .val (.int p1), .val (.int p2), .val (.int p3), .val (.int p4), .val (.int (1 : Int32)), .val (.long (v0_2 p1)), .second, .val (.long (v0_3 p2)), .second, .val (.long (v0_4 p3)), .second, .val (.long (v0_5 p4)), .second, .val (.ref b7), .val (.long (v0_42 p1)), .second, .val (.double (b0_45 p1)), .second, .unset, .unset] [(.double (f1e1 (v0_2 p1)))])) t → Steps p.tables e below (s₁.setTop (entryFrame m #[(.int p0), (.int p1), (.int p2), (.int p3), (.int p4)] maxLocals)) t := fun t k => go48 _ (st49 _ k)
      have go52 : ∀ t, Steps p.tables e below (T49.setTop (mkF m 171 #[.val (.int p0), .val (.int p1), .val (.int p2), .val (.int p3), .val (.int p4), .val (.int (1 : Int32)), .val (.long (v0_2 p1)), .second, .val (.long (v0_3 p2)), .second, .val (.long (v0_4 p3)), .second, .val (.long (v0_5 p4)), .second, .val (.ref b7), .val (.long (v0_42 p1)), .second, .val (.double (b0_45 p1)), .second, .val (.double (f1e1 (v0_2 p1))), .second] [(.int (b0_53 p1))])) t → Steps p.tables e below (s₁.setTop (entryFrame m #[(.int p0), (.int p1), (.int p2), (.int p3), (.int p4)] maxLocals)) t := by
        intro t k
        refine go50 _ ?_
        refine XS.dstore X49.here hx rfl (hb hby at_156) rfl (l' := #[.val (.int p0), .val (.int p1), .val (.int p2), .val (.int p3), .val (.int p4), .val (.int (1 : Int32)), .val (.long (v0_2 p1)), .second, .val (.long (v0_3 p2)), .second, .val (.long (v0_4 p3)), .second, .val (.long (v0_5 p4)), .second, .val (.ref b7), .val (.long (v0_42 p1)), .second, .val (.double (b0_45 p1)), .second, .val (.double (f1e1 (v0_2 p1))), .second]) rfl ?_
        show Steps p.tables e below (T49.setTop (mkF m 158 #[.val (.int p0), .val (.int p1), .val (.int p2), .val (.int p3), .val (.int p4), .val (.int (1 : Int32)), .val (.long (v0_2 p1)), .second, .val (.long (v0_3 p2)), .second, .val (.long (v0_4 p3)), .second, .val (.long (v0_5 p4)), .second, .val (.ref b7), .val (.long (v0_42 p1)), .second, .val (.double (b0_45 p1)), .second, .val (.double (f1e1 (v0_2 p1))), .second] [])) t
        refine XS.dload X49.here hx rfl (hb hby at_158) rfl ?_
        show Steps p.tables e below (T49.setTop (mkF m 160 #[.val (.int p0), .val (.int p1), .val (.int p2), .val (.int p3), .val (.int p4), .val (.int (1 : Int32)), .val (.long (v0_2 p1)), .second, .val (.long (v0_3 p2)), .second, .val (.long (v0_4 p3)), .second, .val (.long (v0_5 p4)), .second, .val (.ref b7), .val (.long (v0_42 p1)), .second, .val (.double (b0_45 p1)), .second, .val (.double (f1e1 (v0_2 p1))), .second] [(.double (f1e1 (v0_2 p1)))])) t
        refine XS.dload X49.here hx rfl (hb hby at_160) rfl ?_
        show Steps p.tables e below (T49.setTop (mkF m 162 #[.val (.int p0), .val (.int p1), .val (.int p2), .val (.int p3), .val (.int p4), .val (.int (1 : Int32)), .val (.long (v0_2 p1)), .second, .val (.long (v0_3 p2)), .second, .val (.long (v0_4 p3)), .second, .val (.long (v0_5 p4)), .second, .val (.ref b7), .val (.long (v0_42 p1)), .second, .val (.double (b0_45 p1)), .second, .val (.double (f1e1 (v0_2 p1))), .second] [(.double (b0_45 p1)), (.double (f1e1 (v0_2 p1)))])) t
        refine XS.dcmpS X49.here hx rfl (hb hby at_162) rfl (v := (cmpValue (FP.dcmp (f1e1 (v0_2 p1)) (b0_45 p1)) .l)) rfl ?_
        show Steps p.tables e below (T49.setTop (mkF m 163 #[.val (.int p0), .val (.int p1), .val (.int p2), .val (.int p3), .val (.int p4), .val (.int (1 : Int32)), .val (.long (v0_2 p1)), .second, .val (.long (v0_3 p2)), .second, .val (.long (v0_4 p3)), .second, .val (.long (v0_5 p4)), .second, .val (.ref b7), .val (.long (v0_42 p1)), .second, .val (.double (b0_45 p1)), .second, .val (.double (f1e1 (v0_2 p1))), .second] [(.int (cmpValue (FP.dcmp (f1e1 (v0_2 p1)) (b0_45 p1)) .l))])) t
        by_cases hc51 : (cmpValue (FP.dcmp (f1e1 (v0_2 p1)) (b0_45 p1)) .l) = (0 : Int32)
        · refine XS.ifNo X49.here hx rfl (hb hby at_163) rfl (XT.i0_ne_f hc51) ?_
          show Steps p.tables e below (T49.setTop (mkF m 166 #[.val (.int p0), .val (.int p1), .val (.int p2), .val (.int p3), .val (.int p4), .val (.int (1 : Int32)), .val (.long (v0_2 p1)), .second, .val (.long (v0_3 p2)), .second, .val (.long (v0_4 p3)), .second, .val (.long (v0_5 p4)), .second, .val (.ref b7), .val (.long (v0_42 p1)), .second, .val (.double (b0_45 p1)), .second, .val (.double (f1e1 (v0_2 p1))), .second] [])) t
          refine XS.iconst X49.here hx rfl (hb hby at_166) ?_
          show Steps p.tables e below (T49.setTop (mkF m 167 #[.val (.int p0), .val (.int p1), .val (.int p2), .val (.int p3), .val (.int p4), .val (.int (1 : Int32)), .val (.long (v0_2 p1)), .second, .val (.long (v0_3 p2)), .second, .val (.long (v0_4 p3)), .second, .val (.long (v0_5 p4)), .second, .val (.ref b7), .val (.long (v0_42 p1)), .second, .val (.double (b0_45 p1)), .second, .val (.double (f1e1 (v0_2 p1))), .second] [(.int (1 : Int32))])) t
          refine XS.goto X49.here hx rfl (pc0 := 167) (pc' := 171) rfl (hb hby at_167) (by decide) (by decide) ?_
          show Steps p.tables e below (T49.setTop (mkF m 171 #[.val (.int p0), .val (.int p1), .val (.int p2), .val (.int p3), .val (.int p4), .val (.int (1 : Int32)), .val (.long (v0_2 p1)), .second, .val (.long (v0_3 p2)), .second, .val (.long (v0_4 p3)), .second, .val (.long (v0_5 p4)), .second, .val (.ref b7), .val (.long (v0_42 p1)), .second, .val (.double (b0_45 p1)), .second, .val (.double (f1e1 (v0_2 p1))), .second] [(.int (1 : Int32))])) t
          have hq54 : (b0_53 p1) = (1 : Int32) := by rw [b0_53, if_pos hc51]
          rw [hq54] at k
          exact k
        · refine XS.ifYes X49.here hx rfl (pc0 := 163) (pc' := 170) rfl (hb hby at_163) rfl (XT.i0_ne_t hc51) (by decide) (by decide) ?_
          show Steps p.tables e below (T49.setTop (mkF m 170 #[.val (.int p0), .val (.int p1), .val (.int p2), .val (.int p3), .val (.int p4), .val (.int (1 : Int32)), .val (.long (v0_2 p1)), .second, .val (.long (v0_3 p2)), .second, .val (.long (v0_4 p3)), .second, .val (.long (v0_5 p4)), .second, .val (.ref b7), .val (.long (v0_42 p1)), .second, .val (.double (b0_45 p1)), .second, .val (.double (f1e1 (v0_2 p1))), .second] [])) t
          refine XS.iconst X49.here hx rfl (hb hby at_170) ?_
          show Steps p.tables e below (T49.setTop (mkF m 171 #[.val (.int p0), .val (.int p1), .val (.int p2), .val (.int p3), .val (.int p4), .val (.int (1 : Int32)), .val (.long (v0_2 p1)), .second, .val (.long (v0_3 p2)), .second, .val (.long (v0_4 p3)), .second, .val (.long (v0_5 p4)), .second, .val (.ref b7), .val (.long (v0_42 p1)), .second, .val (.double (b0_45 p1)), .second, .val (.double (f1e1 (v0_2 p1))), .second] [(.int (0 : Int32))])) t
          have hq55 : (b0_53 p1) = (0 : Int32) := by rw [b0_53, if_neg hc51]
          rw [hq55] at k
          exact k
      obtain ⟨fs, hr, hrun, hended, hW, hsame⟩ := X49.leave (v := some (.int (b0_53 p1))) (fun h => by rw [Bd.returns] at h; cases h)
      refine ⟨_, _, go52 _ (Jvm.RoadKit.retOut X49 hx Bd.returns (own_nz (by unfold b0_53; (repeat' split) <;> first | exact Or.inl rfl | exact Or.inr rfl)) (Or.inl ⟨rfl, Or.inr (Or.inl rfl), _, rfl⟩) (hb hby at_171) hr), hrun, hended, _, _, rfl, ?_, ⟨_, rfl⟩, hW, hsame.mono (by decide) (by decide)⟩
      show Q0 _ _ p0 p1 p2 p3 p4 h0 _ (T49.setFrames fs).heap _
      have hE : (T49.setFrames fs).heap = h26 := e49
      rw [hE]
      exact ⟨congrArg (fun z => some (Value.int z)) ((by rw [f0, if_neg hs30, if_pos hs40] : (b0_53 p1) = (f0 p0 p1 p2 p3 p4)).trans (f0_one p0 p1 p2 p3 p4)), N49⟩
    · by_cases hs56 : (v0_1 p0) = (2 : Int32)
      · have go57 : ∀ t, Steps p.tables e below (T26.setTop (mkF m 74 #[.val (.int p0), .val (.int p1), .val (.int p2), .val (.int p3), .val (.int p4), .val (.int (2 : Int32)), .val (.long (v0_2 p1)), .second, .val (.long (v0_3 p2)), .second, .val (.long (v0_4 p3)), .second, .val (.long (v0_5 p4)), .second, .val (.ref b7), .unset, .unset, .unset, .unset, .unset, .unset] [])) t → Steps p.tables e below (s₁.setTop (entryFrame m #[(.int p0), (.int p1), (.int p2), (.int p3), (.int p4)] maxLocals)) t := by
          have q := go28
          rw [hs56] at q
          exact q
        have go59 : ∀ t, Steps p.tables e below (T26.setTop (mkF m 147 #[.val (.int p0), .val (.int p1), .val (.int p2), .val (.int p3), .val (.int p4), .val (.int (2 : Int32)), .val (.long (v0_2 p1)), .second, .val (.long (v0_3 p2)), .second, .val (.long (v0_4 p3)), .second, .val (.long (v0_5 p4)), .second, .val (.ref b7), .val (.long ((v0_42 p1) + (v0_3 p2))), .second, .unset, .unset, .unset, .unset] [(.double (b0_60 p1 p2))])) t → Steps p.tables e below (s₁.setTop (entryFrame m #[(.int p0), (.int p1), (.int p2), (.int p3), (.int p4)] maxLocals)) t := by
          intro t k
          refine go57 _ ?_
          refine XS.lconst X26.here hx rfl (hb hby at_74) ?_
          show Steps p.tables e below (T26.setTop (mkF m 75 #[.val (.int p0), .val (.int p1), .val (.int p2), .val (.int p3), .val (.int p4), .val (.int (2 : Int32)), .val (.long (v0_2 p1)), .second, .val (.long (v0_3 p2)), .second, .val (.long (v0_4 p3)), .second, .val (.long (v0_5 p4)), .second, .val (.ref b7), .unset, .unset, .unset, .unset, .unset, .unset] [(.long (0 : Int64))])) t
          refine XS.lstore X26.here hx rfl (hb hby at_75) rfl (l' := #[.val (.int p0), .val (.int p1), .val (.int p2), .val (.int p3), .val (.int p4), .val (.int (2 : Int32)), .val (.long (v0_2 p1)), .second, .val (.long (v0_3 p2)), .second, .val (.long (v0_4 p3)), .second, .val (.long (v0_5 p4)), .second, .val (.ref b7), .val (.long (0 : Int64)), .second, .unset, .unset, .unset, .unset]) rfl ?_
          show Steps p.tables e below (T26.setTop (mkF m 77 #[.val (.int p0), .val (.int p1), .val (.int p2), .val (.int p3), .val (.int p4), .val (.int (2 : Int32)), .val (.long (v0_2 p1)), .second, .val (.long (v0_3 p2)), .second, .val (.long (v0_4 p3)), .second, .val (.long (v0_5 p4)), .second, .val (.ref b7), .val (.long (0 : Int64)), .second, .unset, .unset, .unset, .unset] [])) t
          refine XS.iload X26.here hx rfl (hb hby at_77) rfl ?_
          show Steps p.tables e below (T26.setTop (mkF m 79 #[.val (.int p0), .val (.int p1), .val (.int p2), .val (.int p3), .val (.int p4), .val (.int (2 : Int32)), .val (.long (v0_2 p1)), .second, .val (.long (v0_3 p2)), .second, .val (.long (v0_4 p3)), .second, .val (.long (v0_5 p4)), .second, .val (.ref b7), .val (.long (0 : Int64)), .second, .unset, .unset, .unset, .unset] [(.int (2 : Int32))])) t
          refine XS.ifNo X26.here hx rfl (hb hby at_79) rfl (XT.i0_le_f (by decide : ((0 : Int32) < (2 : Int32)))) ?_
          show Steps p.tables e below (T26.setTop (mkF m 82 #[.val (.int p0), .val (.int p1), .val (.int p2), .val (.int p3), .val (.int p4), .val (.int (2 : Int32)), .val (.long (v0_2 p1)), .second, .val (.long (v0_3 p2)), .second, .val (.long (v0_4 p3)), .second, .val (.long (v0_5 p4)), .second, .val (.ref b7), .val (.long (0 : Int64)), .second, .unset, .unset, .unset, .unset] [])) t
          refine XS.lload X26.here hx rfl (hb hby at_82) rfl ?_
          show Steps p.tables e below (T26.setTop (mkF m 84 #[.val (.int p0), .val (.int p1), .val (.int p2), .val (.int p3), .val (.int p4), .val (.int (2 : Int32)), .val (.long (v0_2 p1)), .second, .val (.long (v0_3 p2)), .second, .val (.long (v0_4 p3)), .second, .val (.long (v0_5 p4)), .second, .val (.ref b7), .val (.long (0 : Int64)), .second, .unset, .unset, .unset, .unset] [(.long (0 : Int64))])) t
          refine XS.lload X26.here hx rfl (hb hby at_84) rfl ?_
          show Steps p.tables e below (T26.setTop (mkF m 86 #[.val (.int p0), .val (.int p1), .val (.int p2), .val (.int p3), .val (.int p4), .val (.int (2 : Int32)), .val (.long (v0_2 p1)), .second, .val (.long (v0_3 p2)), .second, .val (.long (v0_4 p3)), .second, .val (.long (v0_5 p4)), .second, .val (.ref b7), .val (.long (0 : Int64)), .second, .unset, .unset, .unset, .unset] [(.long (v0_2 p1)), (.long (0 : Int64))])) t
          refine XS.ladd X26.here hx rfl (hb hby at_86) rfl ?_
          show Steps p.tables e below (T26.setTop (mkF m 87 #[.val (.int p0), .val (.int p1), .val (.int p2), .val (.int p3), .val (.int p4), .val (.int (2 : Int32)), .val (.long (v0_2 p1)), .second, .val (.long (v0_3 p2)), .second, .val (.long (v0_4 p3)), .second, .val (.long (v0_5 p4)), .second, .val (.ref b7), .val (.long (0 : Int64)), .second, .unset, .unset, .unset, .unset] [(.long ((0 : Int64) + (v0_2 p1)))])) t
          show Steps p.tables e below (T26.setTop (mkF m 87 #[.val (.int p0), .val (.int p1), .val (.int p2), .val (.int p3), .val (.int p4), .val (.int (2 : Int32)), .val (.long (v0_2 p1)), .second, .val (.long (v0_3 p2)), .second, .val (.long (v0_4 p3)), .second, .val (.long (v0_5 p4)), .second, .val (.ref b7), .val (.long (0 : Int64)), .second, .unset, .unset, .unset, .unset] [(.long (v0_42 p1))])) t
          refine XS.lstore X26.here hx rfl (hb hby at_87) rfl (l' := #[.val (.int p0), .val (.int p1), .val (.int p2), .val (.int p3), .val (.int p4), .val (.int (2 : Int32)), .val (.long (v0_2 p1)), .second, .val (.long (v0_3 p2)), .second, .val (.long (v0_4 p3)), .second, .val (.long (v0_5 p4)), .second, .val (.ref b7), .val (.long (v0_42 p1)), .second, .unset, .unset, .unset, .unset]) rfl ?_
          show Steps p.tables e below (T26.setTop (mkF m 89 #[.val (.int p0), .val (.int p1), .val (.int p2), .val (.int p3), .val (.int p4), .val (.int (2 : Int32)), .val (.long (v0_2 p1)), .second, .val (.long (v0_3 p2)), .second, .val (.long (v0_4 p3)), .second, .val (.long (v0_5 p4)), .second, .val (.ref b7), .val (.long (v0_42 p1)), .second, .unset, .unset, .unset, .unset] [])) t
          refine XS.iload X26.here hx rfl (hb hby at_89) rfl ?_
          show Steps p.tables e below (T26.setTop (mkF m 91 #[.val (.int p0), .val (.int p1), .val (.int p2), .val (.int p3), .val (.int p4), .val (.int (2 : Int32)), .val (.long (v0_2 p1)), .second, .val (.long (v0_3 p2)), .second, .val (.long (v0_4 p3)), .second, .val (.long (v0_5 p4)), .second, .val (.ref b7), .val (.long (v0_42 p1)), .second, .unset, .unset, .unset, .unset] [(.int (2 : Int32))])) t
          refine XS.iconst X26.here hx rfl (hb hby at_91) ?_
          show Steps p.tables e below (T26.setTop (mkF m 92 #[.val (.int p0), .val (.int p1), .val (.int p2), .val (.int p3), .val (.int p4), .val (.int (2 : Int32)), .val (.long (v0_2 p1)), .second, .val (.long (v0_3 p2)), .second, .val (.long (v0_4 p3)), .second, .val (.long (v0_5 p4)), .second, .val (.ref b7), .val (.long (v0_42 p1)), .second, .unset, .unset, .unset, .unset] [(.int (1 : Int32)), (.int (2 : Int32))])) t
          refine XS.icmpNo X26.here hx rfl (hb hby at_92) rfl (XT.ii_le_f (by decide : ((1 : Int32) < (2 : Int32)))) ?_
          show Steps p.tables e below (T26.setTop (mkF m 95 #[.val (.int p0), .val (.int p1), .val (.int p2), .val (.int p3), .val (.int p4), .val (.int (2 : Int32)), .val (.long (v0_2 p1)), .second, .val (.long (v0_3 p2)), .second, .val (.long (v0_4 p3)), .second, .val (.long (v0_5 p4)), .second, .val (.ref b7), .val (.long (v0_42 p1)), .second, .unset, .unset, .unset, .unset] [])) t
          refine XS.lload X26.here hx rfl (hb hby at_95) rfl ?_
          show Steps p.tables e below (T26.setTop (mkF m 97 #[.val (.int p0), .val (.int p1), .val (.int p2), .val (.int p3), .val (.int p4), .val (.int (2 : Int32)), .val (.long (v0_2 p1)), .second, .val (.long (v0_3 p2)), .second, .val (.long (v0_4 p3)), .second, .val (.long (v0_5 p4)), .second, .val (.ref b7), .val (.long (v0_42 p1)), .second, .unset, .unset, .unset, .unset] [(.long (v0_42 p1))])) t
          refine XS.lload X26.here hx rfl (hb hby at_97) rfl ?_
          show Steps p.tables e below (T26.setTop (mkF m 99 #[.val (.int p0), .val (.int p1), .val (.int p2), .val (.int p3), .val (.int p4), .val (.int (2 : Int32)), .val (.long (v0_2 p1)), .second, .val (.long (v0_3 p2)), .second, .val (.long (v0_4 p3)), .second, .val (.long (v0_5 p4)), .second, .val (.ref b7), .val (.long (v0_42 p1)), .second, .unset, .unset, .unset, .unset] [(.long (v0_3 p2)), (.long (v0_42 p1))])) t
          refine XS.ladd X26.here hx rfl (hb hby at_99) rfl ?_
          show Steps p.tables e below (T26.setTop (mkF m 100 #[.val (.int p0), .val (.int p1), .val (.int p2), .val (.int p3), .val (.int p4), .val (.int (2 : Int32)), .val (.long (v0_2 p1)), .second, .val (.long (v0_3 p2)), .second, .val (.long (v0_4 p3)), .second, .val (.long (v0_5 p4)), .second, .val (.ref b7), .val (.long (v0_42 p1)), .second, .unset, .unset, .unset, .unset] [(.long ((v0_42 p1) + (v0_3 p2)))])) t
          refine XS.lstore X26.here hx rfl (hb hby at_100) rfl (l' := #[.val (.int p0), .val (.int p1), .val (.int p2), .val (.int p3), .val (.int p4), .val (.int (2 : Int32)), .val (.long (v0_2 p1)), .second, .val (.long (v0_3 p2)), .second, .val (.long (v0_4 p3)), .second, .val (.long (v0_5 p4)), .second, .val (.ref b7), .val (.long ((v0_42 p1) + (v0_3 p2))), .second, .unset, .unset, .unset, .unset]) rfl ?_
          show Steps p.tables e below (T26.setTop (mkF m 102 #[.val (.int p0), .val (.int p1), .val (.int p2), .val (.int p3), .val (.int p4), .val (.int (2 : Int32)), .val (.long (v0_2 p1)), .second, .val (.long (v0_3 p2)), .second, .val (.long (v0_4 p3)), .second, .val (.long (v0_5 p4)), .second, .val (.ref b7), .val (.long ((v0_42 p1) + (v0_3 p2))), .second, .unset, .unset, .unset, .unset] [])) t
          refine XS.iload X26.here hx rfl (hb hby at_102) rfl ?_
          show Steps p.tables e below (T26.setTop (mkF m 104 #[.val (.int p0), .val (.int p1), .val (.int p2), .val (.int p3), .val (.int p4), .val (.int (2 : Int32)), .val (.long (v0_2 p1)), .second, .val (.long (v0_3 p2)), .second, .val (.long (v0_4 p3)), .second, .val (.long (v0_5 p4)), .second, .val (.ref b7), .val (.long ((v0_42 p1) + (v0_3 p2))), .second, .unset, .unset, .unset, .unset] [(.int (2 : Int32))])) t
          refine XS.iconst X26.here hx rfl (hb hby at_104) ?_
          show Steps p.tables e below (T26.setTop (mkF m 105 #[.val (.int p0), .val (.int p1), .val (.int p2), .val (.int p3), .val (.int p4), .val (.int (2 : Int32)), .val (.long (v0_2 p1)), .second, .val (.long (v0_3 p2)), .second, .val (.long (v0_4 p3)), .second, .val (.long (v0_5 p4)), .second, .val (.ref b7), .val (.long ((v0_42 p1) + (v0_3 p2))), .second, .unset, .unset, .unset, .unset] [(.int (2 : Int32)), (.int (2 : Int32))])) t
          refine XS.icmpYes X26.here hx rfl (pc0 := 105) (pc' := 115) rfl (hb hby at_105) rfl (XT.ii_le_t (by decide : ¬ ((2 : Int32) < (2 : Int32)))) (by decide) (by decide) ?_
          show Steps p.tables e below (T26.setTop (mkF m 115 #[.val (.int p0), .val (.int p1), .val (.int p2), .val (.int p3), .val (.int p4), .val (.int (2 : Int32)), .val (.long (v0_2 p1)), .second, .val (.long (v0_3 p2)), .second, .val (.long (v0_4 p3)), .second, .val (.long (v0_5 p4)), .second, .val (.ref b7), .val (.long ((v0_42 p1) + (v0_3 p2))), .second, .unset, .unset, .unset, .unset] [])) t
          refine XS.iload X26.here hx rfl (hb hby at_115) rfl ?_
          show Steps p.tables e below (T26.setTop (mkF m 117 #[.val (.int p0), .val (.int p1), .val (.int p2), .val (.int p3), .val (.int p4), .val (.int (2 : Int32)), .val (.long (v0_2 p1)), .second, .val (.long (v0_3 p2)), .second, .val (.long (v0_4 p3)), .second, .val (.long (v0_5 p4)), .second, .val (.ref b7), .val (.long ((v0_42 p1) + (v0_3 p2))), .second, .unset, .unset, .unset, .unset] [(.int (2 : Int32))])) t
          refine XS.iconst X26.here hx rfl (hb hby at_117) ?_
          show Steps p.tables e below (T26.setTop (mkF m 118 #[.val (.int p0), .val (.int p1), .val (.int p2), .val (.int p3), .val (.int p4), .val (.int (2 : Int32)), .val (.long (v0_2 p1)), .second, .val (.long (v0_3 p2)), .second, .val (.long (v0_4 p3)), .second, .val (.long (v0_5 p4)), .second, .val (.ref b7), .val (.long ((v0_42 p1) + (v0_3 p2))), .second, .unset, .unset, .unset, .unset] [(.int (3 : Int32)), (.int (2 : Int32))])) t
          refine XS.icmpYes X26.here hx rfl (pc0 := 118) (pc' := 128) rfl (hb hby at_118) rfl (XT.ii_le_t (by decide : ¬ ((3 : Int32) < (2 : Int32)))) (by decide) (by decide) ?_
          show Steps p.tables e below (T26.setTop (mkF m 128 #[.val (.int p0), .val (.int p1), .val (.int p2), .val (.int p3), .val (.int p4), .val (.int (2 : Int32)), .val (.long (v0_2 p1)), .second, .val (.long (v0_3 p2)), .second, .val (.long (v0_4 p3)), .second, .val (.long (v0_5 p4)), .second, .val (.ref b7), .val (.long ((v0_42 p1) + (v0_3 p2))), .second, .unset, .unset, .unset, .unset] [])) t
          refine XS.lload X26.here hx rfl (hb hby at_128) rfl ?_
          show Steps p.tables e below (T26.setTop (mkF m 130 #[.val (.int p0), .val (.int p1), .val (.int p2), .val (.int p3), .val (.int p4), .val (.int (2 : Int32)), .val (.long (v0_2 p1)), .second, .val (.long (v0_3 p2)), .second, .val (.long (v0_4 p3)), .second, .val (.long (v0_5 p4)), .second, .val (.ref b7), .val (.long ((v0_42 p1) + (v0_3 p2))), .second, .unset, .unset, .unset, .unset] [(.long ((v0_42 p1) + (v0_3 p2)))])) t
          refine XS.lconst X26.here hx rfl (hb hby at_130) ?_
          show Steps p.tables e below (T26.setTop (mkF m 131 #[.val (.int p0), .val (.int p1), .val (.int p2), .val (.int p3), .val (.int p4), .val (.int (2 : Int32)), .val (.long (v0_2 p1)), .second, .val (.long (v0_3 p2)), .second, .val (.long (v0_4 p3)), .second, .val (.long (v0_5 p4)), .second, .val (.ref b7), .val (.long ((v0_42 p1) + (v0_3 p2))), .second, .unset, .unset, .unset, .unset] [(.long (0 : Int64)), (.long ((v0_42 p1) + (v0_3 p2)))])) t
          refine XT.lcmp X26.here hx rfl (hb hby at_131) rfl ?_
          show Steps p.tables e below (T26.setTop (mkF m 132 #[.val (.int p0), .val (.int p1), .val (.int p2), .val (.int p3), .val (.int p4), .val (.int (2 : Int32)), .val (.long (v0_2 p1)), .second, .val (.long (v0_3 p2)), .second, .val (.long (v0_4 p3)), .second, .val (.long (v0_5 p4)), .second, .val (.ref b7), .val (.long ((v0_42 p1) + (v0_3 p2))), .second, .unset, .unset, .unset, .unset] [(.int (XT.cmpL ((v0_42 p1) + (v0_3 p2)) (0 : Int64)))])) t
          by_cases hc58 : ((v0_42 p1) + (v0_3 p2)) = (0 : Int64)
          · refine XS.ifNo X26.here hx rfl (hb hby at_132) rfl (XT.ll_ne_f hc58) ?_
            show Steps p.tables e below (T26.setTop (mkF m 135 #[.val (.int p0), .val (.int p1), .val (.int p2), .val (.int p3), .val (.int p4), .val (.int (2 : Int32)), .val (.long (v0_2 p1)), .second, .val (.long (v0_3 p2)), .second, .val (.long (v0_4 p3)), .second, .val (.long (v0_5 p4)), .second, .val (.ref b7), .val (.long ((v0_42 p1) + (v0_3 p2))), .second, .unset, .unset, .unset, .unset] [])) t
            refine XS.dconst0 X26.here hx rfl (hb hby at_135) (v := FP.dconst0) rfl ?_
            show Steps p.tables e below (T26.setTop (mkF m 136 #[.val (.int p0), .val (.int p1), .val (.int p2), .val (.int p3), .val (.int p4), .val (.int (2 : Int32)), .val (.long (v0_2 p1)), .second, .val (.long (v0_3 p2)), .second, .val (.long (v0_4 p3)), .second, .val (.long (v0_5 p4)), .second, .val (.ref b7), .val (.long ((v0_42 p1) + (v0_3 p2))), .second, .unset, .unset, .unset, .unset] [(.double FP.dconst0)])) t
            refine XS.goto X26.here hx rfl (pc0 := 136) (pc' := 147) rfl (hb hby at_136) (by decide) (by decide) ?_
            show Steps p.tables e below (T26.setTop (mkF m 147 #[.val (.int p0), .val (.int p1), .val (.int p2), .val (.int p3), .val (.int p4), .val (.int (2 : Int32)), .val (.long (v0_2 p1)), .second, .val (.long (v0_3 p2)), .second, .val (.long (v0_4 p3)), .second, .val (.long (v0_5 p4)), .second, .val (.ref b7), .val (.long ((v0_42 p1) + (v0_3 p2))), .second, .unset, .unset, .unset, .unset] [(.double FP.dconst0)])) t
            have hq61 : (b0_60 p1 p2) = FP.dconst0 := by rw [b0_60, if_pos hc58]
            rw [hq61] at k
            exact k
          · refine XS.ifYes X26.here hx rfl (pc0 := 132) (pc' := 139) rfl (hb hby at_132) rfl (XT.ll_ne_t hc58) (by decide) (by decide) ?_
            show Steps p.tables e below (T26.setTop (mkF m 139 #[.val (.int p0), .val (.int p1), .val (.int p2), .val (.int p3), .val (.int p4), .val (.int (2 : Int32)), .val (.long (v0_2 p1)), .second, .val (.long (v0_3 p2)), .second, .val (.long (v0_4 p3)), .second, .val (.long (v0_5 p4)), .second, .val (.ref b7), .val (.long ((v0_42 p1) + (v0_3 p2))), .second, .unset, .unset, .unset, .unset] [])) t
            refine XS.iload X26.here hx rfl (hb hby at_139) rfl ?_
            show Steps p.tables e below (T26.setTop (mkF m 141 #[.val (.int p0), .val (.int p1), .val (.int p2), .val (.int p3), .val (.int p4), .val (.int (2 : Int32)), .val (.long (v0_2 p1)), .second, .val (.long (v0_3 p2)), .second, .val (.long (v0_4 p3)), .second, .val (.long (v0_5 p4)), .second, .val (.ref b7), .val (.long ((v0_42 p1) + (v0_3 p2))), .second, .unset, .unset, .unset, .unset] [(.int (2 : Int32))])) t
            refine XS.i2dS X26.here hx rfl (hb hby at_141) rfl (v := (FP.i2d (2 : Int32))) rfl ?_
            show Steps p.tables e below (T26.setTop (mkF m 142 #[.val (.int p0), .val (.int p1), .val (.int p2), .val (.int p3), .val (.int p4), .val (.int (2 : Int32)), .val (.long (v0_2 p1)), .second, .val (.long (v0_3 p2)), .second, .val (.long (v0_4 p3)), .second, .val (.long (v0_5 p4)), .second, .val (.ref b7), .val (.long ((v0_42 p1) + (v0_3 p2))), .second, .unset, .unset, .unset, .unset] [(.double (FP.i2d (2 : Int32)))])) t
            refine XS.dnegS X26.here hx rfl (hb hby at_142) rfl (v := (FP.dneg (FP.i2d (2 : Int32)))) rfl ?_
            show Steps p.tables e below (T26.setTop (mkF m 143 #[.val (.int p0), .val (.int p1), .val (.int p2), .val (.int p3), .val (.int p4), .val (.int (2 : Int32)), .val (.long (v0_2 p1)), .second, .val (.long (v0_3 p2)), .second, .val (.long (v0_4 p3)), .second, .val (.long (v0_5 p4)), .second, .val (.ref b7), .val (.long ((v0_42 p1) + (v0_3 p2))), .second, .unset, .unset, .unset, .unset] [(.double (FP.dneg (FP.i2d (2 : Int32))))])) t
            refine XS.lload X26.here hx rfl (hb hby at_143) rfl ?_
            show Steps p.tables e below (T26.setTop (mkF m 145 #[.val (.int p0), .val (.int p1), .val (.int p2), .val (.int p3), .val (.int p4), .val (.int (2 : Int32)), .val (.long (v0_2 p1)), .second, .val (.long (v0_3 p2)), .second, .val (.long (v0_4 p3)), .second, .val (.long (v0_5 p4)), .second, .val (.ref b7), .val (.long ((v0_42 p1) + (v0_3 p2))), .second, .unset, .unset, .unset, .unset] [(.long ((v0_42 p1) + (v0_3 p2))), (.double (FP.dneg (FP.i2d (2 : Int32))))])) t
            refine XS.l2dS X26.here hx rfl (hb hby at_145) rfl (v := (FP.l2d ((v0_42 p1) + (v0_3 p2)))) rfl ?_
            show Steps p.tables e below (T26.setTop (mkF m 146 #[.val (.int p0), .val (.int p1), .val (.int p2), .val (.int p3), .val (.int p4), .val (.int (2 : Int32)), .val (.long (v0_2 p1)), .second, .val (.long (v0_3 p2)), .second, .val (.long (v0_4 p3)), .second, .val (.long (v0_5 p4)), .second, .val (.ref b7), .val (.long ((v0_42 p1) + (v0_3 p2))), .second, .unset, .unset, .unset, .unset] [(.double (FP.l2d ((v0_42 p1) + (v0_3 p2)))), (.double (FP.dneg (FP.i2d (2 : Int32))))])) t
            refine XS.ddivS X26.here hx rfl (hb hby at_146) rfl (own_qL own_neg2 hc58) (v := (FP.ddiv (FP.dneg (FP.i2d (2 : Int32))) (FP.l2d ((v0_42 p1) + (v0_3 p2))))) rfl ?_
            show Steps p.tables e below (T26.setTop (mkF m 147 #[.val (.int p0), .val (.int p1), .val (.int p2), .val (.int p3), .val (.int p4), .val (.int (2 : Int32)), .val (.long (v0_2 p1)), .second, .val (.long (v0_3 p2)), .second, .val (.long (v0_4 p3)), .second, .val (.long (v0_5 p4)), .second, .val (.ref b7), .val (.long ((v0_42 p1) + (v0_3 p2))), .second, .unset, .unset, .unset, .unset] [(.double (FP.ddiv (FP.dneg (FP.i2d (2 : Int32))) (FP.l2d ((v0_42 p1) + (v0_3 p2)))))])) t
            have hq62 : (b0_60 p1 p2) = (FP.ddiv (FP.dneg (FP.i2d (2 : Int32))) (FP.l2d ((v0_42 p1) + (v0_3 p2)))) := by rw [b0_60, if_neg hc58]
            rw [hq62] at k
            exact k
        have go63 : ∀ t, Steps p.tables e below (T26.setTop (mkF m 153 #[.val (.int p0), .val (.int p1), .val (.int p2), .val (.int p3), .val (.int p4), .val (.int (2 : Int32)), .val (.long (v0_2 p1)), .second, .val (.long (v0_3 p2)), .second, .val (.long (v0_4 p3)), .second, .val (.long (v0_5 p4)), .second, .val (.ref b7), .val (.long ((v0_42 p1) + (v0_3 p2))), .second, .val (.double (b0_60 p1 p2)), .second, .unset, .unset] [(.int (2 : Int32)), (.ref b7)])) t → Steps p.tables e below (s₁.setTop (entryFrame m #[(.int p0), (.int p1), (.int p2), (.int p3), (.int p4)] maxLocals)) t := by
          intro t k
          refine go59 _ ?_
          refine XS.dstore X26.here hx rfl (hb hby at_147) rfl (l' := #[.val (.int p0), .val (.int p1), .val (.int p2), .val (.int p3), .val (.int p4), .val (.int (2 : Int32)), .val (.long (v0_2 p1)), .second, .val (.long (v0_3 p2)), .second, .val (.long (v0_4 p3)), .second, .val (.long (v0_5 p4)), .second, .val (.ref b7), .val (.long ((v0_42 p1) + (v0_3 p2))), .second, .val (.double (b0_60 p1 p2)), .second, .unset, .unset]) rfl ?_
          show Steps p.tables e below (T26.setTop (mkF m 149 #[.val (.int p0), .val (.int p1), .val (.int p2), .val (.int p3), .val (.int p4), .val (.int (2 : Int32)), .val (.long (v0_2 p1)), .second, .val (.long (v0_3 p2)), .second, .val (.long (v0_4 p3)), .second, .val (.long (v0_5 p4)), .second, .val (.ref b7), .val (.long ((v0_42 p1) + (v0_3 p2))), .second, .val (.double (b0_60 p1 p2)), .second, .unset, .unset] [])) t
          refine XS.aload X26.here hx rfl (hb hby at_149) rfl rfl ?_
          show Steps p.tables e below (T26.setTop (mkF m 151 #[.val (.int p0), .val (.int p1), .val (.int p2), .val (.int p3), .val (.int p4), .val (.int (2 : Int32)), .val (.long (v0_2 p1)), .second, .val (.long (v0_3 p2)), .second, .val (.long (v0_4 p3)), .second, .val (.long (v0_5 p4)), .second, .val (.ref b7), .val (.long ((v0_42 p1) + (v0_3 p2))), .second, .val (.double (b0_60 p1 p2)), .second, .unset, .unset] [(.ref b7)])) t
          refine XS.iload X26.here hx rfl (hb hby at_151) rfl ?_
          show Steps p.tables e below (T26.setTop (mkF m 153 #[.val (.int p0), .val (.int p1), .val (.int p2), .val (.int p3), .val (.int p4), .val (.int (2 : Int32)), .val (.long (v0_2 p1)), .second, .val (.long (v0_3 p2)), .second, .val (.long (v0_4 p3)), .second, .val (.long (v0_5 p4)), .second, .val (.ref b7), .val (.long ((v0_42 p1) + (v0_3 p2))), .second, .val (.double (b0_60 p1 p2)), .second, .unset, .unset] [(.int (2 : Int32)), (.ref b7)])) t
          exact k
        obtain ⟨_, _, ⟨T64, L64, k64, n64⟩, -, X64, ⟨Lc64, hQ64, l64, y64, z64⟩, st64⟩ := Jvm.LawKit.callS X26 hx (y := (⟨"com/example/axiscope/axiscope/engine/Hill", "estimate", "([DI)D"⟩ : MethodName)) hown (mvT hZ (hw _ (List.mem_of_getElem? (i := 2) rfl))) (mvT hZ (hw _ (List.mem_of_getElem? (i := 3) rfl))) (mvT hZ (hw _ (List.mem_of_getElem? (i := 4) rfl))) (mvT hZ (hw _ (List.mem_of_getElem? (i := 5) rfl))) (by decide) (backOf (W := 0) (rm1e2 l Z aZ hw [] b7 k7 (v0_2 p1) (v0_3 p2) (v0_4 p3) (v0_5 p4) h26 n0 Zs26 F29 (own_sm p1) (own_sm p2) (own_sm p3) (own_sm p4)) hZ (hw _ (List.mem_of_getElem? (i := 5) rfl)) (hw _ (List.mem_of_getElem? (i := 4) rfl)) (by decide) (by decide)) (g := (mkF m 153 #[.val (.int p0), .val (.int p1), .val (.int p2), .val (.int p3), .val (.int p4), .val (.int (2 : Int32)), .val (.long (v0_2 p1)), .second, .val (.long (v0_3 p2)), .second, .val (.long (v0_4 p3)), .second, .val (.long (v0_5 p4)), .second, .val (.ref b7), .val (.long ((v0_42 p1) + (v0_3 p2))), .second, .val (.double (b0_60 p1 p2)), .second, .unset, .unset] [(.int (2 : Int32)), (.ref b7)])) rfl (by rw [hml]; rfl) (argsL := [(.ref b7), (.int (2 : Int32))]) (rest := []) (lenOf pd_37 rfl) rfl (by show 2 * 0 + _ ≤ _; exact Nat.le_of_eq rfl) (hb hby at_153) (fun _ _ => ⟨rfl, e26, (by decide : 1 + 0 ≤ _), (by decide : 4 + 0 ≤ _)⟩)
        dsimp only [Pt.U, Pt.locs, Pt.cells, Pt.slots] at X64 l64 y64 z64 st64 hQ64
        subst l64 y64 z64
        obtain ⟨rfl, N64q, e64⟩ := hQ64
        have N64 := Fr.app N26 N64q
        have go65 : ∀ t, Steps p.tables e below (T64.setTop (mkF m 156 #[.val (.int p0), .val (.int p1), .val (.int p2), .val (.int p3), .val (.int p4), .val (.int (2 : Int32)), .val (.long (v0_2 p1)), .second, .val (.long (v0_3 p2)), .second, .val (.long (v0_4 p3)), .second, .val (.long (v0_5 p4)), .second, .val (.ref b7), .val (.long ((v0_42 p1) + (v0_3 p2))), .second, .val (.double (b0_60 p1 p2)), .second, .unset, .unset] [(.double (f1e2 (v0_2 p1) (v0_3 p2)))])) t → Steps p.tables e below (s₁.setTop (entryFrame m #[(.int p0), (.int p1), (.int p2), (.int p3), (.int p4)] maxLocals)) t := fun t k => go63 _ (st64 _ k)
        have go68 : ∀ t, Steps p.tables e below (T64.setTop (mkF m 171 #[.val (.int p0), .val (.int p1), .val (.int p2), .val (.int p3), .val (.int p4), .val (.int (2 : Int32)), .val (.long (v0_2 p1)), .second, .val (.long (v0_3 p2)), .second, .val (.long (v0_4 p3)), .second, .val (.long (v0_5 p4)), .second, .val (.ref b7), .val (.long ((v0_42 p1) + (v0_3 p2))), .second, .val (.double (b0_60 p1 p2)), .second, .val (.double (v0_66 p1 p2)), .second] [(.int (b0_69 p1 p2))])) t → Steps p.tables e below (s₁.setTop (entryFrame m #[(.int p0), (.int p1), (.int p2), (.int p3), (.int p4)] maxLocals)) t := by
          intro t k
          refine go65 _ ?_
          show Steps p.tables e below (T64.setTop (mkF m 156 #[.val (.int p0), .val (.int p1), .val (.int p2), .val (.int p3), .val (.int p4), .val (.int (2 : Int32)), .val (.long (v0_2 p1)), .second, .val (.long (v0_3 p2)), .second, .val (.long (v0_4 p3)), .second, .val (.long (v0_5 p4)), .second, .val (.ref b7), .val (.long ((v0_42 p1) + (v0_3 p2))), .second, .val (.double (b0_60 p1 p2)), .second, .unset, .unset] [(.double (v0_66 p1 p2))])) t
          refine XS.dstore X64.here hx rfl (hb hby at_156) rfl (l' := #[.val (.int p0), .val (.int p1), .val (.int p2), .val (.int p3), .val (.int p4), .val (.int (2 : Int32)), .val (.long (v0_2 p1)), .second, .val (.long (v0_3 p2)), .second, .val (.long (v0_4 p3)), .second, .val (.long (v0_5 p4)), .second, .val (.ref b7), .val (.long ((v0_42 p1) + (v0_3 p2))), .second, .val (.double (b0_60 p1 p2)), .second, .val (.double (v0_66 p1 p2)), .second]) rfl ?_
          show Steps p.tables e below (T64.setTop (mkF m 158 #[.val (.int p0), .val (.int p1), .val (.int p2), .val (.int p3), .val (.int p4), .val (.int (2 : Int32)), .val (.long (v0_2 p1)), .second, .val (.long (v0_3 p2)), .second, .val (.long (v0_4 p3)), .second, .val (.long (v0_5 p4)), .second, .val (.ref b7), .val (.long ((v0_42 p1) + (v0_3 p2))), .second, .val (.double (b0_60 p1 p2)), .second, .val (.double (v0_66 p1 p2)), .second] [])) t
          refine XS.dload X64.here hx rfl (hb hby at_158) rfl ?_
          show Steps p.tables e below (T64.setTop (mkF m 160 #[.val (.int p0), .val (.int p1), .val (.int p2), .val (.int p3), .val (.int p4), .val (.int (2 : Int32)), .val (.long (v0_2 p1)), .second, .val (.long (v0_3 p2)), .second, .val (.long (v0_4 p3)), .second, .val (.long (v0_5 p4)), .second, .val (.ref b7), .val (.long ((v0_42 p1) + (v0_3 p2))), .second, .val (.double (b0_60 p1 p2)), .second, .val (.double (v0_66 p1 p2)), .second] [(.double (v0_66 p1 p2))])) t
          refine XS.dload X64.here hx rfl (hb hby at_160) rfl ?_
          show Steps p.tables e below (T64.setTop (mkF m 162 #[.val (.int p0), .val (.int p1), .val (.int p2), .val (.int p3), .val (.int p4), .val (.int (2 : Int32)), .val (.long (v0_2 p1)), .second, .val (.long (v0_3 p2)), .second, .val (.long (v0_4 p3)), .second, .val (.long (v0_5 p4)), .second, .val (.ref b7), .val (.long ((v0_42 p1) + (v0_3 p2))), .second, .val (.double (b0_60 p1 p2)), .second, .val (.double (v0_66 p1 p2)), .second] [(.double (b0_60 p1 p2)), (.double (v0_66 p1 p2))])) t
          refine XS.dcmpS X64.here hx rfl (hb hby at_162) rfl (v := (cmpValue (FP.dcmp (v0_66 p1 p2) (b0_60 p1 p2)) .l)) rfl ?_
          show Steps p.tables e below (T64.setTop (mkF m 163 #[.val (.int p0), .val (.int p1), .val (.int p2), .val (.int p3), .val (.int p4), .val (.int (2 : Int32)), .val (.long (v0_2 p1)), .second, .val (.long (v0_3 p2)), .second, .val (.long (v0_4 p3)), .second, .val (.long (v0_5 p4)), .second, .val (.ref b7), .val (.long ((v0_42 p1) + (v0_3 p2))), .second, .val (.double (b0_60 p1 p2)), .second, .val (.double (v0_66 p1 p2)), .second] [(.int (cmpValue (FP.dcmp (v0_66 p1 p2) (b0_60 p1 p2)) .l))])) t
          by_cases hc67 : (cmpValue (FP.dcmp (v0_66 p1 p2) (b0_60 p1 p2)) .l) = (0 : Int32)
          · refine XS.ifNo X64.here hx rfl (hb hby at_163) rfl (XT.i0_ne_f hc67) ?_
            show Steps p.tables e below (T64.setTop (mkF m 166 #[.val (.int p0), .val (.int p1), .val (.int p2), .val (.int p3), .val (.int p4), .val (.int (2 : Int32)), .val (.long (v0_2 p1)), .second, .val (.long (v0_3 p2)), .second, .val (.long (v0_4 p3)), .second, .val (.long (v0_5 p4)), .second, .val (.ref b7), .val (.long ((v0_42 p1) + (v0_3 p2))), .second, .val (.double (b0_60 p1 p2)), .second, .val (.double (v0_66 p1 p2)), .second] [])) t
            refine XS.iconst X64.here hx rfl (hb hby at_166) ?_
            show Steps p.tables e below (T64.setTop (mkF m 167 #[.val (.int p0), .val (.int p1), .val (.int p2), .val (.int p3), .val (.int p4), .val (.int (2 : Int32)), .val (.long (v0_2 p1)), .second, .val (.long (v0_3 p2)), .second, .val (.long (v0_4 p3)), .second, .val (.long (v0_5 p4)), .second, .val (.ref b7), .val (.long ((v0_42 p1) + (v0_3 p2))), .second, .val (.double (b0_60 p1 p2)), .second, .val (.double (v0_66 p1 p2)), .second] [(.int (1 : Int32))])) t
            refine XS.goto X64.here hx rfl (pc0 := 167) (pc' := 171) rfl (hb hby at_167) (by decide) (by decide) ?_
            show Steps p.tables e below (T64.setTop (mkF m 171 #[.val (.int p0), .val (.int p1), .val (.int p2), .val (.int p3), .val (.int p4), .val (.int (2 : Int32)), .val (.long (v0_2 p1)), .second, .val (.long (v0_3 p2)), .second, .val (.long (v0_4 p3)), .second, .val (.long (v0_5 p4)), .second, .val (.ref b7), .val (.long ((v0_42 p1) + (v0_3 p2))), .second, .val (.double (b0_60 p1 p2)), .second, .val (.double (v0_66 p1 p2)), .second] [(.int (1 : Int32))])) t
            have hq70 : (b0_69 p1 p2) = (1 : Int32) := by rw [b0_69, if_pos hc67]
            rw [hq70] at k
            exact k
          · refine XS.ifYes X64.here hx rfl (pc0 := 163) (pc' := 170) rfl (hb hby at_163) rfl (XT.i0_ne_t hc67) (by decide) (by decide) ?_
            show Steps p.tables e below (T64.setTop (mkF m 170 #[.val (.int p0), .val (.int p1), .val (.int p2), .val (.int p3), .val (.int p4), .val (.int (2 : Int32)), .val (.long (v0_2 p1)), .second, .val (.long (v0_3 p2)), .second, .val (.long (v0_4 p3)), .second, .val (.long (v0_5 p4)), .second, .val (.ref b7), .val (.long ((v0_42 p1) + (v0_3 p2))), .second, .val (.double (b0_60 p1 p2)), .second, .val (.double (v0_66 p1 p2)), .second] [])) t
            refine XS.iconst X64.here hx rfl (hb hby at_170) ?_
            show Steps p.tables e below (T64.setTop (mkF m 171 #[.val (.int p0), .val (.int p1), .val (.int p2), .val (.int p3), .val (.int p4), .val (.int (2 : Int32)), .val (.long (v0_2 p1)), .second, .val (.long (v0_3 p2)), .second, .val (.long (v0_4 p3)), .second, .val (.long (v0_5 p4)), .second, .val (.ref b7), .val (.long ((v0_42 p1) + (v0_3 p2))), .second, .val (.double (b0_60 p1 p2)), .second, .val (.double (v0_66 p1 p2)), .second] [(.int (0 : Int32))])) t
            have hq71 : (b0_69 p1 p2) = (0 : Int32) := by rw [b0_69, if_neg hc67]
            rw [hq71] at k
            exact k
        obtain ⟨fs, hr, hrun, hended, hW, hsame⟩ := X64.leave (v := some (.int (b0_69 p1 p2))) (fun h => by rw [Bd.returns] at h; cases h)
        refine ⟨_, _, go68 _ (Jvm.RoadKit.retOut X64 hx Bd.returns (own_nz (by unfold b0_69; (repeat' split) <;> first | exact Or.inl rfl | exact Or.inr rfl)) (Or.inl ⟨rfl, Or.inr (Or.inl rfl), _, rfl⟩) (hb hby at_171) hr), hrun, hended, _, _, rfl, ?_, ⟨_, rfl⟩, hW, hsame.mono (by decide) (by decide)⟩
        show Q0 _ _ p0 p1 p2 p3 p4 h0 _ (T64.setFrames fs).heap _
        have hE : (T64.setFrames fs).heap = h26 := e64
        rw [hE]
        exact ⟨congrArg (fun z => some (Value.int z)) ((by rw [f0, if_neg hs30, if_neg hs40, if_pos hs56] : (b0_69 p1 p2) = (f0 p0 p1 p2 p3 p4)).trans (f0_one p0 p1 p2 p3 p4)), N64⟩
      · by_cases hs72 : (v0_1 p0) = (3 : Int32)
        · have go73 : ∀ t, Steps p.tables e below (T26.setTop (mkF m 74 #[.val (.int p0), .val (.int p1), .val (.int p2), .val (.int p3), .val (.int p4), .val (.int (3 : Int32)), .val (.long (v0_2 p1)), .second, .val (.long (v0_3 p2)), .second, .val (.long (v0_4 p3)), .second, .val (.long (v0_5 p4)), .second, .val (.ref b7), .unset, .unset, .unset, .unset, .unset, .unset] [])) t → Steps p.tables e below (s₁.setTop (entryFrame m #[(.int p0), (.int p1), (.int p2), (.int p3), (.int p4)] maxLocals)) t := by
            have q := go28
            rw [hs72] at q
            exact q
          have go76 : ∀ t, Steps p.tables e below (T26.setTop (mkF m 147 #[.val (.int p0), .val (.int p1), .val (.int p2), .val (.int p3), .val (.int p4), .val (.int (3 : Int32)), .val (.long (v0_2 p1)), .second, .val (.long (v0_3 p2)), .second, .val (.long (v0_4 p3)), .second, .val (.long (v0_5 p4)), .second, .val (.ref b7), .val (.long (v0_74 p1 p2 p3)), .second, .unset, .unset, .unset, .unset] [(.double (b0_77 p1 p2 p3))])) t → Steps p.tables e below (s₁.setTop (entryFrame m #[(.int p0), (.int p1), (.int p2), (.int p3), (.int p4)] maxLocals)) t := by
            intro t k
            refine go73 _ ?_
            refine XS.lconst X26.here hx rfl (hb hby at_74) ?_
            show Steps p.tables e below (T26.setTop (mkF m 75 #[.val (.int p0), .val (.int p1), .val (.int p2), .val (.int p3), .val (.int p4), .val (.int (3 : Int32)), .val (.long (v0_2 p1)), .second, .val (.long (v0_3 p2)), .second, .val (.long (v0_4 p3)), .second, .val (.long (v0_5 p4)), .second, .val (.ref b7), .unset, .unset, .unset, .unset, .unset, .unset] [(.long (0 : Int64))])) t
            refine XS.lstore X26.here hx rfl (hb hby at_75) rfl (l' := #[.val (.int p0), .val (.int p1), .val (.int p2), .val (.int p3), .val (.int p4), .val (.int (3 : Int32)), .val (.long (v0_2 p1)), .second, .val (.long (v0_3 p2)), .second, .val (.long (v0_4 p3)), .second, .val (.long (v0_5 p4)), .second, .val (.ref b7), .val (.long (0 : Int64)), .second, .unset, .unset, .unset, .unset]) rfl ?_
            show Steps p.tables e below (T26.setTop (mkF m 77 #[.val (.int p0), .val (.int p1), .val (.int p2), .val (.int p3), .val (.int p4), .val (.int (3 : Int32)), .val (.long (v0_2 p1)), .second, .val (.long (v0_3 p2)), .second, .val (.long (v0_4 p3)), .second, .val (.long (v0_5 p4)), .second, .val (.ref b7), .val (.long (0 : Int64)), .second, .unset, .unset, .unset, .unset] [])) t
            refine XS.iload X26.here hx rfl (hb hby at_77) rfl ?_
            show Steps p.tables e below (T26.setTop (mkF m 79 #[.val (.int p0), .val (.int p1), .val (.int p2), .val (.int p3), .val (.int p4), .val (.int (3 : Int32)), .val (.long (v0_2 p1)), .second, .val (.long (v0_3 p2)), .second, .val (.long (v0_4 p3)), .second, .val (.long (v0_5 p4)), .second, .val (.ref b7), .val (.long (0 : Int64)), .second, .unset, .unset, .unset, .unset] [(.int (3 : Int32))])) t
            refine XS.ifNo X26.here hx rfl (hb hby at_79) rfl (XT.i0_le_f (by decide : ((0 : Int32) < (3 : Int32)))) ?_
            show Steps p.tables e below (T26.setTop (mkF m 82 #[.val (.int p0), .val (.int p1), .val (.int p2), .val (.int p3), .val (.int p4), .val (.int (3 : Int32)), .val (.long (v0_2 p1)), .second, .val (.long (v0_3 p2)), .second, .val (.long (v0_4 p3)), .second, .val (.long (v0_5 p4)), .second, .val (.ref b7), .val (.long (0 : Int64)), .second, .unset, .unset, .unset, .unset] [])) t
            refine XS.lload X26.here hx rfl (hb hby at_82) rfl ?_
            show Steps p.tables e below (T26.setTop (mkF m 84 #[.val (.int p0), .val (.int p1), .val (.int p2), .val (.int p3), .val (.int p4), .val (.int (3 : Int32)), .val (.long (v0_2 p1)), .second, .val (.long (v0_3 p2)), .second, .val (.long (v0_4 p3)), .second, .val (.long (v0_5 p4)), .second, .val (.ref b7), .val (.long (0 : Int64)), .second, .unset, .unset, .unset, .unset] [(.long (0 : Int64))])) t
            refine XS.lload X26.here hx rfl (hb hby at_84) rfl ?_
            show Steps p.tables e below (T26.setTop (mkF m 86 #[.val (.int p0), .val (.int p1), .val (.int p2), .val (.int p3), .val (.int p4), .val (.int (3 : Int32)), .val (.long (v0_2 p1)), .second, .val (.long (v0_3 p2)), .second, .val (.long (v0_4 p3)), .second, .val (.long (v0_5 p4)), .second, .val (.ref b7), .val (.long (0 : Int64)), .second, .unset, .unset, .unset, .unset] [(.long (v0_2 p1)), (.long (0 : Int64))])) t
            refine XS.ladd X26.here hx rfl (hb hby at_86) rfl ?_
            show Steps p.tables e below (T26.setTop (mkF m 87 #[.val (.int p0), .val (.int p1), .val (.int p2), .val (.int p3), .val (.int p4), .val (.int (3 : Int32)), .val (.long (v0_2 p1)), .second, .val (.long (v0_3 p2)), .second, .val (.long (v0_4 p3)), .second, .val (.long (v0_5 p4)), .second, .val (.ref b7), .val (.long (0 : Int64)), .second, .unset, .unset, .unset, .unset] [(.long ((0 : Int64) + (v0_2 p1)))])) t
            show Steps p.tables e below (T26.setTop (mkF m 87 #[.val (.int p0), .val (.int p1), .val (.int p2), .val (.int p3), .val (.int p4), .val (.int (3 : Int32)), .val (.long (v0_2 p1)), .second, .val (.long (v0_3 p2)), .second, .val (.long (v0_4 p3)), .second, .val (.long (v0_5 p4)), .second, .val (.ref b7), .val (.long (0 : Int64)), .second, .unset, .unset, .unset, .unset] [(.long (v0_42 p1))])) t
            refine XS.lstore X26.here hx rfl (hb hby at_87) rfl (l' := #[.val (.int p0), .val (.int p1), .val (.int p2), .val (.int p3), .val (.int p4), .val (.int (3 : Int32)), .val (.long (v0_2 p1)), .second, .val (.long (v0_3 p2)), .second, .val (.long (v0_4 p3)), .second, .val (.long (v0_5 p4)), .second, .val (.ref b7), .val (.long (v0_42 p1)), .second, .unset, .unset, .unset, .unset]) rfl ?_
            show Steps p.tables e below (T26.setTop (mkF m 89 #[.val (.int p0), .val (.int p1), .val (.int p2), .val (.int p3), .val (.int p4), .val (.int (3 : Int32)), .val (.long (v0_2 p1)), .second, .val (.long (v0_3 p2)), .second, .val (.long (v0_4 p3)), .second, .val (.long (v0_5 p4)), .second, .val (.ref b7), .val (.long (v0_42 p1)), .second, .unset, .unset, .unset, .unset] [])) t
            refine XS.iload X26.here hx rfl (hb hby at_89) rfl ?_
            show Steps p.tables e below (T26.setTop (mkF m 91 #[.val (.int p0), .val (.int p1), .val (.int p2), .val (.int p3), .val (.int p4), .val (.int (3 : Int32)), .val (.long (v0_2 p1)), .second, .val (.long (v0_3 p2)), .second, .val (.long (v0_4 p3)), .second, .val (.long (v0_5 p4)), .second, .val (.ref b7), .val (.long (v0_42 p1)), .second, .unset, .unset, .unset, .unset] [(.int (3 : Int32))])) t
            refine XS.iconst X26.here hx rfl (hb hby at_91) ?_
            show Steps p.tables e below (T26.setTop (mkF m 92 #[.val (.int p0), .val (.int p1), .val (.int p2), .val (.int p3), .val (.int p4), .val (.int (3 : Int32)), .val (.long (v0_2 p1)), .second, .val (.long (v0_3 p2)), .second, .val (.long (v0_4 p3)), .second, .val (.long (v0_5 p4)), .second, .val (.ref b7), .val (.long (v0_42 p1)), .second, .unset, .unset, .unset, .unset] [(.int (1 : Int32)), (.int (3 : Int32))])) t
            refine XS.icmpNo X26.here hx rfl (hb hby at_92) rfl (XT.ii_le_f (by decide : ((1 : Int32) < (3 : Int32)))) ?_
            show Steps p.tables e below (T26.setTop (mkF m 95 #[.val (.int p0), .val (.int p1), .val (.int p2), .val (.int p3), .val (.int p4), .val (.int (3 : Int32)), .val (.long (v0_2 p1)), .second, .val (.long (v0_3 p2)), .second, .val (.long (v0_4 p3)), .second, .val (.long (v0_5 p4)), .second, .val (.ref b7), .val (.long (v0_42 p1)), .second, .unset, .unset, .unset, .unset] [])) t
            refine XS.lload X26.here hx rfl (hb hby at_95) rfl ?_
            show Steps p.tables e below (T26.setTop (mkF m 97 #[.val (.int p0), .val (.int p1), .val (.int p2), .val (.int p3), .val (.int p4), .val (.int (3 : Int32)), .val (.long (v0_2 p1)), .second, .val (.long (v0_3 p2)), .second, .val (.long (v0_4 p3)), .second, .val (.long (v0_5 p4)), .second, .val (.ref b7), .val (.long (v0_42 p1)), .second, .unset, .unset, .unset, .unset] [(.long (v0_42 p1))])) t
            refine XS.lload X26.here hx rfl (hb hby at_97) rfl ?_
            show Steps p.tables e below (T26.setTop (mkF m 99 #[.val (.int p0), .val (.int p1), .val (.int p2), .val (.int p3), .val (.int p4), .val (.int (3 : Int32)), .val (.long (v0_2 p1)), .second, .val (.long (v0_3 p2)), .second, .val (.long (v0_4 p3)), .second, .val (.long (v0_5 p4)), .second, .val (.ref b7), .val (.long (v0_42 p1)), .second, .unset, .unset, .unset, .unset] [(.long (v0_3 p2)), (.long (v0_42 p1))])) t
            refine XS.ladd X26.here hx rfl (hb hby at_99) rfl ?_
            show Steps p.tables e below (T26.setTop (mkF m 100 #[.val (.int p0), .val (.int p1), .val (.int p2), .val (.int p3), .val (.int p4), .val (.int (3 : Int32)), .val (.long (v0_2 p1)), .second, .val (.long (v0_3 p2)), .second, .val (.long (v0_4 p3)), .second, .val (.long (v0_5 p4)), .second, .val (.ref b7), .val (.long (v0_42 p1)), .second, .unset, .unset, .unset, .unset] [(.long ((v0_42 p1) + (v0_3 p2)))])) t
            refine XS.lstore X26.here hx rfl (hb hby at_100) rfl (l' := #[.val (.int p0), .val (.int p1), .val (.int p2), .val (.int p3), .val (.int p4), .val (.int (3 : Int32)), .val (.long (v0_2 p1)), .second, .val (.long (v0_3 p2)), .second, .val (.long (v0_4 p3)), .second, .val (.long (v0_5 p4)), .second, .val (.ref b7), .val (.long ((v0_42 p1) + (v0_3 p2))), .second, .unset, .unset, .unset, .unset]) rfl ?_
            show Steps p.tables e below (T26.setTop (mkF m 102 #[.val (.int p0), .val (.int p1), .val (.int p2), .val (.int p3), .val (.int p4), .val (.int (3 : Int32)), .val (.long (v0_2 p1)), .second, .val (.long (v0_3 p2)), .second, .val (.long (v0_4 p3)), .second, .val (.long (v0_5 p4)), .second, .val (.ref b7), .val (.long ((v0_42 p1) + (v0_3 p2))), .second, .unset, .unset, .unset, .unset] [])) t
            refine XS.iload X26.here hx rfl (hb hby at_102) rfl ?_
            show Steps p.tables e below (T26.setTop (mkF m 104 #[.val (.int p0), .val (.int p1), .val (.int p2), .val (.int p3), .val (.int p4), .val (.int (3 : Int32)), .val (.long (v0_2 p1)), .second, .val (.long (v0_3 p2)), .second, .val (.long (v0_4 p3)), .second, .val (.long (v0_5 p4)), .second, .val (.ref b7), .val (.long ((v0_42 p1) + (v0_3 p2))), .second, .unset, .unset, .unset, .unset] [(.int (3 : Int32))])) t
            refine XS.iconst X26.here hx rfl (hb hby at_104) ?_
            show Steps p.tables e below (T26.setTop (mkF m 105 #[.val (.int p0), .val (.int p1), .val (.int p2), .val (.int p3), .val (.int p4), .val (.int (3 : Int32)), .val (.long (v0_2 p1)), .second, .val (.long (v0_3 p2)), .second, .val (.long (v0_4 p3)), .second, .val (.long (v0_5 p4)), .second, .val (.ref b7), .val (.long ((v0_42 p1) + (v0_3 p2))), .second, .unset, .unset, .unset, .unset] [(.int (2 : Int32)), (.int (3 : Int32))])) t
            refine XS.icmpNo X26.here hx rfl (hb hby at_105) rfl (XT.ii_le_f (by decide : ((2 : Int32) < (3 : Int32)))) ?_
            show Steps p.tables e below (T26.setTop (mkF m 108 #[.val (.int p0), .val (.int p1), .val (.int p2), .val (.int p3), .val (.int p4), .val (.int (3 : Int32)), .val (.long (v0_2 p1)), .second, .val (.long (v0_3 p2)), .second, .val (.long (v0_4 p3)), .second, .val (.long (v0_5 p4)), .second, .val (.ref b7), .val (.long ((v0_42 p1) + (v0_3 p2))), .second, .unset, .unset, .unset, .unset] [])) t
            refine XS.lload X26.here hx rfl (hb hby at_108) rfl ?_
            show Steps p.tables e below (T26.setTop (mkF m 110 #[.val (.int p0), .val (.int p1), .val (.int p2), .val (.int p3), .val (.int p4), .val (.int (3 : Int32)), .val (.long (v0_2 p1)), .second, .val (.long (v0_3 p2)), .second, .val (.long (v0_4 p3)), .second, .val (.long (v0_5 p4)), .second, .val (.ref b7), .val (.long ((v0_42 p1) + (v0_3 p2))), .second, .unset, .unset, .unset, .unset] [(.long ((v0_42 p1) + (v0_3 p2)))])) t
            refine XS.lload X26.here hx rfl (hb hby at_110) rfl ?_
            show Steps p.tables e below (T26.setTop (mkF m 112 #[.val (.int p0), .val (.int p1), .val (.int p2), .val (.int p3), .val (.int p4), .val (.int (3 : Int32)), .val (.long (v0_2 p1)), .second, .val (.long (v0_3 p2)), .second, .val (.long (v0_4 p3)), .second, .val (.long (v0_5 p4)), .second, .val (.ref b7), .val (.long ((v0_42 p1) + (v0_3 p2))), .second, .unset, .unset, .unset, .unset] [(.long (v0_4 p3)), (.long ((v0_42 p1) + (v0_3 p2)))])) t
            refine XS.ladd X26.here hx rfl (hb hby at_112) rfl ?_
            show Steps p.tables e below (T26.setTop (mkF m 113 #[.val (.int p0), .val (.int p1), .val (.int p2), .val (.int p3), .val (.int p4), .val (.int (3 : Int32)), .val (.long (v0_2 p1)), .second, .val (.long (v0_3 p2)), .second, .val (.long (v0_4 p3)), .second, .val (.long (v0_5 p4)), .second, .val (.ref b7), .val (.long ((v0_42 p1) + (v0_3 p2))), .second, .unset, .unset, .unset, .unset] [(.long (((v0_42 p1) + (v0_3 p2)) + (v0_4 p3)))])) t
            show Steps p.tables e below (T26.setTop (mkF m 113 #[.val (.int p0), .val (.int p1), .val (.int p2), .val (.int p3), .val (.int p4), .val (.int (3 : Int32)), .val (.long (v0_2 p1)), .second, .val (.long (v0_3 p2)), .second, .val (.long (v0_4 p3)), .second, .val (.long (v0_5 p4)), .second, .val (.ref b7), .val (.long ((v0_42 p1) + (v0_3 p2))), .second, .unset, .unset, .unset, .unset] [(.long (v0_74 p1 p2 p3))])) t
            refine XS.lstore X26.here hx rfl (hb hby at_113) rfl (l' := #[.val (.int p0), .val (.int p1), .val (.int p2), .val (.int p3), .val (.int p4), .val (.int (3 : Int32)), .val (.long (v0_2 p1)), .second, .val (.long (v0_3 p2)), .second, .val (.long (v0_4 p3)), .second, .val (.long (v0_5 p4)), .second, .val (.ref b7), .val (.long (v0_74 p1 p2 p3)), .second, .unset, .unset, .unset, .unset]) rfl ?_
            show Steps p.tables e below (T26.setTop (mkF m 115 #[.val (.int p0), .val (.int p1), .val (.int p2), .val (.int p3), .val (.int p4), .val (.int (3 : Int32)), .val (.long (v0_2 p1)), .second, .val (.long (v0_3 p2)), .second, .val (.long (v0_4 p3)), .second, .val (.long (v0_5 p4)), .second, .val (.ref b7), .val (.long (v0_74 p1 p2 p3)), .second, .unset, .unset, .unset, .unset] [])) t
            refine XS.iload X26.here hx rfl (hb hby at_115) rfl ?_
            show Steps p.tables e below (T26.setTop (mkF m 117 #[.val (.int p0), .val (.int p1), .val (.int p2), .val (.int p3), .val (.int p4), .val (.int (3 : Int32)), .val (.long (v0_2 p1)), .second, .val (.long (v0_3 p2)), .second, .val (.long (v0_4 p3)), .second, .val (.long (v0_5 p4)), .second, .val (.ref b7), .val (.long (v0_74 p1 p2 p3)), .second, .unset, .unset, .unset, .unset] [(.int (3 : Int32))])) t
            refine XS.iconst X26.here hx rfl (hb hby at_117) ?_
            show Steps p.tables e below (T26.setTop (mkF m 118 #[.val (.int p0), .val (.int p1), .val (.int p2), .val (.int p3), .val (.int p4), .val (.int (3 : Int32)), .val (.long (v0_2 p1)), .second, .val (.long (v0_3 p2)), .second, .val (.long (v0_4 p3)), .second, .val (.long (v0_5 p4)), .second, .val (.ref b7), .val (.long (v0_74 p1 p2 p3)), .second, .unset, .unset, .unset, .unset] [(.int (3 : Int32)), (.int (3 : Int32))])) t
            refine XS.icmpYes X26.here hx rfl (pc0 := 118) (pc' := 128) rfl (hb hby at_118) rfl (XT.ii_le_t (by decide : ¬ ((3 : Int32) < (3 : Int32)))) (by decide) (by decide) ?_
            show Steps p.tables e below (T26.setTop (mkF m 128 #[.val (.int p0), .val (.int p1), .val (.int p2), .val (.int p3), .val (.int p4), .val (.int (3 : Int32)), .val (.long (v0_2 p1)), .second, .val (.long (v0_3 p2)), .second, .val (.long (v0_4 p3)), .second, .val (.long (v0_5 p4)), .second, .val (.ref b7), .val (.long (v0_74 p1 p2 p3)), .second, .unset, .unset, .unset, .unset] [])) t
            refine XS.lload X26.here hx rfl (hb hby at_128) rfl ?_
            show Steps p.tables e below (T26.setTop (mkF m 130 #[.val (.int p0), .val (.int p1), .val (.int p2), .val (.int p3), .val (.int p4), .val (.int (3 : Int32)), .val (.long (v0_2 p1)), .second, .val (.long (v0_3 p2)), .second, .val (.long (v0_4 p3)), .second, .val (.long (v0_5 p4)), .second, .val (.ref b7), .val (.long (v0_74 p1 p2 p3)), .second, .unset, .unset, .unset, .unset] [(.long (v0_74 p1 p2 p3))])) t
            refine XS.lconst X26.here hx rfl (hb hby at_130) ?_
            show Steps p.tables e below (T26.setTop (mkF m 131 #[.val (.int p0), .val (.int p1), .val (.int p2), .val (.int p3), .val (.int p4), .val (.int (3 : Int32)), .val (.long (v0_2 p1)), .second, .val (.long (v0_3 p2)), .second, .val (.long (v0_4 p3)), .second, .val (.long (v0_5 p4)), .second, .val (.ref b7), .val (.long (v0_74 p1 p2 p3)), .second, .unset, .unset, .unset, .unset] [(.long (0 : Int64)), (.long (v0_74 p1 p2 p3))])) t
            refine XT.lcmp X26.here hx rfl (hb hby at_131) rfl ?_
            show Steps p.tables e below (T26.setTop (mkF m 132 #[.val (.int p0), .val (.int p1), .val (.int p2), .val (.int p3), .val (.int p4), .val (.int (3 : Int32)), .val (.long (v0_2 p1)), .second, .val (.long (v0_3 p2)), .second, .val (.long (v0_4 p3)), .second, .val (.long (v0_5 p4)), .second, .val (.ref b7), .val (.long (v0_74 p1 p2 p3)), .second, .unset, .unset, .unset, .unset] [(.int (XT.cmpL (v0_74 p1 p2 p3) (0 : Int64)))])) t
            by_cases hc75 : (v0_74 p1 p2 p3) = (0 : Int64)
            · refine XS.ifNo X26.here hx rfl (hb hby at_132) rfl (XT.ll_ne_f hc75) ?_
              show Steps p.tables e below (T26.setTop (mkF m 135 #[.val (.int p0), .val (.int p1), .val (.int p2), .val (.int p3), .val (.int p4), .val (.int (3 : Int32)), .val (.long (v0_2 p1)), .second, .val (.long (v0_3 p2)), .second, .val (.long (v0_4 p3)), .second, .val (.long (v0_5 p4)), .second, .val (.ref b7), .val (.long (v0_74 p1 p2 p3)), .second, .unset, .unset, .unset, .unset] [])) t
              refine XS.dconst0 X26.here hx rfl (hb hby at_135) (v := FP.dconst0) rfl ?_
              show Steps p.tables e below (T26.setTop (mkF m 136 #[.val (.int p0), .val (.int p1), .val (.int p2), .val (.int p3), .val (.int p4), .val (.int (3 : Int32)), .val (.long (v0_2 p1)), .second, .val (.long (v0_3 p2)), .second, .val (.long (v0_4 p3)), .second, .val (.long (v0_5 p4)), .second, .val (.ref b7), .val (.long (v0_74 p1 p2 p3)), .second, .unset, .unset, .unset, .unset] [(.double FP.dconst0)])) t
              refine XS.goto X26.here hx rfl (pc0 := 136) (pc' := 147) rfl (hb hby at_136) (by decide) (by decide) ?_
              show Steps p.tables e below (T26.setTop (mkF m 147 #[.val (.int p0), .val (.int p1), .val (.int p2), .val (.int p3), .val (.int p4), .val (.int (3 : Int32)), .val (.long (v0_2 p1)), .second, .val (.long (v0_3 p2)), .second, .val (.long (v0_4 p3)), .second, .val (.long (v0_5 p4)), .second, .val (.ref b7), .val (.long (v0_74 p1 p2 p3)), .second, .unset, .unset, .unset, .unset] [(.double FP.dconst0)])) t
              have hq78 : (b0_77 p1 p2 p3) = FP.dconst0 := by rw [b0_77, if_pos hc75]
              rw [hq78] at k
              exact k
            · refine XS.ifYes X26.here hx rfl (pc0 := 132) (pc' := 139) rfl (hb hby at_132) rfl (XT.ll_ne_t hc75) (by decide) (by decide) ?_
              show Steps p.tables e below (T26.setTop (mkF m 139 #[.val (.int p0), .val (.int p1), .val (.int p2), .val (.int p3), .val (.int p4), .val (.int (3 : Int32)), .val (.long (v0_2 p1)), .second, .val (.long (v0_3 p2)), .second, .val (.long (v0_4 p3)), .second, .val (.long (v0_5 p4)), .second, .val (.ref b7), .val (.long (v0_74 p1 p2 p3)), .second, .unset, .unset, .unset, .unset] [])) t
              refine XS.iload X26.here hx rfl (hb hby at_139) rfl ?_
              show Steps p.tables e below (T26.setTop (mkF m 141 #[.val (.int p0), .val (.int p1), .val (.int p2), .val (.int p3), .val (.int p4), .val (.int (3 : Int32)), .val (.long (v0_2 p1)), .second, .val (.long (v0_3 p2)), .second, .val (.long (v0_4 p3)), .second, .val (.long (v0_5 p4)), .second, .val (.ref b7), .val (.long (v0_74 p1 p2 p3)), .second, .unset, .unset, .unset, .unset] [(.int (3 : Int32))])) t
              refine XS.i2dS X26.here hx rfl (hb hby at_141) rfl (v := (FP.i2d (3 : Int32))) rfl ?_
              show Steps p.tables e below (T26.setTop (mkF m 142 #[.val (.int p0), .val (.int p1), .val (.int p2), .val (.int p3), .val (.int p4), .val (.int (3 : Int32)), .val (.long (v0_2 p1)), .second, .val (.long (v0_3 p2)), .second, .val (.long (v0_4 p3)), .second, .val (.long (v0_5 p4)), .second, .val (.ref b7), .val (.long (v0_74 p1 p2 p3)), .second, .unset, .unset, .unset, .unset] [(.double (FP.i2d (3 : Int32)))])) t
              refine XS.dnegS X26.here hx rfl (hb hby at_142) rfl (v := (FP.dneg (FP.i2d (3 : Int32)))) rfl ?_
              show Steps p.tables e below (T26.setTop (mkF m 143 #[.val (.int p0), .val (.int p1), .val (.int p2), .val (.int p3), .val (.int p4), .val (.int (3 : Int32)), .val (.long (v0_2 p1)), .second, .val (.long (v0_3 p2)), .second, .val (.long (v0_4 p3)), .second, .val (.long (v0_5 p4)), .second, .val (.ref b7), .val (.long (v0_74 p1 p2 p3)), .second, .unset, .unset, .unset, .unset] [(.double (FP.dneg (FP.i2d (3 : Int32))))])) t
              refine XS.lload X26.here hx rfl (hb hby at_143) rfl ?_
              show Steps p.tables e below (T26.setTop (mkF m 145 #[.val (.int p0), .val (.int p1), .val (.int p2), .val (.int p3), .val (.int p4), .val (.int (3 : Int32)), .val (.long (v0_2 p1)), .second, .val (.long (v0_3 p2)), .second, .val (.long (v0_4 p3)), .second, .val (.long (v0_5 p4)), .second, .val (.ref b7), .val (.long (v0_74 p1 p2 p3)), .second, .unset, .unset, .unset, .unset] [(.long (v0_74 p1 p2 p3)), (.double (FP.dneg (FP.i2d (3 : Int32))))])) t
              refine XS.l2dS X26.here hx rfl (hb hby at_145) rfl (v := (FP.l2d (v0_74 p1 p2 p3))) rfl ?_
              show Steps p.tables e below (T26.setTop (mkF m 146 #[.val (.int p0), .val (.int p1), .val (.int p2), .val (.int p3), .val (.int p4), .val (.int (3 : Int32)), .val (.long (v0_2 p1)), .second, .val (.long (v0_3 p2)), .second, .val (.long (v0_4 p3)), .second, .val (.long (v0_5 p4)), .second, .val (.ref b7), .val (.long (v0_74 p1 p2 p3)), .second, .unset, .unset, .unset, .unset] [(.double (FP.l2d (v0_74 p1 p2 p3))), (.double (FP.dneg (FP.i2d (3 : Int32))))])) t
              refine XS.ddivS X26.here hx rfl (hb hby at_146) rfl (own_qL own_neg3 hc75) (v := (FP.ddiv (FP.dneg (FP.i2d (3 : Int32))) (FP.l2d (v0_74 p1 p2 p3)))) rfl ?_
              show Steps p.tables e below (T26.setTop (mkF m 147 #[.val (.int p0), .val (.int p1), .val (.int p2), .val (.int p3), .val (.int p4), .val (.int (3 : Int32)), .val (.long (v0_2 p1)), .second, .val (.long (v0_3 p2)), .second, .val (.long (v0_4 p3)), .second, .val (.long (v0_5 p4)), .second, .val (.ref b7), .val (.long (v0_74 p1 p2 p3)), .second, .unset, .unset, .unset, .unset] [(.double (FP.ddiv (FP.dneg (FP.i2d (3 : Int32))) (FP.l2d (v0_74 p1 p2 p3))))])) t
              have hq79 : (b0_77 p1 p2 p3) = (FP.ddiv (FP.dneg (FP.i2d (3 : Int32))) (FP.l2d (v0_74 p1 p2 p3))) := by rw [b0_77, if_neg hc75]
              rw [hq79] at k
              exact k
          have go80 : ∀ t, Steps p.tables e below (T26.setTop (mkF m 153 #[.val (.int p0), .val (.int p1), .val (.int p2), .val (.int p3), .val (.int p4), .val (.int (3 : Int32)), .val (.long (v0_2 p1)), .second, .val (.long (v0_3 p2)), .second, .val (.long (v0_4 p3)), .second, .val (.long (v0_5 p4)), .second, .val (.ref b7), .val (.long (v0_74 p1 p2 p3)), .second, .val (.double (b0_77 p1 p2 p3)), .second, .unset, .unset] [(.int (3 : Int32)), (.ref b7)])) t → Steps p.tables e below (s₁.setTop (entryFrame m #[(.int p0), (.int p1), (.int p2), (.int p3), (.int p4)] maxLocals)) t := by
            intro t k
            refine go76 _ ?_
            refine XS.dstore X26.here hx rfl (hb hby at_147) rfl (l' := #[.val (.int p0), .val (.int p1), .val (.int p2), .val (.int p3), .val (.int p4), .val (.int (3 : Int32)), .val (.long (v0_2 p1)), .second, .val (.long (v0_3 p2)), .second, .val (.long (v0_4 p3)), .second, .val (.long (v0_5 p4)), .second, .val (.ref b7), .val (.long (v0_74 p1 p2 p3)), .second, .val (.double (b0_77 p1 p2 p3)), .second, .unset, .unset]) rfl ?_
            show Steps p.tables e below (T26.setTop (mkF m 149 #[.val (.int p0), .val (.int p1), .val (.int p2), .val (.int p3), .val (.int p4), .val (.int (3 : Int32)), .val (.long (v0_2 p1)), .second, .val (.long (v0_3 p2)), .second, .val (.long (v0_4 p3)), .second, .val (.long (v0_5 p4)), .second, .val (.ref b7), .val (.long (v0_74 p1 p2 p3)), .second, .val (.double (b0_77 p1 p2 p3)), .second, .unset, .unset] [])) t
            refine XS.aload X26.here hx rfl (hb hby at_149) rfl rfl ?_
            show Steps p.tables e below (T26.setTop (mkF m 151 #[.val (.int p0), .val (.int p1), .val (.int p2), .val (.int p3), .val (.int p4), .val (.int (3 : Int32)), .val (.long (v0_2 p1)), .second, .val (.long (v0_3 p2)), .second, .val (.long (v0_4 p3)), .second, .val (.long (v0_5 p4)), .second, .val (.ref b7), .val (.long (v0_74 p1 p2 p3)), .second, .val (.double (b0_77 p1 p2 p3)), .second, .unset, .unset] [(.ref b7)])) t
            refine XS.iload X26.here hx rfl (hb hby at_151) rfl ?_
            show Steps p.tables e below (T26.setTop (mkF m 153 #[.val (.int p0), .val (.int p1), .val (.int p2), .val (.int p3), .val (.int p4), .val (.int (3 : Int32)), .val (.long (v0_2 p1)), .second, .val (.long (v0_3 p2)), .second, .val (.long (v0_4 p3)), .second, .val (.long (v0_5 p4)), .second, .val (.ref b7), .val (.long (v0_74 p1 p2 p3)), .second, .val (.double (b0_77 p1 p2 p3)), .second, .unset, .unset] [(.int (3 : Int32)), (.ref b7)])) t
            exact k
          obtain ⟨_, _, ⟨T81, L81, k81, n81⟩, -, X81, ⟨Lc81, hQ81, l81, y81, z81⟩, st81⟩ := Jvm.LawKit.callS X26 hx (y := (⟨"com/example/axiscope/axiscope/engine/Hill", "estimate", "([DI)D"⟩ : MethodName)) hown (mvT hZ (hw _ (List.mem_of_getElem? (i := 2) rfl))) (mvT hZ (hw _ (List.mem_of_getElem? (i := 3) rfl))) (mvT hZ (hw _ (List.mem_of_getElem? (i := 4) rfl))) (mvT hZ (hw _ (List.mem_of_getElem? (i := 5) rfl))) (by decide) (backOf (W := 0) (rm1e3 l Z aZ hw [] b7 k7 (v0_2 p1) (v0_3 p2) (v0_4 p3) (v0_5 p4) h26 n0 Zs26 F29 (own_sm p1) (own_sm p2) (own_sm p3) (own_sm p4)) hZ (hw _ (List.mem_of_getElem? (i := 5) rfl)) (hw _ (List.mem_of_getElem? (i := 4) rfl)) (by decide) (by decide)) (g := (mkF m 153 #[.val (.int p0), .val (.int p1), .val (.int p2), .val (.int p3), .val (.int p4), .val (.int (3 : Int32)), .val (.long (v0_2 p1)), .second, .val (.long (v0_3 p2)), .second, .val (.long (v0_4 p3)), .second, .val (.long (v0_5 p4)), .second, .val (.ref b7), .val (.long (v0_74 p1 p2 p3)), .second, .val (.double (b0_77 p1 p2 p3)), .second, .unset, .unset] [(.int (3 : Int32)), (.ref b7)])) rfl (by rw [hml]; rfl) (argsL := [(.ref b7), (.int (3 : Int32))]) (rest := []) (lenOf pd_37 rfl) rfl (by show 2 * 0 + _ ≤ _; exact Nat.le_of_eq rfl) (hb hby at_153) (fun _ _ => ⟨rfl, e26, (by decide : 1 + 0 ≤ _), (by decide : 4 + 0 ≤ _)⟩)
          dsimp only [Pt.U, Pt.locs, Pt.cells, Pt.slots] at X81 l81 y81 z81 st81 hQ81
          subst l81 y81 z81
          obtain ⟨rfl, N81q, e81⟩ := hQ81
          have N81 := Fr.app N26 N81q
          have go82 : ∀ t, Steps p.tables e below (T81.setTop (mkF m 156 #[.val (.int p0), .val (.int p1), .val (.int p2), .val (.int p3), .val (.int p4), .val (.int (3 : Int32)), .val (.long (v0_2 p1)), .second, .val (.long (v0_3 p2)), .second, .val (.long (v0_4 p3)), .second, .val (.long (v0_5 p4)), .second, .val (.ref b7), .val (.long (v0_74 p1 p2 p3)), .second, .val (.double (b0_77 p1 p2 p3)), .second, .unset, .unset] [(.double (f1e3 (v0_2 p1) (v0_3 p2) (v0_4 p3)))])) t → Steps p.tables e below (s₁.setTop (entryFrame m #[(.int p0), (.int p1), (.int p2), (.int p3), (.int p4)] maxLocals)) t := fun t k => go80 _ (st81 _ k)
          have go85 : ∀ t, Steps p.tables e below (T81.setTop (mkF m 171 #[.val (.int p0), .val (.int p1), .val (.int p2), .val (.int p3), .val (.int p4), .val (.int (3 : Int32)), .val (.long (v0_2 p1)), .second, .val (.long (v0_3 p2)), .second, .val (.long (v0_4 p3)), .second, .val (.long (v0_5 p4)), .second, .val (.ref b7), .val (.long (v0_74 p1 p2 p3)), .second, .val (.double (b0_77 p1 p2 p3)), .second, .val (.double (v0_83 p1 p2 p3)), .second] [(.int (b0_86 p1 p2 p3))])) t → Steps p.tables e below (s₁.setTop (entryFrame m #[(.int p0), (.int p1), (.int p2), (.int p3), (.int p4)] maxLocals)) t := by
            intro t k
            refine go82 _ ?_
            show Steps p.tables e below (T81.setTop (mkF m 156 #[.val (.int p0), .val (.int p1), .val (.int p2), .val (.int p3), .val (.int p4), .val (.int (3 : Int32)), .val (.long (v0_2 p1)), .second, .val (.long (v0_3 p2)), .second, .val (.long (v0_4 p3)), .second, .val (.long (v0_5 p4)), .second, .val (.ref b7), .val (.long (v0_74 p1 p2 p3)), .second, .val (.double (b0_77 p1 p2 p3)), .second, .unset, .unset] [(.double (v0_83 p1 p2 p3))])) t
            refine XS.dstore X81.here hx rfl (hb hby at_156) rfl (l' := #[.val (.int p0), .val (.int p1), .val (.int p2), .val (.int p3), .val (.int p4), .val (.int (3 : Int32)), .val (.long (v0_2 p1)), .second, .val (.long (v0_3 p2)), .second, .val (.long (v0_4 p3)), .second, .val (.long (v0_5 p4)), .second, .val (.ref b7), .val (.long (v0_74 p1 p2 p3)), .second, .val (.double (b0_77 p1 p2 p3)), .second, .val (.double (v0_83 p1 p2 p3)), .second]) rfl ?_
            show Steps p.tables e below (T81.setTop (mkF m 158 #[.val (.int p0), .val (.int p1), .val (.int p2), .val (.int p3), .val (.int p4), .val (.int (3 : Int32)), .val (.long (v0_2 p1)), .second, .val (.long (v0_3 p2)), .second, .val (.long (v0_4 p3)), .second, .val (.long (v0_5 p4)), .second, .val (.ref b7), .val (.long (v0_74 p1 p2 p3)), .second, .val (.double (b0_77 p1 p2 p3)), .second, .val (.double (v0_83 p1 p2 p3)), .second] [])) t
            refine XS.dload X81.here hx rfl (hb hby at_158) rfl ?_
            show Steps p.tables e below (T81.setTop (mkF m 160 #[.val (.int p0), .val (.int p1), .val (.int p2), .val (.int p3), .val (.int p4), .val (.int (3 : Int32)), .val (.long (v0_2 p1)), .second, .val (.long (v0_3 p2)), .second, .val (.long (v0_4 p3)), .second, .val (.long (v0_5 p4)), .second, .val (.ref b7), .val (.long (v0_74 p1 p2 p3)), .second, .val (.double (b0_77 p1 p2 p3)), .second, .val (.double (v0_83 p1 p2 p3)), .second] [(.double (v0_83 p1 p2 p3))])) t
            refine XS.dload X81.here hx rfl (hb hby at_160) rfl ?_
            show Steps p.tables e below (T81.setTop (mkF m 162 #[.val (.int p0), .val (.int p1), .val (.int p2), .val (.int p3), .val (.int p4), .val (.int (3 : Int32)), .val (.long (v0_2 p1)), .second, .val (.long (v0_3 p2)), .second, .val (.long (v0_4 p3)), .second, .val (.long (v0_5 p4)), .second, .val (.ref b7), .val (.long (v0_74 p1 p2 p3)), .second, .val (.double (b0_77 p1 p2 p3)), .second, .val (.double (v0_83 p1 p2 p3)), .second] [(.double (b0_77 p1 p2 p3)), (.double (v0_83 p1 p2 p3))])) t
            refine XS.dcmpS X81.here hx rfl (hb hby at_162) rfl (v := (cmpValue (FP.dcmp (v0_83 p1 p2 p3) (b0_77 p1 p2 p3)) .l)) rfl ?_
            show Steps p.tables e below (T81.setTop (mkF m 163 #[.val (.int p0), .val (.int p1), .val (.int p2), .val (.int p3), .val (.int p4), .val (.int (3 : Int32)), .val (.long (v0_2 p1)), .second, .val (.long (v0_3 p2)), .second, .val (.long (v0_4 p3)), .second, .val (.long (v0_5 p4)), .second, .val (.ref b7), .val (.long (v0_74 p1 p2 p3)), .second, .val (.double (b0_77 p1 p2 p3)), .second, .val (.double (v0_83 p1 p2 p3)), .second] [(.int (cmpValue (FP.dcmp (v0_83 p1 p2 p3) (b0_77 p1 p2 p3)) .l))])) t
            by_cases hc84 : (cmpValue (FP.dcmp (v0_83 p1 p2 p3) (b0_77 p1 p2 p3)) .l) = (0 : Int32)
            · refine XS.ifNo X81.here hx rfl (hb hby at_163) rfl (XT.i0_ne_f hc84) ?_
              show Steps p.tables e below (T81.setTop (mkF m 166 #[.val (.int p0), .val (.int p1), .val (.int p2), .val (.int p3), .val (.int p4), .val (.int (3 : Int32)), .val (.long (v0_2 p1)), .second, .val (.long (v0_3 p2)), .second, .val (.long (v0_4 p3)), .second, .val (.long (v0_5 p4)), .second, .val (.ref b7), .val (.long (v0_74 p1 p2 p3)), .second, .val (.double (b0_77 p1 p2 p3)), .second, .val (.double (v0_83 p1 p2 p3)), .second] [])) t
              refine XS.iconst X81.here hx rfl (hb hby at_166) ?_
              show Steps p.tables e below (T81.setTop (mkF m 167 #[.val (.int p0), .val (.int p1), .val (.int p2), .val (.int p3), .val (.int p4), .val (.int (3 : Int32)), .val (.long (v0_2 p1)), .second, .val (.long (v0_3 p2)), .second, .val (.long (v0_4 p3)), .second, .val (.long (v0_5 p4)), .second, .val (.ref b7), .val (.long (v0_74 p1 p2 p3)), .second, .val (.double (b0_77 p1 p2 p3)), .second, .val (.double (v0_83 p1 p2 p3)), .second] [(.int (1 : Int32))])) t
              refine XS.goto X81.here hx rfl (pc0 := 167) (pc' := 171) rfl (hb hby at_167) (by decide) (by decide) ?_
              show Steps p.tables e below (T81.setTop (mkF m 171 #[.val (.int p0), .val (.int p1), .val (.int p2), .val (.int p3), .val (.int p4), .val (.int (3 : Int32)), .val (.long (v0_2 p1)), .second, .val (.long (v0_3 p2)), .second, .val (.long (v0_4 p3)), .second, .val (.long (v0_5 p4)), .second, .val (.ref b7), .val (.long (v0_74 p1 p2 p3)), .second, .val (.double (b0_77 p1 p2 p3)), .second, .val (.double (v0_83 p1 p2 p3)), .second] [(.int (1 : Int32))])) t
              have hq87 : (b0_86 p1 p2 p3) = (1 : Int32) := by rw [b0_86, if_pos hc84]
              rw [hq87] at k
              exact k
            · refine XS.ifYes X81.here hx rfl (pc0 := 163) (pc' := 170) rfl (hb hby at_163) rfl (XT.i0_ne_t hc84) (by decide) (by decide) ?_
              show Steps p.tables e below (T81.setTop (mkF m 170 #[.val (.int p0), .val (.int p1), .val (.int p2), .val (.int p3), .val (.int p4), .val (.int (3 : Int32)), .val (.long (v0_2 p1)), .second, .val (.long (v0_3 p2)), .second, .val (.long (v0_4 p3)), .second, .val (.long (v0_5 p4)), .second, .val (.ref b7), .val (.long (v0_74 p1 p2 p3)), .second, .val (.double (b0_77 p1 p2 p3)), .second, .val (.double (v0_83 p1 p2 p3)), .second] [])) t
              refine XS.iconst X81.here hx rfl (hb hby at_170) ?_
              show Steps p.tables e below (T81.setTop (mkF m 171 #[.val (.int p0), .val (.int p1), .val (.int p2), .val (.int p3), .val (.int p4), .val (.int (3 : Int32)), .val (.long (v0_2 p1)), .second, .val (.long (v0_3 p2)), .second, .val (.long (v0_4 p3)), .second, .val (.long (v0_5 p4)), .second, .val (.ref b7), .val (.long (v0_74 p1 p2 p3)), .second, .val (.double (b0_77 p1 p2 p3)), .second, .val (.double (v0_83 p1 p2 p3)), .second] [(.int (0 : Int32))])) t
              have hq88 : (b0_86 p1 p2 p3) = (0 : Int32) := by rw [b0_86, if_neg hc84]
              rw [hq88] at k
              exact k
          obtain ⟨fs, hr, hrun, hended, hW, hsame⟩ := X81.leave (v := some (.int (b0_86 p1 p2 p3))) (fun h => by rw [Bd.returns] at h; cases h)
          refine ⟨_, _, go85 _ (Jvm.RoadKit.retOut X81 hx Bd.returns (own_nz (by unfold b0_86; (repeat' split) <;> first | exact Or.inl rfl | exact Or.inr rfl)) (Or.inl ⟨rfl, Or.inr (Or.inl rfl), _, rfl⟩) (hb hby at_171) hr), hrun, hended, _, _, rfl, ?_, ⟨_, rfl⟩, hW, hsame.mono (by decide) (by decide)⟩
          show Q0 _ _ p0 p1 p2 p3 p4 h0 _ (T81.setFrames fs).heap _
          have hE : (T81.setFrames fs).heap = h26 := e81
          rw [hE]
          exact ⟨congrArg (fun z => some (Value.int z)) ((by rw [f0, if_neg hs30, if_neg hs40, if_neg hs56, if_pos hs72] : (b0_86 p1 p2 p3) = (f0 p0 p1 p2 p3 p4)).trans (f0_one p0 p1 p2 p3 p4)), N81⟩
        · by_cases hs89 : (v0_1 p0) = (4 : Int32)
          · have go90 : ∀ t, Steps p.tables e below (T26.setTop (mkF m 74 #[.val (.int p0), .val (.int p1), .val (.int p2), .val (.int p3), .val (.int p4), .val (.int (4 : Int32)), .val (.long (v0_2 p1)), .second, .val (.long (v0_3 p2)), .second, .val (.long (v0_4 p3)), .second, .val (.long (v0_5 p4)), .second, .val (.ref b7), .unset, .unset, .unset, .unset, .unset, .unset] [])) t → Steps p.tables e below (s₁.setTop (entryFrame m #[(.int p0), (.int p1), (.int p2), (.int p3), (.int p4)] maxLocals)) t := by
              have q := go28
              rw [hs89] at q
              exact q
            have go93 : ∀ t, Steps p.tables e below (T26.setTop (mkF m 147 #[.val (.int p0), .val (.int p1), .val (.int p2), .val (.int p3), .val (.int p4), .val (.int (4 : Int32)), .val (.long (v0_2 p1)), .second, .val (.long (v0_3 p2)), .second, .val (.long (v0_4 p3)), .second, .val (.long (v0_5 p4)), .second, .val (.ref b7), .val (.long (v0_91 p1 p2 p3 p4)), .second, .unset, .unset, .unset, .unset] [(.double (b0_94 p1 p2 p3 p4))])) t → Steps p.tables e below (s₁.setTop (entryFrame m #[(.int p0), (.int p1), (.int p2), (.int p3), (.int p4)] maxLocals)) t := by
              intro t k
              refine go90 _ ?_
              refine XS.lconst X26.here hx rfl (hb hby at_74) ?_
              show Steps p.tables e below (T26.setTop (mkF m 75 #[.val (.int p0), .val (.int p1), .val (.int p2), .val (.int p3), .val (.int p4), .val (.int (4 : Int32)), .val (.long (v0_2 p1)), .second, .val (.long (v0_3 p2)), .second, .val (.long (v0_4 p3)), .second, .val (.long (v0_5 p4)), .second, .val (.ref b7), .unset, .unset, .unset, .unset, .unset, .unset] [(.long (0 : Int64))])) t
              refine XS.lstore X26.here hx rfl (hb hby at_75) rfl (l' := #[.val (.int p0), .val (.int p1), .val (.int p2), .val (.int p3), .val (.int p4), .val (.int (4 : Int32)), .val (.long (v0_2 p1)), .second, .val (.long (v0_3 p2)), .second, .val (.long (v0_4 p3)), .second, .val (.long (v0_5 p4)), .second, .val (.ref b7), .val (.long (0 : Int64)), .second, .unset, .unset, .unset, .unset]) rfl ?_
              show Steps p.tables e below (T26.setTop (mkF m 77 #[.val (.int p0), .val (.int p1), .val (.int p2), .val (.int p3), .val (.int p4), .val (.int (4 : Int32)), .val (.long (v0_2 p1)), .second, .val (.long (v0_3 p2)), .second, .val (.long (v0_4 p3)), .second, .val (.long (v0_5 p4)), .second, .val (.ref b7), .val (.long (0 : Int64)), .second, .unset, .unset, .unset, .unset] [])) t
              refine XS.iload X26.here hx rfl (hb hby at_77) rfl ?_
              show Steps p.tables e below (T26.setTop (mkF m 79 #[.val (.int p0), .val (.int p1), .val (.int p2), .val (.int p3), .val (.int p4), .val (.int (4 : Int32)), .val (.long (v0_2 p1)), .second, .val (.long (v0_3 p2)), .second, .val (.long (v0_4 p3)), .second, .val (.long (v0_5 p4)), .second, .val (.ref b7), .val (.long (0 : Int64)), .second, .unset, .unset, .unset, .unset] [(.int (4 : Int32))])) t
              refine XS.ifNo X26.here hx rfl (hb hby at_79) rfl (XT.i0_le_f (by decide : ((0 : Int32) < (4 : Int32)))) ?_
              show Steps p.tables e below (T26.setTop (mkF m 82 #[.val (.int p0), .val (.int p1), .val (.int p2), .val (.int p3), .val (.int p4), .val (.int (4 : Int32)), .val (.long (v0_2 p1)), .second, .val (.long (v0_3 p2)), .second, .val (.long (v0_4 p3)), .second, .val (.long (v0_5 p4)), .second, .val (.ref b7), .val (.long (0 : Int64)), .second, .unset, .unset, .unset, .unset] [])) t
              refine XS.lload X26.here hx rfl (hb hby at_82) rfl ?_
              show Steps p.tables e below (T26.setTop (mkF m 84 #[.val (.int p0), .val (.int p1), .val (.int p2), .val (.int p3), .val (.int p4), .val (.int (4 : Int32)), .val (.long (v0_2 p1)), .second, .val (.long (v0_3 p2)), .second, .val (.long (v0_4 p3)), .second, .val (.long (v0_5 p4)), .second, .val (.ref b7), .val (.long (0 : Int64)), .second, .unset, .unset, .unset, .unset] [(.long (0 : Int64))])) t
              refine XS.lload X26.here hx rfl (hb hby at_84) rfl ?_
              show Steps p.tables e below (T26.setTop (mkF m 86 #[.val (.int p0), .val (.int p1), .val (.int p2), .val (.int p3), .val (.int p4), .val (.int (4 : Int32)), .val (.long (v0_2 p1)), .second, .val (.long (v0_3 p2)), .second, .val (.long (v0_4 p3)), .second, .val (.long (v0_5 p4)), .second, .val (.ref b7), .val (.long (0 : Int64)), .second, .unset, .unset, .unset, .unset] [(.long (v0_2 p1)), (.long (0 : Int64))])) t
              refine XS.ladd X26.here hx rfl (hb hby at_86) rfl ?_
              show Steps p.tables e below (T26.setTop (mkF m 87 #[.val (.int p0), .val (.int p1), .val (.int p2), .val (.int p3), .val (.int p4), .val (.int (4 : Int32)), .val (.long (v0_2 p1)), .second, .val (.long (v0_3 p2)), .second, .val (.long (v0_4 p3)), .second, .val (.long (v0_5 p4)), .second, .val (.ref b7), .val (.long (0 : Int64)), .second, .unset, .unset, .unset, .unset] [(.long ((0 : Int64) + (v0_2 p1)))])) t
              show Steps p.tables e below (T26.setTop (mkF m 87 #[.val (.int p0), .val (.int p1), .val (.int p2), .val (.int p3), .val (.int p4), .val (.int (4 : Int32)), .val (.long (v0_2 p1)), .second, .val (.long (v0_3 p2)), .second, .val (.long (v0_4 p3)), .second, .val (.long (v0_5 p4)), .second, .val (.ref b7), .val (.long (0 : Int64)), .second, .unset, .unset, .unset, .unset] [(.long (v0_42 p1))])) t
              refine XS.lstore X26.here hx rfl (hb hby at_87) rfl (l' := #[.val (.int p0), .val (.int p1), .val (.int p2), .val (.int p3), .val (.int p4), .val (.int (4 : Int32)), .val (.long (v0_2 p1)), .second, .val (.long (v0_3 p2)), .second, .val (.long (v0_4 p3)), .second, .val (.long (v0_5 p4)), .second, .val (.ref b7), .val (.long (v0_42 p1)), .second, .unset, .unset, .unset, .unset]) rfl ?_
              show Steps p.tables e below (T26.setTop (mkF m 89 #[.val (.int p0), .val (.int p1), .val (.int p2), .val (.int p3), .val (.int p4), .val (.int (4 : Int32)), .val (.long (v0_2 p1)), .second, .val (.long (v0_3 p2)), .second, .val (.long (v0_4 p3)), .second, .val (.long (v0_5 p4)), .second, .val (.ref b7), .val (.long (v0_42 p1)), .second, .unset, .unset, .unset, .unset] [])) t
              refine XS.iload X26.here hx rfl (hb hby at_89) rfl ?_
              show Steps p.tables e below (T26.setTop (mkF m 91 #[.val (.int p0), .val (.int p1), .val (.int p2), .val (.int p3), .val (.int p4), .val (.int (4 : Int32)), .val (.long (v0_2 p1)), .second, .val (.long (v0_3 p2)), .second, .val (.long (v0_4 p3)), .second, .val (.long (v0_5 p4)), .second, .val (.ref b7), .val (.long (v0_42 p1)), .second, .unset, .unset, .unset, .unset] [(.int (4 : Int32))])) t
              refine XS.iconst X26.here hx rfl (hb hby at_91) ?_
              show Steps p.tables e below (T26.setTop (mkF m 92 #[.val (.int p0), .val (.int p1), .val (.int p2), .val (.int p3), .val (.int p4), .val (.int (4 : Int32)), .val (.long (v0_2 p1)), .second, .val (.long (v0_3 p2)), .second, .val (.long (v0_4 p3)), .second, .val (.long (v0_5 p4)), .second, .val (.ref b7), .val (.long (v0_42 p1)), .second, .unset, .unset, .unset, .unset] [(.int (1 : Int32)), (.int (4 : Int32))])) t
              refine XS.icmpNo X26.here hx rfl (hb hby at_92) rfl (XT.ii_le_f (by decide : ((1 : Int32) < (4 : Int32)))) ?_
              show Steps p.tables e below (T26.setTop (mkF m 95 #[.val (.int p0), .val (.int p1), .val (.int p2), .val (.int p3), .val (.int p4), .val (.int (4 : Int32)), .val (.long (v0_2 p1)), .second, .val (.long (v0_3 p2)), .second, .val (.long (v0_4 p3)), .second, .val (.long (v0_5 p4)), .second, .val (.ref b7), .val (.long (v0_42 p1)), .second, .unset, .unset, .unset, .unset] [])) t
              refine XS.lload X26.here hx rfl (hb hby at_95) rfl ?_
              show Steps p.tables e below (T26.setTop (mkF m 97 #[.val (.int p0), .val (.int p1), .val (.int p2), .val (.int p3), .val (.int p4), .val (.int (4 : Int32)), .val (.long (v0_2 p1)), .second, .val (.long (v0_3 p2)), .second, .val (.long (v0_4 p3)), .second, .val (.long (v0_5 p4)), .second, .val (.ref b7), .val (.long (v0_42 p1)), .second, .unset, .unset, .unset, .unset] [(.long (v0_42 p1))])) t
              refine XS.lload X26.here hx rfl (hb hby at_97) rfl ?_
              show Steps p.tables e below (T26.setTop (mkF m 99 #[.val (.int p0), .val (.int p1), .val (.int p2), .val (.int p3), .val (.int p4), .val (.int (4 : Int32)), .val (.long (v0_2 p1)), .second, .val (.long (v0_3 p2)), .second, .val (.long (v0_4 p3)), .second, .val (.long (v0_5 p4)), .second, .val (.ref b7), .val (.long (v0_42 p1)), .second, .unset, .unset, .unset, .unset] [(.long (v0_3 p2)), (.long (v0_42 p1))])) t
              refine XS.ladd X26.here hx rfl (hb hby at_99) rfl ?_
              show Steps p.tables e below (T26.setTop (mkF m 100 #[.val (.int p0), .val (.int p1), .val (.int p2), .val (.int p3), .val (.int p4), .val (.int (4 : Int32)), .val (.long (v0_2 p1)), .second, .val (.long (v0_3 p2)), .second, .val (.long (v0_4 p3)), .second, .val (.long (v0_5 p4)), .second, .val (.ref b7), .val (.long (v0_42 p1)), .second, .unset, .unset, .unset, .unset] [(.long ((v0_42 p1) + (v0_3 p2)))])) t
              refine XS.lstore X26.here hx rfl (hb hby at_100) rfl (l' := #[.val (.int p0), .val (.int p1), .val (.int p2), .val (.int p3), .val (.int p4), .val (.int (4 : Int32)), .val (.long (v0_2 p1)), .second, .val (.long (v0_3 p2)), .second, .val (.long (v0_4 p3)), .second, .val (.long (v0_5 p4)), .second, .val (.ref b7), .val (.long ((v0_42 p1) + (v0_3 p2))), .second, .unset, .unset, .unset, .unset]) rfl ?_
              show Steps p.tables e below (T26.setTop (mkF m 102 #[.val (.int p0), .val (.int p1), .val (.int p2), .val (.int p3), .val (.int p4), .val (.int (4 : Int32)), .val (.long (v0_2 p1)), .second, .val (.long (v0_3 p2)), .second, .val (.long (v0_4 p3)), .second, .val (.long (v0_5 p4)), .second, .val (.ref b7), .val (.long ((v0_42 p1) + (v0_3 p2))), .second, .unset, .unset, .unset, .unset] [])) t
              refine XS.iload X26.here hx rfl (hb hby at_102) rfl ?_
              show Steps p.tables e below (T26.setTop (mkF m 104 #[.val (.int p0), .val (.int p1), .val (.int p2), .val (.int p3), .val (.int p4), .val (.int (4 : Int32)), .val (.long (v0_2 p1)), .second, .val (.long (v0_3 p2)), .second, .val (.long (v0_4 p3)), .second, .val (.long (v0_5 p4)), .second, .val (.ref b7), .val (.long ((v0_42 p1) + (v0_3 p2))), .second, .unset, .unset, .unset, .unset] [(.int (4 : Int32))])) t
              refine XS.iconst X26.here hx rfl (hb hby at_104) ?_
              show Steps p.tables e below (T26.setTop (mkF m 105 #[.val (.int p0), .val (.int p1), .val (.int p2), .val (.int p3), .val (.int p4), .val (.int (4 : Int32)), .val (.long (v0_2 p1)), .second, .val (.long (v0_3 p2)), .second, .val (.long (v0_4 p3)), .second, .val (.long (v0_5 p4)), .second, .val (.ref b7), .val (.long ((v0_42 p1) + (v0_3 p2))), .second, .unset, .unset, .unset, .unset] [(.int (2 : Int32)), (.int (4 : Int32))])) t
              refine XS.icmpNo X26.here hx rfl (hb hby at_105) rfl (XT.ii_le_f (by decide : ((2 : Int32) < (4 : Int32)))) ?_
              show Steps p.tables e below (T26.setTop (mkF m 108 #[.val (.int p0), .val (.int p1), .val (.int p2), .val (.int p3), .val (.int p4), .val (.int (4 : Int32)), .val (.long (v0_2 p1)), .second, .val (.long (v0_3 p2)), .second, .val (.long (v0_4 p3)), .second, .val (.long (v0_5 p4)), .second, .val (.ref b7), .val (.long ((v0_42 p1) + (v0_3 p2))), .second, .unset, .unset, .unset, .unset] [])) t
              refine XS.lload X26.here hx rfl (hb hby at_108) rfl ?_
              show Steps p.tables e below (T26.setTop (mkF m 110 #[.val (.int p0), .val (.int p1), .val (.int p2), .val (.int p3), .val (.int p4), .val (.int (4 : Int32)), .val (.long (v0_2 p1)), .second, .val (.long (v0_3 p2)), .second, .val (.long (v0_4 p3)), .second, .val (.long (v0_5 p4)), .second, .val (.ref b7), .val (.long ((v0_42 p1) + (v0_3 p2))), .second, .unset, .unset, .unset, .unset] [(.long ((v0_42 p1) + (v0_3 p2)))])) t
              refine XS.lload X26.here hx rfl (hb hby at_110) rfl ?_
              show Steps p.tables e below (T26.setTop (mkF m 112 #[.val (.int p0), .val (.int p1), .val (.int p2), .val (.int p3), .val (.int p4), .val (.int (4 : Int32)), .val (.long (v0_2 p1)), .second, .val (.long (v0_3 p2)), .second, .val (.long (v0_4 p3)), .second, .val (.long (v0_5 p4)), .second, .val (.ref b7), .val (.long ((v0_42 p1) + (v0_3 p2))), .second, .unset, .unset, .unset, .unset] [(.long (v0_4 p3)), (.long ((v0_42 p1) + (v0_3 p2)))])) t
              refine XS.ladd X26.here hx rfl (hb hby at_112) rfl ?_
              show Steps p.tables e below (T26.setTop (mkF m 113 #[.val (.int p0), .val (.int p1), .val (.int p2), .val (.int p3), .val (.int p4), .val (.int (4 : Int32)), .val (.long (v0_2 p1)), .second, .val (.long (v0_3 p2)), .second, .val (.long (v0_4 p3)), .second, .val (.long (v0_5 p4)), .second, .val (.ref b7), .val (.long ((v0_42 p1) + (v0_3 p2))), .second, .unset, .unset, .unset, .unset] [(.long (((v0_42 p1) + (v0_3 p2)) + (v0_4 p3)))])) t
              show Steps p.tables e below (T26.setTop (mkF m 113 #[.val (.int p0), .val (.int p1), .val (.int p2), .val (.int p3), .val (.int p4), .val (.int (4 : Int32)), .val (.long (v0_2 p1)), .second, .val (.long (v0_3 p2)), .second, .val (.long (v0_4 p3)), .second, .val (.long (v0_5 p4)), .second, .val (.ref b7), .val (.long ((v0_42 p1) + (v0_3 p2))), .second, .unset, .unset, .unset, .unset] [(.long (v0_74 p1 p2 p3))])) t
              refine XS.lstore X26.here hx rfl (hb hby at_113) rfl (l' := #[.val (.int p0), .val (.int p1), .val (.int p2), .val (.int p3), .val (.int p4), .val (.int (4 : Int32)), .val (.long (v0_2 p1)), .second, .val (.long (v0_3 p2)), .second, .val (.long (v0_4 p3)), .second, .val (.long (v0_5 p4)), .second, .val (.ref b7), .val (.long (v0_74 p1 p2 p3)), .second, .unset, .unset, .unset, .unset]) rfl ?_
              show Steps p.tables e below (T26.setTop (mkF m 115 #[.val (.int p0), .val (.int p1), .val (.int p2), .val (.int p3), .val (.int p4), .val (.int (4 : Int32)), .val (.long (v0_2 p1)), .second, .val (.long (v0_3 p2)), .second, .val (.long (v0_4 p3)), .second, .val (.long (v0_5 p4)), .second, .val (.ref b7), .val (.long (v0_74 p1 p2 p3)), .second, .unset, .unset, .unset, .unset] [])) t
              refine XS.iload X26.here hx rfl (hb hby at_115) rfl ?_
              show Steps p.tables e below (T26.setTop (mkF m 117 #[.val (.int p0), .val (.int p1), .val (.int p2), .val (.int p3), .val (.int p4), .val (.int (4 : Int32)), .val (.long (v0_2 p1)), .second, .val (.long (v0_3 p2)), .second, .val (.long (v0_4 p3)), .second, .val (.long (v0_5 p4)), .second, .val (.ref b7), .val (.long (v0_74 p1 p2 p3)), .second, .unset, .unset, .unset, .unset] [(.int (4 : Int32))])) t
              refine XS.iconst X26.here hx rfl (hb hby at_117) ?_
              show Steps p.tables e below (T26.setTop (mkF m 118 #[.val (.int p0), .val (.int p1), .val (.int p2), .val (.int p3), .val (.int p4), .val (.int (4 : Int32)), .val (.long (v0_2 p1)), .second, .val (.long (v0_3 p2)), .second, .val (.long (v0_4 p3)), .second, .val (.long (v0_5 p4)), .second, .val (.ref b7), .val (.long (v0_74 p1 p2 p3)), .second, .unset, .unset, .unset, .unset] [(.int (3 : Int32)), (.int (4 : Int32))])) t
              refine XS.icmpNo X26.here hx rfl (hb hby at_118) rfl (XT.ii_le_f (by decide : ((3 : Int32) < (4 : Int32)))) ?_
              show Steps p.tables e below (T26.setTop (mkF m 121 #[.val (.int p0), .val (.int p1), .val (.int p2), .val (.int p3), .val (.int p4), .val (.int (4 : Int32)), .val (.long (v0_2 p1)), .second, .val (.long (v0_3 p2)), .second, .val (.long (v0_4 p3)), .second, .val (.long (v0_5 p4)), .second, .val (.ref b7), .val (.long (v0_74 p1 p2 p3)), .second, .unset, .unset, .unset, .unset] [])) t
              refine XS.lload X26.here hx rfl (hb hby at_121) rfl ?_
              show Steps p.tables e below (T26.setTop (mkF m 123 #[.val (.int p0), .val (.int p1), .val (.int p2), .val (.int p3), .val (.int p4), .val (.int (4 : Int32)), .val (.long (v0_2 p1)), .second, .val (.long (v0_3 p2)), .second, .val (.long (v0_4 p3)), .second, .val (.long (v0_5 p4)), .second, .val (.ref b7), .val (.long (v0_74 p1 p2 p3)), .second, .unset, .unset, .unset, .unset] [(.long (v0_74 p1 p2 p3))])) t
              refine XS.lload X26.here hx rfl (hb hby at_123) rfl ?_
              show Steps p.tables e below (T26.setTop (mkF m 125 #[.val (.int p0), .val (.int p1), .val (.int p2), .val (.int p3), .val (.int p4), .val (.int (4 : Int32)), .val (.long (v0_2 p1)), .second, .val (.long (v0_3 p2)), .second, .val (.long (v0_4 p3)), .second, .val (.long (v0_5 p4)), .second, .val (.ref b7), .val (.long (v0_74 p1 p2 p3)), .second, .unset, .unset, .unset, .unset] [(.long (v0_5 p4)), (.long (v0_74 p1 p2 p3))])) t
              refine XS.ladd X26.here hx rfl (hb hby at_125) rfl ?_
              show Steps p.tables e below (T26.setTop (mkF m 126 #[.val (.int p0), .val (.int p1), .val (.int p2), .val (.int p3), .val (.int p4), .val (.int (4 : Int32)), .val (.long (v0_2 p1)), .second, .val (.long (v0_3 p2)), .second, .val (.long (v0_4 p3)), .second, .val (.long (v0_5 p4)), .second, .val (.ref b7), .val (.long (v0_74 p1 p2 p3)), .second, .unset, .unset, .unset, .unset] [(.long ((v0_74 p1 p2 p3) + (v0_5 p4)))])) t
              show Steps p.tables e below (T26.setTop (mkF m 126 #[.val (.int p0), .val (.int p1), .val (.int p2), .val (.int p3), .val (.int p4), .val (.int (4 : Int32)), .val (.long (v0_2 p1)), .second, .val (.long (v0_3 p2)), .second, .val (.long (v0_4 p3)), .second, .val (.long (v0_5 p4)), .second, .val (.ref b7), .val (.long (v0_74 p1 p2 p3)), .second, .unset, .unset, .unset, .unset] [(.long (v0_91 p1 p2 p3 p4))])) t
              refine XS.lstore X26.here hx rfl (hb hby at_126) rfl (l' := #[.val (.int p0), .val (.int p1), .val (.int p2), .val (.int p3), .val (.int p4), .val (.int (4 : Int32)), .val (.long (v0_2 p1)), .second, .val (.long (v0_3 p2)), .second, .val (.long (v0_4 p3)), .second, .val (.long (v0_5 p4)), .second, .val (.ref b7), .val (.long (v0_91 p1 p2 p3 p4)), .second, .unset, .unset, .unset, .unset]) rfl ?_
              show Steps p.tables e below (T26.setTop (mkF m 128 #[.val (.int p0), .val (.int p1), .val (.int p2), .val (.int p3), .val (.int p4), .val (.int (4 : Int32)), .val (.long (v0_2 p1)), .second, .val (.long (v0_3 p2)), .second, .val (.long (v0_4 p3)), .second, .val (.long (v0_5 p4)), .second, .val (.ref b7), .val (.long (v0_91 p1 p2 p3 p4)), .second, .unset, .unset, .unset, .unset] [])) t
              refine XS.lload X26.here hx rfl (hb hby at_128) rfl ?_
              show Steps p.tables e below (T26.setTop (mkF m 130 #[.val (.int p0), .val (.int p1), .val (.int p2), .val (.int p3), .val (.int p4), .val (.int (4 : Int32)), .val (.long (v0_2 p1)), .second, .val (.long (v0_3 p2)), .second, .val (.long (v0_4 p3)), .second, .val (.long (v0_5 p4)), .second, .val (.ref b7), .val (.long (v0_91 p1 p2 p3 p4)), .second, .unset, .unset, .unset, .unset] [(.long (v0_91 p1 p2 p3 p4))])) t
              refine XS.lconst X26.here hx rfl (hb hby at_130) ?_
              show Steps p.tables e below (T26.setTop (mkF m 131 #[.val (.int p0), .val (.int p1), .val (.int p2), .val (.int p3), .val (.int p4), .val (.int (4 : Int32)), .val (.long (v0_2 p1)), .second, .val (.long (v0_3 p2)), .second, .val (.long (v0_4 p3)), .second, .val (.long (v0_5 p4)), .second, .val (.ref b7), .val (.long (v0_91 p1 p2 p3 p4)), .second, .unset, .unset, .unset, .unset] [(.long (0 : Int64)), (.long (v0_91 p1 p2 p3 p4))])) t
              refine XT.lcmp X26.here hx rfl (hb hby at_131) rfl ?_
              show Steps p.tables e below (T26.setTop (mkF m 132 #[.val (.int p0), .val (.int p1), .val (.int p2), .val (.int p3), .val (.int p4), .val (.int (4 : Int32)), .val (.long (v0_2 p1)), .second, .val (.long (v0_3 p2)), .second, .val (.long (v0_4 p3)), .second, .val (.long (v0_5 p4)), .second, .val (.ref b7), .val (.long (v0_91 p1 p2 p3 p4)), .second, .unset, .unset, .unset, .unset] [(.int (XT.cmpL (v0_91 p1 p2 p3 p4) (0 : Int64)))])) t
              by_cases hc92 : (v0_91 p1 p2 p3 p4) = (0 : Int64)
              · refine XS.ifNo X26.here hx rfl (hb hby at_132) rfl (XT.ll_ne_f hc92) ?_
                show Steps p.tables e below (T26.setTop (mkF m 135 #[.val (.int p0), .val (.int p1), .val (.int p2), .val (.int p3), .val (.int p4), .val (.int (4 : Int32)), .val (.long (v0_2 p1)), .second, .val (.long (v0_3 p2)), .second, .val (.long (v0_4 p3)), .second, .val (.long (v0_5 p4)), .second, .val (.ref b7), .val (.long (v0_91 p1 p2 p3 p4)), .second, .unset, .unset, .unset, .unset] [])) t
                refine XS.dconst0 X26.here hx rfl (hb hby at_135) (v := FP.dconst0) rfl ?_
                show Steps p.tables e below (T26.setTop (mkF m 136 #[.val (.int p0), .val (.int p1), .val (.int p2), .val (.int p3), .val (.int p4), .val (.int (4 : Int32)), .val (.long (v0_2 p1)), .second, .val (.long (v0_3 p2)), .second, .val (.long (v0_4 p3)), .second, .val (.long (v0_5 p4)), .second, .val (.ref b7), .val (.long (v0_91 p1 p2 p3 p4)), .second, .unset, .unset, .unset, .unset] [(.double FP.dconst0)])) t
                refine XS.goto X26.here hx rfl (pc0 := 136) (pc' := 147) rfl (hb hby at_136) (by decide) (by decide) ?_
                show Steps p.tables e below (T26.setTop (mkF m 147 #[.val (.int p0), .val (.int p1), .val (.int p2), .val (.int p3), .val (.int p4), .val (.int (4 : Int32)), .val (.long (v0_2 p1)), .second, .val (.long (v0_3 p2)), .second, .val (.long (v0_4 p3)), .second, .val (.long (v0_5 p4)), .second, .val (.ref b7), .val (.long (v0_91 p1 p2 p3 p4)), .second, .unset, .unset, .unset, .unset] [(.double FP.dconst0)])) t
                have hq95 : (b0_94 p1 p2 p3 p4) = FP.dconst0 := by rw [b0_94, if_pos hc92]
                rw [hq95] at k
                exact k
              · refine XS.ifYes X26.here hx rfl (pc0 := 132) (pc' := 139) rfl (hb hby at_132) rfl (XT.ll_ne_t hc92) (by decide) (by decide) ?_
                show Steps p.tables e below (T26.setTop (mkF m 139 #[.val (.int p0), .val (.int p1), .val (.int p2), .val (.int p3), .val (.int p4), .val (.int (4 : Int32)), .val (.long (v0_2 p1)), .second, .val (.long (v0_3 p2)), .second, .val (.long (v0_4 p3)), .second, .val (.long (v0_5 p4)), .second, .val (.ref b7), .val (.long (v0_91 p1 p2 p3 p4)), .second, .unset, .unset, .unset, .unset] [])) t
                refine XS.iload X26.here hx rfl (hb hby at_139) rfl ?_
                show Steps p.tables e below (T26.setTop (mkF m 141 #[.val (.int p0), .val (.int p1), .val (.int p2), .val (.int p3), .val (.int p4), .val (.int (4 : Int32)), .val (.long (v0_2 p1)), .second, .val (.long (v0_3 p2)), .second, .val (.long (v0_4 p3)), .second, .val (.long (v0_5 p4)), .second, .val (.ref b7), .val (.long (v0_91 p1 p2 p3 p4)), .second, .unset, .unset, .unset, .unset] [(.int (4 : Int32))])) t
                refine XS.i2dS X26.here hx rfl (hb hby at_141) rfl (v := (FP.i2d (4 : Int32))) rfl ?_
                show Steps p.tables e below (T26.setTop (mkF m 142 #[.val (.int p0), .val (.int p1), .val (.int p2), .val (.int p3), .val (.int p4), .val (.int (4 : Int32)), .val (.long (v0_2 p1)), .second, .val (.long (v0_3 p2)), .second, .val (.long (v0_4 p3)), .second, .val (.long (v0_5 p4)), .second, .val (.ref b7), .val (.long (v0_91 p1 p2 p3 p4)), .second, .unset, .unset, .unset, .unset] [(.double (FP.i2d (4 : Int32)))])) t
                refine XS.dnegS X26.here hx rfl (hb hby at_142) rfl (v := (FP.dneg (FP.i2d (4 : Int32)))) rfl ?_
                show Steps p.tables e below (T26.setTop (mkF m 143 #[.val (.int p0), .val (.int p1), .val (.int p2), .val (.int p3), .val (.int p4), .val (.int (4 : Int32)), .val (.long (v0_2 p1)), .second, .val (.long (v0_3 p2)), .second, .val (.long (v0_4 p3)), .second, .val (.long (v0_5 p4)), .second, .val (.ref b7), .val (.long (v0_91 p1 p2 p3 p4)), .second, .unset, .unset, .unset, .unset] [(.double (FP.dneg (FP.i2d (4 : Int32))))])) t
                refine XS.lload X26.here hx rfl (hb hby at_143) rfl ?_
                show Steps p.tables e below (T26.setTop (mkF m 145 #[.val (.int p0), .val (.int p1), .val (.int p2), .val (.int p3), .val (.int p4), .val (.int (4 : Int32)), .val (.long (v0_2 p1)), .second, .val (.long (v0_3 p2)), .second, .val (.long (v0_4 p3)), .second, .val (.long (v0_5 p4)), .second, .val (.ref b7), .val (.long (v0_91 p1 p2 p3 p4)), .second, .unset, .unset, .unset, .unset] [(.long (v0_91 p1 p2 p3 p4)), (.double (FP.dneg (FP.i2d (4 : Int32))))])) t
                refine XS.l2dS X26.here hx rfl (hb hby at_145) rfl (v := (FP.l2d (v0_91 p1 p2 p3 p4))) rfl ?_
                show Steps p.tables e below (T26.setTop (mkF m 146 #[.val (.int p0), .val (.int p1), .val (.int p2), .val (.int p3), .val (.int p4), .val (.int (4 : Int32)), .val (.long (v0_2 p1)), .second, .val (.long (v0_3 p2)), .second, .val (.long (v0_4 p3)), .second, .val (.long (v0_5 p4)), .second, .val (.ref b7), .val (.long (v0_91 p1 p2 p3 p4)), .second, .unset, .unset, .unset, .unset] [(.double (FP.l2d (v0_91 p1 p2 p3 p4))), (.double (FP.dneg (FP.i2d (4 : Int32))))])) t
                refine XS.ddivS X26.here hx rfl (hb hby at_146) rfl (own_qL own_neg4 hc92) (v := (FP.ddiv (FP.dneg (FP.i2d (4 : Int32))) (FP.l2d (v0_91 p1 p2 p3 p4)))) rfl ?_
                show Steps p.tables e below (T26.setTop (mkF m 147 #[.val (.int p0), .val (.int p1), .val (.int p2), .val (.int p3), .val (.int p4), .val (.int (4 : Int32)), .val (.long (v0_2 p1)), .second, .val (.long (v0_3 p2)), .second, .val (.long (v0_4 p3)), .second, .val (.long (v0_5 p4)), .second, .val (.ref b7), .val (.long (v0_91 p1 p2 p3 p4)), .second, .unset, .unset, .unset, .unset] [(.double (FP.ddiv (FP.dneg (FP.i2d (4 : Int32))) (FP.l2d (v0_91 p1 p2 p3 p4))))])) t
                have hq96 : (b0_94 p1 p2 p3 p4) = (FP.ddiv (FP.dneg (FP.i2d (4 : Int32))) (FP.l2d (v0_91 p1 p2 p3 p4))) := by rw [b0_94, if_neg hc92]
                rw [hq96] at k
                exact k
            have go97 : ∀ t, Steps p.tables e below (T26.setTop (mkF m 153 #[.val (.int p0), .val (.int p1), .val (.int p2), .val (.int p3), .val (.int p4), .val (.int (4 : Int32)), .val (.long (v0_2 p1)), .second, .val (.long (v0_3 p2)), .second, .val (.long (v0_4 p3)), .second, .val (.long (v0_5 p4)), .second, .val (.ref b7), .val (.long (v0_91 p1 p2 p3 p4)), .second, .val (.double (b0_94 p1 p2 p3 p4)), .second, .unset, .unset] [(.int (4 : Int32)), (.ref b7)])) t → Steps p.tables e below (s₁.setTop (entryFrame m #[(.int p0), (.int p1), (.int p2), (.int p3), (.int p4)] maxLocals)) t := by
              intro t k
              refine go93 _ ?_
              refine XS.dstore X26.here hx rfl (hb hby at_147) rfl (l' := #[.val (.int p0), .val (.int p1), .val (.int p2), .val (.int p3), .val (.int p4), .val (.int (4 : Int32)), .val (.long (v0_2 p1)), .second, .val (.long (v0_3 p2)), .second, .val (.long (v0_4 p3)), .second, .val (.long (v0_5 p4)), .second, .val (.ref b7), .val (.long (v0_91 p1 p2 p3 p4)), .second, .val (.double (b0_94 p1 p2 p3 p4)), .second, .unset, .unset]) rfl ?_
              show Steps p.tables e below (T26.setTop (mkF m 149 #[.val (.int p0), .val (.int p1), .val (.int p2), .val (.int p3), .val (.int p4), .val (.int (4 : Int32)), .val (.long (v0_2 p1)), .second, .val (.long (v0_3 p2)), .second, .val (.long (v0_4 p3)), .second, .val (.long (v0_5 p4)), .second, .val (.ref b7), .val (.long (v0_91 p1 p2 p3 p4)), .second, .val (.double (b0_94 p1 p2 p3 p4)), .second, .unset, .unset] [])) t
              refine XS.aload X26.here hx rfl (hb hby at_149) rfl rfl ?_
              show Steps p.tables e below (T26.setTop (mkF m 151 #[.val (.int p0), .val (.int p1), .val (.int p2), .val (.int p3), .val (.int p4), .val (.int (4 : Int32)), .val (.long (v0_2 p1)), .second, .val (.long (v0_3 p2)), .second, .val (.long (v0_4 p3)), .second, .val (.long (v0_5 p4)), .second, .val (.ref b7), .val (.long (v0_91 p1 p2 p3 p4)), .second, .val (.double (b0_94 p1 p2 p3 p4)), .second, .unset, .unset] [(.ref b7)])) t
              refine XS.iload X26.here hx rfl (hb hby at_151) rfl ?_
              show Steps p.tables e below (T26.setTop (mkF m 153 #[.val (.int p0), .val (.int p1), .val (.int p2), .val (.int p3), .val (.int p4), .val (.int (4 : Int32)), .val (.long (v0_2 p1)), .second, .val (.long (v0_3 p2)), .second, .val (.long (v0_4 p3)), .second, .val (.long (v0_5 p4)), .second, .val (.ref b7), .val (.long (v0_91 p1 p2 p3 p4)), .second, .val (.double (b0_94 p1 p2 p3 p4)), .second, .unset, .unset] [(.int (4 : Int32)), (.ref b7)])) t
              exact k
            obtain ⟨_, _, ⟨T98, L98, k98, n98⟩, -, X98, ⟨Lc98, hQ98, l98, y98, z98⟩, st98⟩ := Jvm.LawKit.callS X26 hx (y := (⟨"com/example/axiscope/axiscope/engine/Hill", "estimate", "([DI)D"⟩ : MethodName)) hown (mvT hZ (hw _ (List.mem_of_getElem? (i := 2) rfl))) (mvT hZ (hw _ (List.mem_of_getElem? (i := 3) rfl))) (mvT hZ (hw _ (List.mem_of_getElem? (i := 4) rfl))) (mvT hZ (hw _ (List.mem_of_getElem? (i := 5) rfl))) (by decide) (backOf (W := 0) (rm1e4 l Z aZ hw [] b7 k7 (v0_2 p1) (v0_3 p2) (v0_4 p3) (v0_5 p4) h26 n0 Zs26 F29 (own_sm p1) (own_sm p2) (own_sm p3) (own_sm p4)) hZ (hw _ (List.mem_of_getElem? (i := 5) rfl)) (hw _ (List.mem_of_getElem? (i := 4) rfl)) (by decide) (by decide)) (g := (mkF m 153 #[.val (.int p0), .val (.int p1), .val (.int p2), .val (.int p3), .val (.int p4), .val (.int (4 : Int32)), .val (.long (v0_2 p1)), .second, .val (.long (v0_3 p2)), .second, .val (.long (v0_4 p3)), .second, .val (.long (v0_5 p4)), .second, .val (.ref b7), .val (.long (v0_91 p1 p2 p3 p4)), .second, .val (.double (b0_94 p1 p2 p3 p4)), .second, .unset, .unset] [(.int (4 : Int32)), (.ref b7)])) rfl (by rw [hml]; rfl) (argsL := [(.ref b7), (.int (4 : Int32))]) (rest := []) (lenOf pd_37 rfl) rfl (by show 2 * 0 + _ ≤ _; exact Nat.le_of_eq rfl) (hb hby at_153) (fun _ _ => ⟨rfl, e26, (by decide : 1 + 0 ≤ _), (by decide : 4 + 0 ≤ _)⟩)
            dsimp only [Pt.U, Pt.locs, Pt.cells, Pt.slots] at X98 l98 y98 z98 st98 hQ98
            subst l98 y98 z98
            obtain ⟨rfl, N98q, e98⟩ := hQ98
            have N98 := Fr.app N26 N98q
            have go99 : ∀ t, Steps p.tables e below (T98.setTop (mkF m 156 #[.val (.int p0), .val (.int p1), .val (.int p2), .val (.int p3), .val (.int p4), .val (.int (4 : Int32)), .val (.long (v0_2 p1)), .second, .val (.long (v0_3 p2)), .second, .val (.long (v0_4 p3)), .second, .val (.long (v0_5 p4)), .second, .val (.ref b7), .val (.long (v0_91 p1 p2 p3 p4)), .second, .val (.double (b0_94 p1 p2 p3 p4)), .second, .unset, .unset] [(.double (f1e4 (v0_2 p1) (v0_3 p2) (v0_4 p3) (v0_5 p4)))])) t → Steps p.tables e below (s₁.setTop (entryFrame m #[(.int p0), (.int p1), (.int p2), (.int p3), (.int p4)] maxLocals)) t := fun t k => go97 _ (st98 _ k)
            have go102 : ∀ t, Steps p.tables e below (T98.setTop (mkF m 171 #[.val (.int p0), .val (.int p1), .val (.int p2), .val (.int p3), .val (.int p4), .val (.int (4 : Int32)), .val (.long (v0_2 p1)), .second, .val (.long (v0_3 p2)), .second, .val (.long (v0_4 p3)), .second, .val (.long (v0_5 p4)), .second, .val (.ref b7), .val (.long (v0_91 p1 p2 p3 p4)), .second, .val (.double (b0_94 p1 p2 p3 p4)), .second, .val (.double (v0_100 p1 p2 p3 p4)), .second] [(.int (b0_103 p1 p2 p3 p4))])) t → Steps p.tables e below (s₁.setTop (entryFrame m #[(.int p0), (.int p1), (.int p2), (.int p3), (.int p4)] maxLocals)) t := by
              intro t k
              refine go99 _ ?_
              show Steps p.tables e below (T98.setTop (mkF m 156 #[.val (.int p0), .val (.int p1), .val (.int p2), .val (.int p3), .val (.int p4), .val (.int (4 : Int32)), .val (.long (v0_2 p1)), .second, .val (.long (v0_3 p2)), .second, .val (.long (v0_4 p3)), .second, .val (.long (v0_5 p4)), .second, .val (.ref b7), .val (.long (v0_91 p1 p2 p3 p4)), .second, .val (.double (b0_94 p1 p2 p3 p4)), .second, .unset, .unset] [(.double (v0_100 p1 p2 p3 p4))])) t
              refine XS.dstore X98.here hx rfl (hb hby at_156) rfl (l' := #[.val (.int p0), .val (.int p1), .val (.int p2), .val (.int p3), .val (.int p4), .val (.int (4 : Int32)), .val (.long (v0_2 p1)), .second, .val (.long (v0_3 p2)), .second, .val (.long (v0_4 p3)), .second, .val (.long (v0_5 p4)), .second, .val (.ref b7), .val (.long (v0_91 p1 p2 p3 p4)), .second, .val (.double (b0_94 p1 p2 p3 p4)), .second, .val (.double (v0_100 p1 p2 p3 p4)), .second]) rfl ?_
              show Steps p.tables e below (T98.setTop (mkF m 158 #[.val (.int p0), .val (.int p1), .val (.int p2), .val (.int p3), .val (.int p4), .val (.int (4 : Int32)), .val (.long (v0_2 p1)), .second, .val (.long (v0_3 p2)), .second, .val (.long (v0_4 p3)), .second, .val (.long (v0_5 p4)), .second, .val (.ref b7), .val (.long (v0_91 p1 p2 p3 p4)), .second, .val (.double (b0_94 p1 p2 p3 p4)), .second, .val (.double (v0_100 p1 p2 p3 p4)), .second] [])) t
              refine XS.dload X98.here hx rfl (hb hby at_158) rfl ?_
              show Steps p.tables e below (T98.setTop (mkF m 160 #[.val (.int p0), .val (.int p1), .val (.int p2), .val (.int p3), .val (.int p4), .val (.int (4 : Int32)), .val (.long (v0_2 p1)), .second, .val (.long (v0_3 p2)), .second, .val (.long (v0_4 p3)), .second, .val (.long (v0_5 p4)), .second, .val (.ref b7), .val (.long (v0_91 p1 p2 p3 p4)), .second, .val (.double (b0_94 p1 p2 p3 p4)), .second, .val (.double (v0_100 p1 p2 p3 p4)), .second] [(.double (v0_100 p1 p2 p3 p4))])) t
              refine XS.dload X98.here hx rfl (hb hby at_160) rfl ?_
              show Steps p.tables e below (T98.setTop (mkF m 162 #[.val (.int p0), .val (.int p1), .val (.int p2), .val (.int p3), .val (.int p4), .val (.int (4 : Int32)), .val (.long (v0_2 p1)), .second, .val (.long (v0_3 p2)), .second, .val (.long (v0_4 p3)), .second, .val (.long (v0_5 p4)), .second, .val (.ref b7), .val (.long (v0_91 p1 p2 p3 p4)), .second, .val (.double (b0_94 p1 p2 p3 p4)), .second, .val (.double (v0_100 p1 p2 p3 p4)), .second] [(.double (b0_94 p1 p2 p3 p4)), (.double (v0_100 p1 p2 p3 p4))])) t
              refine XS.dcmpS X98.here hx rfl (hb hby at_162) rfl (v := (cmpValue (FP.dcmp (v0_100 p1 p2 p3 p4) (b0_94 p1 p2 p3 p4)) .l)) rfl ?_
              show Steps p.tables e below (T98.setTop (mkF m 163 #[.val (.int p0), .val (.int p1), .val (.int p2), .val (.int p3), .val (.int p4), .val (.int (4 : Int32)), .val (.long (v0_2 p1)), .second, .val (.long (v0_3 p2)), .second, .val (.long (v0_4 p3)), .second, .val (.long (v0_5 p4)), .second, .val (.ref b7), .val (.long (v0_91 p1 p2 p3 p4)), .second, .val (.double (b0_94 p1 p2 p3 p4)), .second, .val (.double (v0_100 p1 p2 p3 p4)), .second] [(.int (cmpValue (FP.dcmp (v0_100 p1 p2 p3 p4) (b0_94 p1 p2 p3 p4)) .l))])) t
              by_cases hc101 : (cmpValue (FP.dcmp (v0_100 p1 p2 p3 p4) (b0_94 p1 p2 p3 p4)) .l) = (0 : Int32)
              · refine XS.ifNo X98.here hx rfl (hb hby at_163) rfl (XT.i0_ne_f hc101) ?_
                show Steps p.tables e below (T98.setTop (mkF m 166 #[.val (.int p0), .val (.int p1), .val (.int p2), .val (.int p3), .val (.int p4), .val (.int (4 : Int32)), .val (.long (v0_2 p1)), .second, .val (.long (v0_3 p2)), .second, .val (.long (v0_4 p3)), .second, .val (.long (v0_5 p4)), .second, .val (.ref b7), .val (.long (v0_91 p1 p2 p3 p4)), .second, .val (.double (b0_94 p1 p2 p3 p4)), .second, .val (.double (v0_100 p1 p2 p3 p4)), .second] [])) t
                refine XS.iconst X98.here hx rfl (hb hby at_166) ?_
                show Steps p.tables e below (T98.setTop (mkF m 167 #[.val (.int p0), .val (.int p1), .val (.int p2), .val (.int p3), .val (.int p4), .val (.int (4 : Int32)), .val (.long (v0_2 p1)), .second, .val (.long (v0_3 p2)), .second, .val (.long (v0_4 p3)), .second, .val (.long (v0_5 p4)), .second, .val (.ref b7), .val (.long (v0_91 p1 p2 p3 p4)), .second, .val (.double (b0_94 p1 p2 p3 p4)), .second, .val (.double (v0_100 p1 p2 p3 p4)), .second] [(.int (1 : Int32))])) t
                refine XS.goto X98.here hx rfl (pc0 := 167) (pc' := 171) rfl (hb hby at_167) (by decide) (by decide) ?_
                show Steps p.tables e below (T98.setTop (mkF m 171 #[.val (.int p0), .val (.int p1), .val (.int p2), .val (.int p3), .val (.int p4), .val (.int (4 : Int32)), .val (.long (v0_2 p1)), .second, .val (.long (v0_3 p2)), .second, .val (.long (v0_4 p3)), .second, .val (.long (v0_5 p4)), .second, .val (.ref b7), .val (.long (v0_91 p1 p2 p3 p4)), .second, .val (.double (b0_94 p1 p2 p3 p4)), .second, .val (.double (v0_100 p1 p2 p3 p4)), .second] [(.int (1 : Int32))])) t
                have hq104 : (b0_103 p1 p2 p3 p4) = (1 : Int32) := by rw [b0_103, if_pos hc101]
                rw [hq104] at k
                exact k
              · refine XS.ifYes X98.here hx rfl (pc0 := 163) (pc' := 170) rfl (hb hby at_163) rfl (XT.i0_ne_t hc101) (by decide) (by decide) ?_
                show Steps p.tables e below (T98.setTop (mkF m 170 #[.val (.int p0), .val (.int p1), .val (.int p2), .val (.int p3), .val (.int p4), .val (.int (4 : Int32)), .val (.long (v0_2 p1)), .second, .val (.long (v0_3 p2)), .second, .val (.long (v0_4 p3)), .second, .val (.long (v0_5 p4)), .second, .val (.ref b7), .val (.long (v0_91 p1 p2 p3 p4)), .second, .val (.double (b0_94 p1 p2 p3 p4)), .second, .val (.double (v0_100 p1 p2 p3 p4)), .second] [])) t
                refine XS.iconst X98.here hx rfl (hb hby at_170) ?_
                show Steps p.tables e below (T98.setTop (mkF m 171 #[.val (.int p0), .val (.int p1), .val (.int p2), .val (.int p3), .val (.int p4), .val (.int (4 : Int32)), .val (.long (v0_2 p1)), .second, .val (.long (v0_3 p2)), .second, .val (.long (v0_4 p3)), .second, .val (.long (v0_5 p4)), .second, .val (.ref b7), .val (.long (v0_91 p1 p2 p3 p4)), .second, .val (.double (b0_94 p1 p2 p3 p4)), .second, .val (.double (v0_100 p1 p2 p3 p4)), .second] [(.int (0 : Int32))])) t
                have hq105 : (b0_103 p1 p2 p3 p4) = (0 : Int32) := by rw [b0_103, if_neg hc101]
                rw [hq105] at k
                exact k
            obtain ⟨fs, hr, hrun, hended, hW, hsame⟩ := X98.leave (v := some (.int (b0_103 p1 p2 p3 p4))) (fun h => by rw [Bd.returns] at h; cases h)
            refine ⟨_, _, go102 _ (Jvm.RoadKit.retOut X98 hx Bd.returns (own_nz (by unfold b0_103; (repeat' split) <;> first | exact Or.inl rfl | exact Or.inr rfl)) (Or.inl ⟨rfl, Or.inr (Or.inl rfl), _, rfl⟩) (hb hby at_171) hr), hrun, hended, _, _, rfl, ?_, ⟨_, rfl⟩, hW, hsame.mono (by decide) (by decide)⟩
            show Q0 _ _ p0 p1 p2 p3 p4 h0 _ (T98.setFrames fs).heap _
            have hE : (T98.setFrames fs).heap = h26 := e98
            rw [hE]
            exact ⟨congrArg (fun z => some (Value.int z)) ((by rw [f0, if_neg hs30, if_neg hs40, if_neg hs56, if_neg hs72, if_pos hs89] : (b0_103 p1 p2 p3 p4) = (f0 p0 p1 p2 p3 p4)).trans (f0_one p0 p1 p2 p3 p4)), N98⟩
          · exact (own_dead5 p0 hs30 hs40 hs56 hs72 hs89).elim
set_option maxRecDepth 65536 in
set_option maxHeartbeats 40000000 in
theorem comes_1 {Post : Tables → Env → Array Value → State → Outcome → State → Prop} (hpost : ∀ tb e args s v u, (limb_1_1.after args s (.returned v) u = true ∧ limb_1_2.after args s (.returned v) u = true ∧ True) → FrameEnd s (.returned v) u (Jvm.fieldLocs frame_1_writes args s ++ Jvm.arrayLocs frame_1_arrays args s ++ Jvm.staticLocs frame_1_statics s) 16 128 → Post tb e args s (.returned v) u) :
    ArmFor flags0 classFile x code maxLocals ret World_1 tables_1 room_1 Calls_1 rest_1 Pre_1 Post := by
  intro l hfl _ _ p e ha hc hk s m args below hf hA hF happ hP
  obtain ⟨hcalls, hrest, hpre⟩ := hP
  obtain ⟨-, -, -, hnamed, -, -, -, hat⟩ := (Spec.applies_iff hf).mp happ
  obtain ⟨hg, hn⟩ := and_e (Cond.before_iff.mp (show (Jvm.Cond.and given_1 narrow_1).before args s = true from hpre))
  obtain ⟨hcount, hg1⟩ := and_e hg
  obtain ⟨ha0, hb0⟩ := and_e hg1
  obtain ⟨ha1, hb1⟩ := and_e hb0
  obtain ⟨ha2, hb2⟩ := and_e hb1
  obtain ⟨ha3, hb3⟩ := and_e hb2
  obtain ⟨w0, w1, w2, w3, w4, rfl⟩ : ∃ w0 w1 w2 w3 w4 : Value, args = #[w0, w1, w2, w3, w4] := by
    have hs : args.size = 5 := by simpa [Cond.value, given_1] using hcount
    obtain ⟨L⟩ := args
    match L, hs with
    | [w0, w1, w2, w3, w4], _ => exact ⟨w0, w1, w2, w3, w4, rfl⟩
  have hw := fun d (hd : d ∈ tables_1) => atoms_spec (ws := Jvm.Cond.code x code maxLocals ret :: tables_1) hat d (List.mem_cons_of_mem _ hd)
  have hfit : Fit s := fun {y c} hc i hi => by
    obtain ⟨ha, rfl⟩ := Array.getElem?_eq_some_iff.mp hc
    have q := List.all_eq_true.mp ((Array.all_eq_true_iff_forall_mem.mp hF) _ (Array.getElem_mem ha)) i (List.mem_range.mpr hi)
    simpa [Array.getElem?_eq_getElem hi] using q
  obtain ⟨i0, ei0⟩ := is_v ha0
  obtain rfl : w0 = (.int i0) := Option.some.inj ei0
  obtain ⟨i1, ei1⟩ := is_v ha1
  obtain rfl : w1 = (.int i1) := Option.some.inj ei1
  obtain ⟨i2, ei2⟩ := is_v ha2
  obtain rfl : w2 = (.int i2) := Option.some.inj ei2
  obtain ⟨i3, ei3⟩ := is_v ha3
  obtain rfl : w3 = (.int i3) := Option.some.inj ei3
  obtain ⟨i4, ei4⟩ := is_v hb3
  obtain rfl : w4 = (.int i4) := Option.some.inj ei4
  obtain ⟨n, o, h1, h2, h3, _, L, rfl, ⟨rfl, N⟩, hq⟩ := rm0 l s _ hw tables_1 i0 i1 i2 i3 i4 s.heap s.heap.size (Nat.le_refl _) p e ha hc hk s m _ below hf ((Spec.applies_iff_loose hf).mp happ).1 ⟨rfl, State.Warmed39.refl s, rfl⟩ trivial
  refine ⟨n, _, h1, h2, h3, hpost _ _ _ _ _ _ ⟨Cond.after_iff.mpr rfl, Cond.after_iff.mpr (eq_i res_at (Term.int_eval (1)) rfl), trivial⟩ ⟨hq.1, hq.2.1, (hq.2.2.sift fun y hy => Or.inr (N y hy)).mono (by decide) (by decide)⟩⟩
theorem main_1_1 : Claimed_1_1 := comes_1 fun _ _ _ _ _ _ h hF => ⟨h.1, hF⟩
theorem main_1_2 : Claimed_1_2 := comes_1 fun _ _ _ _ _ _ h hF => ⟨h.2.1, hF⟩
end Jvm.Pilot.@@N@@
namespace Jvm.Pilot.@@N@@
open Jvm Jvm.ClassFile Sem Op Lib Jvm.Free Jvm.Stand Jvm.Pilot.@@N@@.Jvm.D
/-! MADE BY PROGRAM (witnessworld.py) out of the Statement's table words and the real class files: 11 classes; the members and pool entries that the words name. The judged class is class 1, her method 1. -/
namespace start1
open Jvm.ClassFile
def u (s : String) : CpInfo := .utf8 (stringToUtf16 s)
/-- a pool by its gaps: so many unusable entries, then the entry; so many at the end -/
def gap : Nat → List CpInfo → List CpInfo
  | 0, r => r
  | n + 1, r => .unusable :: gap n r
def poolList (es : List (Nat × CpInfo)) (last : Nat) : List CpInfo := es.foldr (fun e r => gap e.1 (e.2 :: r)) (gap last [])
def pool (es : List (Nat × CpInfo)) (last : Nat) : Array CpInfo := ⟨poolList es last⟩
def fileOf (pool : Array CpInfo) (this : Nat) (attrs : Array Attribute := #[]) (ms : Array MethodInfo := #[]) (fl : Nat := 33) (sup : Nat := 0) (ifs : Array Nat := #[]) (fds : Array FieldInfo := #[]) : ClassFile where
  minorVersion := 0
  majorVersion := 65
  constantPool := pool
  accessFlags := fl
  thisClass := this
  superClass := sup
  interfaces := ifs
  fields := fds
  methods := ms
  attributes := attrs
def plain (name : String) (sup : Option ClassId) : Class where
  name := name
  kind := .ordinary
  loader := none
  accessFlags := 33
  super := sup
  interfaces := #[]
  cf := none
  fields := #[]
  methods := #[]
  instanceTypes := #[]
  staticTypes := #[]
  resolved := #[]
  callSites := []
  init := .initialized
  statics := none
  mirror := none

def pool0 : Array CpInfo := pool [(5, u "<init>"), (0, u "()V"), (1, .class_ 10), (1, u "java/lang/Object")] 113

def k0m0 : Method := { name := "<init>", desc := "()V", sig := { parameters := [], returnType := none }, accessFlags := 1, code := none }
/-- java/lang/Object -/
def k0 : Class := { plain "java/lang/Object" none with
  accessFlags := 33
  interfaces := #[]
  cf := some (fileOf pool0 8 #[] #[{ accessFlags := 1, nameIndex := 5, descriptorIndex := 6, attributes := #[] }] 33 0 #[] #[])
  fields := #[]
  methods := #[k0m0]
  instanceTypes := #[]
  staticTypes := #[]
  resolved := Array.replicate 124 none
  statics := none }

def pool1 : Array CpInfo := pool [(2, .class_ 4), (1, u "java/lang/Object"), (0, u "<init>"), (0, u "()V"), (0, .integer 2147483647), (0, .methodref 9 10), (0, .class_ 11), (0, .nameAndType 12 13), (0, u "com/example/axiscope/axiscope/engine/Hill"), (0, u "estimate"), (0, u "([DI)D"), (0, .class_ 15), (0, u "com/example/axiscope/axiscope/engine/HillEstimatePinLaw"), (2, u "law"), (0, u "(IIIII)Z")] 5

def k1m0 : Method := { name := "<init>", desc := "()V", sig := { parameters := [], returnType := none }, accessFlags := 1, code := none }
def k1c1 : Code := { maxStack := 4, maxLocals := 21, code := code, exceptionTable := #[], attributes := #[] }
def k1m1 : Method := { name := "law", desc := "(IIIII)Z", sig := { parameters := [.int, .int, .int, .int, .int], returnType := some .boolean }, accessFlags := 9, code := some k1c1 }
/-- com/example/axiscope/axiscope/engine/HillEstimatePinLaw -/
def k1 : Class := { plain "com/example/axiscope/axiscope/engine/HillEstimatePinLaw" (some 0) with
  accessFlags := 49
  interfaces := #[]
  cf := some (fileOf pool1 14 #[] #[{ accessFlags := 1, nameIndex := 5, descriptorIndex := 6, attributes := #[] }, { accessFlags := 9, nameIndex := 18, descriptorIndex := 19, attributes := #[] }] 49 2 #[] #[])
  fields := #[]
  methods := #[k1m0, k1m1]
  instanceTypes := #[]
  staticTypes := #[]
  resolved := Array.replicate 25 none
  statics := none }

def pool2 : Array CpInfo := pool [(2, .class_ 4), (1, u "java/lang/Object"), (0, u "<init>"), (0, u "()V"), (16, .class_ 24), (0, u "com/example/axiscope/axiscope/engine/Hill"), (8, u "BERNOULLI"), (0, u "[D"), (15, u "SERIES_FROM"), (0, u "D"), (1, u "MAX_STEPS"), (0, u "I"), (3, u "estimate"), (0, u "([DI)D")] 9

def k2m0 : Method := { name := "<init>", desc := "()V", sig := { parameters := [], returnType := none }, accessFlags := 2, code := none }
def k2c1 : Code := { maxStack := 4, maxLocals := 5, code := prog_7_method_2_code, exceptionTable := #[], attributes := #[] }
def k2m1 : Method := { name := "estimate", desc := "([DI)D", sig := { parameters := [(.array .double), .int], returnType := some .double }, accessFlags := 9, code := some k2c1 }
/-- com/example/axiscope/axiscope/engine/Hill -/
def k2 : Class := { plain "com/example/axiscope/axiscope/engine/Hill" (some 0) with
  accessFlags := 49
  interfaces := #[]
  cf := some (fileOf pool2 23 #[] #[{ accessFlags := 2, nameIndex := 5, descriptorIndex := 6, attributes := #[] }, { accessFlags := 9, nameIndex := 58, descriptorIndex := 59, attributes := #[] }] 49 2 #[] #[{ accessFlags := 26, nameIndex := 50, descriptorIndex := 51, attributes := #[] }, { accessFlags := 26, nameIndex := 33, descriptorIndex := 34, attributes := #[] }, { accessFlags := 26, nameIndex := 53, descriptorIndex := 54, attributes := #[] }])
  fields := #[{ name := "SERIES_FROM", type := .double, accessFlags := 26, slot := 0, constantValue := 0 }, { name := "BERNOULLI", type := (.array .double), accessFlags := 26, slot := 1, constantValue := 0 }, { name := "MAX_STEPS", type := .int, accessFlags := 26, slot := 2, constantValue := 0 }]
  methods := #[k2m0, k2m1]
  instanceTypes := #[]
  staticTypes := #[.double, (.array .double), .int]
  resolved := Array.replicate 69 none
  statics := none }

def pool3 : Array CpInfo := pool [(1, u "java/lang/Cloneable"), (0, .class_ 1), (0, u "java/lang/Object"), (0, .class_ 3)] 3

/-- java/lang/Cloneable -/
def k3 : Class := { plain "java/lang/Cloneable" (some 0) with
  accessFlags := 1537
  interfaces := #[]
  cf := some (fileOf pool3 2 #[] #[] 1537 4 #[] #[])
  fields := #[]
  methods := #[]
  instanceTypes := #[]
  staticTypes := #[]
  resolved := Array.replicate 8 none
  statics := none }

def pool4 : Array CpInfo := pool [(1, u "java/io/Serializable"), (0, .class_ 1), (0, u "java/lang/Object"), (0, .class_ 3)] 3

/-- java/io/Serializable -/
def k4 : Class := { plain "java/io/Serializable" (some 0) with
  accessFlags := 1537
  interfaces := #[]
  cf := some (fileOf pool4 2 #[] #[] 1537 4 #[] #[])
  fields := #[]
  methods := #[]
  instanceTypes := #[]
  staticTypes := #[]
  resolved := Array.replicate 8 none
  statics := none }

/-- the primitive byte -/
def k5 : Class := { plain "byte" none with kind := .primitive 'B', accessFlags := 0x411 }
/-- [B -/
def k6 : Class := { plain "[B" (some 0) with kind := .array 5 .byte, interfaces := #[3, 4], accessFlags := 1041 }

/-- the primitive double -/
def k7 : Class := { plain "double" none with kind := .primitive 'D', accessFlags := 0x411 }
/-- [D -/
def k8 : Class := { plain "[D" (some 0) with kind := .array 7 .double, interfaces := #[3, 4], accessFlags := 1041 }

/-- the primitive int -/
def k9 : Class := { plain "int" none with kind := .primitive 'I', accessFlags := 0x411 }
/-- [I -/
def k10 : Class := { plain "[I" (some 0) with kind := .array 9 .int, interfaces := #[3, 4], accessFlags := 1041 }

def heap : Heap := #[]
def classes : Array Class := #[k0, k1, k2, k3, k4, k5, k6, k7, k8, k9, k10]
def interned : List (Array UInt16 × Addr) := []
def slotsUsed : Nat := 0
def theMethod : MethodId := ⟨1, 1⟩
def args0 : Array Value := #[.int 5, .int 3, .int 2, .int 2, .int 2]
def aboutOver (below : List Frame) : State where
  vm := { classes := classes, interned := interned.toArray }
  heap := heap
  slotsUsed := slotsUsed
  threads := #[{ frames := .invoking theMethod args0 :: below }]
def below0 : List Frame := [.native { method := ⟨0, 0⟩, args := #[] }]
def about1 : State := aboutOver below0
def p0 : Program := .bare "" "" ""
def e0 : Env := launch0.env 0 0 0
theorem w_frames : about1.frames = Frame.invoking theMethod args0 :: below0 := rfl
set_option maxRecDepth 65536 in
theorem w_args : argsFit about1.vm theMethod args0 = true := by decide +kernel
set_option maxRecDepth 65536 in
theorem w_heap : heapFits about1 = true := by decide +kernel
set_option maxRecDepth 65536 in
theorem w_runnable : about1.curStatus? = some .runnable := by decide +kernel
set_option maxRecDepth 65536 in
theorem w_alone : about1.alone = true := by decide +kernel
set_option maxRecDepth 65536 in
theorem w_named : about1.methodNamed? x = some theMethod := by decide +kernel
set_option maxRecDepth 65536 in
theorem w_hears : about1.hears theMethod below0 = true := by decide +kernel
set_option maxRecDepth 65536 in
theorem w_ripe : about1.ripe theMethod args0 below0 = true := by decide +kernel
theorem w_running : about1.status = .running := rfl
set_option maxRecDepth 65536 in
theorem w_room : about1.hasRoom e0.platform room_1 = true :=
  launch0.hasRoom_least _ room_1 (by decide +kernel) (by decide +kernel) (by decide +kernel) (by decide +kernel) (by decide +kernel) (by decide +kernel)
theorem allAtoms_all (ts : List Jvm.Cond) (a : Array Jvm.Value) (st : Jvm.State) : (allAtoms ts).before a st = ts.all (fun c => c.before a st) := by
  induction ts with
  | nil => rfl
  | cons c t ih =>
    show (Jvm.Cond.and c (allAtoms t)).before a st = _
    rw [Jvm.Cond.before_and, ih, List.all_cons]
def words1 : List Jvm.Cond := Jvm.Cond.code x code maxLocals ret :: tables_1
/-- a 'code' word, met by the world's own term for the bytes: nothing is compared byte by byte -/
theorem code_word {y : MethodName} {bytes : ByteArray} {mx : Nat} {rt : Option FieldType} {a : Array Value} {s : State} {m : MethodId} {meth : Method} {c : Code} (h1 : s.methodNamed? y = some m) (h2 : s.vm.method? m = some meth) (h3 : meth.code = some c) (h4 : c.code = bytes)
    (h5 : (c.maxLocals == mx && c.exceptionTable.isEmpty && decide (c.maxStack ≤ mostOperands) && decide (meth.sig.returnType = rt) && !meth.locks && decide (parseMethodDescriptor y.desc = some meth.sig)) = true) : (Jvm.Cond.code y bytes mx rt).before a s = true := by
  simp only [Bool.and_eq_true, beq_iff_eq, Bool.not_eq_true', decide_eq_true_eq] at h5
  obtain ⟨⟨⟨⟨⟨g1, g2⟩, g3⟩, g4⟩, g5⟩, g6⟩ := h5
  simp [Cond.before, Cond.holds, Cond.value, h1, h2, h3, h4, g1, g2, g3, g4, g5, g6]
def isCode : Jvm.Cond → Bool
  | .code _ _ _ _ => true
  | _ => false
theorem all_split {L : List Jvm.Cond} {P : Jvm.Cond → Bool} (h1 : L.all (fun c => isCode c || P c) = true) (h2 : ∀ c ∈ L.filter isCode, P c = true) : L.all P = true := by
  refine List.all_eq_true.mpr fun c hc => ?_
  have h := List.all_eq_true.mp h1 c hc
  rcases Bool.eq_false_or_eq_true (isCode c) with hi | hi
  · exact h2 c (List.mem_filter.mpr ⟨hc, hi⟩)
  · simpa [hi] using h
set_option maxRecDepth 65536 in
theorem w_c0 : (Jvm.Cond.code x code maxLocals ret).before args0 about1 = true := code_word (m := ⟨1, 1⟩) (meth := k1m1) (c := k1c1) (by decide +kernel) rfl rfl rfl (by decide +kernel)
set_option maxRecDepth 65536 in
theorem w_c1 : (Jvm.Cond.code ({ cls := "com/example/axiscope/axiscope/engine/Hill", name := "estimate", desc := "([DI)D" } : Jvm.MethodName) prog_7_method_2_code (5 : Nat) (Option.some Jvm.ClassFile.FieldType.double)).before args0 about1 = true := code_word (m := ⟨2, 1⟩) (meth := k2m1) (c := k2c1) (by decide +kernel) rfl rfl rfl (by decide +kernel)
def codes1 : List Jvm.Cond := [Jvm.Cond.code x code maxLocals ret, Jvm.Cond.code ({ cls := "com/example/axiscope/axiscope/engine/Hill", name := "estimate", desc := "([DI)D" } : Jvm.MethodName) prog_7_method_2_code (5 : Nat) (Option.some Jvm.ClassFile.FieldType.double)]
set_option maxRecDepth 65536 in
theorem codes_eq : words1.filter isCode = codes1 := rfl
theorem w_codes : ∀ c ∈ words1.filter isCode, c.before args0 about1 = true := by
  rw [codes_eq]
  intro c hc
  simp only [codes1, List.mem_cons, List.not_mem_nil, or_false] at hc
  rcases hc with rfl | rfl
  · exact w_c0
  · exact w_c1
set_option maxRecDepth 65536 in
theorem w_t1 : words1.all (fun c => isCode c || c.before args0 about1) = true := by decide +kernel
theorem w_tables : (allAtoms (Jvm.Cond.code x code maxLocals ret :: tables_1)).before args0 about1 = true := by
  rw [allAtoms_all]
  show words1.all (fun c => c.before args0 about1) = true
  refine all_split ?_ w_codes
  rw [w_t1]
set_option maxRecDepth 65536 in
theorem w_case : (Jvm.Cond.and given_1 narrow_1).before args0 about1 = true := by decide +kernel
theorem w_applies : (headSpec (Jvm.Cond.code x code maxLocals ret :: tables_1) room_1).applies x e0.platform about1 = true :=
  (Spec.applies_iff w_frames).mpr ⟨w_running, w_runnable, w_alone, w_named, w_hears, w_ripe, w_room, w_tables⟩
theorem atStart : AtStart classFile x code maxLocals ret World_1 tables_1 room_1 Calls_1 rest_1 Pre_1 launch0 p0 e0 about1 theMethod args0 below0 :=
  ⟨lists_1, trivial, launch0.admits_env _ _ _, launch0.least_env, fairChoices_fair.cas, fairChoices_fair.clock, w_frames, w_args, w_heap, w_applies, trivial, trivial, w_case⟩
end start1
theorem witness_1 : WitnessClaimed_1 := ⟨start1.p0, start1.e0, start1.about1, start1.theMethod, start1.args0, start1.below0, start1.atStart⟩
end Jvm.Pilot.@@N@@
