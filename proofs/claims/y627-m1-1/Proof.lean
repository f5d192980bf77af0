import JvmDerived
import JvmDerived.Pilot.@@N@@Statement
import JvmDerived.Pilot.@@N@@Code
set_option linter.unusedVariables false
set_option linter.unusedSimpArgs false
namespace Jvm.Pilot.@@N@@
open Jvm Jvm.ClassFile Sem Op Lib Jvm.Free Jvm.Stand Jvm.LawKit Jvm.RoadKit Bundle Jvm.Pilot.@@N@@.Jvm.D
theorem own_exa_ns {Z : State} {h : Heap} {a : Addr} {C : String} (E : Exa Z h a C) : ∀ c : Cell, h[a]? = some c → c.vm.isStatics = false := fun c hc => by
  obtain ⟨cell, k, h1, -, -, h4, -⟩ := E
  rw [h1] at hc; cases hc; exact h4
theorem own_sta_keep {Z : State} {h h' : Heap} {C n d : String} {v : Value} {ws : List Addr} (F : Sta Z h C n d v) (K : Keep h h' ws) (q : ∀ x ∈ ws, ∀ c : Cell, h[x]? = some c → c.vm.isStatics = false) : Sta Z h' C n d v := by
  obtain ⟨cf, i, k, f, st, cell, h1, h2, h3, h4, h5, h6, h7⟩ := F
  exact ⟨cf, i, k, f, st, cell, h1, h2, h3, h4, K.2.1 st cell h5 (fun hm => by have := q st hm cell h5; rw [h6] at this; cases this), h6, h7⟩
theorem own_ins_keep {Z : State} {h h' : Heap} {a : Addr} {C : String} {b : Bool} {ws : List Addr} (F : Ins Z h a C b) (K : Keep h h' ws) : Ins Z h' a C b := by
  obtain ⟨cell, cT, h1, h2, h3⟩ := F
  obtain ⟨c', q1, q2, q3, -⟩ := K.2.2 a cell h1
  exact ⟨c', cT, q1, h2, by rw [q3, q2]; exact h3⟩
theorem own_ne {r c : Int32} (k : Int) (hc : c.toInt = k) (h : ¬ r = c) : ¬ r.toInt = k := fun e => h (Int32.toInt_inj.mp (e.trans hc.symm))
theorem own_cat1 {v : Value} (h : v.isRef = true) : 2 * 0 + ([v].map fun v => v.category).sum ≤ 1 := by simp [XT.cat1 h]
theorem mi {d : Jvm.Cond} (i : Nat) (h : tables_1[i]? = some d) : d ∈ tables_1 := List.mem_of_getElem? h
theorem own_shr0 (x : Int32) : x >>> ((0 : Int32) &&& 31) = x := by
  have e : ((0 : Int32) &&& 31) = 0 := by decide
  rw [e]; first | exact Int32.shiftRight_zero | simp
theorem own_irr (x : Int32) : ¬ x < x := by rw [Int32.lt_iff_toInt_lt]; omega
abbrev MFn (l : Launch) (y : MethodName) (b : ByteArray) (n : Nat) (rt : Option FieldType) (ws : List Jvm.Cond) (R : Room) (A : Array Value) (Z : State) (h0 : Heap) (Q : Option Value → Heap → List Loc → Prop) : Prop :=
  MetFree l y (head1 (Jvm.Cond.code y b n rt :: ws) R) (fun a U => a = A ∧ Z.Warmed39 U.vm ∧ U.heap = h0) (fun _ _ _ _ _ => True) (fun _ U o U' => ∃ v L, o = .returned v ∧ Q v U'.heap L ∧ FrameEnd U o U' L R.cells R.slots)
abbrev Go (tb : Tables) (e : Env) (below : List Frame) (T : State) (F : JFrame) (E : State) : Prop := ∀ t, Steps tb e below (T.setTop F) t → Steps tb e below E t
theorem own_nz {z : Int32} (h : z = 0 ∨ z = 1) : narrow .boolean (.int z) = .int z := by rcases h with rfl | rfl <;> rfl
abbrev Rm (f c s l : Nat) : Room := { frames := f, cells := c, slots := s, locals := l }
abbrev QP (n0 : Nat) (h0 : Heap) (r : Option Value) (v : Option Value) (h : Heap) (L : List Loc) : Prop := v = r ∧ Fr n0 L ∧ h = h0
abbrev Fn (p : Program) (e : Env) (below : List Frame) (s : State) (R : Room) (Q : Option Value → Heap → List Loc → Prop) (En : State) : Prop :=
  ∃ s₂ o, Steps p.tables e below En s₂ ∧ s₂.status = .running ∧ Ended s₂ below o ∧ ∃ v L, o = .returned v ∧ Q v s₂.heap L ∧ FrameEnd s o s₂ L R.cells R.slots
theorem gap {tb : Tables} {e : Env} {below : List Frame} {T T' : State} {F F' : JFrame} {E : State} (g : Go tb e below T F E) (s : ∀ t, Steps tb e below (T'.setTop F') t → Steps tb e below (T.setTop F) t) : Go tb e below T' F' E := fun t k => g t (s t k)
theorem gapT {tb : Tables} {e : Env} {below : List Frame} {T T' : State} {F F' : JFrame} {E : State} (g : Go tb e below T F E) (s : Steps tb e below (T.setTop F) (T'.setTop F')) : Go tb e below T' F' E := fun t k => g t (s.trans k)
theorem own_mf {l : Launch} {y : MethodName} {b : ByteArray} {ml : Nat} {rt : Option FieldType} {ws : List Jvm.Cond} {R : Room} {A : Array Value} {Z : State} {h0 : Heap} {Q : Option Value → Heap → List Loc → Prop} {C : String} {Ls : Array Slot} (hc : y.cls = C) (hpl : plainFor y = true) (ef : ∀ m, entryFrame m A ml = mkF m 0 Ls [])
    (body : ∀ (p : Program) (e : Env) (s : State) (m : MethodId) (below : List Frame) (meth : Method) (c : Code) (s₁ En : State), p.tables.exec = Jvm.exec → c.code = b → c.maxLocals = ml → s.vm.findClass C = some m.cls → meth.name = y.name → Z.Warmed39 s.vm → Stand p l e R s m A below meth c s₁ [] 0 0 → s₁.heap = h0 → meth.locks = false → meth.sig.returnType = rt → Go p.tables e below s₁ (mkF m 0 Ls []) En → Fn p e below s R Q En) :
    MFn l y b ml rt ws R A Z h0 Q := by
  refine MetFree.of_bodySF hpl hisR ?_
  intro p e s m args below meth c s₁ Bd hml0 hP hK
  obtain ⟨hA, hZ, hh⟩ := hP
  subst hA hc
  exact body p e s m below meth c s₁ _ Bd.exec Bd.bytes hml0 (findClass_of_methodNamed Bd.named) (name_of_methodNamed Bd.named Bd.method).1 hZ (Stand.of_body Bd) (by rw [← hh, Bd.state]; rfl) Bd.notSynchronized Bd.returns (fun t k => castTop (ef m) k)
section
variable {l : Launch} {R : Room} {p : Program} {e : Env} {below : List Frame} {s : State} {args : Array Value} {Z : State} {aZ : Array Value} {h : Heap} {m : MethodId} {meth : Method} {c : Code} {T : State} {locs : List Loc} {cells slots : Nat} {pc : Nat} {Ls : Array Slot} {En : State} {Q : Option Value → Heap → List Loc → Prop}
theorem own_out (X : Stand p l e R s m args below meth c T locs cells slots) (hx : p.tables.exec = Jvm.exec) (hlk : meth.locks = false) {w : Value} {rest : List Value} {t : FieldType} {i : Instr} (go : Go p.tables e below T (mkF m pc Ls (w :: rest)) En) (hret : meth.sig.returnType = some t) (hn : narrow t w = w)
    (hi : (i = .ireturn ∧ (t = .int ∨ t = .boolean ∨ t = .byte ∨ t = .char ∨ t = .short) ∧ ∃ z, w = .int z) ∨ (i = .lreturn ∧ t = .long ∧ ∃ z, w = .long z) ∨ (i = .dreturn ∧ t = .double ∧ ∃ z, w = .double z) ∨ (i = .freturn ∧ t = .float ∧ ∃ z, w = .float z) ∨ (i = .areturn ∧ t.isReference = true ∧ w.isRef = true))
    (hd : decode c.code pc = .ok (i, 1)) (eT : T.heap = h) (hc : cells ≤ R.cells) (hs : slots ≤ R.slots) (hq : Q (some w) h locs) : Fn p e below s R Q En := by
  obtain ⟨fs, hr, hrun, hended, hW, hsame⟩ := X.leave (v := some w) (fun h => by rw [hret] at h; cases h) hlk
  exact ⟨_, _, go _ (Jvm.RoadKit.retOut X hx hret hn hi hd hr), hrun, hended, _, _, rfl, (by show Q (some w) T.heap locs; rw [eT]; exact hq), ⟨_, rfl⟩, hW, hsame.mono hc hs⟩
theorem own_outV (X : Stand p l e R s m args below meth c T locs cells slots) (hx : p.tables.exec = Jvm.exec) (hlk : meth.locks = false) (go : Go p.tables e below T (mkF m pc Ls []) En) (hret : meth.sig.returnType = none) (hd : decode c.code pc = .ok (.return_, 1)) (eT : T.heap = h) (hc : cells ≤ R.cells) (hs : slots ≤ R.slots) (hq : Q none h locs) : Fn p e below s R Q En := by
  obtain ⟨fs, hr, hrun, hended, hW, hsame⟩ := X.leave (v := none) (fun _ => rfl) hlk
  exact ⟨_, _, go _ (X.returnOut hx hret hd hr), hrun, hended, _, _, rfl, (by show Q none T.heap locs; rw [eT]; exact hq), ⟨_, rfl⟩, hW, hsame.mono hc hs⟩
abbrev SSt (aZ : Array Value) (Z : State) (y : MethodName) (b : ByteArray) (n : Nat) (rt : Option FieldType) : Prop := ((Jvm.Cond.static y).before aZ Z = true ∧ (Jvm.Cond.initialized y.cls).before aZ Z = true) ∧ (Jvm.Cond.code y b n rt).before aZ Z = true
abbrev SVt (aZ : Array Value) (Z : State) (C : String) (y : MethodName) (b : ByteArray) (n : Nat) (rt : Option FieldType) : Prop := (((Jvm.Cond.declares y).before aZ Z = true ∧ (Jvm.Cond.selects C y y).before aZ Z = true) ∧ (Jvm.Cond.instanceMethod y).before aZ Z = true ∧ (Jvm.Cond.initialized y.cls).before aZ Z = true) ∧ (Jvm.Cond.code y b n rt).before aZ Z = true
abbrev SPt (aZ : Array Value) (Z : State) (y : MethodName) (b : ByteArray) (n : Nat) (rt : Option FieldType) : Prop := (((Jvm.Cond.instanceMethod y).before aZ Z = true ∧ (Jvm.Cond.selects y.cls y y).before aZ Z = true) ∧ (Jvm.Cond.privateMethod y).before aZ Z = true ∧ (Jvm.Cond.initialized y.cls).before aZ Z = true) ∧ (Jvm.Cond.code y b n rt).before aZ Z = true
abbrev SIt (aZ : Array Value) (Z : State) (y : MethodName) (b : ByteArray) (n : Nat) : Prop := ((Jvm.Cond.instanceMethod y).before aZ Z = true ∧ (Jvm.Cond.initialized y.cls).before aZ Z = true) ∧ (Jvm.Cond.code y b n none).before aZ Z = true
variable {own : String} {index : Nat} {y : MethodName} {bytes : ByteArray} {maxL : Nat} {ret : Option FieldType} {rm : Room} {as' : Array Value} {W k : Nat} {S : List Value}
theorem own_cs (X : Stand p l e R s m args below meth c T locs cells slots) (hx : p.tables.exec = Jvm.exec) (hZ : Z.Warmed39 s.vm) (hown : s.vm.findClass own = some m.cls) (hml : c.maxLocals = k) (go : Go p.tables e below T (mkF m pc Ls S) En) (hd : decode c.code pc = .ok (.invokestatic index, 3)) (eT : T.heap = h)
    (wl : (Jvm.Cond.methodLink own index y).before aZ Z = true) (w : SSt aZ Z y bytes maxL ret) (hM : MFn l y bytes maxL ret [] rm as' Z h Q) (hy : y.cls ≠ "java/lang/invoke/MethodHandle" ∧ y.cls ≠ "java/lang/invoke/VarHandle") {argsL rest : List Value} (hst : S = argsL.reverse ++ rest) (has : argsL.toArray = as') (hz : Ls.size = k)
    (hlen : ∀ sig, parseMethodDescriptor y.desc = some sig → argsL.length = sig.parameters.length) (hW : (rest.map fun v => v.category).sum = W) (hf : rm.frames + 1 ≤ R.frames) (hl : W + (maxL + 11) + rm.locals ≤ R.locals) (hc : cells + rm.cells ≤ R.cells) (hs : slots + rm.slots ≤ R.slots) :
    ∃ (v : Option Value) (T' : State) (L : List Loc), Stand p l e R s m args below meth c T' (locs ++ L) (cells + rm.cells) (slots + rm.slots) ∧ Q v T'.heap L ∧ Go p.tables e below T' (mkF m (pc + 3) Ls (v.toList ++ rest)) En := by
  obtain ⟨v, vm₁, ⟨T', L, k', n'⟩, -, X', ⟨Lc, hQ, l1, y1, z1⟩, st⟩ := Jvm.LawKit.callS X hx hown (mvT hZ wl) (mvT hZ w.1.1) (mvT hZ w.1.2) (mvT hZ w.2) hy (backOf (W := W) hM hZ w.2 w.1.2 hf hl) (g := mkF m pc Ls S) rfl (hz.trans hml.symm) (argsL := argsL) (rest := rest) hlen hst (by show 2 * 0 + _ ≤ _; rw [hW]; omega) hd (fun _ _ => ⟨has, eT, hc, hs⟩)
  dsimp only [Pt.U, Pt.locs, Pt.cells, Pt.slots] at X' l1 y1 z1 st hQ
  subst l1 y1 z1
  exact ⟨v, T', Lc, X', hQ, gap go st⟩
theorem own_cv (X : Stand p l e R s m args below meth c T locs cells slots) (hx : p.tables.exec = Jvm.exec) (hZ : Z.Warmed39 s.vm) (hown : s.vm.findClass own = some m.cls) (hml : c.maxLocals = k) (go : Go p.tables e below T (mkF m pc Ls S) En) (hd : decode c.code pc = .ok (.invokevirtual index, 3)) (eT : T.heap = h)
    (wl : (Jvm.Cond.methodLink own index y).before aZ Z = true) {C : String} (w : SVt aZ Z C y bytes maxL ret) {a : Addr} (E : Exa Z h a C) (hM : MFn l y bytes maxL ret [] rm as' Z h Q) (hy : y.cls ≠ "java/lang/invoke/MethodHandle" ∧ y.cls ≠ "java/lang/invoke/VarHandle") {argsL rest : List Value} (hst : S = argsL.reverse ++ .ref a :: rest) (has : (Value.ref a :: argsL).toArray = as') (hz : Ls.size = k)
    (hlen : ∀ sig, parseMethodDescriptor y.desc = some sig → argsL.length = sig.parameters.length) (hW : (rest.map fun v => v.category).sum = W) (hf : rm.frames + 1 ≤ R.frames) (hl : W + (maxL + 11) + rm.locals ≤ R.locals) (hc : cells + rm.cells ≤ R.cells) (hs : slots + rm.slots ≤ R.slots) :
    ∃ (v : Option Value) (T' : State) (L : List Loc), Stand p l e R s m args below meth c T' (locs ++ L) (cells + rm.cells) (slots + rm.slots) ∧ Q v T'.heap L ∧ Go p.tables e below T' (mkF m (pc + 3) Ls (v.toList ++ rest)) En := by
  obtain ⟨cB, kB, qa, qb, qc⟩ := isOf hZ eT E
  obtain ⟨v, vm₁, ⟨T', L, k', n'⟩, -, X', ⟨Lc, hQ, l1, y1, z1⟩, st⟩ := X.virtualBack hx hown (mvT hZ wl) (mvT hZ w.1.1.1) (notFace_of_selects (args := #[]) (mvT hZ w.1.1.2)) (mvT hZ w.1.1.2) (mvT hZ w.1.2.1) hy (backOf (W := W) hM hZ w.2 w.1.2.2 hf hl) qa qc (g := mkF m pc Ls S) rfl (hz.trans hml.symm) (Steps.refl _) (argsL := argsL) (rest := rest) hlen hst (by show 2 * 0 + _ ≤ _; rw [hW]; omega) hd (fun _ _ => ⟨has, eT, hc, hs⟩)
  dsimp only [Pt.U, Pt.locs, Pt.cells, Pt.slots] at X' l1 y1 z1 st hQ
  subst l1 y1 z1
  exact ⟨v, T', Lc, X', hQ, gapT go st⟩
theorem own_selp {n : Nat} (wi : (Jvm.Cond.instantiable y.cls n).before aZ Z = true) (wp : (Jvm.Cond.privateMethod y).before aZ Z = true) (wm : (Jvm.Cond.instanceMethod y).before aZ Z = true) (hy : y.cls ≠ "java/lang/invoke/MethodHandle" ∧ y.cls ≠ "java/lang/invoke/VarHandle") : (Jvm.Cond.selects y.cls y y).before aZ Z = true := by
  obtain ⟨t, k, g0, g2, g5, g6, -, -⟩ := Cond.instantiable_spec wi
  simp only [Bool.or_eq_false_iff] at g6
  exact selects_self_of_private g0 g2 g6.1 (Cond.privateMethod_at wp) wm hy
theorem own_cb (X : Stand p l e R s m args below meth c T locs cells slots) (hx : p.tables.exec = Jvm.exec) (hZ : Z.Warmed39 s.vm) (hown : s.vm.findClass own = some m.cls) (hml : c.maxLocals = k) (go : Go p.tables e below T (mkF m pc Ls S) En) (hd : decode c.code pc = .ok (.invokespecial index, 3)) (eT : T.heap = h)
    (wl : (Jvm.Cond.methodLink own index y).before aZ Z = true) (w : SIt aZ Z y bytes maxL) (hn : y.name = "<init>") {a : Addr} {k1 k2 : Nat}
    (hK : Back l R p e below s args y 3 W (fun P a => a = as' ∧ P.U.heap = h ∧ P.cells + k1 ≤ R.cells ∧ P.slots + k2 ≤ R.slots) (fun P _ v B => ∃ L, Q v B.U.heap L ∧ B.locs = P.locs ++ L ∧ B.cells = P.cells + k1 ∧ B.slots = P.slots + k2))
    (hy : y.cls ≠ "java/lang/invoke/MethodHandle" ∧ y.cls ≠ "java/lang/invoke/VarHandle") {argsL rest : List Value} (hst : S = argsL.reverse ++ .ref a :: rest) (has : (Value.ref a :: argsL).toArray = as') (hz : Ls.size = k)
    (hlen : ∀ sig, parseMethodDescriptor y.desc = some sig → argsL.length = sig.parameters.length) (hW : (rest.map fun v => v.category).sum = W) (hc : cells + k1 ≤ R.cells) (hs : slots + k2 ≤ R.slots) :
    ∃ (v : Option Value) (T' : State) (L : List Loc), Stand p l e R s m args below meth c T' (locs ++ L) (cells + k1) (slots + k2) ∧ Q v T'.heap L ∧ Go p.tables e below T' (mkF m (pc + 3) Ls (v.toList ++ rest)) En := by
  obtain ⟨v, vm₁, ⟨T', L, k', n'⟩, -, X', ⟨Lc, hQ, l1, y1, z1⟩, st⟩ := X.specialBack hx hn hown (mvT hZ wl) (mvT hZ w.1.1) (mvT hZ w.2) hy hK (g := mkF m pc Ls S) rfl (hz.trans hml.symm) (Steps.refl _) (a := a) (argsL := argsL) (rest := rest) hlen hst (by show 2 * 0 + _ ≤ _; rw [hW]; omega) hd (fun _ _ => ⟨has, eT, hc, hs⟩)
  dsimp only [Pt.U, Pt.locs, Pt.cells, Pt.slots] at X' l1 y1 z1 st hQ
  subst l1 y1 z1
  exact ⟨v, T', Lc, X', hQ, gapT go st⟩
theorem own_cp (X : Stand p l e R s m args below meth c T locs cells slots) (hx : p.tables.exec = Jvm.exec) (hZ : Z.Warmed39 s.vm) (hown : s.vm.findClass own = some m.cls) (hml : c.maxLocals = k) (go : Go p.tables e below T (mkF m pc Ls S) En) (hd : decode c.code pc = .ok (.invokevirtual index, 3)) (eT : T.heap = h)
    (wl : (Jvm.Cond.methodLink own index y).before aZ Z = true) (w : SPt aZ Z y bytes maxL ret) {C : String} {a : Addr} (E : Exa Z h a C) (hM : MFn l y bytes maxL ret [] rm as' Z h Q) (hy : y.cls ≠ "java/lang/invoke/MethodHandle" ∧ y.cls ≠ "java/lang/invoke/VarHandle") {argsL rest : List Value} (hst : S = argsL.reverse ++ .ref a :: rest) (has : (Value.ref a :: argsL).toArray = as') (hz : Ls.size = k)
    (hlen : ∀ sig, parseMethodDescriptor y.desc = some sig → argsL.length = sig.parameters.length) (hW : (rest.map fun v => v.category).sum = W) (hf : rm.frames + 1 ≤ R.frames) (hl : W + (maxL + 11) + rm.locals ≤ R.locals) (hc : cells + rm.cells ≤ R.cells) (hs : slots + rm.slots ≤ R.slots) :
    ∃ (v : Option Value) (T' : State) (L : List Loc), Stand p l e R s m args below meth c T' (locs ++ L) (cells + rm.cells) (slots + rm.slots) ∧ Q v T'.heap L ∧ Go p.tables e below T' (mkF m (pc + 3) Ls (v.toList ++ rest)) En := by
  obtain ⟨cq, q1, q2⟩ := E.cell
  obtain ⟨v, vm₁, ⟨T', L, k', n'⟩, -, X', ⟨Lc, hQ, l1, y1, z1⟩, st⟩ := X.privateBack hx hown (mvT hZ wl) (mvT hZ w.1.1.1) (mvT hZ w.1.1.2) (Cond.privateMethod_at (mvP hZ w.1.2.1 (args := #[]))) (mvT hZ w.2) hy (backOf (W := W) hM hZ w.2 w.1.2.2 hf hl) (g := mkF m pc Ls S) rfl (hz.trans hml.symm) (Steps.refl _) (a := a) (by rw [eT]; exact q1) q2 (argsL := argsL) (rest := rest) hlen hst (by show 2 * 0 + _ ≤ _; rw [hW]; omega) hd (fun _ _ => ⟨has, eT, hc, hs⟩)
  dsimp only [Pt.U, Pt.locs, Pt.cells, Pt.slots] at X' l1 y1 z1 st hQ
  subst l1 y1 z1
  exact ⟨v, T', Lc, X', hQ, gapT go st⟩
theorem own_ci (X : Stand p l e R s m args below meth c T locs cells slots) (hx : p.tables.exec = Jvm.exec) (hZ : Z.Warmed39 s.vm) (hown : s.vm.findClass own = some m.cls) (hml : c.maxLocals = k) (go : Go p.tables e below T (mkF m pc Ls S) En) (hd : decode c.code pc = .ok (.invokespecial index, 3)) (eT : T.heap = h)
    (wl : (Jvm.Cond.methodLink own index y).before aZ Z = true) (w : SIt aZ Z y bytes maxL) (hn : y.name = "<init>") {a : Addr} (hM : MFn l y bytes maxL none [] rm as' Z h Q) (hy : y.cls ≠ "java/lang/invoke/MethodHandle" ∧ y.cls ≠ "java/lang/invoke/VarHandle") {argsL rest : List Value} (hst : S = argsL.reverse ++ .ref a :: rest) (has : (Value.ref a :: argsL).toArray = as') (hz : Ls.size = k)
    (hlen : ∀ sig, parseMethodDescriptor y.desc = some sig → argsL.length = sig.parameters.length) (hW : (rest.map fun v => v.category).sum = W) (hf : rm.frames + 1 ≤ R.frames) (hl : W + (maxL + 11) + rm.locals ≤ R.locals) (hc : cells + rm.cells ≤ R.cells) (hs : slots + rm.slots ≤ R.slots) :
    ∃ (v : Option Value) (T' : State) (L : List Loc), Stand p l e R s m args below meth c T' (locs ++ L) (cells + rm.cells) (slots + rm.slots) ∧ Q v T'.heap L ∧ Go p.tables e below T' (mkF m (pc + 3) Ls (v.toList ++ rest)) En := by
  obtain ⟨v, vm₁, ⟨T', L, k', n'⟩, -, X', ⟨Lc, hQ, l1, y1, z1⟩, st⟩ := X.specialBack hx hn hown (mvT hZ wl) (mvT hZ w.1.1) (mvT hZ w.2) hy (backOf (W := W) hM hZ w.2 w.1.2 hf hl) (g := mkF m pc Ls S) rfl (hz.trans hml.symm) (Steps.refl _) (a := a) (argsL := argsL) (rest := rest) hlen hst (by show 2 * 0 + _ ≤ _; rw [hW]; omega) hd (fun _ _ => ⟨has, eT, hc, hs⟩)
  dsimp only [Pt.U, Pt.locs, Pt.cells, Pt.slots] at X' l1 y1 z1 st hQ
  subst l1 y1 z1
  exact ⟨v, T', Lc, X', hQ, gapT go st⟩
end
abbrev HW (aZ : Array Value) (Z : State) : Prop := ∀ d ∈ tables_1, d.before aZ Z = true
abbrev SfF (Z : State) (h : Heap) (v : Value) : Prop := Sta Z h "jdk/internal/util/Preconditions" "SIOOBE_FORMATTER" "Ljava/util/function/BiFunction;" v
abbrev SfC (Z : State) (h : Heap) (v : Value) : Prop := Sta Z h "java/lang/String" "COMPACT_STRINGS" "Z" v
abbrev Fcd (Z : State) (h : Heap) (a : Addr) (v : Value) : Prop := Fld Z h a "java/lang/String" "coder" "B" v
abbrev Fvl (Z : State) (h : Heap) (a : Addr) (v : Value) : Prop := Fld Z h a "java/lang/String" "value" "[B" v
abbrev Est (Z : State) (h : Heap) (a : Addr) : Prop := Exa Z h a "java/lang/String"
theorem own_ib {Z : State} {vm0 vm1 : Vm} {Ts : List String} (I : IB Z vm0 Ts) (e : vm1.interned = vm0.interned) : IB Z vm1 Ts := by
  obtain ⟨more, q, r⟩ := I; exact ⟨more, e.trans q, r⟩
theorem own_exa_arv_ne {Z : State} {aZ : Array Value} {h : Heap} {a b : Addr} {C : String} {m : Nat} {k : ClassId} {ty : FieldType} {n : Int32} {vs : List Value} {d : Value} (E : Exa Z h a C) (A : Arv Z h b k ty n vs d) (w : (Jvm.Cond.instantiable C m).before aZ Z = true) : a ≠ b := fun q => by
  subst q
  obtain ⟨cell, kc, h1, h2, h3, -, -⟩ := E
  obtain ⟨cl, ⟨g1, g2, -⟩, -⟩ := A
  rw [h1] at g1; cases g1
  obtain ⟨cI, kI, hfI, hkI, hkindI, -⟩ := Cond.instantiable_spec w
  cases h2.symm.trans hfI
  obtain ⟨-, k9, hk9, cm, hkind⟩ := g2
  rw [hkI] at hk9; cases hk9
  rw [hkindI] at hkind; cases hkind
theorem own_frs {n0 : Nat} {h0 : Heap} {s : State} {locs : List Loc} (e : n0 = h0.size) (hh : s.heap = h0) (N : Fr n0 locs) : Fr s.heap.size locs := by subst e hh; exact N
theorem own_frm {n0 n1 : Nat} {L : List Loc} (q : n0 ≤ n1) (N : Fr n1 L) : Fr n0 L := fun y hy => Nat.le_trans q (N y hy)
section
variable {l : Launch} {R : Room} {p : Program} {e : Env} {below : List Frame} {s : State} {args : Array Value} {Z : State} {aZ : Array Value} {h : Heap} {Ts Ts1 : List String}
/-- the way back from a callee that asks In of the tables at its start and says Got of them at its end -/
theorem own_backG {y : MethodName} {bytes : ByteArray} {maxL : Nat} {ret : Option FieldType} {rm : Room} {len W : Nat} {as' : Array Value} {In : Vm → Prop} {End : State → Outcome → State → Prop} {Got : Option Value → Vm → Heap → List Loc → Prop} {Post : Pt → Array Value → Option Value → Pt → Prop}
    (hM : MetFree l y (head1 [Cond.code y bytes maxL ret] rm) (fun a U => a = as' ∧ Z.Warmed39 U.vm ∧ U.heap = h ∧ In U.vm) (fun _ _ _ _ _ => True) (fun _ => End))
    (hZ : Z.Warmed39 s.vm) (wc : (Cond.code y bytes maxL ret).before aZ Z = true) (wz : (Cond.initialized y.cls).before aZ Z = true) (hf : rm.frames + 1 ≤ R.frames) (hl : W + (maxL + 11) + rm.locals ≤ R.locals)
    (hin : ∀ vm, s.WarmedH vm → In vm) (hend : ∀ U o t, End U o t → ∃ v L, o = .returned v ∧ Got v t.vm t.heap L ∧ ReturnedEndW U o t L rm.cells rm.slots)
    (hpost : ∀ A a v B L, Got v (Pt.U B).vm (Pt.U B).heap L → Pt.locs B = Pt.locs A ++ L → Pt.cells B = Pt.cells A + rm.cells → Pt.slots B = Pt.slots A + rm.slots → Post A a v B) :
    BackS l R p e below s args y len W (fun A a => a = as' ∧ A.U.heap = h ∧ A.cells + rm.cells ≤ R.cells ∧ A.slots + rm.slots ≤ R.slots) Post := by
  have warm : ∀ {m meth c} {A : Pt}, Stand p l e R s m args below meth c A.U A.locs A.cells A.slots → Z.Warmed39 A.U.vm := fun Y => wtrans hZ Y.warmed
  refine BackS.of_freeW (bytes := bytes) (maxL := maxL) (ret := ret) (E := fun _ _ o t L k n => ∃ v, o = .returned v ∧ Got v t.vm t.heap L ∧ k = rm.cells ∧ n = rm.slots) hM hf hl ?pre ?here (fun _ _ _ _ _ _ _ _ _ => trivial) ?leave ?post
  case pre =>
    rintro m meth c A a Y ⟨-, -, room⟩
    have k := mv (args := a) (warm Y) wc
    refine ⟨?_, k, mv (warm Y) wz, room⟩
    change (Cond.and _ .tt).before a A.U = true
    simp only [Cond.before_and, k]; rfl
  case here =>
    rintro m meth c A a g mk Y ⟨ea, eh, -⟩
    exact ⟨ea, warm Y, eh, hin _ Y.warmed⟩
  case leave =>
    intro a U o t q
    obtain ⟨v, L, e1, g1, r1⟩ := hend U o t q
    exact ⟨L, _, _, r1, v, e1, g1, rfl, rfl⟩
  case post =>
    rintro m meth c A a g mk v t L k n - - - - ⟨v', e1, g1, rfl, rfl⟩
    cases e1
    exact hpost A a v _ L g1 rfl rfl rfl
theorem own_backOfSI {y : MethodName} {bytes : ByteArray} {maxL : Nat} {ret : Option FieldType} {rm : Room} {len W : Nat} {as' : Array Value} {Q : Option Value → Heap → List Loc → Prop}
    (hM : MetFree l y (head1 [Cond.code y bytes maxL ret] rm) (fun a U => a = as' ∧ Z.Warmed39 U.vm ∧ U.heap = h ∧ IB Z U.vm Ts) (fun _ _ _ _ _ => True) (fun _ U o U' => ∃ v L, o = .returned v ∧ Q v U'.heap L ∧ ReturnedEndW U o U' L rm.cells rm.slots))
    (hZ : Z.Warmed39 s.vm) (wc : (Cond.code y bytes maxL ret).before aZ Z = true) (wz : (Cond.initialized y.cls).before aZ Z = true) (hf : rm.frames + 1 ≤ R.frames) (hl : W + (maxL + 11) + rm.locals ≤ R.locals) (I : IB Z s.vm Ts) :
    BackS l R p e below s args y len W (fun A a => a = as' ∧ A.U.heap = h ∧ A.cells + rm.cells ≤ R.cells ∧ A.slots + rm.slots ≤ R.slots)
      (fun A _ v B => ∃ L, Q v B.U.heap L ∧ B.locs = A.locs ++ L ∧ B.cells = A.cells + rm.cells ∧ B.slots = A.slots + rm.slots) :=
  own_backG (In := fun vm => IB Z vm Ts) (Got := fun v _ h L => Q v h L) hM hZ wc wz hf hl (fun _ w => own_ib I w.interned_eq) (fun _ _ _ q => q) (fun _ _ _ _ L q e1 e2 e3 => ⟨L, q, e1, e2, e3⟩)
theorem own_backOfSIP {y : MethodName} {bytes : ByteArray} {maxL : Nat} {ret : Option FieldType} {rm : Room} {len W : Nat} {as' : Array Value} {Q : Option Value → Heap → List Loc → Prop}
    (hM : MetFree l y (head1 [Cond.code y bytes maxL ret] rm) (fun a U => a = as' ∧ Z.Warmed39 U.vm ∧ U.heap = h ∧ IB Z U.vm Ts) (fun _ _ _ _ _ => True) (fun _ U o U' => ∃ v L, o = .returned v ∧ Q v U'.heap L ∧ IB Z U'.vm Ts1 ∧ ReturnedEndW U o U' L rm.cells rm.slots))
    (hZ : Z.Warmed39 s.vm) (wc : (Cond.code y bytes maxL ret).before aZ Z = true) (wz : (Cond.initialized y.cls).before aZ Z = true) (hf : rm.frames + 1 ≤ R.frames) (hl : W + (maxL + 11) + rm.locals ≤ R.locals) (I : IB Z s.vm Ts) :
    BackS l R p e below s args y len W (fun A a => a = as' ∧ A.U.heap = h ∧ A.cells + rm.cells ≤ R.cells ∧ A.slots + rm.slots ≤ R.slots)
      (fun A _ v B => ∃ L, Q v B.U.heap L ∧ B.locs = A.locs ++ L ∧ B.cells = A.cells + rm.cells ∧ B.slots = A.slots + rm.slots ∧ IB Z B.U.vm Ts1) :=
  own_backG (In := fun vm => IB Z vm Ts) (Got := fun v vm h L => Q v h L ∧ IB Z vm Ts1) hM hZ wc wz hf hl (fun _ w => own_ib I w.interned_eq) (fun _ _ _ ⟨v, L, q1, q2, q3, q4⟩ => ⟨v, L, q1, ⟨q2, q3⟩, q4⟩) (fun _ _ _ _ L q e1 e2 e3 => ⟨L, q.1, e1, e2, e3, q.2⟩)
end
theorem d3_0 : decode jdk_42_method_149_code 0 = .ok (.aload_n 0, 1) := by decide +kernel
theorem d3_1 : decode jdk_42_method_149_code 1 = .ok (.invokespecial 1, 3) := by decide +kernel
theorem d3_4 : decode jdk_42_method_149_code 4 = .ok (.iload_n 3, 1) := by decide +kernel
theorem d3_5 : decode jdk_42_method_149_code 5 = .ok (.ifCond .ne 22, 3) := by decide +kernel
theorem d3_8 : decode jdk_42_method_149_code 8 = .ok (.aload_n 0, 1) := by decide +kernel
theorem d3_9 : decode jdk_42_method_149_code 9 = .ok (.ldc 7, 2) := by decide +kernel
theorem own_sa : ∀ a ∈ Bundle.stringAtoms, a ∈ tables_1 := by decide +kernel
theorem own_txt_java_lang_String_7 : (∀ c ∈ ("" : String).toList, c.toNat < 256) ∧ ("" : String).toList.map (fun c => Value.int (Jvm.Lit.byteI c.toNat.toUInt16)) = [] := ⟨by decide +kernel, by first | rfl | decide +kernel⟩
theorem d3_11 : decode jdk_42_method_149_code 11 = .ok (.getfield 9, 3) := by decide +kernel
theorem d3_14 : decode jdk_42_method_149_code 14 = .ok (.putfield 9, 3) := by decide +kernel
theorem d3_17 : decode jdk_42_method_149_code 17 = .ok (.aload_n 0, 1) := by decide +kernel
theorem d3_18 : decode jdk_42_method_149_code 18 = .ok (.ldc 7, 2) := by decide +kernel
theorem d3_20 : decode jdk_42_method_149_code 20 = .ok (.getfield 15, 3) := by decide +kernel
theorem d3_23 : decode jdk_42_method_149_code 23 = .ok (.putfield 15, 3) := by decide +kernel
theorem d3_26 : decode jdk_42_method_149_code 26 = .ok (.return_, 1) := by decide +kernel
theorem pn_15 : plainName "java/lang/String" = true := by first | (simp [plainName, overriddenIn]; done) | decide +kernel
def QiAn0 (Z : State) (n0 : Nat) (a0 : Addr) (a1 : Addr) (k_a1 : ClassId) (h0 : Heap) (v : Option Value) (h : Heap) (L : List Loc) : Prop := v = none ∧ Fr n0 L ∧ Keep h0 h [a0] ∧ Est Z h a0 ∧ Fcd Z h a0 (.int (0 : Int32)) ∧ ∃ (bx : Addr) (kx : ClassId), Fvl Z h a0 (.ref bx) ∧ Arv Z h bx kx .byte (0 : Int32) [] (.int (0 : Int32))
theorem efiAn0 (m : MethodId) (a0 : Addr) (a1 : Addr) : entryFrame m #[(.ref a0), (.ref a1), (.int (0 : Int32)), (.int (0 : Int32)), .null] 6 = mkF m 0 #[rv a0, rv a1, iv (0 : Int32), iv (0 : Int32), .val .null, .unset] [] := by first | (simp [entryFrame, mkF, argsToLocals, Value.category]; done) | rfl
abbrev LiAn0_0 (a0 : Addr) (a1 : Addr) : Array Slot := #[rv a0, rv a1, iv 0, iv 0, .val .null, .unset]
set_option maxRecDepth 65536 in
set_option maxHeartbeats 40000000 in
theorem rmiAn0 (l : Launch) (Z : State) (aZ : Array Value) (hw : HW aZ Z) (ws : List Jvm.Cond) (a0 : Addr) (a1 : Addr) (k_a1 : ClassId) (h0 : Heap) (n0 : Nat) (Z0 : n0 ≤ h0.size) (E_a0 : Est Z h0 a0) (F_a0_value : Fvl Z h0 a0 .null) (F_a0_coder : Fcd Z h0 a0 (.int 0)) (g_a0 : n0 ≤ a0) (V_a1 : Arv Z h0 a1 k_a1 .char (0 : Int32) [] (.int 0)) (hkp : ∀ (b : Addr) (cl : Cell), Z.heap[b]? = some cl → h0[b]? = some cl) (hcn7 : Jvm.Lit.constHeld Z "java/lang/String" 7) (hcw : Jvm.Lit.compactW.before aZ Z = true) :
    MetFree l (⟨"java/lang/String", "<init>", "([CIILjava/lang/Void;)V"⟩ : MethodName) (head1 (Jvm.Cond.code (⟨"java/lang/String", "<init>", "([CIILjava/lang/Void;)V"⟩ : MethodName) jdk_42_method_149_code 6 none :: ws) ({ frames := 1, cells := 2, slots := 4, locals := 12 } : Room)) (fun a U => a = #[(.ref a0), (.ref a1), (.int 0), (.int 0), .null] ∧ Z.Warmed39 U.vm ∧ U.heap = h0 ∧ IB Z U.vm []) (fun _ _ _ _ _ => True) (fun _ U o U' => ∃ v L, o = .returned v ∧ QiAn0 Z n0 a0 a1 k_a1 h0 v U'.heap L ∧ ReturnedEndW U o U' L ({ frames := 1, cells := 2, slots := 4, locals := 12 } : Room).cells ({ frames := 1, cells := 2, slots := 4, locals := 12 } : Room).slots) := by
  refine MetFree.of_bodySF (plainFor_of_name pn_15) hisR ?_
  intro p e s m args below meth c s₁ Bd hml0 hP hK
  obtain ⟨rfl, hZ, hh, IB0⟩ := hP
  have hx := Bd.exec
  have hby := Bd.bytes
  have hml : c.maxLocals = 6 := hml0
  have hown : s.vm.findClass "java/lang/String" = some m.cls := findClass_of_methodNamed Bd.named
  have hnm := (name_of_methodNamed Bd.named Bd.method).1
  have X0 : Stand p l e ({ frames := 1, cells := 2, slots := 4, locals := 12 } : Room) (s.setVm s.vm) m #[(.ref a0), (.ref a1), (.int 0), (.int 0), .null] below meth c s₁ [] 0 0 := Stand.of_body Bd
  have e0 : s₁.heap = h0 := by rw [← hh, Bd.state]; rfl
  have N0 := Fr.nil n0
  have K0 : Keep h0 h0 [a0] := Keep.refl _ _
  obtain ⟨En, hEn⟩ : ∃ z, z = (s₁.setTop (entryFrame m #[(.ref a0), (.ref a1), (.int 0), (.int 0), .null] 6)) := ⟨_, rfl⟩
  have go0 : Go p.tables e below s₁ (mkF m 0 (LiAn0_0 a0 a1) []) En := fun t k => by subst hEn; exact castTop (efiAn0 m a0 a1) k
  have hS0 : s.Since s.vm s.heap.size := (State.WarmedH.refl s).since _
  have hk0 : s.heap.size ≤ h0.size := by rw [← hh]; exact Nat.le_refl _
  have hkS : ∀ (b : Addr) (cl : Cell), Z.heap[b]? = some cl → s.heap[b]? = some cl := fun b cl q => by rw [hh]; exact hkp b cl q
  have neA1 : a0 ≠ a1 := own_exa_arv_ne E_a0 V_a1 (hw _ (mi 7 rfl))
  have go1 : Go p.tables e below s₁ (mkF m 1 (LiAn0_0 a0 a1) [(.ref a0)]) En := by
    intro t k
    refine go0 _ ?_
    refine XS.aloadN X0.here hx rfl (hb hby d3_0) rfl rfl ?_
    exact k
  obtain ⟨T2, X2, e2, st2⟩ := initO X0 hx hZ hown (hw _ (mi 16 rfl)) (hw _ (mi 17 rfl)) (hw _ (mi 18 rfl)) e0 (g := (mkF m 1 (LiAn0_0 a0 a1) [(.ref a0)])) rfl (by rw [hml]; rfl) rfl (hb hby d3_1) (by decide) (W := 0) (by show 2 * 0 + _ ≤ _; exact Nat.le_of_eq rfl) (by decide)
  have go3 := gap go1 st2
  have go4 : Go p.tables e below T2 (mkF m 9 (LiAn0_0 a0 a1) [(.ref a0)]) En := by
    intro t k
    refine go3 _ ?_
    refine XS.iloadN X2.here hx rfl (hb hby d3_4) rfl ?_
    refine XS.ifNo X2.here hx rfl (hb hby d3_5) rfl (XT.i0_ne_f (by decide : ((0 : Int32) = (0 : Int32)))) ?_
    refine XS.aloadN X2.here hx rfl (hb hby d3_8) rfl rfl ?_
    exact k
  obtain ⟨b5, T5, h5, k5, bv5, kv5, X5, e5, E5, hS5, hk5, hZ5, hown5, A5, FC5, FV5, AV5, -, -, I5, Lt5, wh5, st5⟩ := ldcSVd X2 hx hZ hown (hw _ (mi 19 rfl)) (fun a ha => hw a (own_sa a ha)) e2 hS0 hk0 (Fr.nil _) hkS IB0 (by decide) hcn7 hcw (vs := []) (z := (0 : Int32)) own_txt_java_lang_String_7 (by decide) rfl (g := (mkF m 9 (LiAn0_0 a0 a1) [(.ref a0)])) rfl (hb hby d3_9) (n := 0) (by decide +kernel) (by decide) (by decide) (by decide)
  have go6 := gap go4 st5
  have K5 : Keep h0 h5 [a0] := K0.ext E5
  have Zs5 : n0 ≤ h5.size := Nat.le_trans Z0 E5.1
  have F7 := F_a0_value.ext E5
  have F8 := F_a0_coder.ext E5
  have neL5_a0 : a0 ≠ b5 := Fld.ne F7 FV5 (fun q => nomatch q)
  have neA5_a0 : a0 ≠ bv5 := own_exa_arv_ne (E_a0.keep K5) AV5 (hw _ (mi 7 rfl))
  obtain ⟨T9, X9, e9, st9⟩ := getF X5 hx hZ5 hown5 (host := "") (Or.inl (hw _ (mi 25 rfl))) Via.refl e5 FV5 (g := (mkF m 11 (LiAn0_0 a0 a1) [(.ref b5), (.ref a0)])) rfl rfl (hb hby d3_11)
  have go10 := gap go6 st9
  obtain ⟨T11, h11, X11, e11, W11, st11⟩ := putF X9 hx hZ5 hown5 (host := "") (Or.inl (hw _ (mi 25 rfl))) Via.refl e9 F7 (E_a0.keep K5) (Or.inr ⟨(hw _ (mi 21 rfl)), rfl, hnm⟩) (hw _ (mi 7 rfl)) (ty := (.array .byte)) (by decide) rfl rfl (g := (mkF m 14 (LiAn0_0 a0 a1) [(.ref bv5), (.ref a0)])) rfl rfl (hb hby d3_14)
  have go12 := gap go10 st11
  have N11 := Fr.snoc X11 N0 g_a0
  have K11 : Keep h0 h11 [a0] := K5.wr W11 (Or.inl (List.mem_of_getElem? (i := 0) rfl))
  have Zs11 : n0 ≤ h11.size := Nat.le_trans Zs5 (Keep.of_wr W11).1
  have hk11 : k5 ≤ h11.size := Nat.le_trans hk5 (Keep.of_wr W11).1
  have F13 : Fvl Z h11 a0 (.ref bv5) := F7.same W11
  have F14 := F8.other W11 (Or.inr (slot_ne (Or.inr (hw _ (mi 22 rfl))) (Or.inr (hw _ (mi 21 rfl))) (by decide) (t := .byte) (t' := (.array .byte)) (by decide) (by decide)))
  have F15 := A5.wr W11
  have F16 := FC5.other W11 (Or.inl (Ne.symm neL5_a0))
  have F17 := FV5.other W11 (Or.inl (Ne.symm neL5_a0))
  have F18 := AV5.other W11 (Ne.symm neA5_a0)
  have go19 : Go p.tables e below T11 (mkF m 18 (LiAn0_0 a0 a1) [(.ref a0)]) En := by
    intro t k
    refine go12 _ ?_
    refine XS.aloadN X11.here hx rfl (hb hby d3_17) rfl rfl ?_
    exact k
  have st20 := ldcAgain X11 hx hZ5 hown5 (hw _ (mi 19 rfl)) Lt5 (g := (mkF m 18 (LiAn0_0 a0 a1) [(.ref a0)])) rfl (hb hby d3_18)
  have go21 := gap go19 st20
  obtain ⟨T22, X22, e22, st22⟩ := getF X11 hx hZ5 hown5 (host := "") (Or.inl (hw _ (mi 26 rfl))) Via.refl e11 F16 (g := (mkF m 20 (LiAn0_0 a0 a1) [(.ref b5), (.ref a0)])) rfl rfl (hb hby d3_20)
  have go23 := gap go21 st22
  obtain ⟨T24, h24, X24, e24, W24, st24⟩ := putFN X22 hx hZ5 hown5 (hw _ (mi 26 rfl)) Via.refl e22 F14 (E_a0.keep K11) (Or.inr ⟨(hw _ (mi 22 rfl)), rfl, hnm⟩) (hw _ (mi 7 rfl)) (ty := .byte) (v' := (.int 0)) (by decide) rfl rfl (g := (mkF m 23 (LiAn0_0 a0 a1) [(.int 0), (.ref a0)])) rfl rfl (hb hby d3_23)
  have go25 := gap go23 st24
  have N24 := Fr.snoc X24 N11 g_a0
  have K24 : Keep h0 h24 [a0] := K11.wr W24 (Or.inl (List.mem_of_getElem? (i := 0) rfl))
  have Zs24 : n0 ≤ h24.size := Nat.le_trans Zs11 (Keep.of_wr W24).1
  have hk24 : k5 ≤ h24.size := Nat.le_trans hk11 (Keep.of_wr W24).1
  have F26 := F13.other W24 (Or.inr (slot_ne (Or.inr (hw _ (mi 21 rfl))) (Or.inr (hw _ (mi 22 rfl))) (by decide) (t := (.array .byte)) (t' := .byte) (by decide) (by decide)))
  have F27 : Fcd Z h24 a0 (.int 0) := F14.same W24
  have F28 := F15.wr W24
  have F29 := F16.other W24 (Or.inl (Ne.symm neL5_a0))
  have F30 := F17.other W24 (Or.inl (Ne.symm neL5_a0))
  have F31 := F18.other W24 (Ne.symm neA5_a0)
  obtain ⟨fs, hr, hrun, hended, hRW⟩ := X24.leaveW hS5 (by rw [e24]; exact hk24) (v := none) (fun _ => rfl) Bd.notSynchronized
  subst hEn
  refine ⟨_, _, go25 _ (X24.returnOut hx Bd.returns (hb hby d3_26) hr), hrun, hended, _, _, rfl, ?_, hRW.1, hRW.2.1, hRW.2.2.1, hRW.2.2.2.mono (by decide) (by decide)⟩
  show QiAn0 _ _ a0 a1 k_a1 h0 _ (T24.setFrames fs).heap _
  have hE : (T24.setFrames fs).heap = h24 := e24
  rw [hE]
  exact ⟨rfl, N24, K24, (E_a0.keep K24), F27, bv5, kv5, F26, F31⟩
theorem d2_0 : decode jdk_42_method_3_code 0 = .ok (.aload_n 0, 1) := by decide +kernel
theorem d2_1 : decode jdk_42_method_3_code 1 = .ok (.aload_n 1, 1) := by decide +kernel
theorem d2_2 : decode jdk_42_method_3_code 2 = .ok (.iconst 0, 1) := by decide +kernel
theorem d2_3 : decode jdk_42_method_3_code 3 = .ok (.aload_n 1, 1) := by decide +kernel
theorem d2_4 : decode jdk_42_method_3_code 4 = .ok (.arraylength, 1) := by decide +kernel
theorem d2_5 : decode jdk_42_method_3_code 5 = .ok (.aconst_null, 1) := by decide +kernel
theorem d2_6 : decode jdk_42_method_3_code 6 = .ok (.invokespecial 27, 3) := by decide +kernel
theorem pd_23 : parseMethodDescriptor "([CIILjava/lang/Void;)V" = some ⟨[(.array .char), .int, .int, (.object "java/lang/Void")], none⟩ := by decide +kernel
theorem d2_9 : decode jdk_42_method_3_code 9 = .ok (.return_, 1) := by decide +kernel
def QiBn0 (Z : State) (n0 : Nat) (a0 : Addr) (a1 : Addr) (k_a1 : ClassId) (h0 : Heap) (v : Option Value) (h : Heap) (L : List Loc) : Prop := v = none ∧ Fr n0 L ∧ Keep h0 h [a0] ∧ Est Z h a0 ∧ Fcd Z h a0 (.int (0 : Int32)) ∧ ∃ (bx : Addr) (kx : ClassId), Fvl Z h a0 (.ref bx) ∧ Arv Z h bx kx .byte (0 : Int32) [] (.int (0 : Int32))
theorem efiBn0 (m : MethodId) (a0 : Addr) (a1 : Addr) : entryFrame m #[(.ref a0), (.ref a1)] 2 = mkF m 0 #[rv a0, rv a1] [] := by first | (simp [entryFrame, mkF, argsToLocals, Value.category]; done) | rfl
set_option maxRecDepth 65536 in
set_option maxHeartbeats 40000000 in
theorem rmiBn0 (l : Launch) (Z : State) (aZ : Array Value) (hw : HW aZ Z) (ws : List Jvm.Cond) (a0 : Addr) (a1 : Addr) (k_a1 : ClassId) (h0 : Heap) (n0 : Nat) (Z0 : n0 ≤ h0.size) (E_a0 : Est Z h0 a0) (F_a0_value : Fvl Z h0 a0 .null) (F_a0_coder : Fcd Z h0 a0 (.int 0)) (g_a0 : n0 ≤ a0) (V_a1 : Arv Z h0 a1 k_a1 .char (0 : Int32) [] (.int 0)) (hkp : ∀ (b : Addr) (cl : Cell), Z.heap[b]? = some cl → h0[b]? = some cl) (hcn7 : Jvm.Lit.constHeld Z "java/lang/String" 7) (hcw : Jvm.Lit.compactW.before aZ Z = true) :
    MetFree l (⟨"java/lang/String", "<init>", "([C)V"⟩ : MethodName) (head1 (Jvm.Cond.code (⟨"java/lang/String", "<init>", "([C)V"⟩ : MethodName) jdk_42_method_3_code 2 none :: ws) ({ frames := 2, cells := 2, slots := 4, locals := 29 } : Room)) (fun a U => a = #[(.ref a0), (.ref a1)] ∧ Z.Warmed39 U.vm ∧ U.heap = h0 ∧ IB Z U.vm []) (fun _ _ _ _ _ => True) (fun _ U o U' => ∃ v L, o = .returned v ∧ QiBn0 Z n0 a0 a1 k_a1 h0 v U'.heap L ∧ ReturnedEndW U o U' L ({ frames := 2, cells := 2, slots := 4, locals := 29 } : Room).cells ({ frames := 2, cells := 2, slots := 4, locals := 29 } : Room).slots) := by
  refine MetFree.of_bodySF (plainFor_of_name pn_15) hisR ?_
  intro p e s m args below meth c s₁ Bd hml0 hP hK
  obtain ⟨rfl, hZ, hh, IB0⟩ := hP
  have hx := Bd.exec
  have hby := Bd.bytes
  have hml : c.maxLocals = 2 := hml0
  have hown : s.vm.findClass "java/lang/String" = some m.cls := findClass_of_methodNamed Bd.named
  have hnm := (name_of_methodNamed Bd.named Bd.method).1
  have X0 : Stand p l e ({ frames := 2, cells := 2, slots := 4, locals := 29 } : Room) (s.setVm s.vm) m #[(.ref a0), (.ref a1)] below meth c s₁ [] 0 0 := Stand.of_body Bd
  have e0 : s₁.heap = h0 := by rw [← hh, Bd.state]; rfl
  have N0 := Fr.nil n0
  have K0 : Keep h0 h0 [a0] := Keep.refl _ _
  obtain ⟨En, hEn⟩ : ∃ z, z = (s₁.setTop (entryFrame m #[(.ref a0), (.ref a1)] 2)) := ⟨_, rfl⟩
  have go0 : Go p.tables e below s₁ (mkF m 0 #[rv a0, rv a1] []) En := fun t k => by subst hEn; exact castTop (efiBn0 m a0 a1) k
  have hS0 : s.Since s.vm s.heap.size := (State.WarmedH.refl s).since _
  have hk0 : s.heap.size ≤ h0.size := by rw [← hh]; exact Nat.le_refl _
  have hkS : ∀ (b : Addr) (cl : Cell), Z.heap[b]? = some cl → s.heap[b]? = some cl := fun b cl q => by rw [hh]; exact hkp b cl q
  have neA1 : a0 ≠ a1 := own_exa_arv_ne E_a0 V_a1 (hw _ (mi 7 rfl))
  obtain ⟨cl1, Ar1, q1, S1, N1, H1, G1⟩ := id V_a1
  have go2 : Go p.tables e below s₁ (mkF m 6 #[rv a0, rv a1] [.null, (.int 0), (.int 0), (.ref a1), (.ref a0)]) En := by
    intro t k
    refine go0 _ ?_
    refine XS.aloadN X0.here hx rfl (hb hby d2_0) rfl rfl ?_
    refine XS.aloadN X0.here hx rfl (hb hby d2_1) rfl rfl ?_
    refine XS.iconst X0.here hx rfl (hb hby d2_2) ?_
    refine XS.aloadN X0.here hx rfl (hb hby d2_3) rfl rfl ?_
    refine X0.arraylength hx (by rw [e0]; exact Ar1.1) (State.isArrayOf_alike hZ.alike Ar1.2.1) (g := (mkF m 4 #[rv a0, rv a1] [(.ref a1), (.int 0), (.ref a1), (.ref a0)])) rfl rfl (hb hby d2_4) _ ?_
    rw [len_of S1 N1]
    show Steps _ _ _ (s₁.setTop (mkF m 5 #[rv a0, rv a1] [(.int 0), (.int 0), (.ref a1), (.ref a0)])) _
    refine XS.aconstNull X0.here hx rfl (hb hby d2_5) ?_
    exact k
  obtain ⟨_, _, ⟨T3, L3, k3, n3⟩, -, X3q, hS3q, hg3, ⟨Lc3, hQ3, l3, y3, z3⟩, st3⟩ := X0.specialBackS hx (y := (⟨"java/lang/String", "<init>", "([CIILjava/lang/Void;)V"⟩ : MethodName)) rfl hown (mvT hZ (hw _ (mi 12 rfl))) (mvT hZ (hw _ (mi 13 rfl))) (mvT hZ (hw _ (mi 15 rfl))) (by decide) (own_backOfSI (W := 0) (rmiAn0 l Z aZ hw [] a0 a1 _ h0 n0 Z0 E_a0 F_a0_value F_a0_coder g_a0 V_a1 hkp hcn7 hcw) hZ (hw _ (mi 15 rfl)) (hw _ (mi 8 rfl)) (by decide) (by decide) IB0) (g := (mkF m 6 #[rv a0, rv a1] [.null, (.int 0), (.int 0), (.ref a1), (.ref a0)])) rfl (by rw [hml]; rfl) (Steps.refl _) (a := a0) (argsL := [(.ref a1), (.int 0), (.int 0), .null]) (rest := []) (lenOf pd_23 rfl) rfl (by show 2 * 0 + _ ≤ _; exact Nat.le_of_eq rfl) (hb hby d2_6) (fun _ _ => ⟨rfl, e0, (by decide : 0 + 2 ≤ _), (by decide : 0 + 4 ≤ _)⟩)
  dsimp only [Pt.U, Pt.locs, Pt.cells, Pt.slots] at X3q hS3q hg3 l3 y3 z3 st3 hQ3
  subst l3 y3 z3
  have hk3q : s.heap.size ≤ s₁.heap.size := by rw [e0]; exact hk0
  obtain ⟨X3, hS3, hZ3, hown3⟩ := rebS hS0 hk3q X3q hS3q hg3 hZ hown
  have hk3r : T3.heap.size ≤ T3.heap.size := Nat.le_refl _
  obtain ⟨rfl, N3q, K3q, G3_0, G3_1, bx3, kx3, GX3, GV3⟩ := hQ3
  have N3 := Fr.app N0 N3q
  have K3 : Keep h0 T3.heap [a0] := K0.trans K3q (allS (Or.inl (List.mem_of_getElem? (i := 0) rfl)) all0)
  have Zs3 : n0 ≤ T3.heap.size := Nat.le_trans Z0 K3q.1
  have hk3 : s.heap.size ≤ T3.heap.size := Nat.le_trans hk0 K3q.1
  have go4 := gapT go2 st3
  obtain ⟨fs, hr, hrun, hended, hRW⟩ := X3.leaveW hS3 (hk3r) (v := none) (fun _ => rfl) Bd.notSynchronized
  subst hEn
  refine ⟨_, _, go4 _ (X3.returnOut hx Bd.returns (hb hby d2_9) hr), hrun, hended, _, _, rfl, ?_, hRW.1, hRW.2.1, hRW.2.2.1, hRW.2.2.2.mono (by decide) (by decide)⟩
  show QiBn0 _ _ a0 a1 k_a1 h0 _ (T3.setFrames fs).heap _
  have hE : (T3.setFrames fs).heap = T3.heap := rfl
  rw [hE]
  exact ⟨rfl, N3, K3, G3_0, G3_1, bx3, kx3, GX3, GV3⟩
theorem d16_0 : decode jdk_52_method_21_code 0 = .ok (.iconst 0, 1) := by decide +kernel
theorem d16_1 : decode jdk_52_method_21_code 1 = .ok (.istore 5, 2) := by decide +kernel
theorem d16_3 : decode jdk_52_method_21_code 3 = .ok (.iload 5, 2) := by decide +kernel
theorem d16_5 : decode jdk_52_method_21_code 5 = .ok (.iload 4, 2) := by decide +kernel
theorem d16_7 : decode jdk_52_method_21_code 7 = .ok (.if_icmp .ge 37, 3) := by decide +kernel
theorem d16_10 : decode jdk_52_method_21_code 10 = .ok (.aload_n 0, 1) := by decide +kernel
theorem d16_11 : decode jdk_52_method_21_code 11 = .ok (.iload_n 1, 1) := by decide +kernel
theorem d16_12 : decode jdk_52_method_21_code 12 = .ok (.caload, 1) := by decide +kernel
theorem d16_13 : decode jdk_52_method_21_code 13 = .ok (.istore 6, 2) := by decide +kernel
theorem d16_15 : decode jdk_52_method_21_code 15 = .ok (.iload 6, 2) := by decide +kernel
theorem d16_17 : decode jdk_52_method_21_code 17 = .ok (.sipush 255, 3) := by decide +kernel
theorem d16_20 : decode jdk_52_method_21_code 20 = .ok (.if_icmp .le 6, 3) := by decide +kernel
theorem d16_26 : decode jdk_52_method_21_code 26 = .ok (.aload_n 2, 1) := by decide +kernel
theorem d16_27 : decode jdk_52_method_21_code 27 = .ok (.iload_n 3, 1) := by decide +kernel
theorem d16_28 : decode jdk_52_method_21_code 28 = .ok (.iload 6, 2) := by decide +kernel
theorem d16_30 : decode jdk_52_method_21_code 30 = .ok (.i2b, 1) := by decide +kernel
theorem d16_31 : decode jdk_52_method_21_code 31 = .ok (.bastore, 1) := by decide +kernel
theorem d16_32 : decode jdk_52_method_21_code 32 = .ok (.iinc 1 1, 3) := by decide +kernel
theorem d16_35 : decode jdk_52_method_21_code 35 = .ok (.iinc 3 1, 3) := by decide +kernel
theorem d16_38 : decode jdk_52_method_21_code 38 = .ok (.iinc 5 1, 3) := by decide +kernel
theorem d16_41 : decode jdk_52_method_21_code 41 = .ok (.goto (-38), 3) := by decide +kernel
theorem d16_44 : decode jdk_52_method_21_code 44 = .ok (.iload 4, 2) := by decide +kernel
theorem d16_46 : decode jdk_52_method_21_code 46 = .ok (.ireturn, 1) := by decide +kernel
theorem pn_48 : plainName "java/lang/StringUTF16" = true := by first | (simp [plainName, overriddenIn]; done) | decide +kernel
def QcAn1 (Z : State) (n0 : Nat) (a0 : Addr) (a2 : Addr) (k_a0 : ClassId) (x0 : Int32) (k_a2 : ClassId) (y0 : Int32) (h0 : Heap) (v : Option Value) (h : Heap) (L : List Loc) : Prop := v = some (.int (1 : Int32)) ∧ Fr n0 L ∧ Keep h0 h [a2] ∧ Arv Z h a2 k_a2 .byte (1 : Int32) [(.int x0.toInt8.toInt32.toInt8.toInt32)] (.int (0 : Int32))
theorem efcAn1 (m : MethodId) (a0 : Addr) (a2 : Addr) : entryFrame m #[(.ref a0), (.int (0 : Int32)), (.ref a2), (.int (0 : Int32)), (.int (1 : Int32))] 7 = mkF m 0 #[rv a0, iv (0 : Int32), rv a2, iv (0 : Int32), iv (1 : Int32), .unset, .unset] [] := by first | (simp [entryFrame, mkF, argsToLocals, Value.category]; done) | rfl
abbrev LcAn1_0 (a0 : Addr) (a2 : Addr) (x0 : Int32) : Array Slot := #[rv a0, iv 0, rv a2, iv 0, iv 1, iv 0, iv x0]
set_option maxRecDepth 65536 in
set_option maxHeartbeats 40000000 in
theorem rmcAn1 (l : Launch) (Z : State) (aZ : Array Value) (hw : HW aZ Z) (ws : List Jvm.Cond) (a0 : Addr) (a2 : Addr) (k_a0 : ClassId) (x0 : Int32) (k_a2 : ClassId) (y0 : Int32) (h0 : Heap) (n0 : Nat) (Z0 : n0 ≤ h0.size) (V_a0 : Arv Z h0 a0 k_a0 .char (1 : Int32) [(.int x0)] (.int 0)) (V_a2 : Arv Z h0 a2 k_a2 .byte (1 : Int32) [(.int y0)] (.int 0)) (g_a2 : n0 ≤ a2) (ne02 : a0 ≠ a2) (hx0 : ¬ (255 : Int32) < x0) :
    MFn l (⟨"java/lang/StringUTF16", "compress", "([CI[BII)I"⟩ : MethodName) jdk_52_method_21_code 7 (some .int) ws (Rm 0 0 0 0) #[(.ref a0), (.int 0), (.ref a2), (.int 0), (.int 1)] Z h0 (QcAn1 Z n0 a0 a2 k_a0 x0 k_a2 y0 h0) := by
  refine own_mf (C := "java/lang/StringUTF16") rfl (plainFor_of_name pn_48) (fun m => efcAn1 m a0 a2) ?_
  intro p e s m below meth cd0 s₁ En hx hby hml hown hnm hZ X0 e0 hlk hrt go0
  have N0 := Fr.nil n0
  have K0 : Keep h0 h0 [a2] := Keep.refl _ _
  obtain ⟨cl1, Ar1, q1, S1, N1, H1, G1⟩ := id V_a0
  have go2 : Go p.tables e below s₁ (mkF m 31 (LcAn1_0 a0 a2 x0) [(.int x0.toInt8.toInt32), (.int 0), (.ref a2)]) En := by
    intro t k
    refine go0 _ ?_
    refine XS.iconst X0.here hx rfl (hb hby d16_0) ?_
    refine XS.istore X0.here hx rfl (hb hby d16_1) rfl (l' := #[rv a0, iv 0, rv a2, iv 0, iv 1, iv 0, .unset]) rfl ?_
    refine XS.iload X0.here hx rfl (hb hby d16_3) rfl ?_
    refine XS.iload X0.here hx rfl (hb hby d16_5) rfl ?_
    refine XS.icmpNo X0.here hx rfl (hb hby d16_7) rfl (XT.ii_ge_f (by decide : ((0 : Int32) < (1 : Int32)))) ?_
    show Steps _ _ _ (s₁.setTop (mkF m 10 #[rv a0, iv 0, rv a2, iv 0, iv 1, iv 0, .unset] [])) _
    refine XS.aloadN X0.here hx rfl (hb hby d16_10) rfl rfl ?_
    refine XS.iloadN X0.here hx rfl (hb hby d16_11) rfl ?_
    refine X0.caload hx (j := (0 : Int32)) (v := (.int x0)) (by rw [e0]; exact Ar1.1) (State.isArrayOf_alike hZ.alike Ar1.2.1) Ar1.2.2 (inb_of S1 ⟨by decide, by decide⟩) (Has.at H1 (inb_of S1 ⟨by decide, by decide⟩) rfl) (g := (mkF m 12 #[rv a0, iv 0, rv a2, iv 0, iv 1, iv 0, .unset] [(.int 0), (.ref a0)])) rfl rfl (hb hby d16_12) _ ?_
    refine XS.istore X0.here hx rfl (hb hby d16_13) rfl (l' := (LcAn1_0 a0 a2 x0)) rfl ?_
    refine XS.iload X0.here hx rfl (hb hby d16_15) rfl ?_
    show Steps _ _ _ (s₁.setTop (mkF m 17 (LcAn1_0 a0 a2 x0) [(.int x0)])) _
    refine XS.sipush X0.here hx rfl (hb hby d16_17) ?_
    refine XS.icmpYes X0.here hx rfl (pc0 := 20) (pc' := 26) rfl (hb hby d16_20) rfl (XT.ii_le_t hx0) (by decide) (by decide) ?_
    refine XS.aloadN X0.here hx rfl (hb hby d16_26) rfl rfl ?_
    refine XS.iloadN X0.here hx rfl (hb hby d16_27) rfl ?_
    refine XS.iload X0.here hx rfl (hb hby d16_28) rfl ?_
    show Steps _ _ _ (s₁.setTop (mkF m 30 (LcAn1_0 a0 a2 x0) [(.int x0), (.int 0), (.ref a2)])) _
    refine XS.i2b X0.here hx rfl (hb hby d16_30) rfl ?_
    exact k
  obtain ⟨cl4, Ar4, q4, S4, N4, H4, G4⟩ := id V_a2
  obtain ⟨T3, h3, X3, e3, W3, st3⟩ := stB X0 hx hZ e0 Ar4 (j := (0 : Int32)) (inb_of S4 ⟨by decide, by decide⟩) (g := (mkF m 31 (LcAn1_0 a0 a2 x0) [(.int x0.toInt8.toInt32), (.int 0), (.ref a2)])) rfl rfl (hb hby d16_31)
  have go5 := gap go2 st3
  have N3 := Fr.snoc X3 N0 g_a2
  have K3 : Keep h0 h3 [a2] := K0.wr W3 (Or.inl (List.mem_of_getElem? (i := 0) rfl))
  have Zs3 : n0 ≤ h3.size := Nat.le_trans Z0 (Keep.of_wr W3).1
  have F6 : Arv Z h3 a2 k_a2 .byte (1 : Int32) [(.int x0.toInt8.toInt32.toInt8.toInt32)] (.int 0) := Arv.set Ar4 q4 S4 N4 H4 G4 (fits_nar_byte _) W3 0 rfl (Nat.le_of_ble_eq_true rfl)
  have go7 : Go p.tables e below T3 (mkF m 46 #[rv a0, iv 1, rv a2, iv 1, iv 1, iv 1, iv x0] [(.int 1)]) En := by
    intro t k
    refine go5 _ ?_
    refine XS.iinc X3.here hx rfl (hb hby d16_32) rfl (l' := #[rv a0, iv 1, rv a2, iv 0, iv 1, iv 0, iv x0]) rfl ?_
    refine XS.iinc X3.here hx rfl (hb hby d16_35) rfl (l' := #[rv a0, iv 1, rv a2, iv 1, iv 1, iv 0, iv x0]) rfl ?_
    refine XS.iinc X3.here hx rfl (hb hby d16_38) rfl (l' := #[rv a0, iv 1, rv a2, iv 1, iv 1, iv 1, iv x0]) rfl ?_
    refine XS.goto X3.here hx rfl (pc0 := 41) (pc' := 3) rfl (hb hby d16_41) (by decide) (by decide) ?_
    refine XS.iload X3.here hx rfl (hb hby d16_3) rfl ?_
    show Steps _ _ _ (T3.setTop (mkF m 5 #[rv a0, iv 1, rv a2, iv 1, iv 1, iv 1, iv x0] [(.int 1)])) _
    refine XS.iload X3.here hx rfl (hb hby d16_5) rfl ?_
    refine XS.icmpYes X3.here hx rfl (pc0 := 7) (pc' := 44) rfl (hb hby d16_7) rfl (XT.ii_ge_t (by decide : ¬ ((1 : Int32) < (1 : Int32)))) (by decide) (by decide) ?_
    refine XS.iload X3.here hx rfl (hb hby d16_44) rfl ?_
    exact k
  refine own_out (w := (.int 1)) X3 hx hlk go7 hrt rfl (Or.inl ⟨rfl, Or.inl rfl, _, rfl⟩) (hb hby d16_46) e3 (by decide) (by decide) ?_
  exact ⟨rfl, N3, K3, F6⟩
theorem d15_0 : decode jdk_52_method_16_code 0 = .ok (.iload_n 2, 1) := by decide +kernel
theorem d15_1 : decode jdk_52_method_16_code 1 = .ok (.newarray .byte, 2) := by decide +kernel
theorem d15_3 : decode jdk_52_method_16_code 3 = .ok (.astore_n 3, 1) := by decide +kernel
theorem d15_4 : decode jdk_52_method_16_code 4 = .ok (.aload_n 0, 1) := by decide +kernel
theorem d15_5 : decode jdk_52_method_16_code 5 = .ok (.iload_n 1, 1) := by decide +kernel
theorem d15_6 : decode jdk_52_method_16_code 6 = .ok (.aload_n 3, 1) := by decide +kernel
theorem d15_7 : decode jdk_52_method_16_code 7 = .ok (.iconst 0, 1) := by decide +kernel
theorem d15_8 : decode jdk_52_method_16_code 8 = .ok (.iload_n 2, 1) := by decide +kernel
theorem d15_9 : decode jdk_52_method_16_code 9 = .ok (.invokestatic 115, 3) := by decide +kernel
theorem own_site58 {Z : State} {aZ : Array Value} (hw : HW aZ Z) : SSt aZ Z (⟨"java/lang/StringUTF16", "compress", "([CI[BII)I"⟩ : MethodName) jdk_52_method_21_code 7 (some .int) := ⟨⟨(hw _ (mi 76 rfl)), (hw _ (mi 73 rfl))⟩, (hw _ (mi 77 rfl))⟩
theorem pd_59 : parseMethodDescriptor "([CI[BII)I" = some ⟨[(.array .char), .int, (.array .byte), .int, .int], some .int⟩ := by decide +kernel
theorem d15_12 : decode jdk_52_method_16_code 12 = .ok (.istore 4, 2) := by decide +kernel
theorem d15_14 : decode jdk_52_method_16_code 14 = .ok (.iload 4, 2) := by decide +kernel
theorem d15_16 : decode jdk_52_method_16_code 16 = .ok (.iload_n 2, 1) := by decide +kernel
theorem d15_17 : decode jdk_52_method_16_code 17 = .ok (.if_icmp .eq 40, 3) := by decide +kernel
theorem d15_57 : decode jdk_52_method_16_code 57 = .ok (.aload_n 3, 1) := by decide +kernel
theorem d15_58 : decode jdk_52_method_16_code 58 = .ok (.areturn, 1) := by decide +kernel
def QcBn1 (Z : State) (n0 : Nat) (a0 : Addr) (k_a0 : ClassId) (x0 : Int32) (h0 : Heap) (v : Option Value) (h : Heap) (L : List Loc) : Prop := ∃ (b : Addr) (kb : ClassId), v = some (.ref b) ∧ Fr n0 L ∧ Keep h0 h [] ∧ h0.size ≤ b ∧ Arv Z h b kb .byte (1 : Int32) [(.int x0.toInt8.toInt32.toInt8.toInt32)] (.int (0 : Int32))
theorem efcBn1 (m : MethodId) (a0 : Addr) : entryFrame m #[(.ref a0), (.int (0 : Int32)), (.int (1 : Int32))] 6 = mkF m 0 #[rv a0, iv (0 : Int32), iv (1 : Int32), .unset, .unset, .unset] [] := by first | (simp [entryFrame, mkF, argsToLocals, Value.category]; done) | rfl
set_option maxRecDepth 65536 in
set_option maxHeartbeats 40000000 in
theorem rmcBn1 (l : Launch) (Z : State) (aZ : Array Value) (hw : HW aZ Z) (ws : List Jvm.Cond) (a0 : Addr) (k_a0 : ClassId) (x0 : Int32) (h0 : Heap) (n0 : Nat) (Z0 : n0 ≤ h0.size) (V_a0 : Arv Z h0 a0 k_a0 .char (1 : Int32) [(.int x0)] (.int 0)) (hx0 : ¬ (255 : Int32) < x0) :
    MFn l (⟨"java/lang/StringUTF16", "compress", "([CII)[B"⟩ : MethodName) jdk_52_method_16_code 6 (some (.array .byte)) ws (Rm 1 1 1 18) #[(.ref a0), (.int 0), (.int 1)] Z h0 (QcBn1 Z n0 a0 k_a0 x0 h0) := by
  refine own_mf (C := "java/lang/StringUTF16") rfl (plainFor_of_name pn_48) (fun m => efcBn1 m a0) ?_
  intro p e s m below meth cd0 s₁ En hx hby hml hown hnm hZ X0 e0 hlk hrt go0
  have N0 := Fr.nil n0
  have K0 : Keep h0 h0 [] := Keep.refl _ _
  have go1 : Go p.tables e below s₁ (mkF m 1 #[rv a0, iv 0, iv 1, .unset, .unset, .unset] [(.int 1)]) En := by
    intro t k
    refine go0 _ ?_
    refine XS.iloadN X0.here hx rfl (hb hby d15_0) rfl ?_
    exact k
  obtain ⟨T2, h2, k2, X2, e2, E2, A2, st2⟩ := newP X0 hx hZ (hw _ (mi 20 rfl)) e0 (g := (mkF m 1 #[rv a0, iv 0, iv 1, .unset, .unset, .unset] [(.int 1)])) rfl (hb hby d15_1) rfl (by decide) (cap := 1) (by decide) (by decide) (by decide) (by decide)
  obtain ⟨b2, g2⟩ : ∃ z, z = h0.size := ⟨_, rfl⟩
  rw [← g2] at A2 st2
  have ne3 : a0 ≠ b2 := Nat.ne_of_lt (Nat.lt_of_lt_of_le V_a0.lt (Nat.le_of_eq g2.symm))
  have low2 : n0 ≤ b2 := Nat.le_trans Z0 (Nat.le_of_eq g2.symm)
  have fsh2 : h0.size ≤ b2 := Nat.le_trans K0.1 (Nat.le_of_eq g2.symm)
  have K2 : Keep h0 h2 [] := K0.ext E2
  have Zs2 : n0 ≤ h2.size := Nat.le_trans Z0 E2.1
  have go4 := gap go1 st2
  have F5 : Arv Z h2 b2 k2 .byte (1 : Int32) [(.int 0)] (.int 0) := (Arv.new A2 (by decide)).pad (pad_rep [] (.int 0) 1)
  have go6 : Go p.tables e below T2 (mkF m 9 #[rv a0, iv 0, iv 1, rv b2, .unset, .unset] [(.int 1), (.int 0), (.ref b2), (.int 0), (.ref a0)]) En := by
    intro t k
    refine go4 _ ?_
    refine XS.astoreN X2.here hx rfl (hb hby d15_3) rfl rfl (l' := #[rv a0, iv 0, iv 1, rv b2, .unset, .unset]) rfl ?_
    refine XS.aloadN X2.here hx rfl (hb hby d15_4) rfl rfl ?_
    refine XS.iloadN X2.here hx rfl (hb hby d15_5) rfl ?_
    refine XS.aloadN X2.here hx rfl (hb hby d15_6) rfl rfl ?_
    refine XS.iconst X2.here hx rfl (hb hby d15_7) ?_
    show Steps _ _ _ (T2.setTop (mkF m 8 #[rv a0, iv 0, iv 1, rv b2, .unset, .unset] [(.int 0), (.ref b2), (.int 0), (.ref a0)])) _
    refine XS.iloadN X2.here hx rfl (hb hby d15_8) rfl ?_
    exact k
  obtain ⟨_, T7, Lc7, X7, hQ7, st7⟩ := own_cs X2 hx hZ hown hml go6 (hb hby d15_9) e2 (hw _ (mi 75 rfl)) (own_site58 hw) (rmcAn1 l Z aZ hw [] a0 b2 _ x0 k2 _ h2 n0 Zs2 (V_a0.keep K2 nin0) F5 low2 ne3 hx0) (by decide) (argsL := [(.ref a0), (.int 0), (.ref b2), (.int 0), (.int 1)]) (rest := []) rfl rfl rfl (lenOf pd_59 rfl) (W := 0) rfl (by decide) (by decide) (by decide : 1 + 0 ≤ _) (by decide : 1 + 0 ≤ _)
  obtain ⟨rfl, N7q, K7q, G7_0⟩ := hQ7
  have N7 := Fr.app N0 N7q
  have K7 : Keep h0 T7.heap [] := K2.trans K7q (allS (Or.inr fsh2) all0)
  have Zs7 : n0 ≤ T7.heap.size := Nat.le_trans Zs2 K7q.1
  have go8 : Go p.tables e below T7 (mkF m 58 #[rv a0, iv 0, iv 1, rv b2, iv 1, .unset] [(.ref b2)]) En := by
    intro t k
    refine st7 _ ?_
    refine XS.istore X7.here hx rfl (hb hby d15_12) rfl (l' := #[rv a0, iv 0, iv 1, rv b2, iv 1, .unset]) rfl ?_
    refine XS.iload X7.here hx rfl (hb hby d15_14) rfl ?_
    refine XS.iloadN X7.here hx rfl (hb hby d15_16) rfl ?_
    refine XS.icmpYes X7.here hx rfl (pc0 := 17) (pc' := 57) rfl (hb hby d15_17) rfl (XT.ii_eq_t (by decide : ((1 : Int32) = (1 : Int32)))) (by decide) (by decide) ?_
    refine XS.aloadN X7.here hx rfl (hb hby d15_57) rfl rfl ?_
    show Steps _ _ _ (T7.setTop (mkF m 58 #[rv a0, iv 0, iv 1, rv b2, iv 1, .unset] [(.ref b2)])) _
    exact k
  refine own_out (w := (.ref b2)) X7 hx hlk go8 hrt rfl (Or.inr (Or.inr (Or.inr (Or.inr ⟨rfl, rfl, rfl⟩)))) (hb hby d15_58) rfl (by decide) (by decide) ?_
  exact ⟨b2, k2, rfl, N7, K7, fsh2, G7_0⟩
theorem d17_0 : decode jdk_52_method_15_code 0 = .ok (.iload_n 1, 1) := by decide +kernel
theorem d17_1 : decode jdk_52_method_15_code 1 = .ok (.aload_n 0, 1) := by decide +kernel
theorem d17_2 : decode jdk_52_method_15_code 2 = .ok (.arraylength, 1) := by decide +kernel
theorem d17_3 : decode jdk_52_method_15_code 3 = .ok (.isub, 1) := by decide +kernel
theorem d17_4 : decode jdk_52_method_15_code 4 = .ok (.bipush 31, 2) := by decide +kernel
theorem d17_6 : decode jdk_52_method_15_code 6 = .ok (.iushr, 1) := by decide +kernel
theorem d17_7 : decode jdk_52_method_15_code 7 = .ok (.i2b, 1) := by decide +kernel
theorem d17_8 : decode jdk_52_method_15_code 8 = .ok (.ireturn, 1) := by decide +kernel
theorem efcCn1 (m : MethodId) (a0 : Addr) : entryFrame m #[(.ref a0), (.int (1 : Int32))] 2 = mkF m 0 #[rv a0, iv (1 : Int32)] [] := by first | (simp [entryFrame, mkF, argsToLocals, Value.category]; done) | rfl
set_option maxRecDepth 65536 in
set_option maxHeartbeats 40000000 in
theorem rmcCn1 (l : Launch) (Z : State) (aZ : Array Value) (hw : HW aZ Z) (ws : List Jvm.Cond) (a0 : Addr) (k_a0 : ClassId) (y0 : Int32) (h0 : Heap) (n0 : Nat) (Z0 : n0 ≤ h0.size) (V_a0 : Arv Z h0 a0 k_a0 .byte (1 : Int32) [(.int y0)] (.int 0)) :
    MFn l (⟨"java/lang/StringUTF16", "coderFromArrayLen", "([BI)B"⟩ : MethodName) jdk_52_method_15_code 2 (some .byte) ws (Rm 0 0 0 0) #[(.ref a0), (.int 1)] Z h0 (QP n0 h0 (some (.int 0))) := by
  refine own_mf (C := "java/lang/StringUTF16") rfl (plainFor_of_name pn_48) (fun m => efcCn1 m a0) ?_
  intro p e s m below meth cd0 s₁ En hx hby hml hown hnm hZ X0 e0 hlk hrt go0
  have N0 := Fr.nil n0
  have K0 : Keep h0 h0 [] := Keep.refl _ _
  obtain ⟨cl1, Ar1, q1, S1, N1, H1, G1⟩ := id V_a0
  have go2 : Go p.tables e below s₁ (mkF m 8 #[rv a0, iv 1] [(.int 0)]) En := by
    intro t k
    refine go0 _ ?_
    refine XS.iloadN X0.here hx rfl (hb hby d17_0) rfl ?_
    refine XS.aloadN X0.here hx rfl (hb hby d17_1) rfl rfl ?_
    refine X0.arraylength hx (by rw [e0]; exact Ar1.1) (State.isArrayOf_alike hZ.alike Ar1.2.1) (g := (mkF m 2 #[rv a0, iv 1] [(.ref a0), (.int 1)])) rfl rfl (hb hby d17_2) _ ?_
    rw [len_of S1 N1]
    refine XS.isub X0.here hx rfl (hb hby d17_3) rfl ?_
    show Steps _ _ _ (s₁.setTop (mkF m 4 #[rv a0, iv 1] [(.int 0)])) _
    refine XS.bipush X0.here hx rfl (hb hby d17_4) ?_
    refine XS.iushr X0.here hx rfl (hb hby d17_6) rfl ?_
    show Steps _ _ _ (s₁.setTop (mkF m 7 #[rv a0, iv 1] [(.int (((0 : Int32).toUInt32 >>> ((31 : Int32) &&& 31).toUInt32).toInt32))])) _
    rw [(by decide : (((0 : Int32).toUInt32 >>> ((31 : Int32) &&& 31).toUInt32).toInt32) = (0 : Int32))]
    refine XS.i2b X0.here hx rfl (hb hby d17_7) rfl ?_
    show Steps _ _ _ (s₁.setTop (mkF m 8 #[rv a0, iv 1] [(.int (0 : Int32).toInt8.toInt32)])) _
    rw [(by decide : (0 : Int32).toInt8.toInt32 = (0 : Int32))]
    exact k
  refine own_out (w := (.int 0)) X0 hx hlk go2 hrt rfl (Or.inl ⟨rfl, Or.inr (Or.inr (Or.inl rfl)), _, rfl⟩) (hb hby d17_8) e0 (by decide) (by decide) ?_
  exact ⟨rfl, N0, rfl⟩
theorem d3_27 : decode jdk_42_method_149_code 27 = .ok (.getstatic 38, 3) := by decide +kernel
theorem d3_30 : decode jdk_42_method_149_code 30 = .ok (.ifCond .eq 28, 3) := by decide +kernel
theorem d3_33 : decode jdk_42_method_149_code 33 = .ok (.aload_n 1, 1) := by decide +kernel
theorem d3_34 : decode jdk_42_method_149_code 34 = .ok (.iload_n 2, 1) := by decide +kernel
theorem d3_35 : decode jdk_42_method_149_code 35 = .ok (.iload_n 3, 1) := by decide +kernel
theorem d3_36 : decode jdk_42_method_149_code 36 = .ok (.invokestatic 177, 3) := by decide +kernel
theorem own_site80 {Z : State} {aZ : Array Value} (hw : HW aZ Z) : SSt aZ Z (⟨"java/lang/StringUTF16", "compress", "([CII)[B"⟩ : MethodName) jdk_52_method_16_code 6 (some (.array .byte)) := ⟨⟨(hw _ (mi 72 rfl)), (hw _ (mi 73 rfl))⟩, (hw _ (mi 74 rfl))⟩
theorem pd_81 : parseMethodDescriptor "([CII)[B" = some ⟨[(.array .char), .int, .int], some (.array .byte)⟩ := by decide +kernel
theorem d3_39 : decode jdk_42_method_149_code 39 = .ok (.astore 5, 2) := by decide +kernel
theorem d3_41 : decode jdk_42_method_149_code 41 = .ok (.aload_n 0, 1) := by decide +kernel
theorem d3_42 : decode jdk_42_method_149_code 42 = .ok (.aload 5, 2) := by decide +kernel
theorem d3_44 : decode jdk_42_method_149_code 44 = .ok (.iload_n 3, 1) := by decide +kernel
theorem d3_45 : decode jdk_42_method_149_code 45 = .ok (.invokestatic 47, 3) := by decide +kernel
theorem own_site87 {Z : State} {aZ : Array Value} (hw : HW aZ Z) : SSt aZ Z (⟨"java/lang/StringUTF16", "coderFromArrayLen", "([BI)B"⟩ : MethodName) jdk_52_method_15_code 2 (some .byte) := ⟨⟨(hw _ (mi 79 rfl)), (hw _ (mi 73 rfl))⟩, (hw _ (mi 80 rfl))⟩
theorem pd_88 : parseMethodDescriptor "([BI)B" = some ⟨[(.array .byte), .int], some .byte⟩ := by decide +kernel
theorem d3_48 : decode jdk_42_method_149_code 48 = .ok (.putfield 15, 3) := by decide +kernel
theorem d3_51 : decode jdk_42_method_149_code 51 = .ok (.aload_n 0, 1) := by decide +kernel
theorem d3_52 : decode jdk_42_method_149_code 52 = .ok (.aload 5, 2) := by decide +kernel
theorem d3_54 : decode jdk_42_method_149_code 54 = .ok (.putfield 9, 3) := by decide +kernel
theorem d3_57 : decode jdk_42_method_149_code 57 = .ok (.return_, 1) := by decide +kernel
def QiAn1 (Z : State) (n0 : Nat) (a0 : Addr) (a1 : Addr) (k_a1 : ClassId) (x0 : Int32) (s_COMPACT_STRINGS : Int32) (h0 : Heap) (v : Option Value) (h : Heap) (L : List Loc) : Prop := v = none ∧ Fr n0 L ∧ Keep h0 h [a0] ∧ Est Z h a0 ∧ Fcd Z h a0 (.int (0 : Int32)) ∧ ∃ (bx : Addr) (kx : ClassId), Fvl Z h a0 (.ref bx) ∧ Arv Z h bx kx .byte (1 : Int32) [(.int x0.toInt8.toInt32.toInt8.toInt32)] (.int (0 : Int32))
theorem efiAn1 (m : MethodId) (a0 : Addr) (a1 : Addr) : entryFrame m #[(.ref a0), (.ref a1), (.int (0 : Int32)), (.int (1 : Int32)), .null] 6 = mkF m 0 #[rv a0, rv a1, iv (0 : Int32), iv (1 : Int32), .val .null, .unset] [] := by first | (simp [entryFrame, mkF, argsToLocals, Value.category]; done) | rfl
abbrev LiAn1_0 (a0 : Addr) (a1 : Addr) : Array Slot := #[rv a0, rv a1, iv 0, iv 1, .val .null, .unset]
abbrev LiAn1_1 (a0 : Addr) (a1 : Addr) (b8 : Addr) : Array Slot := #[rv a0, rv a1, iv 0, iv 1, .val .null, rv b8]
set_option maxRecDepth 65536 in
set_option maxHeartbeats 40000000 in
theorem rmiAn1 (l : Launch) (Z : State) (aZ : Array Value) (hw : HW aZ Z) (ws : List Jvm.Cond) (a0 : Addr) (a1 : Addr) (k_a1 : ClassId) (x0 : Int32) (s_COMPACT_STRINGS : Int32) (h0 : Heap) (n0 : Nat) (Z0 : n0 ≤ h0.size) (E_a0 : Est Z h0 a0) (F_a0_value : Fvl Z h0 a0 .null) (F_a0_coder : Fcd Z h0 a0 (.int 0)) (g_a0 : n0 ≤ a0) (V_a1 : Arv Z h0 a1 k_a1 .char (1 : Int32) [(.int x0)] (.int 0)) (S_COMPACT_STRINGS : SfC Z h0 (.int s_COMPACT_STRINGS)) (hcs : ¬ s_COMPACT_STRINGS = (0 : Int32)) (hx0 : ¬ (255 : Int32) < x0) :
    MFn l (⟨"java/lang/String", "<init>", "([CIILjava/lang/Void;)V"⟩ : MethodName) jdk_42_method_149_code 6 none ws (Rm 2 1 1 35) #[(.ref a0), (.ref a1), (.int 0), (.int 1), .null] Z h0 (QiAn1 Z n0 a0 a1 k_a1 x0 s_COMPACT_STRINGS h0) := by
  refine own_mf (C := "java/lang/String") rfl (plainFor_of_name pn_15) (fun m => efiAn1 m a0 a1) ?_
  intro p e s m below meth cd0 s₁ En hx hby hml hown hnm hZ X0 e0 hlk hrt go0
  have neA1 : a0 ≠ a1 := own_exa_arv_ne E_a0 V_a1 (hw _ (mi 7 rfl))
  have N0 := Fr.nil n0
  have K0 : Keep h0 h0 [a0] := Keep.refl _ _
  have go1 : Go p.tables e below s₁ (mkF m 1 (LiAn1_0 a0 a1) [(.ref a0)]) En := by
    intro t k
    refine go0 _ ?_
    refine XS.aloadN X0.here hx rfl (hb hby d3_0) rfl rfl ?_
    exact k
  obtain ⟨T2, X2, e2, st2⟩ := initO X0 hx hZ hown (hw _ (mi 16 rfl)) (hw _ (mi 17 rfl)) (hw _ (mi 18 rfl)) e0 (g := (mkF m 1 (LiAn1_0 a0 a1) [(.ref a0)])) rfl (by rw [hml]; rfl) rfl (hb hby d3_1) (by decide) (W := 0) (by show 2 * 0 + _ ≤ _; exact Nat.le_of_eq rfl) (by decide)
  have go3 := gap go1 st2
  have go4 : Go p.tables e below T2 (mkF m 27 (LiAn1_0 a0 a1) []) En := by
    intro t k
    refine go3 _ ?_
    refine XS.iloadN X2.here hx rfl (hb hby d3_4) rfl ?_
    refine XS.ifYes X2.here hx rfl (pc0 := 5) (pc' := 27) rfl (hb hby d3_5) rfl (XT.i0_ne_t (by decide : ¬ ((1 : Int32) = (0 : Int32)))) (by decide) (by decide) ?_
    exact k
  obtain ⟨T5, X5, e5, st5⟩ := getS2 X2 hx hZ hown (host := "") (Or.inl (hw _ (mi 46 rfl))) Via.refl e2 S_COMPACT_STRINGS (g := (mkF m 27 (LiAn1_0 a0 a1) [])) rfl (hb hby d3_27)
  have go6 := gap go4 st5
  have go7 : Go p.tables e below T5 (mkF m 36 (LiAn1_0 a0 a1) [(.int 1), (.int 0), (.ref a1)]) En := by
    intro t k
    refine go6 _ ?_
    refine XS.ifNo X5.here hx rfl (hb hby d3_30) rfl (XT.i0_eq_f hcs) ?_
    refine XS.aloadN X5.here hx rfl (hb hby d3_33) rfl rfl ?_
    refine XS.iloadN X5.here hx rfl (hb hby d3_34) rfl ?_
    refine XS.iloadN X5.here hx rfl (hb hby d3_35) rfl ?_
    exact k
  obtain ⟨_, T8, Lc8, X8, hQ8, st8⟩ := own_cs X5 hx hZ hown hml go7 (hb hby d3_36) e5 (hw _ (mi 71 rfl)) (own_site80 hw) (rmcBn1 l Z aZ hw [] a1 _ x0 h0 n0 Z0 V_a1 hx0) (by decide) (argsL := [(.ref a1), (.int 0), (.int 1)]) (rest := []) rfl rfl rfl (lenOf pd_81 rfl) (W := 0) rfl (by decide) (by decide) (by decide : 0 + 1 ≤ _) (by decide : 0 + 1 ≤ _)
  obtain ⟨b8, kb8, rfl, N8q, K8q, fr8, G8_0⟩ := hQ8
  have N8 := Fr.app N0 N8q
  have K8 : Keep h0 T8.heap [a0] := K0.trans K8q all0
  have low8 : n0 ≤ b8 := Nat.le_trans Z0 fr8
  have fsh8 : h0.size ≤ b8 := Nat.le_trans K0.1 fr8
  have ne9 : a0 ≠ b8 := Nat.ne_of_lt (Nat.lt_of_lt_of_le E_a0.lt fr8)
  have ne10 : a1 ≠ b8 := Nat.ne_of_lt (Nat.lt_of_lt_of_le V_a1.lt fr8)
  have Zs8 : n0 ≤ T8.heap.size := Nat.le_trans Z0 K8q.1
  have F11 := F_a0_value.keep K8q nin0
  have F12 := F_a0_coder.keep K8q nin0
  have go13 : Go p.tables e below T8 (mkF m 45 (LiAn1_1 a0 a1 b8) [(.int 1), (.ref b8), (.ref a0)]) En := by
    intro t k
    refine st8 _ ?_
    refine XS.astore X8.here hx rfl (hb hby d3_39) rfl rfl (l' := (LiAn1_1 a0 a1 b8)) rfl ?_
    refine XS.aloadN X8.here hx rfl (hb hby d3_41) rfl rfl ?_
    refine XS.aload X8.here hx rfl (hb hby d3_42) rfl rfl ?_
    refine XS.iloadN X8.here hx rfl (hb hby d3_44) rfl ?_
    exact k
  obtain ⟨_, T14, Lc14, X14, hQ14, st14⟩ := own_cs X8 hx hZ hown hml go13 (hb hby d3_45) rfl (hw _ (mi 78 rfl)) (own_site87 hw) (rmcCn1 l Z aZ hw [] b8 kb8 _ T8.heap n0 Zs8 G8_0) (by decide) (argsL := [(.ref b8), (.int 1)]) (rest := [(.ref a0)]) rfl rfl rfl (lenOf pd_88 rfl) (W := 1) rfl (by decide) (by decide) (by decide : 1 + 0 ≤ _) (by decide : 1 + 0 ≤ _)
  obtain ⟨rfl, N14q, e14⟩ := hQ14
  have N14 := Fr.app N8 N14q
  obtain ⟨T15, h15, X15, e15, W15, st15⟩ := putFN X14 hx hZ hown (hw _ (mi 26 rfl)) Via.refl e14 F12 (E_a0.keep K8) (Or.inr ⟨(hw _ (mi 22 rfl)), rfl, hnm⟩) (hw _ (mi 7 rfl)) (ty := .byte) (v' := (.int 0)) (by decide) rfl rfl (g := (mkF m 48 (LiAn1_1 a0 a1 b8) [(.int 0), (.ref a0)])) rfl rfl (hb hby d3_48)
  have go16 := gap st14 st15
  have N15 := Fr.snoc X15 N14 g_a0
  have K15 : Keep h0 h15 [a0] := K8.wr W15 (Or.inl (List.mem_of_getElem? (i := 0) rfl))
  have Zs15 : n0 ≤ h15.size := Nat.le_trans Zs8 (Keep.of_wr W15).1
  have F17 := F11.other W15 (Or.inr (slot_ne (Or.inr (hw _ (mi 21 rfl))) (Or.inr (hw _ (mi 22 rfl))) (by decide) (t := (.array .byte)) (t' := .byte) (by decide) (by decide)))
  have F18 : Fcd Z h15 a0 (.int 0) := F12.same W15
  have F19 := G8_0.other W15 (Ne.symm ne9)
  have go20 : Go p.tables e below T15 (mkF m 54 (LiAn1_1 a0 a1 b8) [(.ref b8), (.ref a0)]) En := by
    intro t k
    refine go16 _ ?_
    refine XS.aloadN X15.here hx rfl (hb hby d3_51) rfl rfl ?_
    refine XS.aload X15.here hx rfl (hb hby d3_52) rfl rfl ?_
    exact k
  obtain ⟨T21, h21, X21, e21, W21, st21⟩ := putF X15 hx hZ hown (host := "") (Or.inl (hw _ (mi 25 rfl))) Via.refl e15 F17 (E_a0.keep K15) (Or.inr ⟨(hw _ (mi 21 rfl)), rfl, hnm⟩) (hw _ (mi 7 rfl)) (ty := (.array .byte)) (by decide) rfl rfl (g := (mkF m 54 (LiAn1_1 a0 a1 b8) [(.ref b8), (.ref a0)])) rfl rfl (hb hby d3_54)
  have go22 := gap go20 st21
  have N21 := Fr.snoc X21 N15 g_a0
  have K21 : Keep h0 h21 [a0] := K15.wr W21 (Or.inl (List.mem_of_getElem? (i := 0) rfl))
  have Zs21 : n0 ≤ h21.size := Nat.le_trans Zs15 (Keep.of_wr W21).1
  have F23 : Fvl Z h21 a0 (.ref b8) := F17.same W21
  have F24 := F18.other W21 (Or.inr (slot_ne (Or.inr (hw _ (mi 22 rfl))) (Or.inr (hw _ (mi 21 rfl))) (by decide) (t := .byte) (t' := (.array .byte)) (by decide) (by decide)))
  have F25 := F19.other W21 (Ne.symm ne9)
  refine own_outV X21 hx hlk go22 hrt (hb hby d3_57) e21 (by decide) (by decide) ?_
  exact ⟨rfl, N21, K21, (E_a0.keep K21), F24, b8, kb8, F23, F25⟩
theorem own_site94 {Z : State} {aZ : Array Value} (hw : HW aZ Z) : SIt aZ Z (⟨"java/lang/String", "<init>", "([CIILjava/lang/Void;)V"⟩ : MethodName) jdk_42_method_149_code 6 := ⟨⟨(hw _ (mi 13 rfl)), (hw _ (mi 8 rfl))⟩, (hw _ (mi 15 rfl))⟩
def QiBn1 (Z : State) (n0 : Nat) (a0 : Addr) (a1 : Addr) (k_a1 : ClassId) (x0 : Int32) (s_COMPACT_STRINGS : Int32) (h0 : Heap) (v : Option Value) (h : Heap) (L : List Loc) : Prop := v = none ∧ Fr n0 L ∧ Keep h0 h [a0] ∧ Est Z h a0 ∧ Fcd Z h a0 (.int (0 : Int32)) ∧ ∃ (bx : Addr) (kx : ClassId), Fvl Z h a0 (.ref bx) ∧ Arv Z h bx kx .byte (1 : Int32) [(.int x0.toInt8.toInt32.toInt8.toInt32)] (.int (0 : Int32))
theorem efiBn1 (m : MethodId) (a0 : Addr) (a1 : Addr) : entryFrame m #[(.ref a0), (.ref a1)] 2 = mkF m 0 #[rv a0, rv a1] [] := by first | (simp [entryFrame, mkF, argsToLocals, Value.category]; done) | rfl
set_option maxRecDepth 65536 in
set_option maxHeartbeats 40000000 in
theorem rmiBn1 (l : Launch) (Z : State) (aZ : Array Value) (hw : HW aZ Z) (ws : List Jvm.Cond) (a0 : Addr) (a1 : Addr) (k_a1 : ClassId) (x0 : Int32) (s_COMPACT_STRINGS : Int32) (h0 : Heap) (n0 : Nat) (Z0 : n0 ≤ h0.size) (E_a0 : Est Z h0 a0) (F_a0_value : Fvl Z h0 a0 .null) (F_a0_coder : Fcd Z h0 a0 (.int 0)) (g_a0 : n0 ≤ a0) (V_a1 : Arv Z h0 a1 k_a1 .char (1 : Int32) [(.int x0)] (.int 0)) (S_COMPACT_STRINGS : SfC Z h0 (.int s_COMPACT_STRINGS)) (hcs : ¬ s_COMPACT_STRINGS = (0 : Int32)) (hx0 : ¬ (255 : Int32) < x0) :
    MFn l (⟨"java/lang/String", "<init>", "([C)V"⟩ : MethodName) jdk_42_method_3_code 2 none ws (Rm 3 1 1 52) #[(.ref a0), (.ref a1)] Z h0 (QiBn1 Z n0 a0 a1 k_a1 x0 s_COMPACT_STRINGS h0) := by
  refine own_mf (C := "java/lang/String") rfl (plainFor_of_name pn_15) (fun m => efiBn1 m a0 a1) ?_
  intro p e s m below meth cd0 s₁ En hx hby hml hown hnm hZ X0 e0 hlk hrt go0
  have neA1 : a0 ≠ a1 := own_exa_arv_ne E_a0 V_a1 (hw _ (mi 7 rfl))
  have N0 := Fr.nil n0
  have K0 : Keep h0 h0 [a0] := Keep.refl _ _
  obtain ⟨cl1, Ar1, q1, S1, N1, H1, G1⟩ := id V_a1
  have go2 : Go p.tables e below s₁ (mkF m 6 #[rv a0, rv a1] [.null, (.int 1), (.int 0), (.ref a1), (.ref a0)]) En := by
    intro t k
    refine go0 _ ?_
    refine XS.aloadN X0.here hx rfl (hb hby d2_0) rfl rfl ?_
    refine XS.aloadN X0.here hx rfl (hb hby d2_1) rfl rfl ?_
    refine XS.iconst X0.here hx rfl (hb hby d2_2) ?_
    refine XS.aloadN X0.here hx rfl (hb hby d2_3) rfl rfl ?_
    refine X0.arraylength hx (by rw [e0]; exact Ar1.1) (State.isArrayOf_alike hZ.alike Ar1.2.1) (g := (mkF m 4 #[rv a0, rv a1] [(.ref a1), (.int 0), (.ref a1), (.ref a0)])) rfl rfl (hb hby d2_4) _ ?_
    rw [len_of S1 N1]
    show Steps _ _ _ (s₁.setTop (mkF m 5 #[rv a0, rv a1] [(.int 1), (.int 0), (.ref a1), (.ref a0)])) _
    refine XS.aconstNull X0.here hx rfl (hb hby d2_5) ?_
    exact k
  obtain ⟨_, T3, Lc3, X3, hQ3, st3⟩ := own_ci X0 hx hZ hown hml go2 (hb hby d2_6) e0 (hw _ (mi 12 rfl)) (own_site94 hw) rfl (rmiAn1 l Z aZ hw [] a0 a1 _ x0 _ h0 n0 Z0 E_a0 F_a0_value F_a0_coder g_a0 V_a1 S_COMPACT_STRINGS hcs hx0) (by decide) (argsL := [(.ref a1), (.int 0), (.int 1), .null]) (rest := []) rfl rfl rfl (lenOf pd_23 rfl) (W := 0) rfl (by decide) (by decide) (by decide : 0 + 1 ≤ _) (by decide : 0 + 1 ≤ _)
  obtain ⟨rfl, N3q, K3q, G3_0, G3_1, bx3, kx3, GX3, GV3⟩ := hQ3
  have N3 := Fr.app N0 N3q
  have K3 : Keep h0 T3.heap [a0] := K0.trans K3q (allS (Or.inl (List.mem_of_getElem? (i := 0) rfl)) all0)
  have Zs3 : n0 ≤ T3.heap.size := Nat.le_trans Z0 K3q.1
  refine own_outV X3 hx hlk st3 hrt (hb hby d2_9) rfl (by decide) (by decide) ?_
  exact ⟨rfl, N3, K3, G3_0, G3_1, bx3, kx3, GX3, GV3⟩
def QcAn2 (Z : State) (n0 : Nat) (a0 : Addr) (a2 : Addr) (k_a0 : ClassId) (x0 : Int32) (x1 : Int32) (k_a2 : ClassId) (y0 : Int32) (y1 : Int32) (h0 : Heap) (v : Option Value) (h : Heap) (L : List Loc) : Prop := v = some (.int (2 : Int32)) ∧ Fr n0 L ∧ Keep h0 h [a2] ∧ Arv Z h a2 k_a2 .byte (2 : Int32) [(.int x0.toInt8.toInt32.toInt8.toInt32), (.int x1.toInt8.toInt32.toInt8.toInt32)] (.int (0 : Int32))
theorem efcAn2 (m : MethodId) (a0 : Addr) (a2 : Addr) : entryFrame m #[(.ref a0), (.int (0 : Int32)), (.ref a2), (.int (0 : Int32)), (.int (2 : Int32))] 7 = mkF m 0 #[rv a0, iv (0 : Int32), rv a2, iv (0 : Int32), iv (2 : Int32), .unset, .unset] [] := by first | (simp [entryFrame, mkF, argsToLocals, Value.category]; done) | rfl
abbrev LcAn2_0 (a0 : Addr) (a2 : Addr) (x0 : Int32) : Array Slot := #[rv a0, iv 0, rv a2, iv 0, iv 2, iv 0, iv x0]
set_option maxRecDepth 65536 in
set_option maxHeartbeats 40000000 in
theorem rmcAn2 (l : Launch) (Z : State) (aZ : Array Value) (hw : HW aZ Z) (ws : List Jvm.Cond) (a0 : Addr) (a2 : Addr) (k_a0 : ClassId) (x0 : Int32) (x1 : Int32) (k_a2 : ClassId) (y0 : Int32) (y1 : Int32) (h0 : Heap) (n0 : Nat) (Z0 : n0 ≤ h0.size) (V_a0 : Arv Z h0 a0 k_a0 .char (2 : Int32) [(.int x0), (.int x1)] (.int 0)) (V_a2 : Arv Z h0 a2 k_a2 .byte (2 : Int32) [(.int y0), (.int y1)] (.int 0)) (g_a2 : n0 ≤ a2) (ne02 : a0 ≠ a2) (hx0 : ¬ (255 : Int32) < x0) (hx1 : ¬ (255 : Int32) < x1) :
    MFn l (⟨"java/lang/StringUTF16", "compress", "([CI[BII)I"⟩ : MethodName) jdk_52_method_21_code 7 (some .int) ws (Rm 0 0 0 0) #[(.ref a0), (.int 0), (.ref a2), (.int 0), (.int 2)] Z h0 (QcAn2 Z n0 a0 a2 k_a0 x0 x1 k_a2 y0 y1 h0) := by
  refine own_mf (C := "java/lang/StringUTF16") rfl (plainFor_of_name pn_48) (fun m => efcAn2 m a0 a2) ?_
  intro p e s m below meth cd0 s₁ En hx hby hml hown hnm hZ X0 e0 hlk hrt go0
  have N0 := Fr.nil n0
  have K0 : Keep h0 h0 [a2] := Keep.refl _ _
  obtain ⟨cl1, Ar1, q1, S1, N1, H1, G1⟩ := id V_a0
  have go2 : Go p.tables e below s₁ (mkF m 31 (LcAn2_0 a0 a2 x0) [(.int x0.toInt8.toInt32), (.int 0), (.ref a2)]) En := by
    intro t k
    refine go0 _ ?_
    refine XS.iconst X0.here hx rfl (hb hby d16_0) ?_
    refine XS.istore X0.here hx rfl (hb hby d16_1) rfl (l' := #[rv a0, iv 0, rv a2, iv 0, iv 2, iv 0, .unset]) rfl ?_
    refine XS.iload X0.here hx rfl (hb hby d16_3) rfl ?_
    refine XS.iload X0.here hx rfl (hb hby d16_5) rfl ?_
    refine XS.icmpNo X0.here hx rfl (hb hby d16_7) rfl (XT.ii_ge_f (by decide : ((0 : Int32) < (2 : Int32)))) ?_
    show Steps _ _ _ (s₁.setTop (mkF m 10 #[rv a0, iv 0, rv a2, iv 0, iv 2, iv 0, .unset] [])) _
    refine XS.aloadN X0.here hx rfl (hb hby d16_10) rfl rfl ?_
    refine XS.iloadN X0.here hx rfl (hb hby d16_11) rfl ?_
    refine X0.caload hx (j := (0 : Int32)) (v := (.int x0)) (by rw [e0]; exact Ar1.1) (State.isArrayOf_alike hZ.alike Ar1.2.1) Ar1.2.2 (inb_of S1 ⟨by decide, by decide⟩) (Has.at H1 (inb_of S1 ⟨by decide, by decide⟩) rfl) (g := (mkF m 12 #[rv a0, iv 0, rv a2, iv 0, iv 2, iv 0, .unset] [(.int 0), (.ref a0)])) rfl rfl (hb hby d16_12) _ ?_
    refine XS.istore X0.here hx rfl (hb hby d16_13) rfl (l' := (LcAn2_0 a0 a2 x0)) rfl ?_
    refine XS.iload X0.here hx rfl (hb hby d16_15) rfl ?_
    show Steps _ _ _ (s₁.setTop (mkF m 17 (LcAn2_0 a0 a2 x0) [(.int x0)])) _
    refine XS.sipush X0.here hx rfl (hb hby d16_17) ?_
    refine XS.icmpYes X0.here hx rfl (pc0 := 20) (pc' := 26) rfl (hb hby d16_20) rfl (XT.ii_le_t hx0) (by decide) (by decide) ?_
    refine XS.aloadN X0.here hx rfl (hb hby d16_26) rfl rfl ?_
    refine XS.iloadN X0.here hx rfl (hb hby d16_27) rfl ?_
    refine XS.iload X0.here hx rfl (hb hby d16_28) rfl ?_
    show Steps _ _ _ (s₁.setTop (mkF m 30 (LcAn2_0 a0 a2 x0) [(.int x0), (.int 0), (.ref a2)])) _
    refine XS.i2b X0.here hx rfl (hb hby d16_30) rfl ?_
    exact k
  obtain ⟨cl4, Ar4, q4, S4, N4, H4, G4⟩ := id V_a2
  obtain ⟨T3, h3, X3, e3, W3, st3⟩ := stB X0 hx hZ e0 Ar4 (j := (0 : Int32)) (inb_of S4 ⟨by decide, by decide⟩) (g := (mkF m 31 (LcAn2_0 a0 a2 x0) [(.int x0.toInt8.toInt32), (.int 0), (.ref a2)])) rfl rfl (hb hby d16_31)
  have go5 := gap go2 st3
  have N3 := Fr.snoc X3 N0 g_a2
  have K3 : Keep h0 h3 [a2] := K0.wr W3 (Or.inl (List.mem_of_getElem? (i := 0) rfl))
  have Zs3 : n0 ≤ h3.size := Nat.le_trans Z0 (Keep.of_wr W3).1
  have F6 : Arv Z h3 a2 k_a2 .byte (2 : Int32) [(.int x0.toInt8.toInt32.toInt8.toInt32), (.int y1)] (.int 0) := Arv.set Ar4 q4 S4 N4 H4 G4 (fits_nar_byte _) W3 0 rfl (Nat.le_of_ble_eq_true rfl)
  obtain ⟨cl7, Ar7, q7, S7, N7, H7, G7⟩ := id (V_a0.keep K3 (ninS ne02 nin0))
  have go8 : Go p.tables e below T3 (mkF m 31 #[rv a0, iv 1, rv a2, iv 1, iv 2, iv 1, iv x1] [(.int x1.toInt8.toInt32), (.int 1), (.ref a2)]) En := by
    intro t k
    refine go5 _ ?_
    refine XS.iinc X3.here hx rfl (hb hby d16_32) rfl (l' := #[rv a0, iv 1, rv a2, iv 0, iv 2, iv 0, iv x0]) rfl ?_
    refine XS.iinc X3.here hx rfl (hb hby d16_35) rfl (l' := #[rv a0, iv 1, rv a2, iv 1, iv 2, iv 0, iv x0]) rfl ?_
    refine XS.iinc X3.here hx rfl (hb hby d16_38) rfl (l' := #[rv a0, iv 1, rv a2, iv 1, iv 2, iv 1, iv x0]) rfl ?_
    refine XS.goto X3.here hx rfl (pc0 := 41) (pc' := 3) rfl (hb hby d16_41) (by decide) (by decide) ?_
    refine XS.iload X3.here hx rfl (hb hby d16_3) rfl ?_
    show Steps _ _ _ (T3.setTop (mkF m 5 #[rv a0, iv 1, rv a2, iv 1, iv 2, iv 1, iv x0] [(.int 1)])) _
    refine XS.iload X3.here hx rfl (hb hby d16_5) rfl ?_
    refine XS.icmpNo X3.here hx rfl (hb hby d16_7) rfl (XT.ii_ge_f (by decide : ((1 : Int32) < (2 : Int32)))) ?_
    refine XS.aloadN X3.here hx rfl (hb hby d16_10) rfl rfl ?_
    refine XS.iloadN X3.here hx rfl (hb hby d16_11) rfl ?_
    refine X3.caload hx (j := (1 : Int32)) (v := (.int x1)) (by rw [e3]; exact Ar7.1) (State.isArrayOf_alike hZ.alike Ar7.2.1) Ar7.2.2 (inb_of S7 ⟨by decide, by decide⟩) (Has.at H7 (inb_of S7 ⟨by decide, by decide⟩) rfl) (g := (mkF m 12 #[rv a0, iv 1, rv a2, iv 1, iv 2, iv 1, iv x0] [(.int 1), (.ref a0)])) rfl rfl (hb hby d16_12) _ ?_
    show Steps _ _ _ (T3.setTop (mkF m 13 #[rv a0, iv 1, rv a2, iv 1, iv 2, iv 1, iv x0] [(.int x1)])) _
    refine XS.istore X3.here hx rfl (hb hby d16_13) rfl (l' := #[rv a0, iv 1, rv a2, iv 1, iv 2, iv 1, iv x1]) rfl ?_
    refine XS.iload X3.here hx rfl (hb hby d16_15) rfl ?_
    refine XS.sipush X3.here hx rfl (hb hby d16_17) ?_
    refine XS.icmpYes X3.here hx rfl (pc0 := 20) (pc' := 26) rfl (hb hby d16_20) rfl (XT.ii_le_t hx1) (by decide) (by decide) ?_
    refine XS.aloadN X3.here hx rfl (hb hby d16_26) rfl rfl ?_
    show Steps _ _ _ (T3.setTop (mkF m 27 #[rv a0, iv 1, rv a2, iv 1, iv 2, iv 1, iv x1] [(.ref a2)])) _
    refine XS.iloadN X3.here hx rfl (hb hby d16_27) rfl ?_
    refine XS.iload X3.here hx rfl (hb hby d16_28) rfl ?_
    refine XS.i2b X3.here hx rfl (hb hby d16_30) rfl ?_
    exact k
  obtain ⟨cl10, Ar10, q10, S10, N10, H10, G10⟩ := id F6
  obtain ⟨T9, h9, X9, e9, W9, st9⟩ := stB X3 hx hZ e3 Ar10 (j := (1 : Int32)) (inb_of S10 ⟨by decide, by decide⟩) (g := (mkF m 31 #[rv a0, iv 1, rv a2, iv 1, iv 2, iv 1, iv x1] [(.int x1.toInt8.toInt32), (.int 1), (.ref a2)])) rfl rfl (hb hby d16_31)
  have go11 := gap go8 st9
  have N9 := Fr.snoc X9 N3 g_a2
  have K9 : Keep h0 h9 [a2] := K3.wr W9 (Or.inl (List.mem_of_getElem? (i := 0) rfl))
  have Zs9 : n0 ≤ h9.size := Nat.le_trans Zs3 (Keep.of_wr W9).1
  have F12 : Arv Z h9 a2 k_a2 .byte (2 : Int32) [(.int x0.toInt8.toInt32.toInt8.toInt32), (.int x1.toInt8.toInt32.toInt8.toInt32)] (.int 0) := Arv.set Ar10 q10 S10 N10 H10 G10 (fits_nar_byte _) W9 1 rfl (Nat.le_of_ble_eq_true rfl)
  have go13 : Go p.tables e below T9 (mkF m 46 #[rv a0, iv 2, rv a2, iv 2, iv 2, iv 2, iv x1] [(.int 2)]) En := by
    intro t k
    refine go11 _ ?_
    refine XS.iinc X9.here hx rfl (hb hby d16_32) rfl (l' := #[rv a0, iv 2, rv a2, iv 1, iv 2, iv 1, iv x1]) rfl ?_
    refine XS.iinc X9.here hx rfl (hb hby d16_35) rfl (l' := #[rv a0, iv 2, rv a2, iv 2, iv 2, iv 1, iv x1]) rfl ?_
    refine XS.iinc X9.here hx rfl (hb hby d16_38) rfl (l' := #[rv a0, iv 2, rv a2, iv 2, iv 2, iv 2, iv x1]) rfl ?_
    refine XS.goto X9.here hx rfl (pc0 := 41) (pc' := 3) rfl (hb hby d16_41) (by decide) (by decide) ?_
    refine XS.iload X9.here hx rfl (hb hby d16_3) rfl ?_
    show Steps _ _ _ (T9.setTop (mkF m 5 #[rv a0, iv 2, rv a2, iv 2, iv 2, iv 2, iv x1] [(.int 2)])) _
    refine XS.iload X9.here hx rfl (hb hby d16_5) rfl ?_
    refine XS.icmpYes X9.here hx rfl (pc0 := 7) (pc' := 44) rfl (hb hby d16_7) rfl (XT.ii_ge_t (by decide : ¬ ((2 : Int32) < (2 : Int32)))) (by decide) (by decide) ?_
    refine XS.iload X9.here hx rfl (hb hby d16_44) rfl ?_
    exact k
  refine own_out (w := (.int 2)) X9 hx hlk go13 hrt rfl (Or.inl ⟨rfl, Or.inl rfl, _, rfl⟩) (hb hby d16_46) e9 (by decide) (by decide) ?_
  exact ⟨rfl, N9, K9, F12⟩
def QcBn2 (Z : State) (n0 : Nat) (a0 : Addr) (k_a0 : ClassId) (x0 : Int32) (x1 : Int32) (h0 : Heap) (v : Option Value) (h : Heap) (L : List Loc) : Prop := ∃ (b : Addr) (kb : ClassId), v = some (.ref b) ∧ Fr n0 L ∧ Keep h0 h [] ∧ h0.size ≤ b ∧ Arv Z h b kb .byte (2 : Int32) [(.int x0.toInt8.toInt32.toInt8.toInt32), (.int x1.toInt8.toInt32.toInt8.toInt32)] (.int (0 : Int32))
theorem efcBn2 (m : MethodId) (a0 : Addr) : entryFrame m #[(.ref a0), (.int (0 : Int32)), (.int (2 : Int32))] 6 = mkF m 0 #[rv a0, iv (0 : Int32), iv (2 : Int32), .unset, .unset, .unset] [] := by first | (simp [entryFrame, mkF, argsToLocals, Value.category]; done) | rfl
set_option maxRecDepth 65536 in
set_option maxHeartbeats 40000000 in
theorem rmcBn2 (l : Launch) (Z : State) (aZ : Array Value) (hw : HW aZ Z) (ws : List Jvm.Cond) (a0 : Addr) (k_a0 : ClassId) (x0 : Int32) (x1 : Int32) (h0 : Heap) (n0 : Nat) (Z0 : n0 ≤ h0.size) (V_a0 : Arv Z h0 a0 k_a0 .char (2 : Int32) [(.int x0), (.int x1)] (.int 0)) (hx0 : ¬ (255 : Int32) < x0) (hx1 : ¬ (255 : Int32) < x1) :
    MFn l (⟨"java/lang/StringUTF16", "compress", "([CII)[B"⟩ : MethodName) jdk_52_method_16_code 6 (some (.array .byte)) ws (Rm 1 1 2 18) #[(.ref a0), (.int 0), (.int 2)] Z h0 (QcBn2 Z n0 a0 k_a0 x0 x1 h0) := by
  refine own_mf (C := "java/lang/StringUTF16") rfl (plainFor_of_name pn_48) (fun m => efcBn2 m a0) ?_
  intro p e s m below meth cd0 s₁ En hx hby hml hown hnm hZ X0 e0 hlk hrt go0
  have N0 := Fr.nil n0
  have K0 : Keep h0 h0 [] := Keep.refl _ _
  have go1 : Go p.tables e below s₁ (mkF m 1 #[rv a0, iv 0, iv 2, .unset, .unset, .unset] [(.int 2)]) En := by
    intro t k
    refine go0 _ ?_
    refine XS.iloadN X0.here hx rfl (hb hby d15_0) rfl ?_
    exact k
  obtain ⟨T2, h2, k2, X2, e2, E2, A2, st2⟩ := newP X0 hx hZ (hw _ (mi 20 rfl)) e0 (g := (mkF m 1 #[rv a0, iv 0, iv 2, .unset, .unset, .unset] [(.int 2)])) rfl (hb hby d15_1) rfl (by decide) (cap := 2) (by decide) (by decide) (by decide) (by decide)
  obtain ⟨b2, g2⟩ : ∃ z, z = h0.size := ⟨_, rfl⟩
  rw [← g2] at A2 st2
  have ne3 : a0 ≠ b2 := Nat.ne_of_lt (Nat.lt_of_lt_of_le V_a0.lt (Nat.le_of_eq g2.symm))
  have low2 : n0 ≤ b2 := Nat.le_trans Z0 (Nat.le_of_eq g2.symm)
  have fsh2 : h0.size ≤ b2 := Nat.le_trans K0.1 (Nat.le_of_eq g2.symm)
  have K2 : Keep h0 h2 [] := K0.ext E2
  have Zs2 : n0 ≤ h2.size := Nat.le_trans Z0 E2.1
  have go4 := gap go1 st2
  have F5 : Arv Z h2 b2 k2 .byte (2 : Int32) [(.int 0), (.int 0)] (.int 0) := (Arv.new A2 (by decide)).pad (pad_rep [] (.int 0) 2)
  have go6 : Go p.tables e below T2 (mkF m 9 #[rv a0, iv 0, iv 2, rv b2, .unset, .unset] [(.int 2), (.int 0), (.ref b2), (.int 0), (.ref a0)]) En := by
    intro t k
    refine go4 _ ?_
    refine XS.astoreN X2.here hx rfl (hb hby d15_3) rfl rfl (l' := #[rv a0, iv 0, iv 2, rv b2, .unset, .unset]) rfl ?_
    refine XS.aloadN X2.here hx rfl (hb hby d15_4) rfl rfl ?_
    refine XS.iloadN X2.here hx rfl (hb hby d15_5) rfl ?_
    refine XS.aloadN X2.here hx rfl (hb hby d15_6) rfl rfl ?_
    refine XS.iconst X2.here hx rfl (hb hby d15_7) ?_
    show Steps _ _ _ (T2.setTop (mkF m 8 #[rv a0, iv 0, iv 2, rv b2, .unset, .unset] [(.int 0), (.ref b2), (.int 0), (.ref a0)])) _
    refine XS.iloadN X2.here hx rfl (hb hby d15_8) rfl ?_
    exact k
  obtain ⟨_, T7, Lc7, X7, hQ7, st7⟩ := own_cs X2 hx hZ hown hml go6 (hb hby d15_9) e2 (hw _ (mi 75 rfl)) (own_site58 hw) (rmcAn2 l Z aZ hw [] a0 b2 _ x0 x1 k2 _ _ h2 n0 Zs2 (V_a0.keep K2 nin0) F5 low2 ne3 hx0 hx1) (by decide) (argsL := [(.ref a0), (.int 0), (.ref b2), (.int 0), (.int 2)]) (rest := []) rfl rfl rfl (lenOf pd_59 rfl) (W := 0) rfl (by decide) (by decide) (by decide : 1 + 0 ≤ _) (by decide : 2 + 0 ≤ _)
  obtain ⟨rfl, N7q, K7q, G7_0⟩ := hQ7
  have N7 := Fr.app N0 N7q
  have K7 : Keep h0 T7.heap [] := K2.trans K7q (allS (Or.inr fsh2) all0)
  have Zs7 : n0 ≤ T7.heap.size := Nat.le_trans Zs2 K7q.1
  have go8 : Go p.tables e below T7 (mkF m 58 #[rv a0, iv 0, iv 2, rv b2, iv 2, .unset] [(.ref b2)]) En := by
    intro t k
    refine st7 _ ?_
    refine XS.istore X7.here hx rfl (hb hby d15_12) rfl (l' := #[rv a0, iv 0, iv 2, rv b2, iv 2, .unset]) rfl ?_
    refine XS.iload X7.here hx rfl (hb hby d15_14) rfl ?_
    refine XS.iloadN X7.here hx rfl (hb hby d15_16) rfl ?_
    refine XS.icmpYes X7.here hx rfl (pc0 := 17) (pc' := 57) rfl (hb hby d15_17) rfl (XT.ii_eq_t (by decide : ((2 : Int32) = (2 : Int32)))) (by decide) (by decide) ?_
    refine XS.aloadN X7.here hx rfl (hb hby d15_57) rfl rfl ?_
    show Steps _ _ _ (T7.setTop (mkF m 58 #[rv a0, iv 0, iv 2, rv b2, iv 2, .unset] [(.ref b2)])) _
    exact k
  refine own_out (w := (.ref b2)) X7 hx hlk go8 hrt rfl (Or.inr (Or.inr (Or.inr (Or.inr ⟨rfl, rfl, rfl⟩)))) (hb hby d15_58) rfl (by decide) (by decide) ?_
  exact ⟨b2, k2, rfl, N7, K7, fsh2, G7_0⟩
theorem efcCn2 (m : MethodId) (a0 : Addr) : entryFrame m #[(.ref a0), (.int (2 : Int32))] 2 = mkF m 0 #[rv a0, iv (2 : Int32)] [] := by first | (simp [entryFrame, mkF, argsToLocals, Value.category]; done) | rfl
set_option maxRecDepth 65536 in
set_option maxHeartbeats 40000000 in
theorem rmcCn2 (l : Launch) (Z : State) (aZ : Array Value) (hw : HW aZ Z) (ws : List Jvm.Cond) (a0 : Addr) (k_a0 : ClassId) (y0 : Int32) (y1 : Int32) (h0 : Heap) (n0 : Nat) (Z0 : n0 ≤ h0.size) (V_a0 : Arv Z h0 a0 k_a0 .byte (2 : Int32) [(.int y0), (.int y1)] (.int 0)) :
    MFn l (⟨"java/lang/StringUTF16", "coderFromArrayLen", "([BI)B"⟩ : MethodName) jdk_52_method_15_code 2 (some .byte) ws (Rm 0 0 0 0) #[(.ref a0), (.int 2)] Z h0 (QP n0 h0 (some (.int 0))) := by
  refine own_mf (C := "java/lang/StringUTF16") rfl (plainFor_of_name pn_48) (fun m => efcCn2 m a0) ?_
  intro p e s m below meth cd0 s₁ En hx hby hml hown hnm hZ X0 e0 hlk hrt go0
  have N0 := Fr.nil n0
  have K0 : Keep h0 h0 [] := Keep.refl _ _
  obtain ⟨cl1, Ar1, q1, S1, N1, H1, G1⟩ := id V_a0
  have go2 : Go p.tables e below s₁ (mkF m 8 #[rv a0, iv 2] [(.int 0)]) En := by
    intro t k
    refine go0 _ ?_
    refine XS.iloadN X0.here hx rfl (hb hby d17_0) rfl ?_
    refine XS.aloadN X0.here hx rfl (hb hby d17_1) rfl rfl ?_
    refine X0.arraylength hx (by rw [e0]; exact Ar1.1) (State.isArrayOf_alike hZ.alike Ar1.2.1) (g := (mkF m 2 #[rv a0, iv 2] [(.ref a0), (.int 2)])) rfl rfl (hb hby d17_2) _ ?_
    rw [len_of S1 N1]
    refine XS.isub X0.here hx rfl (hb hby d17_3) rfl ?_
    show Steps _ _ _ (s₁.setTop (mkF m 4 #[rv a0, iv 2] [(.int 0)])) _
    refine XS.bipush X0.here hx rfl (hb hby d17_4) ?_
    refine XS.iushr X0.here hx rfl (hb hby d17_6) rfl ?_
    show Steps _ _ _ (s₁.setTop (mkF m 7 #[rv a0, iv 2] [(.int (((0 : Int32).toUInt32 >>> ((31 : Int32) &&& 31).toUInt32).toInt32))])) _
    rw [(by decide : (((0 : Int32).toUInt32 >>> ((31 : Int32) &&& 31).toUInt32).toInt32) = (0 : Int32))]
    refine XS.i2b X0.here hx rfl (hb hby d17_7) rfl ?_
    show Steps _ _ _ (s₁.setTop (mkF m 8 #[rv a0, iv 2] [(.int (0 : Int32).toInt8.toInt32)])) _
    rw [(by decide : (0 : Int32).toInt8.toInt32 = (0 : Int32))]
    exact k
  refine own_out (w := (.int 0)) X0 hx hlk go2 hrt rfl (Or.inl ⟨rfl, Or.inr (Or.inr (Or.inl rfl)), _, rfl⟩) (hb hby d17_8) e0 (by decide) (by decide) ?_
  exact ⟨rfl, N0, rfl⟩
def QiAn2 (Z : State) (n0 : Nat) (a0 : Addr) (a1 : Addr) (k_a1 : ClassId) (x0 : Int32) (x1 : Int32) (s_COMPACT_STRINGS : Int32) (h0 : Heap) (v : Option Value) (h : Heap) (L : List Loc) : Prop := v = none ∧ Fr n0 L ∧ Keep h0 h [a0] ∧ Est Z h a0 ∧ Fcd Z h a0 (.int (0 : Int32)) ∧ ∃ (bx : Addr) (kx : ClassId), Fvl Z h a0 (.ref bx) ∧ Arv Z h bx kx .byte (2 : Int32) [(.int x0.toInt8.toInt32.toInt8.toInt32), (.int x1.toInt8.toInt32.toInt8.toInt32)] (.int (0 : Int32))
theorem efiAn2 (m : MethodId) (a0 : Addr) (a1 : Addr) : entryFrame m #[(.ref a0), (.ref a1), (.int (0 : Int32)), (.int (2 : Int32)), .null] 6 = mkF m 0 #[rv a0, rv a1, iv (0 : Int32), iv (2 : Int32), .val .null, .unset] [] := by first | (simp [entryFrame, mkF, argsToLocals, Value.category]; done) | rfl
abbrev LiAn2_0 (a0 : Addr) (a1 : Addr) : Array Slot := #[rv a0, rv a1, iv 0, iv 2, .val .null, .unset]
abbrev LiAn2_1 (a0 : Addr) (a1 : Addr) (b8 : Addr) : Array Slot := #[rv a0, rv a1, iv 0, iv 2, .val .null, rv b8]
set_option maxRecDepth 65536 in
set_option maxHeartbeats 40000000 in
theorem rmiAn2 (l : Launch) (Z : State) (aZ : Array Value) (hw : HW aZ Z) (ws : List Jvm.Cond) (a0 : Addr) (a1 : Addr) (k_a1 : ClassId) (x0 : Int32) (x1 : Int32) (s_COMPACT_STRINGS : Int32) (h0 : Heap) (n0 : Nat) (Z0 : n0 ≤ h0.size) (E_a0 : Est Z h0 a0) (F_a0_value : Fvl Z h0 a0 .null) (F_a0_coder : Fcd Z h0 a0 (.int 0)) (g_a0 : n0 ≤ a0) (V_a1 : Arv Z h0 a1 k_a1 .char (2 : Int32) [(.int x0), (.int x1)] (.int 0)) (S_COMPACT_STRINGS : SfC Z h0 (.int s_COMPACT_STRINGS)) (hcs : ¬ s_COMPACT_STRINGS = (0 : Int32)) (hx0 : ¬ (255 : Int32) < x0) (hx1 : ¬ (255 : Int32) < x1) :
    MFn l (⟨"java/lang/String", "<init>", "([CIILjava/lang/Void;)V"⟩ : MethodName) jdk_42_method_149_code 6 none ws (Rm 2 1 2 35) #[(.ref a0), (.ref a1), (.int 0), (.int 2), .null] Z h0 (QiAn2 Z n0 a0 a1 k_a1 x0 x1 s_COMPACT_STRINGS h0) := by
  refine own_mf (C := "java/lang/String") rfl (plainFor_of_name pn_15) (fun m => efiAn2 m a0 a1) ?_
  intro p e s m below meth cd0 s₁ En hx hby hml hown hnm hZ X0 e0 hlk hrt go0
  have neA1 : a0 ≠ a1 := own_exa_arv_ne E_a0 V_a1 (hw _ (mi 7 rfl))
  have N0 := Fr.nil n0
  have K0 : Keep h0 h0 [a0] := Keep.refl _ _
  have go1 : Go p.tables e below s₁ (mkF m 1 (LiAn2_0 a0 a1) [(.ref a0)]) En := by
    intro t k
    refine go0 _ ?_
    refine XS.aloadN X0.here hx rfl (hb hby d3_0) rfl rfl ?_
    exact k
  obtain ⟨T2, X2, e2, st2⟩ := initO X0 hx hZ hown (hw _ (mi 16 rfl)) (hw _ (mi 17 rfl)) (hw _ (mi 18 rfl)) e0 (g := (mkF m 1 (LiAn2_0 a0 a1) [(.ref a0)])) rfl (by rw [hml]; rfl) rfl (hb hby d3_1) (by decide) (W := 0) (by show 2 * 0 + _ ≤ _; exact Nat.le_of_eq rfl) (by decide)
  have go3 := gap go1 st2
  have go4 : Go p.tables e below T2 (mkF m 27 (LiAn2_0 a0 a1) []) En := by
    intro t k
    refine go3 _ ?_
    refine XS.iloadN X2.here hx rfl (hb hby d3_4) rfl ?_
    refine XS.ifYes X2.here hx rfl (pc0 := 5) (pc' := 27) rfl (hb hby d3_5) rfl (XT.i0_ne_t (by decide : ¬ ((2 : Int32) = (0 : Int32)))) (by decide) (by decide) ?_
    exact k
  obtain ⟨T5, X5, e5, st5⟩ := getS2 X2 hx hZ hown (host := "") (Or.inl (hw _ (mi 46 rfl))) Via.refl e2 S_COMPACT_STRINGS (g := (mkF m 27 (LiAn2_0 a0 a1) [])) rfl (hb hby d3_27)
  have go6 := gap go4 st5
  have go7 : Go p.tables e below T5 (mkF m 36 (LiAn2_0 a0 a1) [(.int 2), (.int 0), (.ref a1)]) En := by
    intro t k
    refine go6 _ ?_
    refine XS.ifNo X5.here hx rfl (hb hby d3_30) rfl (XT.i0_eq_f hcs) ?_
    refine XS.aloadN X5.here hx rfl (hb hby d3_33) rfl rfl ?_
    refine XS.iloadN X5.here hx rfl (hb hby d3_34) rfl ?_
    refine XS.iloadN X5.here hx rfl (hb hby d3_35) rfl ?_
    exact k
  obtain ⟨_, T8, Lc8, X8, hQ8, st8⟩ := own_cs X5 hx hZ hown hml go7 (hb hby d3_36) e5 (hw _ (mi 71 rfl)) (own_site80 hw) (rmcBn2 l Z aZ hw [] a1 _ x0 x1 h0 n0 Z0 V_a1 hx0 hx1) (by decide) (argsL := [(.ref a1), (.int 0), (.int 2)]) (rest := []) rfl rfl rfl (lenOf pd_81 rfl) (W := 0) rfl (by decide) (by decide) (by decide : 0 + 1 ≤ _) (by decide : 0 + 2 ≤ _)
  obtain ⟨b8, kb8, rfl, N8q, K8q, fr8, G8_0⟩ := hQ8
  have N8 := Fr.app N0 N8q
  have K8 : Keep h0 T8.heap [a0] := K0.trans K8q all0
  have low8 : n0 ≤ b8 := Nat.le_trans Z0 fr8
  have fsh8 : h0.size ≤ b8 := Nat.le_trans K0.1 fr8
  have ne9 : a0 ≠ b8 := Nat.ne_of_lt (Nat.lt_of_lt_of_le E_a0.lt fr8)
  have ne10 : a1 ≠ b8 := Nat.ne_of_lt (Nat.lt_of_lt_of_le V_a1.lt fr8)
  have Zs8 : n0 ≤ T8.heap.size := Nat.le_trans Z0 K8q.1
  have F11 := F_a0_value.keep K8q nin0
  have F12 := F_a0_coder.keep K8q nin0
  have go13 : Go p.tables e below T8 (mkF m 45 (LiAn2_1 a0 a1 b8) [(.int 2), (.ref b8), (.ref a0)]) En := by
    intro t k
    refine st8 _ ?_
    refine XS.astore X8.here hx rfl (hb hby d3_39) rfl rfl (l' := (LiAn2_1 a0 a1 b8)) rfl ?_
    refine XS.aloadN X8.here hx rfl (hb hby d3_41) rfl rfl ?_
    refine XS.aload X8.here hx rfl (hb hby d3_42) rfl rfl ?_
    refine XS.iloadN X8.here hx rfl (hb hby d3_44) rfl ?_
    exact k
  obtain ⟨_, T14, Lc14, X14, hQ14, st14⟩ := own_cs X8 hx hZ hown hml go13 (hb hby d3_45) rfl (hw _ (mi 78 rfl)) (own_site87 hw) (rmcCn2 l Z aZ hw [] b8 kb8 _ _ T8.heap n0 Zs8 G8_0) (by decide) (argsL := [(.ref b8), (.int 2)]) (rest := [(.ref a0)]) rfl rfl rfl (lenOf pd_88 rfl) (W := 1) rfl (by decide) (by decide) (by decide : 1 + 0 ≤ _) (by decide : 2 + 0 ≤ _)
  obtain ⟨rfl, N14q, e14⟩ := hQ14
  have N14 := Fr.app N8 N14q
  obtain ⟨T15, h15, X15, e15, W15, st15⟩ := putFN X14 hx hZ hown (hw _ (mi 26 rfl)) Via.refl e14 F12 (E_a0.keep K8) (Or.inr ⟨(hw _ (mi 22 rfl)), rfl, hnm⟩) (hw _ (mi 7 rfl)) (ty := .byte) (v' := (.int 0)) (by decide) rfl rfl (g := (mkF m 48 (LiAn2_1 a0 a1 b8) [(.int 0), (.ref a0)])) rfl rfl (hb hby d3_48)
  have go16 := gap st14 st15
  have N15 := Fr.snoc X15 N14 g_a0
  have K15 : Keep h0 h15 [a0] := K8.wr W15 (Or.inl (List.mem_of_getElem? (i := 0) rfl))
  have Zs15 : n0 ≤ h15.size := Nat.le_trans Zs8 (Keep.of_wr W15).1
  have F17 := F11.other W15 (Or.inr (slot_ne (Or.inr (hw _ (mi 21 rfl))) (Or.inr (hw _ (mi 22 rfl))) (by decide) (t := (.array .byte)) (t' := .byte) (by decide) (by decide)))
  have F18 : Fcd Z h15 a0 (.int 0) := F12.same W15
  have F19 := G8_0.other W15 (Ne.symm ne9)
  have go20 : Go p.tables e below T15 (mkF m 54 (LiAn2_1 a0 a1 b8) [(.ref b8), (.ref a0)]) En := by
    intro t k
    refine go16 _ ?_
    refine XS.aloadN X15.here hx rfl (hb hby d3_51) rfl rfl ?_
    refine XS.aload X15.here hx rfl (hb hby d3_52) rfl rfl ?_
    exact k
  obtain ⟨T21, h21, X21, e21, W21, st21⟩ := putF X15 hx hZ hown (host := "") (Or.inl (hw _ (mi 25 rfl))) Via.refl e15 F17 (E_a0.keep K15) (Or.inr ⟨(hw _ (mi 21 rfl)), rfl, hnm⟩) (hw _ (mi 7 rfl)) (ty := (.array .byte)) (by decide) rfl rfl (g := (mkF m 54 (LiAn2_1 a0 a1 b8) [(.ref b8), (.ref a0)])) rfl rfl (hb hby d3_54)
  have go22 := gap go20 st21
  have N21 := Fr.snoc X21 N15 g_a0
  have K21 : Keep h0 h21 [a0] := K15.wr W21 (Or.inl (List.mem_of_getElem? (i := 0) rfl))
  have Zs21 : n0 ≤ h21.size := Nat.le_trans Zs15 (Keep.of_wr W21).1
  have F23 : Fvl Z h21 a0 (.ref b8) := F17.same W21
  have F24 := F18.other W21 (Or.inr (slot_ne (Or.inr (hw _ (mi 22 rfl))) (Or.inr (hw _ (mi 21 rfl))) (by decide) (t := .byte) (t' := (.array .byte)) (by decide) (by decide)))
  have F25 := F19.other W21 (Ne.symm ne9)
  refine own_outV X21 hx hlk go22 hrt (hb hby d3_57) e21 (by decide) (by decide) ?_
  exact ⟨rfl, N21, K21, (E_a0.keep K21), F24, b8, kb8, F23, F25⟩
def QiBn2 (Z : State) (n0 : Nat) (a0 : Addr) (a1 : Addr) (k_a1 : ClassId) (x0 : Int32) (x1 : Int32) (s_COMPACT_STRINGS : Int32) (h0 : Heap) (v : Option Value) (h : Heap) (L : List Loc) : Prop := v = none ∧ Fr n0 L ∧ Keep h0 h [a0] ∧ Est Z h a0 ∧ Fcd Z h a0 (.int (0 : Int32)) ∧ ∃ (bx : Addr) (kx : ClassId), Fvl Z h a0 (.ref bx) ∧ Arv Z h bx kx .byte (2 : Int32) [(.int x0.toInt8.toInt32.toInt8.toInt32), (.int x1.toInt8.toInt32.toInt8.toInt32)] (.int (0 : Int32))
theorem efiBn2 (m : MethodId) (a0 : Addr) (a1 : Addr) : entryFrame m #[(.ref a0), (.ref a1)] 2 = mkF m 0 #[rv a0, rv a1] [] := by first | (simp [entryFrame, mkF, argsToLocals, Value.category]; done) | rfl
set_option maxRecDepth 65536 in
set_option maxHeartbeats 40000000 in
theorem rmiBn2 (l : Launch) (Z : State) (aZ : Array Value) (hw : HW aZ Z) (ws : List Jvm.Cond) (a0 : Addr) (a1 : Addr) (k_a1 : ClassId) (x0 : Int32) (x1 : Int32) (s_COMPACT_STRINGS : Int32) (h0 : Heap) (n0 : Nat) (Z0 : n0 ≤ h0.size) (E_a0 : Est Z h0 a0) (F_a0_value : Fvl Z h0 a0 .null) (F_a0_coder : Fcd Z h0 a0 (.int 0)) (g_a0 : n0 ≤ a0) (V_a1 : Arv Z h0 a1 k_a1 .char (2 : Int32) [(.int x0), (.int x1)] (.int 0)) (S_COMPACT_STRINGS : SfC Z h0 (.int s_COMPACT_STRINGS)) (hcs : ¬ s_COMPACT_STRINGS = (0 : Int32)) (hx0 : ¬ (255 : Int32) < x0) (hx1 : ¬ (255 : Int32) < x1) :
    MFn l (⟨"java/lang/String", "<init>", "([C)V"⟩ : MethodName) jdk_42_method_3_code 2 none ws (Rm 3 1 2 52) #[(.ref a0), (.ref a1)] Z h0 (QiBn2 Z n0 a0 a1 k_a1 x0 x1 s_COMPACT_STRINGS h0) := by
  refine own_mf (C := "java/lang/String") rfl (plainFor_of_name pn_15) (fun m => efiBn2 m a0 a1) ?_
  intro p e s m below meth cd0 s₁ En hx hby hml hown hnm hZ X0 e0 hlk hrt go0
  have neA1 : a0 ≠ a1 := own_exa_arv_ne E_a0 V_a1 (hw _ (mi 7 rfl))
  have N0 := Fr.nil n0
  have K0 : Keep h0 h0 [a0] := Keep.refl _ _
  obtain ⟨cl1, Ar1, q1, S1, N1, H1, G1⟩ := id V_a1
  have go2 : Go p.tables e below s₁ (mkF m 6 #[rv a0, rv a1] [.null, (.int 2), (.int 0), (.ref a1), (.ref a0)]) En := by
    intro t k
    refine go0 _ ?_
    refine XS.aloadN X0.here hx rfl (hb hby d2_0) rfl rfl ?_
    refine XS.aloadN X0.here hx rfl (hb hby d2_1) rfl rfl ?_
    refine XS.iconst X0.here hx rfl (hb hby d2_2) ?_
    refine XS.aloadN X0.here hx rfl (hb hby d2_3) rfl rfl ?_
    refine X0.arraylength hx (by rw [e0]; exact Ar1.1) (State.isArrayOf_alike hZ.alike Ar1.2.1) (g := (mkF m 4 #[rv a0, rv a1] [(.ref a1), (.int 0), (.ref a1), (.ref a0)])) rfl rfl (hb hby d2_4) _ ?_
    rw [len_of S1 N1]
    show Steps _ _ _ (s₁.setTop (mkF m 5 #[rv a0, rv a1] [(.int 2), (.int 0), (.ref a1), (.ref a0)])) _
    refine XS.aconstNull X0.here hx rfl (hb hby d2_5) ?_
    exact k
  obtain ⟨_, T3, Lc3, X3, hQ3, st3⟩ := own_ci X0 hx hZ hown hml go2 (hb hby d2_6) e0 (hw _ (mi 12 rfl)) (own_site94 hw) rfl (rmiAn2 l Z aZ hw [] a0 a1 _ x0 x1 _ h0 n0 Z0 E_a0 F_a0_value F_a0_coder g_a0 V_a1 S_COMPACT_STRINGS hcs hx0 hx1) (by decide) (argsL := [(.ref a1), (.int 0), (.int 2), .null]) (rest := []) rfl rfl rfl (lenOf pd_23 rfl) (W := 0) rfl (by decide) (by decide) (by decide : 0 + 1 ≤ _) (by decide : 0 + 2 ≤ _)
  obtain ⟨rfl, N3q, K3q, G3_0, G3_1, bx3, kx3, GX3, GV3⟩ := hQ3
  have N3 := Fr.app N0 N3q
  have K3 : Keep h0 T3.heap [a0] := K0.trans K3q (allS (Or.inl (List.mem_of_getElem? (i := 0) rfl)) all0)
  have Zs3 : n0 ≤ T3.heap.size := Nat.le_trans Z0 K3q.1
  refine own_outV X3 hx hlk st3 hrt (hb hby d2_9) rfl (by decide) (by decide) ?_
  exact ⟨rfl, N3, K3, G3_0, G3_1, bx3, kx3, GX3, GV3⟩
def QcAn3 (Z : State) (n0 : Nat) (a0 : Addr) (a2 : Addr) (k_a0 : ClassId) (x0 : Int32) (x1 : Int32) (x2 : Int32) (k_a2 : ClassId) (y0 : Int32) (y1 : Int32) (y2 : Int32) (h0 : Heap) (v : Option Value) (h : Heap) (L : List Loc) : Prop := v = some (.int (3 : Int32)) ∧ Fr n0 L ∧ Keep h0 h [a2] ∧ Arv Z h a2 k_a2 .byte (3 : Int32) [(.int x0.toInt8.toInt32.toInt8.toInt32), (.int x1.toInt8.toInt32.toInt8.toInt32), (.int x2.toInt8.toInt32.toInt8.toInt32)] (.int (0 : Int32))
theorem efcAn3 (m : MethodId) (a0 : Addr) (a2 : Addr) : entryFrame m #[(.ref a0), (.int (0 : Int32)), (.ref a2), (.int (0 : Int32)), (.int (3 : Int32))] 7 = mkF m 0 #[rv a0, iv (0 : Int32), rv a2, iv (0 : Int32), iv (3 : Int32), .unset, .unset] [] := by first | (simp [entryFrame, mkF, argsToLocals, Value.category]; done) | rfl
abbrev LcAn3_0 (a0 : Addr) (a2 : Addr) (x0 : Int32) : Array Slot := #[rv a0, iv 0, rv a2, iv 0, iv 3, iv 0, iv x0]
set_option maxRecDepth 65536 in
set_option maxHeartbeats 40000000 in
theorem rmcAn3 (l : Launch) (Z : State) (aZ : Array Value) (hw : HW aZ Z) (ws : List Jvm.Cond) (a0 : Addr) (a2 : Addr) (k_a0 : ClassId) (x0 : Int32) (x1 : Int32) (x2 : Int32) (k_a2 : ClassId) (y0 : Int32) (y1 : Int32) (y2 : Int32) (h0 : Heap) (n0 : Nat) (Z0 : n0 ≤ h0.size) (V_a0 : Arv Z h0 a0 k_a0 .char (3 : Int32) [(.int x0), (.int x1), (.int x2)] (.int 0)) (V_a2 : Arv Z h0 a2 k_a2 .byte (3 : Int32) [(.int y0), (.int y1), (.int y2)] (.int 0)) (g_a2 : n0 ≤ a2) (ne02 : a0 ≠ a2) (hx0 : ¬ (255 : Int32) < x0) (hx1 : ¬ (255 : Int32) < x1) (hx2 : ¬ (255 : Int32) < x2) :
    MFn l (⟨"java/lang/StringUTF16", "compress", "([CI[BII)I"⟩ : MethodName) jdk_52_method_21_code 7 (some .int) ws (Rm 0 0 0 0) #[(.ref a0), (.int 0), (.ref a2), (.int 0), (.int 3)] Z h0 (QcAn3 Z n0 a0 a2 k_a0 x0 x1 x2 k_a2 y0 y1 y2 h0) := by
  refine own_mf (C := "java/lang/StringUTF16") rfl (plainFor_of_name pn_48) (fun m => efcAn3 m a0 a2) ?_
  intro p e s m below meth cd0 s₁ En hx hby hml hown hnm hZ X0 e0 hlk hrt go0
  have N0 := Fr.nil n0
  have K0 : Keep h0 h0 [a2] := Keep.refl _ _
  obtain ⟨cl1, Ar1, q1, S1, N1, H1, G1⟩ := id V_a0
  have go2 : Go p.tables e below s₁ (mkF m 31 (LcAn3_0 a0 a2 x0) [(.int x0.toInt8.toInt32), (.int 0), (.ref a2)]) En := by
    intro t k
    refine go0 _ ?_
    refine XS.iconst X0.here hx rfl (hb hby d16_0) ?_
    refine XS.istore X0.here hx rfl (hb hby d16_1) rfl (l' := #[rv a0, iv 0, rv a2, iv 0, iv 3, iv 0, .unset]) rfl ?_
    refine XS.iload X0.here hx rfl (hb hby d16_3) rfl ?_
    refine XS.iload X0.here hx rfl (hb hby d16_5) rfl ?_
    refine XS.icmpNo X0.here hx rfl (hb hby d16_7) rfl (XT.ii_ge_f (by decide : ((0 : Int32) < (3 : Int32)))) ?_
    show Steps _ _ _ (s₁.setTop (mkF m 10 #[rv a0, iv 0, rv a2, iv 0, iv 3, iv 0, .unset] [])) _
    refine XS.aloadN X0.here hx rfl (hb hby d16_10) rfl rfl ?_
    refine XS.iloadN X0.here hx rfl (hb hby d16_11) rfl ?_
    refine X0.caload hx (j := (0 : Int32)) (v := (.int x0)) (by rw [e0]; exact Ar1.1) (State.isArrayOf_alike hZ.alike Ar1.2.1) Ar1.2.2 (inb_of S1 ⟨by decide, by decide⟩) (Has.at H1 (inb_of S1 ⟨by decide, by decide⟩) rfl) (g := (mkF m 12 #[rv a0, iv 0, rv a2, iv 0, iv 3, iv 0, .unset] [(.int 0), (.ref a0)])) rfl rfl (hb hby d16_12) _ ?_
    refine XS.istore X0.here hx rfl (hb hby d16_13) rfl (l' := (LcAn3_0 a0 a2 x0)) rfl ?_
    refine XS.iload X0.here hx rfl (hb hby d16_15) rfl ?_
    show Steps _ _ _ (s₁.setTop (mkF m 17 (LcAn3_0 a0 a2 x0) [(.int x0)])) _
    refine XS.sipush X0.here hx rfl (hb hby d16_17) ?_
    refine XS.icmpYes X0.here hx rfl (pc0 := 20) (pc' := 26) rfl (hb hby d16_20) rfl (XT.ii_le_t hx0) (by decide) (by decide) ?_
    refine XS.aloadN X0.here hx rfl (hb hby d16_26) rfl rfl ?_
    refine XS.iloadN X0.here hx rfl (hb hby d16_27) rfl ?_
    refine XS.iload X0.here hx rfl (hb hby d16_28) rfl ?_
    show Steps _ _ _ (s₁.setTop (mkF m 30 (LcAn3_0 a0 a2 x0) [(.int x0), (.int 0), (.ref a2)])) _
    refine XS.i2b X0.here hx rfl (hb hby d16_30) rfl ?_
    exact k
  obtain ⟨cl4, Ar4, q4, S4, N4, H4, G4⟩ := id V_a2
  obtain ⟨T3, h3, X3, e3, W3, st3⟩ := stB X0 hx hZ e0 Ar4 (j := (0 : Int32)) (inb_of S4 ⟨by decide, by decide⟩) (g := (mkF m 31 (LcAn3_0 a0 a2 x0) [(.int x0.toInt8.toInt32), (.int 0), (.ref a2)])) rfl rfl (hb hby d16_31)
  have go5 := gap go2 st3
  have N3 := Fr.snoc X3 N0 g_a2
  have K3 : Keep h0 h3 [a2] := K0.wr W3 (Or.inl (List.mem_of_getElem? (i := 0) rfl))
  have Zs3 : n0 ≤ h3.size := Nat.le_trans Z0 (Keep.of_wr W3).1
  have F6 : Arv Z h3 a2 k_a2 .byte (3 : Int32) [(.int x0.toInt8.toInt32.toInt8.toInt32), (.int y1), (.int y2)] (.int 0) := Arv.set Ar4 q4 S4 N4 H4 G4 (fits_nar_byte _) W3 0 rfl (Nat.le_of_ble_eq_true rfl)
  obtain ⟨cl7, Ar7, q7, S7, N7, H7, G7⟩ := id (V_a0.keep K3 (ninS ne02 nin0))
  have go8 : Go p.tables e below T3 (mkF m 31 #[rv a0, iv 1, rv a2, iv 1, iv 3, iv 1, iv x1] [(.int x1.toInt8.toInt32), (.int 1), (.ref a2)]) En := by
    intro t k
    refine go5 _ ?_
    refine XS.iinc X3.here hx rfl (hb hby d16_32) rfl (l' := #[rv a0, iv 1, rv a2, iv 0, iv 3, iv 0, iv x0]) rfl ?_
    refine XS.iinc X3.here hx rfl (hb hby d16_35) rfl (l' := #[rv a0, iv 1, rv a2, iv 1, iv 3, iv 0, iv x0]) rfl ?_
    refine XS.iinc X3.here hx rfl (hb hby d16_38) rfl (l' := #[rv a0, iv 1, rv a2, iv 1, iv 3, iv 1, iv x0]) rfl ?_
    refine XS.goto X3.here hx rfl (pc0 := 41) (pc' := 3) rfl (hb hby d16_41) (by decide) (by decide) ?_
    refine XS.iload X3.here hx rfl (hb hby d16_3) rfl ?_
    show Steps _ _ _ (T3.setTop (mkF m 5 #[rv a0, iv 1, rv a2, iv 1, iv 3, iv 1, iv x0] [(.int 1)])) _
    refine XS.iload X3.here hx rfl (hb hby d16_5) rfl ?_
    refine XS.icmpNo X3.here hx rfl (hb hby d16_7) rfl (XT.ii_ge_f (by decide : ((1 : Int32) < (3 : Int32)))) ?_
    refine XS.aloadN X3.here hx rfl (hb hby d16_10) rfl rfl ?_
    refine XS.iloadN X3.here hx rfl (hb hby d16_11) rfl ?_
    refine X3.caload hx (j := (1 : Int32)) (v := (.int x1)) (by rw [e3]; exact Ar7.1) (State.isArrayOf_alike hZ.alike Ar7.2.1) Ar7.2.2 (inb_of S7 ⟨by decide, by decide⟩) (Has.at H7 (inb_of S7 ⟨by decide, by decide⟩) rfl) (g := (mkF m 12 #[rv a0, iv 1, rv a2, iv 1, iv 3, iv 1, iv x0] [(.int 1), (.ref a0)])) rfl rfl (hb hby d16_12) _ ?_
    show Steps _ _ _ (T3.setTop (mkF m 13 #[rv a0, iv 1, rv a2, iv 1, iv 3, iv 1, iv x0] [(.int x1)])) _
    refine XS.istore X3.here hx rfl (hb hby d16_13) rfl (l' := #[rv a0, iv 1, rv a2, iv 1, iv 3, iv 1, iv x1]) rfl ?_
    refine XS.iload X3.here hx rfl (hb hby d16_15) rfl ?_
    refine XS.sipush X3.here hx rfl (hb hby d16_17) ?_
    refine XS.icmpYes X3.here hx rfl (pc0 := 20) (pc' := 26) rfl (hb hby d16_20) rfl (XT.ii_le_t hx1) (by decide) (by decide) ?_
    refine XS.aloadN X3.here hx rfl (hb hby d16_26) rfl rfl ?_
    show Steps _ _ _ (T3.setTop (mkF m 27 #[rv a0, iv 1, rv a2, iv 1, iv 3, iv 1, iv x1] [(.ref a2)])) _
    refine XS.iloadN X3.here hx rfl (hb hby d16_27) rfl ?_
    refine XS.iload X3.here hx rfl (hb hby d16_28) rfl ?_
    refine XS.i2b X3.here hx rfl (hb hby d16_30) rfl ?_
    exact k
  obtain ⟨cl10, Ar10, q10, S10, N10, H10, G10⟩ := id F6
  obtain ⟨T9, h9, X9, e9, W9, st9⟩ := stB X3 hx hZ e3 Ar10 (j := (1 : Int32)) (inb_of S10 ⟨by decide, by decide⟩) (g := (mkF m 31 #[rv a0, iv 1, rv a2, iv 1, iv 3, iv 1, iv x1] [(.int x1.toInt8.toInt32), (.int 1), (.ref a2)])) rfl rfl (hb hby d16_31)
  have go11 := gap go8 st9
  have N9 := Fr.snoc X9 N3 g_a2
  have K9 : Keep h0 h9 [a2] := K3.wr W9 (Or.inl (List.mem_of_getElem? (i := 0) rfl))
  have Zs9 : n0 ≤ h9.size := Nat.le_trans Zs3 (Keep.of_wr W9).1
  have F12 : Arv Z h9 a2 k_a2 .byte (3 : Int32) [(.int x0.toInt8.toInt32.toInt8.toInt32), (.int x1.toInt8.toInt32.toInt8.toInt32), (.int y2)] (.int 0) := Arv.set Ar10 q10 S10 N10 H10 G10 (fits_nar_byte _) W9 1 rfl (Nat.le_of_ble_eq_true rfl)
  obtain ⟨cl13, Ar13, q13, S13, N13, H13, G13⟩ := id (V_a0.keep K9 (ninS ne02 nin0))
  have go14 : Go p.tables e below T9 (mkF m 31 #[rv a0, iv 2, rv a2, iv 2, iv 3, iv 2, iv x2] [(.int x2.toInt8.toInt32), (.int 2), (.ref a2)]) En := by
    intro t k
    refine go11 _ ?_
    refine XS.iinc X9.here hx rfl (hb hby d16_32) rfl (l' := #[rv a0, iv 2, rv a2, iv 1, iv 3, iv 1, iv x1]) rfl ?_
    refine XS.iinc X9.here hx rfl (hb hby d16_35) rfl (l' := #[rv a0, iv 2, rv a2, iv 2, iv 3, iv 1, iv x1]) rfl ?_
    refine XS.iinc X9.here hx rfl (hb hby d16_38) rfl (l' := #[rv a0, iv 2, rv a2, iv 2, iv 3, iv 2, iv x1]) rfl ?_
    refine XS.goto X9.here hx rfl (pc0 := 41) (pc' := 3) rfl (hb hby d16_41) (by decide) (by decide) ?_
    refine XS.iload X9.here hx rfl (hb hby d16_3) rfl ?_
    show Steps _ _ _ (T9.setTop (mkF m 5 #[rv a0, iv 2, rv a2, iv 2, iv 3, iv 2, iv x1] [(.int 2)])) _
    refine XS.iload X9.here hx rfl (hb hby d16_5) rfl ?_
    refine XS.icmpNo X9.here hx rfl (hb hby d16_7) rfl (XT.ii_ge_f (by decide : ((2 : Int32) < (3 : Int32)))) ?_
    refine XS.aloadN X9.here hx rfl (hb hby d16_10) rfl rfl ?_
    refine XS.iloadN X9.here hx rfl (hb hby d16_11) rfl ?_
    refine X9.caload hx (j := (2 : Int32)) (v := (.int x2)) (by rw [e9]; exact Ar13.1) (State.isArrayOf_alike hZ.alike Ar13.2.1) Ar13.2.2 (inb_of S13 ⟨by decide, by decide⟩) (Has.at H13 (inb_of S13 ⟨by decide, by decide⟩) rfl) (g := (mkF m 12 #[rv a0, iv 2, rv a2, iv 2, iv 3, iv 2, iv x1] [(.int 2), (.ref a0)])) rfl rfl (hb hby d16_12) _ ?_
    show Steps _ _ _ (T9.setTop (mkF m 13 #[rv a0, iv 2, rv a2, iv 2, iv 3, iv 2, iv x1] [(.int x2)])) _
    refine XS.istore X9.here hx rfl (hb hby d16_13) rfl (l' := #[rv a0, iv 2, rv a2, iv 2, iv 3, iv 2, iv x2]) rfl ?_
    refine XS.iload X9.here hx rfl (hb hby d16_15) rfl ?_
    refine XS.sipush X9.here hx rfl (hb hby d16_17) ?_
    refine XS.icmpYes X9.here hx rfl (pc0 := 20) (pc' := 26) rfl (hb hby d16_20) rfl (XT.ii_le_t hx2) (by decide) (by decide) ?_
    refine XS.aloadN X9.here hx rfl (hb hby d16_26) rfl rfl ?_
    show Steps _ _ _ (T9.setTop (mkF m 27 #[rv a0, iv 2, rv a2, iv 2, iv 3, iv 2, iv x2] [(.ref a2)])) _
    refine XS.iloadN X9.here hx rfl (hb hby d16_27) rfl ?_
    refine XS.iload X9.here hx rfl (hb hby d16_28) rfl ?_
    refine XS.i2b X9.here hx rfl (hb hby d16_30) rfl ?_
    exact k
  obtain ⟨cl16, Ar16, q16, S16, N16, H16, G16⟩ := id F12
  obtain ⟨T15, h15, X15, e15, W15, st15⟩ := stB X9 hx hZ e9 Ar16 (j := (2 : Int32)) (inb_of S16 ⟨by decide, by decide⟩) (g := (mkF m 31 #[rv a0, iv 2, rv a2, iv 2, iv 3, iv 2, iv x2] [(.int x2.toInt8.toInt32), (.int 2), (.ref a2)])) rfl rfl (hb hby d16_31)
  have go17 := gap go14 st15
  have N15 := Fr.snoc X15 N9 g_a2
  have K15 : Keep h0 h15 [a2] := K9.wr W15 (Or.inl (List.mem_of_getElem? (i := 0) rfl))
  have Zs15 : n0 ≤ h15.size := Nat.le_trans Zs9 (Keep.of_wr W15).1
  have F18 : Arv Z h15 a2 k_a2 .byte (3 : Int32) [(.int x0.toInt8.toInt32.toInt8.toInt32), (.int x1.toInt8.toInt32.toInt8.toInt32), (.int x2.toInt8.toInt32.toInt8.toInt32)] (.int 0) := Arv.set Ar16 q16 S16 N16 H16 G16 (fits_nar_byte _) W15 2 rfl (Nat.le_of_ble_eq_true rfl)
  have go19 : Go p.tables e below T15 (mkF m 46 #[rv a0, iv 3, rv a2, iv 3, iv 3, iv 3, iv x2] [(.int 3)]) En := by
    intro t k
    refine go17 _ ?_
    refine XS.iinc X15.here hx rfl (hb hby d16_32) rfl (l' := #[rv a0, iv 3, rv a2, iv 2, iv 3, iv 2, iv x2]) rfl ?_
    refine XS.iinc X15.here hx rfl (hb hby d16_35) rfl (l' := #[rv a0, iv 3, rv a2, iv 3, iv 3, iv 2, iv x2]) rfl ?_
    refine XS.iinc X15.here hx rfl (hb hby d16_38) rfl (l' := #[rv a0, iv 3, rv a2, iv 3, iv 3, iv 3, iv x2]) rfl ?_
    refine XS.goto X15.here hx rfl (pc0 := 41) (pc' := 3) rfl (hb hby d16_41) (by decide) (by decide) ?_
    refine XS.iload X15.here hx rfl (hb hby d16_3) rfl ?_
    show Steps _ _ _ (T15.setTop (mkF m 5 #[rv a0, iv 3, rv a2, iv 3, iv 3, iv 3, iv x2] [(.int 3)])) _
    refine XS.iload X15.here hx rfl (hb hby d16_5) rfl ?_
    refine XS.icmpYes X15.here hx rfl (pc0 := 7) (pc' := 44) rfl (hb hby d16_7) rfl (XT.ii_ge_t (by decide : ¬ ((3 : Int32) < (3 : Int32)))) (by decide) (by decide) ?_
    refine XS.iload X15.here hx rfl (hb hby d16_44) rfl ?_
    exact k
  refine own_out (w := (.int 3)) X15 hx hlk go19 hrt rfl (Or.inl ⟨rfl, Or.inl rfl, _, rfl⟩) (hb hby d16_46) e15 (by decide) (by decide) ?_
  exact ⟨rfl, N15, K15, F18⟩
def QcBn3 (Z : State) (n0 : Nat) (a0 : Addr) (k_a0 : ClassId) (x0 : Int32) (x1 : Int32) (x2 : Int32) (h0 : Heap) (v : Option Value) (h : Heap) (L : List Loc) : Prop := ∃ (b : Addr) (kb : ClassId), v = some (.ref b) ∧ Fr n0 L ∧ Keep h0 h [] ∧ h0.size ≤ b ∧ Arv Z h b kb .byte (3 : Int32) [(.int x0.toInt8.toInt32.toInt8.toInt32), (.int x1.toInt8.toInt32.toInt8.toInt32), (.int x2.toInt8.toInt32.toInt8.toInt32)] (.int (0 : Int32))
theorem efcBn3 (m : MethodId) (a0 : Addr) : entryFrame m #[(.ref a0), (.int (0 : Int32)), (.int (3 : Int32))] 6 = mkF m 0 #[rv a0, iv (0 : Int32), iv (3 : Int32), .unset, .unset, .unset] [] := by first | (simp [entryFrame, mkF, argsToLocals, Value.category]; done) | rfl
set_option maxRecDepth 65536 in
set_option maxHeartbeats 40000000 in
theorem rmcBn3 (l : Launch) (Z : State) (aZ : Array Value) (hw : HW aZ Z) (ws : List Jvm.Cond) (a0 : Addr) (k_a0 : ClassId) (x0 : Int32) (x1 : Int32) (x2 : Int32) (h0 : Heap) (n0 : Nat) (Z0 : n0 ≤ h0.size) (V_a0 : Arv Z h0 a0 k_a0 .char (3 : Int32) [(.int x0), (.int x1), (.int x2)] (.int 0)) (hx0 : ¬ (255 : Int32) < x0) (hx1 : ¬ (255 : Int32) < x1) (hx2 : ¬ (255 : Int32) < x2) :
    MFn l (⟨"java/lang/StringUTF16", "compress", "([CII)[B"⟩ : MethodName) jdk_52_method_16_code 6 (some (.array .byte)) ws (Rm 1 1 3 18) #[(.ref a0), (.int 0), (.int 3)] Z h0 (QcBn3 Z n0 a0 k_a0 x0 x1 x2 h0) := by
  refine own_mf (C := "java/lang/StringUTF16") rfl (plainFor_of_name pn_48) (fun m => efcBn3 m a0) ?_
  intro p e s m below meth cd0 s₁ En hx hby hml hown hnm hZ X0 e0 hlk hrt go0
  have N0 := Fr.nil n0
  have K0 : Keep h0 h0 [] := Keep.refl _ _
  have go1 : Go p.tables e below s₁ (mkF m 1 #[rv a0, iv 0, iv 3, .unset, .unset, .unset] [(.int 3)]) En := by
    intro t k
    refine go0 _ ?_
    refine XS.iloadN X0.here hx rfl (hb hby d15_0) rfl ?_
    exact k
  obtain ⟨T2, h2, k2, X2, e2, E2, A2, st2⟩ := newP X0 hx hZ (hw _ (mi 20 rfl)) e0 (g := (mkF m 1 #[rv a0, iv 0, iv 3, .unset, .unset, .unset] [(.int 3)])) rfl (hb hby d15_1) rfl (by decide) (cap := 3) (by decide) (by decide) (by decide) (by decide)
  obtain ⟨b2, g2⟩ : ∃ z, z = h0.size := ⟨_, rfl⟩
  rw [← g2] at A2 st2
  have ne3 : a0 ≠ b2 := Nat.ne_of_lt (Nat.lt_of_lt_of_le V_a0.lt (Nat.le_of_eq g2.symm))
  have low2 : n0 ≤ b2 := Nat.le_trans Z0 (Nat.le_of_eq g2.symm)
  have fsh2 : h0.size ≤ b2 := Nat.le_trans K0.1 (Nat.le_of_eq g2.symm)
  have K2 : Keep h0 h2 [] := K0.ext E2
  have Zs2 : n0 ≤ h2.size := Nat.le_trans Z0 E2.1
  have go4 := gap go1 st2
  have F5 : Arv Z h2 b2 k2 .byte (3 : Int32) [(.int 0), (.int 0), (.int 0)] (.int 0) := (Arv.new A2 (by decide)).pad (pad_rep [] (.int 0) 3)
  have go6 : Go p.tables e below T2 (mkF m 9 #[rv a0, iv 0, iv 3, rv b2, .unset, .unset] [(.int 3), (.int 0), (.ref b2), (.int 0), (.ref a0)]) En := by
    intro t k
    refine go4 _ ?_
    refine XS.astoreN X2.here hx rfl (hb hby d15_3) rfl rfl (l' := #[rv a0, iv 0, iv 3, rv b2, .unset, .unset]) rfl ?_
    refine XS.aloadN X2.here hx rfl (hb hby d15_4) rfl rfl ?_
    refine XS.iloadN X2.here hx rfl (hb hby d15_5) rfl ?_
    refine XS.aloadN X2.here hx rfl (hb hby d15_6) rfl rfl ?_
    refine XS.iconst X2.here hx rfl (hb hby d15_7) ?_
    show Steps _ _ _ (T2.setTop (mkF m 8 #[rv a0, iv 0, iv 3, rv b2, .unset, .unset] [(.int 0), (.ref b2), (.int 0), (.ref a0)])) _
    refine XS.iloadN X2.here hx rfl (hb hby d15_8) rfl ?_
    exact k
  obtain ⟨_, T7, Lc7, X7, hQ7, st7⟩ := own_cs X2 hx hZ hown hml go6 (hb hby d15_9) e2 (hw _ (mi 75 rfl)) (own_site58 hw) (rmcAn3 l Z aZ hw [] a0 b2 _ x0 x1 x2 k2 _ _ _ h2 n0 Zs2 (V_a0.keep K2 nin0) F5 low2 ne3 hx0 hx1 hx2) (by decide) (argsL := [(.ref a0), (.int 0), (.ref b2), (.int 0), (.int 3)]) (rest := []) rfl rfl rfl (lenOf pd_59 rfl) (W := 0) rfl (by decide) (by decide) (by decide : 1 + 0 ≤ _) (by decide : 3 + 0 ≤ _)
  obtain ⟨rfl, N7q, K7q, G7_0⟩ := hQ7
  have N7 := Fr.app N0 N7q
  have K7 : Keep h0 T7.heap [] := K2.trans K7q (allS (Or.inr fsh2) all0)
  have Zs7 : n0 ≤ T7.heap.size := Nat.le_trans Zs2 K7q.1
  have go8 : Go p.tables e below T7 (mkF m 58 #[rv a0, iv 0, iv 3, rv b2, iv 3, .unset] [(.ref b2)]) En := by
    intro t k
    refine st7 _ ?_
    refine XS.istore X7.here hx rfl (hb hby d15_12) rfl (l' := #[rv a0, iv 0, iv 3, rv b2, iv 3, .unset]) rfl ?_
    refine XS.iload X7.here hx rfl (hb hby d15_14) rfl ?_
    refine XS.iloadN X7.here hx rfl (hb hby d15_16) rfl ?_
    refine XS.icmpYes X7.here hx rfl (pc0 := 17) (pc' := 57) rfl (hb hby d15_17) rfl (XT.ii_eq_t (by decide : ((3 : Int32) = (3 : Int32)))) (by decide) (by decide) ?_
    refine XS.aloadN X7.here hx rfl (hb hby d15_57) rfl rfl ?_
    show Steps _ _ _ (T7.setTop (mkF m 58 #[rv a0, iv 0, iv 3, rv b2, iv 3, .unset] [(.ref b2)])) _
    exact k
  refine own_out (w := (.ref b2)) X7 hx hlk go8 hrt rfl (Or.inr (Or.inr (Or.inr (Or.inr ⟨rfl, rfl, rfl⟩)))) (hb hby d15_58) rfl (by decide) (by decide) ?_
  exact ⟨b2, k2, rfl, N7, K7, fsh2, G7_0⟩
theorem efcCn3 (m : MethodId) (a0 : Addr) : entryFrame m #[(.ref a0), (.int (3 : Int32))] 2 = mkF m 0 #[rv a0, iv (3 : Int32)] [] := by first | (simp [entryFrame, mkF, argsToLocals, Value.category]; done) | rfl
set_option maxRecDepth 65536 in
set_option maxHeartbeats 40000000 in
theorem rmcCn3 (l : Launch) (Z : State) (aZ : Array Value) (hw : HW aZ Z) (ws : List Jvm.Cond) (a0 : Addr) (k_a0 : ClassId) (y0 : Int32) (y1 : Int32) (y2 : Int32) (h0 : Heap) (n0 : Nat) (Z0 : n0 ≤ h0.size) (V_a0 : Arv Z h0 a0 k_a0 .byte (3 : Int32) [(.int y0), (.int y1), (.int y2)] (.int 0)) :
    MFn l (⟨"java/lang/StringUTF16", "coderFromArrayLen", "([BI)B"⟩ : MethodName) jdk_52_method_15_code 2 (some .byte) ws (Rm 0 0 0 0) #[(.ref a0), (.int 3)] Z h0 (QP n0 h0 (some (.int 0))) := by
  refine own_mf (C := "java/lang/StringUTF16") rfl (plainFor_of_name pn_48) (fun m => efcCn3 m a0) ?_
  intro p e s m below meth cd0 s₁ En hx hby hml hown hnm hZ X0 e0 hlk hrt go0
  have N0 := Fr.nil n0
  have K0 : Keep h0 h0 [] := Keep.refl _ _
  obtain ⟨cl1, Ar1, q1, S1, N1, H1, G1⟩ := id V_a0
  have go2 : Go p.tables e below s₁ (mkF m 8 #[rv a0, iv 3] [(.int 0)]) En := by
    intro t k
    refine go0 _ ?_
    refine XS.iloadN X0.here hx rfl (hb hby d17_0) rfl ?_
    refine XS.aloadN X0.here hx rfl (hb hby d17_1) rfl rfl ?_
    refine X0.arraylength hx (by rw [e0]; exact Ar1.1) (State.isArrayOf_alike hZ.alike Ar1.2.1) (g := (mkF m 2 #[rv a0, iv 3] [(.ref a0), (.int 3)])) rfl rfl (hb hby d17_2) _ ?_
    rw [len_of S1 N1]
    refine XS.isub X0.here hx rfl (hb hby d17_3) rfl ?_
    show Steps _ _ _ (s₁.setTop (mkF m 4 #[rv a0, iv 3] [(.int 0)])) _
    refine XS.bipush X0.here hx rfl (hb hby d17_4) ?_
    refine XS.iushr X0.here hx rfl (hb hby d17_6) rfl ?_
    show Steps _ _ _ (s₁.setTop (mkF m 7 #[rv a0, iv 3] [(.int (((0 : Int32).toUInt32 >>> ((31 : Int32) &&& 31).toUInt32).toInt32))])) _
    rw [(by decide : (((0 : Int32).toUInt32 >>> ((31 : Int32) &&& 31).toUInt32).toInt32) = (0 : Int32))]
    refine XS.i2b X0.here hx rfl (hb hby d17_7) rfl ?_
    show Steps _ _ _ (s₁.setTop (mkF m 8 #[rv a0, iv 3] [(.int (0 : Int32).toInt8.toInt32)])) _
    rw [(by decide : (0 : Int32).toInt8.toInt32 = (0 : Int32))]
    exact k
  refine own_out (w := (.int 0)) X0 hx hlk go2 hrt rfl (Or.inl ⟨rfl, Or.inr (Or.inr (Or.inl rfl)), _, rfl⟩) (hb hby d17_8) e0 (by decide) (by decide) ?_
  exact ⟨rfl, N0, rfl⟩
def QiAn3 (Z : State) (n0 : Nat) (a0 : Addr) (a1 : Addr) (k_a1 : ClassId) (x0 : Int32) (x1 : Int32) (x2 : Int32) (s_COMPACT_STRINGS : Int32) (h0 : Heap) (v : Option Value) (h : Heap) (L : List Loc) : Prop := v = none ∧ Fr n0 L ∧ Keep h0 h [a0] ∧ Est Z h a0 ∧ Fcd Z h a0 (.int (0 : Int32)) ∧ ∃ (bx : Addr) (kx : ClassId), Fvl Z h a0 (.ref bx) ∧ Arv Z h bx kx .byte (3 : Int32) [(.int x0.toInt8.toInt32.toInt8.toInt32), (.int x1.toInt8.toInt32.toInt8.toInt32), (.int x2.toInt8.toInt32.toInt8.toInt32)] (.int (0 : Int32))
theorem efiAn3 (m : MethodId) (a0 : Addr) (a1 : Addr) : entryFrame m #[(.ref a0), (.ref a1), (.int (0 : Int32)), (.int (3 : Int32)), .null] 6 = mkF m 0 #[rv a0, rv a1, iv (0 : Int32), iv (3 : Int32), .val .null, .unset] [] := by first | (simp [entryFrame, mkF, argsToLocals, Value.category]; done) | rfl
abbrev LiAn3_0 (a0 : Addr) (a1 : Addr) : Array Slot := #[rv a0, rv a1, iv 0, iv 3, .val .null, .unset]
abbrev LiAn3_1 (a0 : Addr) (a1 : Addr) (b8 : Addr) : Array Slot := #[rv a0, rv a1, iv 0, iv 3, .val .null, rv b8]
set_option maxRecDepth 65536 in
set_option maxHeartbeats 40000000 in
theorem rmiAn3 (l : Launch) (Z : State) (aZ : Array Value) (hw : HW aZ Z) (ws : List Jvm.Cond) (a0 : Addr) (a1 : Addr) (k_a1 : ClassId) (x0 : Int32) (x1 : Int32) (x2 : Int32) (s_COMPACT_STRINGS : Int32) (h0 : Heap) (n0 : Nat) (Z0 : n0 ≤ h0.size) (E_a0 : Est Z h0 a0) (F_a0_value : Fvl Z h0 a0 .null) (F_a0_coder : Fcd Z h0 a0 (.int 0)) (g_a0 : n0 ≤ a0) (V_a1 : Arv Z h0 a1 k_a1 .char (3 : Int32) [(.int x0), (.int x1), (.int x2)] (.int 0)) (S_COMPACT_STRINGS : SfC Z h0 (.int s_COMPACT_STRINGS)) (hcs : ¬ s_COMPACT_STRINGS = (0 : Int32)) (hx0 : ¬ (255 : Int32) < x0) (hx1 : ¬ (255 : Int32) < x1) (hx2 : ¬ (255 : Int32) < x2) :
    MFn l (⟨"java/lang/String", "<init>", "([CIILjava/lang/Void;)V"⟩ : MethodName) jdk_42_method_149_code 6 none ws (Rm 2 1 3 35) #[(.ref a0), (.ref a1), (.int 0), (.int 3), .null] Z h0 (QiAn3 Z n0 a0 a1 k_a1 x0 x1 x2 s_COMPACT_STRINGS h0) := by
  refine own_mf (C := "java/lang/String") rfl (plainFor_of_name pn_15) (fun m => efiAn3 m a0 a1) ?_
  intro p e s m below meth cd0 s₁ En hx hby hml hown hnm hZ X0 e0 hlk hrt go0
  have neA1 : a0 ≠ a1 := own_exa_arv_ne E_a0 V_a1 (hw _ (mi 7 rfl))
  have N0 := Fr.nil n0
  have K0 : Keep h0 h0 [a0] := Keep.refl _ _
  have go1 : Go p.tables e below s₁ (mkF m 1 (LiAn3_0 a0 a1) [(.ref a0)]) En := by
    intro t k
    refine go0 _ ?_
    refine XS.aloadN X0.here hx rfl (hb hby d3_0) rfl rfl ?_
    exact k
  obtain ⟨T2, X2, e2, st2⟩ := initO X0 hx hZ hown (hw _ (mi 16 rfl)) (hw _ (mi 17 rfl)) (hw _ (mi 18 rfl)) e0 (g := (mkF m 1 (LiAn3_0 a0 a1) [(.ref a0)])) rfl (by rw [hml]; rfl) rfl (hb hby d3_1) (by decide) (W := 0) (by show 2 * 0 + _ ≤ _; exact Nat.le_of_eq rfl) (by decide)
  have go3 := gap go1 st2
  have go4 : Go p.tables e below T2 (mkF m 27 (LiAn3_0 a0 a1) []) En := by
    intro t k
    refine go3 _ ?_
    refine XS.iloadN X2.here hx rfl (hb hby d3_4) rfl ?_
    refine XS.ifYes X2.here hx rfl (pc0 := 5) (pc' := 27) rfl (hb hby d3_5) rfl (XT.i0_ne_t (by decide : ¬ ((3 : Int32) = (0 : Int32)))) (by decide) (by decide) ?_
    exact k
  obtain ⟨T5, X5, e5, st5⟩ := getS2 X2 hx hZ hown (host := "") (Or.inl (hw _ (mi 46 rfl))) Via.refl e2 S_COMPACT_STRINGS (g := (mkF m 27 (LiAn3_0 a0 a1) [])) rfl (hb hby d3_27)
  have go6 := gap go4 st5
  have go7 : Go p.tables e below T5 (mkF m 36 (LiAn3_0 a0 a1) [(.int 3), (.int 0), (.ref a1)]) En := by
    intro t k
    refine go6 _ ?_
    refine XS.ifNo X5.here hx rfl (hb hby d3_30) rfl (XT.i0_eq_f hcs) ?_
    refine XS.aloadN X5.here hx rfl (hb hby d3_33) rfl rfl ?_
    refine XS.iloadN X5.here hx rfl (hb hby d3_34) rfl ?_
    refine XS.iloadN X5.here hx rfl (hb hby d3_35) rfl ?_
    exact k
  obtain ⟨_, T8, Lc8, X8, hQ8, st8⟩ := own_cs X5 hx hZ hown hml go7 (hb hby d3_36) e5 (hw _ (mi 71 rfl)) (own_site80 hw) (rmcBn3 l Z aZ hw [] a1 _ x0 x1 x2 h0 n0 Z0 V_a1 hx0 hx1 hx2) (by decide) (argsL := [(.ref a1), (.int 0), (.int 3)]) (rest := []) rfl rfl rfl (lenOf pd_81 rfl) (W := 0) rfl (by decide) (by decide) (by decide : 0 + 1 ≤ _) (by decide : 0 + 3 ≤ _)
  obtain ⟨b8, kb8, rfl, N8q, K8q, fr8, G8_0⟩ := hQ8
  have N8 := Fr.app N0 N8q
  have K8 : Keep h0 T8.heap [a0] := K0.trans K8q all0
  have low8 : n0 ≤ b8 := Nat.le_trans Z0 fr8
  have fsh8 : h0.size ≤ b8 := Nat.le_trans K0.1 fr8
  have ne9 : a0 ≠ b8 := Nat.ne_of_lt (Nat.lt_of_lt_of_le E_a0.lt fr8)
  have ne10 : a1 ≠ b8 := Nat.ne_of_lt (Nat.lt_of_lt_of_le V_a1.lt fr8)
  have Zs8 : n0 ≤ T8.heap.size := Nat.le_trans Z0 K8q.1
  have F11 := F_a0_value.keep K8q nin0
  have F12 := F_a0_coder.keep K8q nin0
  have go13 : Go p.tables e below T8 (mkF m 45 (LiAn3_1 a0 a1 b8) [(.int 3), (.ref b8), (.ref a0)]) En := by
    intro t k
    refine st8 _ ?_
    refine XS.astore X8.here hx rfl (hb hby d3_39) rfl rfl (l' := (LiAn3_1 a0 a1 b8)) rfl ?_
    refine XS.aloadN X8.here hx rfl (hb hby d3_41) rfl rfl ?_
    refine XS.aload X8.here hx rfl (hb hby d3_42) rfl rfl ?_
    refine XS.iloadN X8.here hx rfl (hb hby d3_44) rfl ?_
    exact k
  obtain ⟨_, T14, Lc14, X14, hQ14, st14⟩ := own_cs X8 hx hZ hown hml go13 (hb hby d3_45) rfl (hw _ (mi 78 rfl)) (own_site87 hw) (rmcCn3 l Z aZ hw [] b8 kb8 _ _ _ T8.heap n0 Zs8 G8_0) (by decide) (argsL := [(.ref b8), (.int 3)]) (rest := [(.ref a0)]) rfl rfl rfl (lenOf pd_88 rfl) (W := 1) rfl (by decide) (by decide) (by decide : 1 + 0 ≤ _) (by decide : 3 + 0 ≤ _)
  obtain ⟨rfl, N14q, e14⟩ := hQ14
  have N14 := Fr.app N8 N14q
  obtain ⟨T15, h15, X15, e15, W15, st15⟩ := putFN X14 hx hZ hown (hw _ (mi 26 rfl)) Via.refl e14 F12 (E_a0.keep K8) (Or.inr ⟨(hw _ (mi 22 rfl)), rfl, hnm⟩) (hw _ (mi 7 rfl)) (ty := .byte) (v' := (.int 0)) (by decide) rfl rfl (g := (mkF m 48 (LiAn3_1 a0 a1 b8) [(.int 0), (.ref a0)])) rfl rfl (hb hby d3_48)
  have go16 := gap st14 st15
  have N15 := Fr.snoc X15 N14 g_a0
  have K15 : Keep h0 h15 [a0] := K8.wr W15 (Or.inl (List.mem_of_getElem? (i := 0) rfl))
  have Zs15 : n0 ≤ h15.size := Nat.le_trans Zs8 (Keep.of_wr W15).1
  have F17 := F11.other W15 (Or.inr (slot_ne (Or.inr (hw _ (mi 21 rfl))) (Or.inr (hw _ (mi 22 rfl))) (by decide) (t := (.array .byte)) (t' := .byte) (by decide) (by decide)))
  have F18 : Fcd Z h15 a0 (.int 0) := F12.same W15
  have F19 := G8_0.other W15 (Ne.symm ne9)
  have go20 : Go p.tables e below T15 (mkF m 54 (LiAn3_1 a0 a1 b8) [(.ref b8), (.ref a0)]) En := by
    intro t k
    refine go16 _ ?_
    refine XS.aloadN X15.here hx rfl (hb hby d3_51) rfl rfl ?_
    refine XS.aload X15.here hx rfl (hb hby d3_52) rfl rfl ?_
    exact k
  obtain ⟨T21, h21, X21, e21, W21, st21⟩ := putF X15 hx hZ hown (host := "") (Or.inl (hw _ (mi 25 rfl))) Via.refl e15 F17 (E_a0.keep K15) (Or.inr ⟨(hw _ (mi 21 rfl)), rfl, hnm⟩) (hw _ (mi 7 rfl)) (ty := (.array .byte)) (by decide) rfl rfl (g := (mkF m 54 (LiAn3_1 a0 a1 b8) [(.ref b8), (.ref a0)])) rfl rfl (hb hby d3_54)
  have go22 := gap go20 st21
  have N21 := Fr.snoc X21 N15 g_a0
  have K21 : Keep h0 h21 [a0] := K15.wr W21 (Or.inl (List.mem_of_getElem? (i := 0) rfl))
  have Zs21 : n0 ≤ h21.size := Nat.le_trans Zs15 (Keep.of_wr W21).1
  have F23 : Fvl Z h21 a0 (.ref b8) := F17.same W21
  have F24 := F18.other W21 (Or.inr (slot_ne (Or.inr (hw _ (mi 22 rfl))) (Or.inr (hw _ (mi 21 rfl))) (by decide) (t := .byte) (t' := (.array .byte)) (by decide) (by decide)))
  have F25 := F19.other W21 (Ne.symm ne9)
  refine own_outV X21 hx hlk go22 hrt (hb hby d3_57) e21 (by decide) (by decide) ?_
  exact ⟨rfl, N21, K21, (E_a0.keep K21), F24, b8, kb8, F23, F25⟩
def QiBn3 (Z : State) (n0 : Nat) (a0 : Addr) (a1 : Addr) (k_a1 : ClassId) (x0 : Int32) (x1 : Int32) (x2 : Int32) (s_COMPACT_STRINGS : Int32) (h0 : Heap) (v : Option Value) (h : Heap) (L : List Loc) : Prop := v = none ∧ Fr n0 L ∧ Keep h0 h [a0] ∧ Est Z h a0 ∧ Fcd Z h a0 (.int (0 : Int32)) ∧ ∃ (bx : Addr) (kx : ClassId), Fvl Z h a0 (.ref bx) ∧ Arv Z h bx kx .byte (3 : Int32) [(.int x0.toInt8.toInt32.toInt8.toInt32), (.int x1.toInt8.toInt32.toInt8.toInt32), (.int x2.toInt8.toInt32.toInt8.toInt32)] (.int (0 : Int32))
theorem efiBn3 (m : MethodId) (a0 : Addr) (a1 : Addr) : entryFrame m #[(.ref a0), (.ref a1)] 2 = mkF m 0 #[rv a0, rv a1] [] := by first | (simp [entryFrame, mkF, argsToLocals, Value.category]; done) | rfl
set_option maxRecDepth 65536 in
set_option maxHeartbeats 40000000 in
theorem rmiBn3 (l : Launch) (Z : State) (aZ : Array Value) (hw : HW aZ Z) (ws : List Jvm.Cond) (a0 : Addr) (a1 : Addr) (k_a1 : ClassId) (x0 : Int32) (x1 : Int32) (x2 : Int32) (s_COMPACT_STRINGS : Int32) (h0 : Heap) (n0 : Nat) (Z0 : n0 ≤ h0.size) (E_a0 : Est Z h0 a0) (F_a0_value : Fvl Z h0 a0 .null) (F_a0_coder : Fcd Z h0 a0 (.int 0)) (g_a0 : n0 ≤ a0) (V_a1 : Arv Z h0 a1 k_a1 .char (3 : Int32) [(.int x0), (.int x1), (.int x2)] (.int 0)) (S_COMPACT_STRINGS : SfC Z h0 (.int s_COMPACT_STRINGS)) (hcs : ¬ s_COMPACT_STRINGS = (0 : Int32)) (hx0 : ¬ (255 : Int32) < x0) (hx1 : ¬ (255 : Int32) < x1) (hx2 : ¬ (255 : Int32) < x2) :
    MFn l (⟨"java/lang/String", "<init>", "([C)V"⟩ : MethodName) jdk_42_method_3_code 2 none ws (Rm 3 1 3 52) #[(.ref a0), (.ref a1)] Z h0 (QiBn3 Z n0 a0 a1 k_a1 x0 x1 x2 s_COMPACT_STRINGS h0) := by
  refine own_mf (C := "java/lang/String") rfl (plainFor_of_name pn_15) (fun m => efiBn3 m a0 a1) ?_
  intro p e s m below meth cd0 s₁ En hx hby hml hown hnm hZ X0 e0 hlk hrt go0
  have neA1 : a0 ≠ a1 := own_exa_arv_ne E_a0 V_a1 (hw _ (mi 7 rfl))
  have N0 := Fr.nil n0
  have K0 : Keep h0 h0 [a0] := Keep.refl _ _
  obtain ⟨cl1, Ar1, q1, S1, N1, H1, G1⟩ := id V_a1
  have go2 : Go p.tables e below s₁ (mkF m 6 #[rv a0, rv a1] [.null, (.int 3), (.int 0), (.ref a1), (.ref a0)]) En := by
    intro t k
    refine go0 _ ?_
    refine XS.aloadN X0.here hx rfl (hb hby d2_0) rfl rfl ?_
    refine XS.aloadN X0.here hx rfl (hb hby d2_1) rfl rfl ?_
    refine XS.iconst X0.here hx rfl (hb hby d2_2) ?_
    refine XS.aloadN X0.here hx rfl (hb hby d2_3) rfl rfl ?_
    refine X0.arraylength hx (by rw [e0]; exact Ar1.1) (State.isArrayOf_alike hZ.alike Ar1.2.1) (g := (mkF m 4 #[rv a0, rv a1] [(.ref a1), (.int 0), (.ref a1), (.ref a0)])) rfl rfl (hb hby d2_4) _ ?_
    rw [len_of S1 N1]
    show Steps _ _ _ (s₁.setTop (mkF m 5 #[rv a0, rv a1] [(.int 3), (.int 0), (.ref a1), (.ref a0)])) _
    refine XS.aconstNull X0.here hx rfl (hb hby d2_5) ?_
    exact k
  obtain ⟨_, T3, Lc3, X3, hQ3, st3⟩ := own_ci X0 hx hZ hown hml go2 (hb hby d2_6) e0 (hw _ (mi 12 rfl)) (own_site94 hw) rfl (rmiAn3 l Z aZ hw [] a0 a1 _ x0 x1 x2 _ h0 n0 Z0 E_a0 F_a0_value F_a0_coder g_a0 V_a1 S_COMPACT_STRINGS hcs hx0 hx1 hx2) (by decide) (argsL := [(.ref a1), (.int 0), (.int 3), .null]) (rest := []) rfl rfl rfl (lenOf pd_23 rfl) (W := 0) rfl (by decide) (by decide) (by decide : 0 + 1 ≤ _) (by decide : 0 + 3 ≤ _)
  obtain ⟨rfl, N3q, K3q, G3_0, G3_1, bx3, kx3, GX3, GV3⟩ := hQ3
  have N3 := Fr.app N0 N3q
  have K3 : Keep h0 T3.heap [a0] := K0.trans K3q (allS (Or.inl (List.mem_of_getElem? (i := 0) rfl)) all0)
  have Zs3 : n0 ≤ T3.heap.size := Nat.le_trans Z0 K3q.1
  refine own_outV X3 hx hlk st3 hrt (hb hby d2_9) rfl (by decide) (by decide) ?_
  exact ⟨rfl, N3, K3, G3_0, G3_1, bx3, kx3, GX3, GV3⟩
def QcAn4 (Z : State) (n0 : Nat) (a0 : Addr) (a2 : Addr) (k_a0 : ClassId) (x0 : Int32) (x1 : Int32) (x2 : Int32) (x3 : Int32) (k_a2 : ClassId) (y0 : Int32) (y1 : Int32) (y2 : Int32) (y3 : Int32) (h0 : Heap) (v : Option Value) (h : Heap) (L : List Loc) : Prop := v = some (.int (4 : Int32)) ∧ Fr n0 L ∧ Keep h0 h [a2] ∧ Arv Z h a2 k_a2 .byte (4 : Int32) [(.int x0.toInt8.toInt32.toInt8.toInt32), (.int x1.toInt8.toInt32.toInt8.toInt32), (.int x2.toInt8.toInt32.toInt8.toInt32), (.int x3.toInt8.toInt32.toInt8.toInt32)] (.int (0 : Int32))
theorem efcAn4 (m : MethodId) (a0 : Addr) (a2 : Addr) : entryFrame m #[(.ref a0), (.int (0 : Int32)), (.ref a2), (.int (0 : Int32)), (.int (4 : Int32))] 7 = mkF m 0 #[rv a0, iv (0 : Int32), rv a2, iv (0 : Int32), iv (4 : Int32), .unset, .unset] [] := by first | (simp [entryFrame, mkF, argsToLocals, Value.category]; done) | rfl
abbrev LcAn4_0 (a0 : Addr) (a2 : Addr) (x0 : Int32) : Array Slot := #[rv a0, iv 0, rv a2, iv 0, iv 4, iv 0, iv x0]
set_option maxRecDepth 65536 in
set_option maxHeartbeats 40000000 in
theorem rmcAn4 (l : Launch) (Z : State) (aZ : Array Value) (hw : HW aZ Z) (ws : List Jvm.Cond) (a0 : Addr) (a2 : Addr) (k_a0 : ClassId) (x0 : Int32) (x1 : Int32) (x2 : Int32) (x3 : Int32) (k_a2 : ClassId) (y0 : Int32) (y1 : Int32) (y2 : Int32) (y3 : Int32) (h0 : Heap) (n0 : Nat) (Z0 : n0 ≤ h0.size) (V_a0 : Arv Z h0 a0 k_a0 .char (4 : Int32) [(.int x0), (.int x1), (.int x2), (.int x3)] (.int 0)) (V_a2 : Arv Z h0 a2 k_a2 .byte (4 : Int32) [(.int y0), (.int y1), (.int y2), (.int y3)] (.int 0)) (g_a2 : n0 ≤ a2) (ne02 : a0 ≠ a2) (hx0 : ¬ (255 : Int32) < x0) (hx1 : ¬ (255 : Int32) < x1) (hx2 : ¬ (255 : Int32) < x2) (hx3 : ¬ (255 : Int32) < x3) :
    MFn l (⟨"java/lang/StringUTF16", "compress", "([CI[BII)I"⟩ : MethodName) jdk_52_method_21_code 7 (some .int) ws (Rm 0 0 0 0) #[(.ref a0), (.int 0), (.ref a2), (.int 0), (.int 4)] Z h0 (QcAn4 Z n0 a0 a2 k_a0 x0 x1 x2 x3 k_a2 y0 y1 y2 y3 h0) := by
  refine own_mf (C := "java/lang/StringUTF16") rfl (plainFor_of_name pn_48) (fun m => efcAn4 m a0 a2) ?_
  intro p e s m below meth cd0 s₁ En hx hby hml hown hnm hZ X0 e0 hlk hrt go0
  have N0 := Fr.nil n0
  have K0 : Keep h0 h0 [a2] := Keep.refl _ _
  obtain ⟨cl1, Ar1, q1, S1, N1, H1, G1⟩ := id V_a0
  have go2 : Go p.tables e below s₁ (mkF m 31 (LcAn4_0 a0 a2 x0) [(.int x0.toInt8.toInt32), (.int 0), (.ref a2)]) En := by
    intro t k
    refine go0 _ ?_
    refine XS.iconst X0.here hx rfl (hb hby d16_0) ?_
    refine XS.istore X0.here hx rfl (hb hby d16_1) rfl (l' := #[rv a0, iv 0, rv a2, iv 0, iv 4, iv 0, .unset]) rfl ?_
    refine XS.iload X0.here hx rfl (hb hby d16_3) rfl ?_
    refine XS.iload X0.here hx rfl (hb hby d16_5) rfl ?_
    refine XS.icmpNo X0.here hx rfl (hb hby d16_7) rfl (XT.ii_ge_f (by decide : ((0 : Int32) < (4 : Int32)))) ?_
    show Steps _ _ _ (s₁.setTop (mkF m 10 #[rv a0, iv 0, rv a2, iv 0, iv 4, iv 0, .unset] [])) _
    refine XS.aloadN X0.here hx rfl (hb hby d16_10) rfl rfl ?_
    refine XS.iloadN X0.here hx rfl (hb hby d16_11) rfl ?_
    refine X0.caload hx (j := (0 : Int32)) (v := (.int x0)) (by rw [e0]; exact Ar1.1) (State.isArrayOf_alike hZ.alike Ar1.2.1) Ar1.2.2 (inb_of S1 ⟨by decide, by decide⟩) (Has.at H1 (inb_of S1 ⟨by decide, by decide⟩) rfl) (g := (mkF m 12 #[rv a0, iv 0, rv a2, iv 0, iv 4, iv 0, .unset] [(.int 0), (.ref a0)])) rfl rfl (hb hby d16_12) _ ?_
    refine XS.istore X0.here hx rfl (hb hby d16_13) rfl (l' := (LcAn4_0 a0 a2 x0)) rfl ?_
    refine XS.iload X0.here hx rfl (hb hby d16_15) rfl ?_
    show Steps _ _ _ (s₁.setTop (mkF m 17 (LcAn4_0 a0 a2 x0) [(.int x0)])) _
    refine XS.sipush X0.here hx rfl (hb hby d16_17) ?_
    refine XS.icmpYes X0.here hx rfl (pc0 := 20) (pc' := 26) rfl (hb hby d16_20) rfl (XT.ii_le_t hx0) (by decide) (by decide) ?_
    refine XS.aloadN X0.here hx rfl (hb hby d16_26) rfl rfl ?_
    refine XS.iloadN X0.here hx rfl (hb hby d16_27) rfl ?_
    refine XS.iload X0.here hx rfl (hb hby d16_28) rfl ?_
    show Steps _ _ _ (s₁.setTop (mkF m 30 (LcAn4_0 a0 a2 x0) [(.int x0), (.int 0), (.ref a2)])) _
    refine XS.i2b X0.here hx rfl (hb hby d16_30) rfl ?_
    exact k
  obtain ⟨cl4, Ar4, q4, S4, N4, H4, G4⟩ := id V_a2
  obtain ⟨T3, h3, X3, e3, W3, st3⟩ := stB X0 hx hZ e0 Ar4 (j := (0 : Int32)) (inb_of S4 ⟨by decide, by decide⟩) (g := (mkF m 31 (LcAn4_0 a0 a2 x0) [(.int x0.toInt8.toInt32), (.int 0), (.ref a2)])) rfl rfl (hb hby d16_31)
  have go5 := gap go2 st3
  have N3 := Fr.snoc X3 N0 g_a2
  have K3 : Keep h0 h3 [a2] := K0.wr W3 (Or.inl (List.mem_of_getElem? (i := 0) rfl))
  have Zs3 : n0 ≤ h3.size := Nat.le_trans Z0 (Keep.of_wr W3).1
  have F6 : Arv Z h3 a2 k_a2 .byte (4 : Int32) [(.int x0.toInt8.toInt32.toInt8.toInt32), (.int y1), (.int y2), (.int y3)] (.int 0) := Arv.set Ar4 q4 S4 N4 H4 G4 (fits_nar_byte _) W3 0 rfl (Nat.le_of_ble_eq_true rfl)
  obtain ⟨cl7, Ar7, q7, S7, N7, H7, G7⟩ := id (V_a0.keep K3 (ninS ne02 nin0))
  have go8 : Go p.tables e below T3 (mkF m 31 #[rv a0, iv 1, rv a2, iv 1, iv 4, iv 1, iv x1] [(.int x1.toInt8.toInt32), (.int 1), (.ref a2)]) En := by
    intro t k
    refine go5 _ ?_
    refine XS.iinc X3.here hx rfl (hb hby d16_32) rfl (l' := #[rv a0, iv 1, rv a2, iv 0, iv 4, iv 0, iv x0]) rfl ?_
    refine XS.iinc X3.here hx rfl (hb hby d16_35) rfl (l' := #[rv a0, iv 1, rv a2, iv 1, iv 4, iv 0, iv x0]) rfl ?_
    refine XS.iinc X3.here hx rfl (hb hby d16_38) rfl (l' := #[rv a0, iv 1, rv a2, iv 1, iv 4, iv 1, iv x0]) rfl ?_
    refine XS.goto X3.here hx rfl (pc0 := 41) (pc' := 3) rfl (hb hby d16_41) (by decide) (by decide) ?_
    refine XS.iload X3.here hx rfl (hb hby d16_3) rfl ?_
    show Steps _ _ _ (T3.setTop (mkF m 5 #[rv a0, iv 1, rv a2, iv 1, iv 4, iv 1, iv x0] [(.int 1)])) _
    refine XS.iload X3.here hx rfl (hb hby d16_5) rfl ?_
    refine XS.icmpNo X3.here hx rfl (hb hby d16_7) rfl (XT.ii_ge_f (by decide : ((1 : Int32) < (4 : Int32)))) ?_
    refine XS.aloadN X3.here hx rfl (hb hby d16_10) rfl rfl ?_
    refine XS.iloadN X3.here hx rfl (hb hby d16_11) rfl ?_
    refine X3.caload hx (j := (1 : Int32)) (v := (.int x1)) (by rw [e3]; exact Ar7.1) (State.isArrayOf_alike hZ.alike Ar7.2.1) Ar7.2.2 (inb_of S7 ⟨by decide, by decide⟩) (Has.at H7 (inb_of S7 ⟨by decide, by decide⟩) rfl) (g := (mkF m 12 #[rv a0, iv 1, rv a2, iv 1, iv 4, iv 1, iv x0] [(.int 1), (.ref a0)])) rfl rfl (hb hby d16_12) _ ?_
    show Steps _ _ _ (T3.setTop (mkF m 13 #[rv a0, iv 1, rv a2, iv 1, iv 4, iv 1, iv x0] [(.int x1)])) _
    refine XS.istore X3.here hx rfl (hb hby d16_13) rfl (l' := #[rv a0, iv 1, rv a2, iv 1, iv 4, iv 1, iv x1]) rfl ?_
    refine XS.iload X3.here hx rfl (hb hby d16_15) rfl ?_
    refine XS.sipush X3.here hx rfl (hb hby d16_17) ?_
    refine XS.icmpYes X3.here hx rfl (pc0 := 20) (pc' := 26) rfl (hb hby d16_20) rfl (XT.ii_le_t hx1) (by decide) (by decide) ?_
    refine XS.aloadN X3.here hx rfl (hb hby d16_26) rfl rfl ?_
    show Steps _ _ _ (T3.setTop (mkF m 27 #[rv a0, iv 1, rv a2, iv 1, iv 4, iv 1, iv x1] [(.ref a2)])) _
    refine XS.iloadN X3.here hx rfl (hb hby d16_27) rfl ?_
    refine XS.iload X3.here hx rfl (hb hby d16_28) rfl ?_
    refine XS.i2b X3.here hx rfl (hb hby d16_30) rfl ?_
    exact k
  obtain ⟨cl10, Ar10, q10, S10, N10, H10, G10⟩ := id F6
  obtain ⟨T9, h9, X9, e9, W9, st9⟩ := stB X3 hx hZ e3 Ar10 (j := (1 : Int32)) (inb_of S10 ⟨by decide, by decide⟩) (g := (mkF m 31 #[rv a0, iv 1, rv a2, iv 1, iv 4, iv 1, iv x1] [(.int x1.toInt8.toInt32), (.int 1), (.ref a2)])) rfl rfl (hb hby d16_31)
  have go11 := gap go8 st9
  have N9 := Fr.snoc X9 N3 g_a2
  have K9 : Keep h0 h9 [a2] := K3.wr W9 (Or.inl (List.mem_of_getElem? (i := 0) rfl))
  have Zs9 : n0 ≤ h9.size := Nat.le_trans Zs3 (Keep.of_wr W9).1
  have F12 : Arv Z h9 a2 k_a2 .byte (4 : Int32) [(.int x0.toInt8.toInt32.toInt8.toInt32), (.int x1.toInt8.toInt32.toInt8.toInt32), (.int y2), (.int y3)] (.int 0) := Arv.set Ar10 q10 S10 N10 H10 G10 (fits_nar_byte _) W9 1 rfl (Nat.le_of_ble_eq_true rfl)
  obtain ⟨cl13, Ar13, q13, S13, N13, H13, G13⟩ := id (V_a0.keep K9 (ninS ne02 nin0))
  have go14 : Go p.tables e below T9 (mkF m 31 #[rv a0, iv 2, rv a2, iv 2, iv 4, iv 2, iv x2] [(.int x2.toInt8.toInt32), (.int 2), (.ref a2)]) En := by
    intro t k
    refine go11 _ ?_
    refine XS.iinc X9.here hx rfl (hb hby d16_32) rfl (l' := #[rv a0, iv 2, rv a2, iv 1, iv 4, iv 1, iv x1]) rfl ?_
    refine XS.iinc X9.here hx rfl (hb hby d16_35) rfl (l' := #[rv a0, iv 2, rv a2, iv 2, iv 4, iv 1, iv x1]) rfl ?_
    refine XS.iinc X9.here hx rfl (hb hby d16_38) rfl (l' := #[rv a0, iv 2, rv a2, iv 2, iv 4, iv 2, iv x1]) rfl ?_
    refine XS.goto X9.here hx rfl (pc0 := 41) (pc' := 3) rfl (hb hby d16_41) (by decide) (by decide) ?_
    refine XS.iload X9.here hx rfl (hb hby d16_3) rfl ?_
    show Steps _ _ _ (T9.setTop (mkF m 5 #[rv a0, iv 2, rv a2, iv 2, iv 4, iv 2, iv x1] [(.int 2)])) _
    refine XS.iload X9.here hx rfl (hb hby d16_5) rfl ?_
    refine XS.icmpNo X9.here hx rfl (hb hby d16_7) rfl (XT.ii_ge_f (by decide : ((2 : Int32) < (4 : Int32)))) ?_
    refine XS.aloadN X9.here hx rfl (hb hby d16_10) rfl rfl ?_
    refine XS.iloadN X9.here hx rfl (hb hby d16_11) rfl ?_
    refine X9.caload hx (j := (2 : Int32)) (v := (.int x2)) (by rw [e9]; exact Ar13.1) (State.isArrayOf_alike hZ.alike Ar13.2.1) Ar13.2.2 (inb_of S13 ⟨by decide, by decide⟩) (Has.at H13 (inb_of S13 ⟨by decide, by decide⟩) rfl) (g := (mkF m 12 #[rv a0, iv 2, rv a2, iv 2, iv 4, iv 2, iv x1] [(.int 2), (.ref a0)])) rfl rfl (hb hby d16_12) _ ?_
    show Steps _ _ _ (T9.setTop (mkF m 13 #[rv a0, iv 2, rv a2, iv 2, iv 4, iv 2, iv x1] [(.int x2)])) _
    refine XS.istore X9.here hx rfl (hb hby d16_13) rfl (l' := #[rv a0, iv 2, rv a2, iv 2, iv 4, iv 2, iv x2]) rfl ?_
    refine XS.iload X9.here hx rfl (hb hby d16_15) rfl ?_
    refine XS.sipush X9.here hx rfl (hb hby d16_17) ?_
    refine XS.icmpYes X9.here hx rfl (pc0 := 20) (pc' := 26) rfl (hb hby d16_20) rfl (XT.ii_le_t hx2) (by decide) (by decide) ?_
    refine XS.aloadN X9.here hx rfl (hb hby d16_26) rfl rfl ?_
    show Steps _ _ _ (T9.setTop (mkF m 27 #[rv a0, iv 2, rv a2, iv 2, iv 4, iv 2, iv x2] [(.ref a2)])) _
    refine XS.iloadN X9.here hx rfl (hb hby d16_27) rfl ?_
    refine XS.iload X9.here hx rfl (hb hby d16_28) rfl ?_
    refine XS.i2b X9.here hx rfl (hb hby d16_30) rfl ?_
    exact k
  obtain ⟨cl16, Ar16, q16, S16, N16, H16, G16⟩ := id F12
  obtain ⟨T15, h15, X15, e15, W15, st15⟩ := stB X9 hx hZ e9 Ar16 (j := (2 : Int32)) (inb_of S16 ⟨by decide, by decide⟩) (g := (mkF m 31 #[rv a0, iv 2, rv a2, iv 2, iv 4, iv 2, iv x2] [(.int x2.toInt8.toInt32), (.int 2), (.ref a2)])) rfl rfl (hb hby d16_31)
  have go17 := gap go14 st15
  have N15 := Fr.snoc X15 N9 g_a2
  have K15 : Keep h0 h15 [a2] := K9.wr W15 (Or.inl (List.mem_of_getElem? (i := 0) rfl))
  have Zs15 : n0 ≤ h15.size := Nat.le_trans Zs9 (Keep.of_wr W15).1
  have F18 : Arv Z h15 a2 k_a2 .byte (4 : Int32) [(.int x0.toInt8.toInt32.toInt8.toInt32), (.int x1.toInt8.toInt32.toInt8.toInt32), (.int x2.toInt8.toInt32.toInt8.toInt32), (.int y3)] (.int 0) := Arv.set Ar16 q16 S16 N16 H16 G16 (fits_nar_byte _) W15 2 rfl (Nat.le_of_ble_eq_true rfl)
  obtain ⟨cl19, Ar19, q19, S19, N19, H19, G19⟩ := id (V_a0.keep K15 (ninS ne02 nin0))
  have go20 : Go p.tables e below T15 (mkF m 31 #[rv a0, iv 3, rv a2, iv 3, iv 4, iv 3, iv x3] [(.int x3.toInt8.toInt32), (.int 3), (.ref a2)]) En := by
    intro t k
    refine go17 _ ?_
    refine XS.iinc X15.here hx rfl (hb hby d16_32) rfl (l' := #[rv a0, iv 3, rv a2, iv 2, iv 4, iv 2, iv x2]) rfl ?_
    refine XS.iinc X15.here hx rfl (hb hby d16_35) rfl (l' := #[rv a0, iv 3, rv a2, iv 3, iv 4, iv 2, iv x2]) rfl ?_
    refine XS.iinc X15.here hx rfl (hb hby d16_38) rfl (l' := #[rv a0, iv 3, rv a2, iv 3, iv 4, iv 3, iv x2]) rfl ?_
    refine XS.goto X15.here hx rfl (pc0 := 41) (pc' := 3) rfl (hb hby d16_41) (by decide) (by decide) ?_
    refine XS.iload X15.here hx rfl (hb hby d16_3) rfl ?_
    show Steps _ _ _ (T15.setTop (mkF m 5 #[rv a0, iv 3, rv a2, iv 3, iv 4, iv 3, iv x2] [(.int 3)])) _
    refine XS.iload X15.here hx rfl (hb hby d16_5) rfl ?_
    refine XS.icmpNo X15.here hx rfl (hb hby d16_7) rfl (XT.ii_ge_f (by decide : ((3 : Int32) < (4 : Int32)))) ?_
    refine XS.aloadN X15.here hx rfl (hb hby d16_10) rfl rfl ?_
    refine XS.iloadN X15.here hx rfl (hb hby d16_11) rfl ?_
    refine X15.caload hx (j := (3 : Int32)) (v := (.int x3)) (by rw [e15]; exact Ar19.1) (State.isArrayOf_alike hZ.alike Ar19.2.1) Ar19.2.2 (inb_of S19 ⟨by decide, by decide⟩) (Has.at H19 (inb_of S19 ⟨by decide, by decide⟩) rfl) (g := (mkF m 12 #[rv a0, iv 3, rv a2, iv 3, iv 4, iv 3, iv x2] [(.int 3), (.ref a0)])) rfl rfl (hb hby d16_12) _ ?_
    show Steps _ _ _ (T15.setTop (mkF m 13 #[rv a0, iv 3, rv a2, iv 3, iv 4, iv 3, iv x2] [(.int x3)])) _
    refine XS.istore X15.here hx rfl (hb hby d16_13) rfl (l' := #[rv a0, iv 3, rv a2, iv 3, iv 4, iv 3, iv x3]) rfl ?_
    refine XS.iload X15.here hx rfl (hb hby d16_15) rfl ?_
    refine XS.sipush X15.here hx rfl (hb hby d16_17) ?_
    refine XS.icmpYes X15.here hx rfl (pc0 := 20) (pc' := 26) rfl (hb hby d16_20) rfl (XT.ii_le_t hx3) (by decide) (by decide) ?_
    refine XS.aloadN X15.here hx rfl (hb hby d16_26) rfl rfl ?_
    show Steps _ _ _ (T15.setTop (mkF m 27 #[rv a0, iv 3, rv a2, iv 3, iv 4, iv 3, iv x3] [(.ref a2)])) _
    refine XS.iloadN X15.here hx rfl (hb hby d16_27) rfl ?_
    refine XS.iload X15.here hx rfl (hb hby d16_28) rfl ?_
    refine XS.i2b X15.here hx rfl (hb hby d16_30) rfl ?_
    exact k
  obtain ⟨cl22, Ar22, q22, S22, N22, H22, G22⟩ := id F18
  obtain ⟨T21, h21, X21, e21, W21, st21⟩ := stB X15 hx hZ e15 Ar22 (j := (3 : Int32)) (inb_of S22 ⟨by decide, by decide⟩) (g := (mkF m 31 #[rv a0, iv 3, rv a2, iv 3, iv 4, iv 3, iv x3] [(.int x3.toInt8.toInt32), (.int 3), (.ref a2)])) rfl rfl (hb hby d16_31)
  have go23 := gap go20 st21
  have N21 := Fr.snoc X21 N15 g_a2
  have K21 : Keep h0 h21 [a2] := K15.wr W21 (Or.inl (List.mem_of_getElem? (i := 0) rfl))
  have Zs21 : n0 ≤ h21.size := Nat.le_trans Zs15 (Keep.of_wr W21).1
  have F24 : Arv Z h21 a2 k_a2 .byte (4 : Int32) [(.int x0.toInt8.toInt32.toInt8.toInt32), (.int x1.toInt8.toInt32.toInt8.toInt32), (.int x2.toInt8.toInt32.toInt8.toInt32), (.int x3.toInt8.toInt32.toInt8.toInt32)] (.int 0) := Arv.set Ar22 q22 S22 N22 H22 G22 (fits_nar_byte _) W21 3 rfl (Nat.le_of_ble_eq_true rfl)
  have go25 : Go p.tables e below T21 (mkF m 46 #[rv a0, iv 4, rv a2, iv 4, iv 4, iv 4, iv x3] [(.int 4)]) En := by
    intro t k
    refine go23 _ ?_
    refine XS.iinc X21.here hx rfl (hb hby d16_32) rfl (l' := #[rv a0, iv 4, rv a2, iv 3, iv 4, iv 3, iv x3]) rfl ?_
    refine XS.iinc X21.here hx rfl (hb hby d16_35) rfl (l' := #[rv a0, iv 4, rv a2, iv 4, iv 4, iv 3, iv x3]) rfl ?_
    refine XS.iinc X21.here hx rfl (hb hby d16_38) rfl (l' := #[rv a0, iv 4, rv a2, iv 4, iv 4, iv 4, iv x3]) rfl ?_
    refine XS.goto X21.here hx rfl (pc0 := 41) (pc' := 3) rfl (hb hby d16_41) (by decide) (by decide) ?_
    refine XS.iload X21.here hx rfl (hb hby d16_3) rfl ?_
    show Steps _ _ _ (T21.setTop (mkF m 5 #[rv a0, iv 4, rv a2, iv 4, iv 4, iv 4, iv x3] [(.int 4)])) _
    refine XS.iload X21.here hx rfl (hb hby d16_5) rfl ?_
    refine XS.icmpYes X21.here hx rfl (pc0 := 7) (pc' := 44) rfl (hb hby d16_7) rfl (XT.ii_ge_t (by decide : ¬ ((4 : Int32) < (4 : Int32)))) (by decide) (by decide) ?_
    refine XS.iload X21.here hx rfl (hb hby d16_44) rfl ?_
    exact k
  refine own_out (w := (.int 4)) X21 hx hlk go25 hrt rfl (Or.inl ⟨rfl, Or.inl rfl, _, rfl⟩) (hb hby d16_46) e21 (by decide) (by decide) ?_
  exact ⟨rfl, N21, K21, F24⟩
def QcBn4 (Z : State) (n0 : Nat) (a0 : Addr) (k_a0 : ClassId) (x0 : Int32) (x1 : Int32) (x2 : Int32) (x3 : Int32) (h0 : Heap) (v : Option Value) (h : Heap) (L : List Loc) : Prop := ∃ (b : Addr) (kb : ClassId), v = some (.ref b) ∧ Fr n0 L ∧ Keep h0 h [] ∧ h0.size ≤ b ∧ Arv Z h b kb .byte (4 : Int32) [(.int x0.toInt8.toInt32.toInt8.toInt32), (.int x1.toInt8.toInt32.toInt8.toInt32), (.int x2.toInt8.toInt32.toInt8.toInt32), (.int x3.toInt8.toInt32.toInt8.toInt32)] (.int (0 : Int32))
theorem efcBn4 (m : MethodId) (a0 : Addr) : entryFrame m #[(.ref a0), (.int (0 : Int32)), (.int (4 : Int32))] 6 = mkF m 0 #[rv a0, iv (0 : Int32), iv (4 : Int32), .unset, .unset, .unset] [] := by first | (simp [entryFrame, mkF, argsToLocals, Value.category]; done) | rfl
set_option maxRecDepth 65536 in
set_option maxHeartbeats 40000000 in
theorem rmcBn4 (l : Launch) (Z : State) (aZ : Array Value) (hw : HW aZ Z) (ws : List Jvm.Cond) (a0 : Addr) (k_a0 : ClassId) (x0 : Int32) (x1 : Int32) (x2 : Int32) (x3 : Int32) (h0 : Heap) (n0 : Nat) (Z0 : n0 ≤ h0.size) (V_a0 : Arv Z h0 a0 k_a0 .char (4 : Int32) [(.int x0), (.int x1), (.int x2), (.int x3)] (.int 0)) (hx0 : ¬ (255 : Int32) < x0) (hx1 : ¬ (255 : Int32) < x1) (hx2 : ¬ (255 : Int32) < x2) (hx3 : ¬ (255 : Int32) < x3) :
    MFn l (⟨"java/lang/StringUTF16", "compress", "([CII)[B"⟩ : MethodName) jdk_52_method_16_code 6 (some (.array .byte)) ws (Rm 1 1 4 18) #[(.ref a0), (.int 0), (.int 4)] Z h0 (QcBn4 Z n0 a0 k_a0 x0 x1 x2 x3 h0) := by
  refine own_mf (C := "java/lang/StringUTF16") rfl (plainFor_of_name pn_48) (fun m => efcBn4 m a0) ?_
  intro p e s m below meth cd0 s₁ En hx hby hml hown hnm hZ X0 e0 hlk hrt go0
  have N0 := Fr.nil n0
  have K0 : Keep h0 h0 [] := Keep.refl _ _
  have go1 : Go p.tables e below s₁ (mkF m 1 #[rv a0, iv 0, iv 4, .unset, .unset, .unset] [(.int 4)]) En := by
    intro t k
    refine go0 _ ?_
    refine XS.iloadN X0.here hx rfl (hb hby d15_0) rfl ?_
    exact k
  obtain ⟨T2, h2, k2, X2, e2, E2, A2, st2⟩ := newP X0 hx hZ (hw _ (mi 20 rfl)) e0 (g := (mkF m 1 #[rv a0, iv 0, iv 4, .unset, .unset, .unset] [(.int 4)])) rfl (hb hby d15_1) rfl (by decide) (cap := 4) (by decide) (by decide) (by decide) (by decide)
  obtain ⟨b2, g2⟩ : ∃ z, z = h0.size := ⟨_, rfl⟩
  rw [← g2] at A2 st2
  have ne3 : a0 ≠ b2 := Nat.ne_of_lt (Nat.lt_of_lt_of_le V_a0.lt (Nat.le_of_eq g2.symm))
  have low2 : n0 ≤ b2 := Nat.le_trans Z0 (Nat.le_of_eq g2.symm)
  have fsh2 : h0.size ≤ b2 := Nat.le_trans K0.1 (Nat.le_of_eq g2.symm)
  have K2 : Keep h0 h2 [] := K0.ext E2
  have Zs2 : n0 ≤ h2.size := Nat.le_trans Z0 E2.1
  have go4 := gap go1 st2
  have F5 : Arv Z h2 b2 k2 .byte (4 : Int32) [(.int 0), (.int 0), (.int 0), (.int 0)] (.int 0) := (Arv.new A2 (by decide)).pad (pad_rep [] (.int 0) 4)
  have go6 : Go p.tables e below T2 (mkF m 9 #[rv a0, iv 0, iv 4, rv b2, .unset, .unset] [(.int 4), (.int 0), (.ref b2), (.int 0), (.ref a0)]) En := by
    intro t k
    refine go4 _ ?_
    refine XS.astoreN X2.here hx rfl (hb hby d15_3) rfl rfl (l' := #[rv a0, iv 0, iv 4, rv b2, .unset, .unset]) rfl ?_
    refine XS.aloadN X2.here hx rfl (hb hby d15_4) rfl rfl ?_
    refine XS.iloadN X2.here hx rfl (hb hby d15_5) rfl ?_
    refine XS.aloadN X2.here hx rfl (hb hby d15_6) rfl rfl ?_
    refine XS.iconst X2.here hx rfl (hb hby d15_7) ?_
    show Steps _ _ _ (T2.setTop (mkF m 8 #[rv a0, iv 0, iv 4, rv b2, .unset, .unset] [(.int 0), (.ref b2), (.int 0), (.ref a0)])) _
    refine XS.iloadN X2.here hx rfl (hb hby d15_8) rfl ?_
    exact k
  obtain ⟨_, T7, Lc7, X7, hQ7, st7⟩ := own_cs X2 hx hZ hown hml go6 (hb hby d15_9) e2 (hw _ (mi 75 rfl)) (own_site58 hw) (rmcAn4 l Z aZ hw [] a0 b2 _ x0 x1 x2 x3 k2 _ _ _ _ h2 n0 Zs2 (V_a0.keep K2 nin0) F5 low2 ne3 hx0 hx1 hx2 hx3) (by decide) (argsL := [(.ref a0), (.int 0), (.ref b2), (.int 0), (.int 4)]) (rest := []) rfl rfl rfl (lenOf pd_59 rfl) (W := 0) rfl (by decide) (by decide) (by decide : 1 + 0 ≤ _) (by decide : 4 + 0 ≤ _)
  obtain ⟨rfl, N7q, K7q, G7_0⟩ := hQ7
  have N7 := Fr.app N0 N7q
  have K7 : Keep h0 T7.heap [] := K2.trans K7q (allS (Or.inr fsh2) all0)
  have Zs7 : n0 ≤ T7.heap.size := Nat.le_trans Zs2 K7q.1
  have go8 : Go p.tables e below T7 (mkF m 58 #[rv a0, iv 0, iv 4, rv b2, iv 4, .unset] [(.ref b2)]) En := by
    intro t k
    refine st7 _ ?_
    refine XS.istore X7.here hx rfl (hb hby d15_12) rfl (l' := #[rv a0, iv 0, iv 4, rv b2, iv 4, .unset]) rfl ?_
    refine XS.iload X7.here hx rfl (hb hby d15_14) rfl ?_
    refine XS.iloadN X7.here hx rfl (hb hby d15_16) rfl ?_
    refine XS.icmpYes X7.here hx rfl (pc0 := 17) (pc' := 57) rfl (hb hby d15_17) rfl (XT.ii_eq_t (by decide : ((4 : Int32) = (4 : Int32)))) (by decide) (by decide) ?_
    refine XS.aloadN X7.here hx rfl (hb hby d15_57) rfl rfl ?_
    show Steps _ _ _ (T7.setTop (mkF m 58 #[rv a0, iv 0, iv 4, rv b2, iv 4, .unset] [(.ref b2)])) _
    exact k
  refine own_out (w := (.ref b2)) X7 hx hlk go8 hrt rfl (Or.inr (Or.inr (Or.inr (Or.inr ⟨rfl, rfl, rfl⟩)))) (hb hby d15_58) rfl (by decide) (by decide) ?_
  exact ⟨b2, k2, rfl, N7, K7, fsh2, G7_0⟩
theorem efcCn4 (m : MethodId) (a0 : Addr) : entryFrame m #[(.ref a0), (.int (4 : Int32))] 2 = mkF m 0 #[rv a0, iv (4 : Int32)] [] := by first | (simp [entryFrame, mkF, argsToLocals, Value.category]; done) | rfl
set_option maxRecDepth 65536 in
set_option maxHeartbeats 40000000 in
theorem rmcCn4 (l : Launch) (Z : State) (aZ : Array Value) (hw : HW aZ Z) (ws : List Jvm.Cond) (a0 : Addr) (k_a0 : ClassId) (y0 : Int32) (y1 : Int32) (y2 : Int32) (y3 : Int32) (h0 : Heap) (n0 : Nat) (Z0 : n0 ≤ h0.size) (V_a0 : Arv Z h0 a0 k_a0 .byte (4 : Int32) [(.int y0), (.int y1), (.int y2), (.int y3)] (.int 0)) :
    MFn l (⟨"java/lang/StringUTF16", "coderFromArrayLen", "([BI)B"⟩ : MethodName) jdk_52_method_15_code 2 (some .byte) ws (Rm 0 0 0 0) #[(.ref a0), (.int 4)] Z h0 (QP n0 h0 (some (.int 0))) := by
  refine own_mf (C := "java/lang/StringUTF16") rfl (plainFor_of_name pn_48) (fun m => efcCn4 m a0) ?_
  intro p e s m below meth cd0 s₁ En hx hby hml hown hnm hZ X0 e0 hlk hrt go0
  have N0 := Fr.nil n0
  have K0 : Keep h0 h0 [] := Keep.refl _ _
  obtain ⟨cl1, Ar1, q1, S1, N1, H1, G1⟩ := id V_a0
  have go2 : Go p.tables e below s₁ (mkF m 8 #[rv a0, iv 4] [(.int 0)]) En := by
    intro t k
    refine go0 _ ?_
    refine XS.iloadN X0.here hx rfl (hb hby d17_0) rfl ?_
    refine XS.aloadN X0.here hx rfl (hb hby d17_1) rfl rfl ?_
    refine X0.arraylength hx (by rw [e0]; exact Ar1.1) (State.isArrayOf_alike hZ.alike Ar1.2.1) (g := (mkF m 2 #[rv a0, iv 4] [(.ref a0), (.int 4)])) rfl rfl (hb hby d17_2) _ ?_
    rw [len_of S1 N1]
    refine XS.isub X0.here hx rfl (hb hby d17_3) rfl ?_
    show Steps _ _ _ (s₁.setTop (mkF m 4 #[rv a0, iv 4] [(.int 0)])) _
    refine XS.bipush X0.here hx rfl (hb hby d17_4) ?_
    refine XS.iushr X0.here hx rfl (hb hby d17_6) rfl ?_
    show Steps _ _ _ (s₁.setTop (mkF m 7 #[rv a0, iv 4] [(.int (((0 : Int32).toUInt32 >>> ((31 : Int32) &&& 31).toUInt32).toInt32))])) _
    rw [(by decide : (((0 : Int32).toUInt32 >>> ((31 : Int32) &&& 31).toUInt32).toInt32) = (0 : Int32))]
    refine XS.i2b X0.here hx rfl (hb hby d17_7) rfl ?_
    show Steps _ _ _ (s₁.setTop (mkF m 8 #[rv a0, iv 4] [(.int (0 : Int32).toInt8.toInt32)])) _
    rw [(by decide : (0 : Int32).toInt8.toInt32 = (0 : Int32))]
    exact k
  refine own_out (w := (.int 0)) X0 hx hlk go2 hrt rfl (Or.inl ⟨rfl, Or.inr (Or.inr (Or.inl rfl)), _, rfl⟩) (hb hby d17_8) e0 (by decide) (by decide) ?_
  exact ⟨rfl, N0, rfl⟩
def QiAn4 (Z : State) (n0 : Nat) (a0 : Addr) (a1 : Addr) (k_a1 : ClassId) (x0 : Int32) (x1 : Int32) (x2 : Int32) (x3 : Int32) (s_COMPACT_STRINGS : Int32) (h0 : Heap) (v : Option Value) (h : Heap) (L : List Loc) : Prop := v = none ∧ Fr n0 L ∧ Keep h0 h [a0] ∧ Est Z h a0 ∧ Fcd Z h a0 (.int (0 : Int32)) ∧ ∃ (bx : Addr) (kx : ClassId), Fvl Z h a0 (.ref bx) ∧ Arv Z h bx kx .byte (4 : Int32) [(.int x0.toInt8.toInt32.toInt8.toInt32), (.int x1.toInt8.toInt32.toInt8.toInt32), (.int x2.toInt8.toInt32.toInt8.toInt32), (.int x3.toInt8.toInt32.toInt8.toInt32)] (.int (0 : Int32))
theorem efiAn4 (m : MethodId) (a0 : Addr) (a1 : Addr) : entryFrame m #[(.ref a0), (.ref a1), (.int (0 : Int32)), (.int (4 : Int32)), .null] 6 = mkF m 0 #[rv a0, rv a1, iv (0 : Int32), iv (4 : Int32), .val .null, .unset] [] := by first | (simp [entryFrame, mkF, argsToLocals, Value.category]; done) | rfl
abbrev LiAn4_0 (a0 : Addr) (a1 : Addr) : Array Slot := #[rv a0, rv a1, iv 0, iv 4, .val .null, .unset]
abbrev LiAn4_1 (a0 : Addr) (a1 : Addr) (b8 : Addr) : Array Slot := #[rv a0, rv a1, iv 0, iv 4, .val .null, rv b8]
set_option maxRecDepth 65536 in
set_option maxHeartbeats 40000000 in
theorem rmiAn4 (l : Launch) (Z : State) (aZ : Array Value) (hw : HW aZ Z) (ws : List Jvm.Cond) (a0 : Addr) (a1 : Addr) (k_a1 : ClassId) (x0 : Int32) (x1 : Int32) (x2 : Int32) (x3 : Int32) (s_COMPACT_STRINGS : Int32) (h0 : Heap) (n0 : Nat) (Z0 : n0 ≤ h0.size) (E_a0 : Est Z h0 a0) (F_a0_value : Fvl Z h0 a0 .null) (F_a0_coder : Fcd Z h0 a0 (.int 0)) (g_a0 : n0 ≤ a0) (V_a1 : Arv Z h0 a1 k_a1 .char (4 : Int32) [(.int x0), (.int x1), (.int x2), (.int x3)] (.int 0)) (S_COMPACT_STRINGS : SfC Z h0 (.int s_COMPACT_STRINGS)) (hcs : ¬ s_COMPACT_STRINGS = (0 : Int32)) (hx0 : ¬ (255 : Int32) < x0) (hx1 : ¬ (255 : Int32) < x1) (hx2 : ¬ (255 : Int32) < x2) (hx3 : ¬ (255 : Int32) < x3) :
    MFn l (⟨"java/lang/String", "<init>", "([CIILjava/lang/Void;)V"⟩ : MethodName) jdk_42_method_149_code 6 none ws (Rm 2 1 4 35) #[(.ref a0), (.ref a1), (.int 0), (.int 4), .null] Z h0 (QiAn4 Z n0 a0 a1 k_a1 x0 x1 x2 x3 s_COMPACT_STRINGS h0) := by
  refine own_mf (C := "java/lang/String") rfl (plainFor_of_name pn_15) (fun m => efiAn4 m a0 a1) ?_
  intro p e s m below meth cd0 s₁ En hx hby hml hown hnm hZ X0 e0 hlk hrt go0
  have neA1 : a0 ≠ a1 := own_exa_arv_ne E_a0 V_a1 (hw _ (mi 7 rfl))
  have N0 := Fr.nil n0
  have K0 : Keep h0 h0 [a0] := Keep.refl _ _
  have go1 : Go p.tables e below s₁ (mkF m 1 (LiAn4_0 a0 a1) [(.ref a0)]) En := by
    intro t k
    refine go0 _ ?_
    refine XS.aloadN X0.here hx rfl (hb hby d3_0) rfl rfl ?_
    exact k
  obtain ⟨T2, X2, e2, st2⟩ := initO X0 hx hZ hown (hw _ (mi 16 rfl)) (hw _ (mi 17 rfl)) (hw _ (mi 18 rfl)) e0 (g := (mkF m 1 (LiAn4_0 a0 a1) [(.ref a0)])) rfl (by rw [hml]; rfl) rfl (hb hby d3_1) (by decide) (W := 0) (by show 2 * 0 + _ ≤ _; exact Nat.le_of_eq rfl) (by decide)
  have go3 := gap go1 st2
  have go4 : Go p.tables e below T2 (mkF m 27 (LiAn4_0 a0 a1) []) En := by
    intro t k
    refine go3 _ ?_
    refine XS.iloadN X2.here hx rfl (hb hby d3_4) rfl ?_
    refine XS.ifYes X2.here hx rfl (pc0 := 5) (pc' := 27) rfl (hb hby d3_5) rfl (XT.i0_ne_t (by decide : ¬ ((4 : Int32) = (0 : Int32)))) (by decide) (by decide) ?_
    exact k
  obtain ⟨T5, X5, e5, st5⟩ := getS2 X2 hx hZ hown (host := "") (Or.inl (hw _ (mi 46 rfl))) Via.refl e2 S_COMPACT_STRINGS (g := (mkF m 27 (LiAn4_0 a0 a1) [])) rfl (hb hby d3_27)
  have go6 := gap go4 st5
  have go7 : Go p.tables e below T5 (mkF m 36 (LiAn4_0 a0 a1) [(.int 4), (.int 0), (.ref a1)]) En := by
    intro t k
    refine go6 _ ?_
    refine XS.ifNo X5.here hx rfl (hb hby d3_30) rfl (XT.i0_eq_f hcs) ?_
    refine XS.aloadN X5.here hx rfl (hb hby d3_33) rfl rfl ?_
    refine XS.iloadN X5.here hx rfl (hb hby d3_34) rfl ?_
    refine XS.iloadN X5.here hx rfl (hb hby d3_35) rfl ?_
    exact k
  obtain ⟨_, T8, Lc8, X8, hQ8, st8⟩ := own_cs X5 hx hZ hown hml go7 (hb hby d3_36) e5 (hw _ (mi 71 rfl)) (own_site80 hw) (rmcBn4 l Z aZ hw [] a1 _ x0 x1 x2 x3 h0 n0 Z0 V_a1 hx0 hx1 hx2 hx3) (by decide) (argsL := [(.ref a1), (.int 0), (.int 4)]) (rest := []) rfl rfl rfl (lenOf pd_81 rfl) (W := 0) rfl (by decide) (by decide) (by decide : 0 + 1 ≤ _) (by decide : 0 + 4 ≤ _)
  obtain ⟨b8, kb8, rfl, N8q, K8q, fr8, G8_0⟩ := hQ8
  have N8 := Fr.app N0 N8q
  have K8 : Keep h0 T8.heap [a0] := K0.trans K8q all0
  have low8 : n0 ≤ b8 := Nat.le_trans Z0 fr8
  have fsh8 : h0.size ≤ b8 := Nat.le_trans K0.1 fr8
  have ne9 : a0 ≠ b8 := Nat.ne_of_lt (Nat.lt_of_lt_of_le E_a0.lt fr8)
  have ne10 : a1 ≠ b8 := Nat.ne_of_lt (Nat.lt_of_lt_of_le V_a1.lt fr8)
  have Zs8 : n0 ≤ T8.heap.size := Nat.le_trans Z0 K8q.1
  have F11 := F_a0_value.keep K8q nin0
  have F12 := F_a0_coder.keep K8q nin0
  have go13 : Go p.tables e below T8 (mkF m 45 (LiAn4_1 a0 a1 b8) [(.int 4), (.ref b8), (.ref a0)]) En := by
    intro t k
    refine st8 _ ?_
    refine XS.astore X8.here hx rfl (hb hby d3_39) rfl rfl (l' := (LiAn4_1 a0 a1 b8)) rfl ?_
    refine XS.aloadN X8.here hx rfl (hb hby d3_41) rfl rfl ?_
    refine XS.aload X8.here hx rfl (hb hby d3_42) rfl rfl ?_
    refine XS.iloadN X8.here hx rfl (hb hby d3_44) rfl ?_
    exact k
  obtain ⟨_, T14, Lc14, X14, hQ14, st14⟩ := own_cs X8 hx hZ hown hml go13 (hb hby d3_45) rfl (hw _ (mi 78 rfl)) (own_site87 hw) (rmcCn4 l Z aZ hw [] b8 kb8 _ _ _ _ T8.heap n0 Zs8 G8_0) (by decide) (argsL := [(.ref b8), (.int 4)]) (rest := [(.ref a0)]) rfl rfl rfl (lenOf pd_88 rfl) (W := 1) rfl (by decide) (by decide) (by decide : 1 + 0 ≤ _) (by decide : 4 + 0 ≤ _)
  obtain ⟨rfl, N14q, e14⟩ := hQ14
  have N14 := Fr.app N8 N14q
  obtain ⟨T15, h15, X15, e15, W15, st15⟩ := putFN X14 hx hZ hown (hw _ (mi 26 rfl)) Via.refl e14 F12 (E_a0.keep K8) (Or.inr ⟨(hw _ (mi 22 rfl)), rfl, hnm⟩) (hw _ (mi 7 rfl)) (ty := .byte) (v' := (.int 0)) (by decide) rfl rfl (g := (mkF m 48 (LiAn4_1 a0 a1 b8) [(.int 0), (.ref a0)])) rfl rfl (hb hby d3_48)
  have go16 := gap st14 st15
  have N15 := Fr.snoc X15 N14 g_a0
  have K15 : Keep h0 h15 [a0] := K8.wr W15 (Or.inl (List.mem_of_getElem? (i := 0) rfl))
  have Zs15 : n0 ≤ h15.size := Nat.le_trans Zs8 (Keep.of_wr W15).1
  have F17 := F11.other W15 (Or.inr (slot_ne (Or.inr (hw _ (mi 21 rfl))) (Or.inr (hw _ (mi 22 rfl))) (by decide) (t := (.array .byte)) (t' := .byte) (by decide) (by decide)))
  have F18 : Fcd Z h15 a0 (.int 0) := F12.same W15
  have F19 := G8_0.other W15 (Ne.symm ne9)
  have go20 : Go p.tables e below T15 (mkF m 54 (LiAn4_1 a0 a1 b8) [(.ref b8), (.ref a0)]) En := by
    intro t k
    refine go16 _ ?_
    refine XS.aloadN X15.here hx rfl (hb hby d3_51) rfl rfl ?_
    refine XS.aload X15.here hx rfl (hb hby d3_52) rfl rfl ?_
    exact k
  obtain ⟨T21, h21, X21, e21, W21, st21⟩ := putF X15 hx hZ hown (host := "") (Or.inl (hw _ (mi 25 rfl))) Via.refl e15 F17 (E_a0.keep K15) (Or.inr ⟨(hw _ (mi 21 rfl)), rfl, hnm⟩) (hw _ (mi 7 rfl)) (ty := (.array .byte)) (by decide) rfl rfl (g := (mkF m 54 (LiAn4_1 a0 a1 b8) [(.ref b8), (.ref a0)])) rfl rfl (hb hby d3_54)
  have go22 := gap go20 st21
  have N21 := Fr.snoc X21 N15 g_a0
  have K21 : Keep h0 h21 [a0] := K15.wr W21 (Or.inl (List.mem_of_getElem? (i := 0) rfl))
  have Zs21 : n0 ≤ h21.size := Nat.le_trans Zs15 (Keep.of_wr W21).1
  have F23 : Fvl Z h21 a0 (.ref b8) := F17.same W21
  have F24 := F18.other W21 (Or.inr (slot_ne (Or.inr (hw _ (mi 22 rfl))) (Or.inr (hw _ (mi 21 rfl))) (by decide) (t := .byte) (t' := (.array .byte)) (by decide) (by decide)))
  have F25 := F19.other W21 (Ne.symm ne9)
  refine own_outV X21 hx hlk go22 hrt (hb hby d3_57) e21 (by decide) (by decide) ?_
  exact ⟨rfl, N21, K21, (E_a0.keep K21), F24, b8, kb8, F23, F25⟩
def QiBn4 (Z : State) (n0 : Nat) (a0 : Addr) (a1 : Addr) (k_a1 : ClassId) (x0 : Int32) (x1 : Int32) (x2 : Int32) (x3 : Int32) (s_COMPACT_STRINGS : Int32) (h0 : Heap) (v : Option Value) (h : Heap) (L : List Loc) : Prop := v = none ∧ Fr n0 L ∧ Keep h0 h [a0] ∧ Est Z h a0 ∧ Fcd Z h a0 (.int (0 : Int32)) ∧ ∃ (bx : Addr) (kx : ClassId), Fvl Z h a0 (.ref bx) ∧ Arv Z h bx kx .byte (4 : Int32) [(.int x0.toInt8.toInt32.toInt8.toInt32), (.int x1.toInt8.toInt32.toInt8.toInt32), (.int x2.toInt8.toInt32.toInt8.toInt32), (.int x3.toInt8.toInt32.toInt8.toInt32)] (.int (0 : Int32))
theorem efiBn4 (m : MethodId) (a0 : Addr) (a1 : Addr) : entryFrame m #[(.ref a0), (.ref a1)] 2 = mkF m 0 #[rv a0, rv a1] [] := by first | (simp [entryFrame, mkF, argsToLocals, Value.category]; done) | rfl
set_option maxRecDepth 65536 in
set_option maxHeartbeats 40000000 in
theorem rmiBn4 (l : Launch) (Z : State) (aZ : Array Value) (hw : HW aZ Z) (ws : List Jvm.Cond) (a0 : Addr) (a1 : Addr) (k_a1 : ClassId) (x0 : Int32) (x1 : Int32) (x2 : Int32) (x3 : Int32) (s_COMPACT_STRINGS : Int32) (h0 : Heap) (n0 : Nat) (Z0 : n0 ≤ h0.size) (E_a0 : Est Z h0 a0) (F_a0_value : Fvl Z h0 a0 .null) (F_a0_coder : Fcd Z h0 a0 (.int 0)) (g_a0 : n0 ≤ a0) (V_a1 : Arv Z h0 a1 k_a1 .char (4 : Int32) [(.int x0), (.int x1), (.int x2), (.int x3)] (.int 0)) (S_COMPACT_STRINGS : SfC Z h0 (.int s_COMPACT_STRINGS)) (hcs : ¬ s_COMPACT_STRINGS = (0 : Int32)) (hx0 : ¬ (255 : Int32) < x0) (hx1 : ¬ (255 : Int32) < x1) (hx2 : ¬ (255 : Int32) < x2) (hx3 : ¬ (255 : Int32) < x3) :
    MFn l (⟨"java/lang/String", "<init>", "([C)V"⟩ : MethodName) jdk_42_method_3_code 2 none ws (Rm 3 1 4 52) #[(.ref a0), (.ref a1)] Z h0 (QiBn4 Z n0 a0 a1 k_a1 x0 x1 x2 x3 s_COMPACT_STRINGS h0) := by
  refine own_mf (C := "java/lang/String") rfl (plainFor_of_name pn_15) (fun m => efiBn4 m a0 a1) ?_
  intro p e s m below meth cd0 s₁ En hx hby hml hown hnm hZ X0 e0 hlk hrt go0
  have neA1 : a0 ≠ a1 := own_exa_arv_ne E_a0 V_a1 (hw _ (mi 7 rfl))
  have N0 := Fr.nil n0
  have K0 : Keep h0 h0 [a0] := Keep.refl _ _
  obtain ⟨cl1, Ar1, q1, S1, N1, H1, G1⟩ := id V_a1
  have go2 : Go p.tables e below s₁ (mkF m 6 #[rv a0, rv a1] [.null, (.int 4), (.int 0), (.ref a1), (.ref a0)]) En := by
    intro t k
    refine go0 _ ?_
    refine XS.aloadN X0.here hx rfl (hb hby d2_0) rfl rfl ?_
    refine XS.aloadN X0.here hx rfl (hb hby d2_1) rfl rfl ?_
    refine XS.iconst X0.here hx rfl (hb hby d2_2) ?_
    refine XS.aloadN X0.here hx rfl (hb hby d2_3) rfl rfl ?_
    refine X0.arraylength hx (by rw [e0]; exact Ar1.1) (State.isArrayOf_alike hZ.alike Ar1.2.1) (g := (mkF m 4 #[rv a0, rv a1] [(.ref a1), (.int 0), (.ref a1), (.ref a0)])) rfl rfl (hb hby d2_4) _ ?_
    rw [len_of S1 N1]
    show Steps _ _ _ (s₁.setTop (mkF m 5 #[rv a0, rv a1] [(.int 4), (.int 0), (.ref a1), (.ref a0)])) _
    refine XS.aconstNull X0.here hx rfl (hb hby d2_5) ?_
    exact k
  obtain ⟨_, T3, Lc3, X3, hQ3, st3⟩ := own_ci X0 hx hZ hown hml go2 (hb hby d2_6) e0 (hw _ (mi 12 rfl)) (own_site94 hw) rfl (rmiAn4 l Z aZ hw [] a0 a1 _ x0 x1 x2 x3 _ h0 n0 Z0 E_a0 F_a0_value F_a0_coder g_a0 V_a1 S_COMPACT_STRINGS hcs hx0 hx1 hx2 hx3) (by decide) (argsL := [(.ref a1), (.int 0), (.int 4), .null]) (rest := []) rfl rfl rfl (lenOf pd_23 rfl) (W := 0) rfl (by decide) (by decide) (by decide : 0 + 1 ≤ _) (by decide : 0 + 4 ≤ _)
  obtain ⟨rfl, N3q, K3q, G3_0, G3_1, bx3, kx3, GX3, GV3⟩ := hQ3
  have N3 := Fr.app N0 N3q
  have K3 : Keep h0 T3.heap [a0] := K0.trans K3q (allS (Or.inl (List.mem_of_getElem? (i := 0) rfl)) all0)
  have Zs3 : n0 ≤ T3.heap.size := Nat.le_trans Z0 K3q.1
  refine own_outV X3 hx hlk st3 hrt (hb hby d2_9) rfl (by decide) (by decide) ?_
  exact ⟨rfl, N3, K3, G3_0, G3_1, bx3, kx3, GX3, GV3⟩
theorem d1_0 : decode method_2_code 0 = .ok (.iload_n 0, 1) := by decide +kernel
theorem d1_1 : decode method_2_code 1 = .ok (.sipush 768, 3) := by decide +kernel
theorem d1_4 : decode method_2_code 4 = .ok (.iand, 1) := by decide +kernel
theorem d1_5 : decode method_2_code 5 = .ok (.ifCond .ne 8, 3) := by decide +kernel
theorem d1_8 : decode method_2_code 8 = .ok (.bipush 63, 2) := by decide +kernel
theorem d1_10 : decode method_2_code 10 = .ok (.goto 9, 3) := by decide +kernel
theorem d1_13 : decode method_2_code 13 = .ok (.iload_n 0, 1) := by decide +kernel
theorem d1_14 : decode method_2_code 14 = .ok (.sipush 255, 3) := by decide +kernel
theorem d1_17 : decode method_2_code 17 = .ok (.iand, 1) := by decide +kernel
theorem d1_18 : decode method_2_code 18 = .ok (.i2c, 1) := by decide +kernel
theorem d1_19 : decode method_2_code 19 = .ok (.ireturn, 1) := by decide +kernel
theorem pn_107 : plainName "com/example/nephele/nephele/web/internal/RequestPathQueryStringPinLaw" = true := by first | (simp [plainName, overriddenIn]; done) | decide +kernel
def b1_3 (p0 : Int32) : Int32 := (if (p0 &&& (768 : Int32)) = (0 : Int32) then (63 : Int32) else (p0 &&& (255 : Int32)).toUInt32.toUInt16.toUInt32.toInt32)
def f1 (p0 : Int32) : Int32 := (b1_3 p0)
theorem ef1 (m : MethodId) (p0 : Int32) : entryFrame m #[(.int p0)] 1 = mkF m 0 #[iv p0] [] := by first | (simp [entryFrame, mkF, argsToLocals, Value.category]; done) | rfl
set_option maxRecDepth 65536 in
set_option maxHeartbeats 40000000 in
theorem rm1 (l : Launch) (Z : State) (aZ : Array Value) (hw : HW aZ Z) (ws : List Jvm.Cond) (p0 : Int32) (h0 : Heap) (n0 : Nat) (Z0 : n0 ≤ h0.size) :
    MFn l (⟨"com/example/nephele/nephele/web/internal/RequestPathQueryStringPinLaw", "ch", "(I)C"⟩ : MethodName) method_2_code 1 (some .char) ws (Rm 0 0 0 0) #[(.int p0)] Z h0 (QP n0 h0 (some (.int (f1 p0)))) := by
  refine own_mf (C := "com/example/nephele/nephele/web/internal/RequestPathQueryStringPinLaw") rfl (plainFor_of_name pn_107) (fun m => ef1 m p0) ?_
  intro p e s m below meth cd0 s₁ En hx hby hml hown hnm hZ X0 e0 hlk hrt go0
  have N0 := Fr.nil n0
  have K0 : Keep h0 h0 [] := Keep.refl _ _
  have go2 : Go p.tables e below s₁ (mkF m 19 #[iv p0] [(.int (b1_3 p0))]) En := by
    intro t k
    have k : Steps p.tables e below (s₁.setTop (mkF m  19 #[iv p0] [(.int (b1_3 p0))])) t := k
    refine go0 _ ?_
    refine XS.iloadN X0.here hx rfl (hb hby d1_0) rfl ?_
    refine XS.sipush X0.here hx rfl (hb hby d1_1) ?_
    refine XS.iand X0.here hx rfl (hb hby d1_4) rfl ?_
    by_cases hc1 : (p0 &&& (768 : Int32)) = (0 : Int32)
    · refine XS.ifNo X0.here hx rfl (hb hby d1_5) rfl (XT.i0_ne_f hc1) ?_
      refine XS.bipush X0.here hx rfl (hb hby d1_8) ?_
      refine XS.goto X0.here hx rfl (pc0 := 10) (pc' := 19) rfl (hb hby d1_10) (by decide) (by decide) ?_
      have hq4 : (b1_3 p0) = (63 : Int32) := by rw [b1_3, if_pos hc1]
      rw [hq4] at k
      exact k
    · refine XS.ifYes X0.here hx rfl (pc0 := 5) (pc' := 13) rfl (hb hby d1_5) rfl (XT.i0_ne_t hc1) (by decide) (by decide) ?_
      refine XS.iloadN X0.here hx rfl (hb hby d1_13) rfl ?_
      refine XS.sipush X0.here hx rfl (hb hby d1_14) ?_
      refine XS.iand X0.here hx rfl (hb hby d1_17) rfl ?_
      refine XS.i2c X0.here hx rfl (hb hby d1_18) rfl ?_
      have hq5 : (b1_3 p0) = (p0 &&& (255 : Int32)).toUInt32.toUInt16.toUInt32.toInt32 := by rw [b1_3, if_neg hc1]
      rw [hq5] at k
      exact k
  refine own_out (w := (.int (b1_3 p0))) X0 hx hlk go2 hrt (by unfold b1_3; split <;> first | rfl | exact XT.narrow_c _) (Or.inl ⟨rfl, Or.inr (Or.inr (Or.inr (Or.inl rfl))), _, rfl⟩) (hb hby d1_19) e0 (by decide) (by decide) ?_
  exact ⟨by rw [f1], N0, rfl⟩
theorem d13_0 : decode jdk_29_method_65_code 0 = .ok (.iload_n 0, 1) := by decide +kernel
theorem d13_1 : decode jdk_29_method_65_code 1 = .ok (.iload_n 1, 1) := by decide +kernel
theorem d13_2 : decode jdk_29_method_65_code 2 = .ok (.if_icmp .lt 7, 3) := by decide +kernel
theorem d13_5 : decode jdk_29_method_65_code 5 = .ok (.iload_n 0, 1) := by decide +kernel
theorem d13_6 : decode jdk_29_method_65_code 6 = .ok (.goto 4, 3) := by decide +kernel
theorem d13_10 : decode jdk_29_method_65_code 10 = .ok (.ireturn, 1) := by decide +kernel
theorem efmx (m : MethodId) : entryFrame m #[(.int (0 : Int32)), (.int (0 : Int32))] 2 = mkF m 0 #[iv (0 : Int32), iv (0 : Int32)] [] := by first | (simp [entryFrame, mkF, argsToLocals, Value.category]; done) | rfl
set_option maxRecDepth 65536 in
set_option maxHeartbeats 40000000 in
theorem rmmx (l : Launch) (Z : State) (aZ : Array Value) (hw : HW aZ Z) (ws : List Jvm.Cond) (h0 : Heap) (n0 : Nat) (Z0 : n0 ≤ h0.size) :
    MFn l (⟨"java/lang/Math", "max", "(II)I"⟩ : MethodName) jdk_29_method_65_code 2 (some .int) ws (Rm 0 0 0 0) #[(.int 0), (.int 0)] Z h0 (QP n0 h0 (some (.int 0))) := by
  refine own_mf (C := "java/lang/Math") rfl (Jvm.Free.JP.mathPlain rfl (by decide +kernel)) (fun m => efmx m) ?_
  intro p e s m below meth cd0 s₁ En hx hby hml hown hnm hZ X0 e0 hlk hrt go0
  have N0 := Fr.nil n0
  have K0 : Keep h0 h0 [] := Keep.refl _ _
  have go1 : Go p.tables e below s₁ (mkF m 10 #[iv 0, iv 0] [(.int 0)]) En := by
    intro t k
    refine go0 _ ?_
    refine XS.iloadN X0.here hx rfl (hb hby d13_0) rfl ?_
    refine XS.iloadN X0.here hx rfl (hb hby d13_1) rfl ?_
    refine XS.icmpNo X0.here hx rfl (hb hby d13_2) rfl (XT.ii_lt_f (by decide : ¬ ((0 : Int32) < (0 : Int32)))) ?_
    refine XS.iloadN X0.here hx rfl (hb hby d13_5) rfl ?_
    refine XS.goto X0.here hx rfl (pc0 := 6) (pc' := 10) rfl (hb hby d13_6) (by decide) (by decide) ?_
    show Steps _ _ _ (s₁.setTop (mkF m 10 #[iv 0, iv 0] [(.int 0)])) _
    exact k
  refine own_out (w := (.int 0)) X0 hx hlk go1 hrt rfl (Or.inl ⟨rfl, Or.inl rfl, _, rfl⟩) (hb hby d13_10) e0 (by decide) (by decide) ?_
  exact ⟨rfl, N0, rfl⟩
theorem d14_0 : decode jdk_29_method_69_code 0 = .ok (.iload_n 0, 1) := by decide +kernel
theorem d14_1 : decode jdk_29_method_69_code 1 = .ok (.iload_n 1, 1) := by decide +kernel
theorem d14_2 : decode jdk_29_method_69_code 2 = .ok (.if_icmp .gt 7, 3) := by decide +kernel
theorem d14_5 : decode jdk_29_method_69_code 5 = .ok (.iload_n 0, 1) := by decide +kernel
theorem d14_6 : decode jdk_29_method_69_code 6 = .ok (.goto 4, 3) := by decide +kernel
theorem d14_10 : decode jdk_29_method_69_code 10 = .ok (.ireturn, 1) := by decide +kernel
theorem efmn (m : MethodId) (p0 : Int32) : entryFrame m #[(.int p0), (.int p0)] 2 = mkF m 0 #[iv p0, iv p0] [] := by first | (simp [entryFrame, mkF, argsToLocals, Value.category]; done) | rfl
set_option maxRecDepth 65536 in
set_option maxHeartbeats 40000000 in
theorem rmmn (l : Launch) (Z : State) (aZ : Array Value) (hw : HW aZ Z) (ws : List Jvm.Cond) (p0 : Int32) (h0 : Heap) (n0 : Nat) (Z0 : n0 ≤ h0.size) :
    MFn l (⟨"java/lang/Math", "min", "(II)I"⟩ : MethodName) jdk_29_method_69_code 2 (some .int) ws (Rm 0 0 0 0) #[(.int p0), (.int p0)] Z h0 (QP n0 h0 (some (.int p0))) := by
  refine own_mf (C := "java/lang/Math") rfl (Jvm.Free.JP.mathPlain rfl (by decide +kernel)) (fun m => efmn m p0) ?_
  intro p e s m below meth cd0 s₁ En hx hby hml hown hnm hZ X0 e0 hlk hrt go0
  have N0 := Fr.nil n0
  have K0 : Keep h0 h0 [] := Keep.refl _ _
  have go1 : Go p.tables e below s₁ (mkF m 10 #[iv p0, iv p0] [(.int p0)]) En := by
    intro t k
    refine go0 _ ?_
    refine XS.iloadN X0.here hx rfl (hb hby d14_0) rfl ?_
    refine XS.iloadN X0.here hx rfl (hb hby d14_1) rfl ?_
    refine XS.icmpNo X0.here hx rfl (hb hby d14_2) rfl (XT.ii_gt_f (own_irr _)) ?_
    refine XS.iloadN X0.here hx rfl (hb hby d14_5) rfl ?_
    refine XS.goto X0.here hx rfl (pc0 := 6) (pc' := 10) rfl (hb hby d14_6) (by decide) (by decide) ?_
    show Steps _ _ _ (s₁.setTop (mkF m 10 #[iv p0, iv p0] [(.int p0)])) _
    exact k
  refine own_out (w := (.int p0)) X0 hx hlk go1 hrt rfl (Or.inl ⟨rfl, Or.inl rfl, _, rfl⟩) (hb hby d14_10) e0 (by decide) (by decide) ?_
  exact ⟨rfl, N0, rfl⟩
theorem d12_0 : decode jdk_43_method_4_code 0 = .ok (.iload_n 0, 1) := by decide +kernel
theorem d12_1 : decode jdk_43_method_4_code 1 = .ok (.ifCond .lt 14, 3) := by decide +kernel
theorem d12_4 : decode jdk_43_method_4_code 4 = .ok (.iload_n 0, 1) := by decide +kernel
theorem d12_5 : decode jdk_43_method_4_code 5 = .ok (.sipush 255, 3) := by decide +kernel
theorem d12_8 : decode jdk_43_method_4_code 8 = .ok (.if_icmp .gt 7, 3) := by decide +kernel
theorem d12_11 : decode jdk_43_method_4_code 11 = .ok (.iconst 1, 1) := by decide +kernel
theorem d12_12 : decode jdk_43_method_4_code 12 = .ok (.goto 4, 3) := by decide +kernel
theorem d12_16 : decode jdk_43_method_4_code 16 = .ok (.ireturn, 1) := by decide +kernel
theorem pn_128 : plainName "java/lang/StringLatin1" = true := by first | (simp [plainName, overriddenIn]; done) | decide +kernel
theorem efce (m : MethodId) : entryFrame m #[(.int (63 : Int32))] 1 = mkF m 0 #[iv (63 : Int32)] [] := by first | (simp [entryFrame, mkF, argsToLocals, Value.category]; done) | rfl
set_option maxRecDepth 65536 in
set_option maxHeartbeats 40000000 in
theorem rmce (l : Launch) (Z : State) (aZ : Array Value) (hw : HW aZ Z) (ws : List Jvm.Cond) (h0 : Heap) (n0 : Nat) (Z0 : n0 ≤ h0.size) :
    MFn l (⟨"java/lang/StringLatin1", "canEncode", "(I)Z"⟩ : MethodName) jdk_43_method_4_code 1 (some .boolean) ws (Rm 0 0 0 0) #[(.int 63)] Z h0 (QP n0 h0 (some (.int 1))) := by
  refine own_mf (C := "java/lang/StringLatin1") rfl (plainFor_of_name pn_128) (fun m => efce m) ?_
  intro p e s m below meth cd0 s₁ En hx hby hml hown hnm hZ X0 e0 hlk hrt go0
  have N0 := Fr.nil n0
  have K0 : Keep h0 h0 [] := Keep.refl _ _
  have go1 : Go p.tables e below s₁ (mkF m 16 #[iv 63] [(.int 1)]) En := by
    intro t k
    refine go0 _ ?_
    refine XS.iloadN X0.here hx rfl (hb hby d12_0) rfl ?_
    refine XS.ifNo X0.here hx rfl (hb hby d12_1) rfl (XT.i0_lt_f (by decide : ¬ ((63 : Int32) < (0 : Int32)))) ?_
    refine XS.iloadN X0.here hx rfl (hb hby d12_4) rfl ?_
    refine XS.sipush X0.here hx rfl (hb hby d12_5) ?_
    refine XS.icmpNo X0.here hx rfl (hb hby d12_8) rfl (XT.ii_gt_f (by decide : ¬ ((255 : Int32) < (63 : Int32)))) ?_
    show Steps _ _ _ (s₁.setTop (mkF m 11 #[iv 63] [])) _
    refine XS.iconst X0.here hx rfl (hb hby d12_11) ?_
    refine XS.goto X0.here hx rfl (pc0 := 12) (pc' := 16) rfl (hb hby d12_12) (by decide) (by decide) ?_
    exact k
  refine own_out (w := (.int 1)) X0 hx hlk go1 hrt rfl (Or.inl ⟨rfl, Or.inr (Or.inl rfl), _, rfl⟩) (hb hby d12_16) e0 (by decide) (by decide) ?_
  exact ⟨rfl, N0, rfl⟩
theorem d8_0 : decode jdk_42_method_154_code 0 = .ok (.getstatic 38, 3) := by decide +kernel
theorem d8_3 : decode jdk_42_method_154_code 3 = .ok (.ifCond .eq 14, 3) := by decide +kernel
theorem d8_6 : decode jdk_42_method_154_code 6 = .ok (.aload_n 0, 1) := by decide +kernel
theorem d8_7 : decode jdk_42_method_154_code 7 = .ok (.getfield 15, 3) := by decide +kernel
theorem d8_10 : decode jdk_42_method_154_code 10 = .ok (.ifCond .ne 7, 3) := by decide +kernel
theorem d8_13 : decode jdk_42_method_154_code 13 = .ok (.iconst 1, 1) := by decide +kernel
theorem d8_14 : decode jdk_42_method_154_code 14 = .ok (.goto 4, 3) := by decide +kernel
theorem d8_18 : decode jdk_42_method_154_code 18 = .ok (.ireturn, 1) := by decide +kernel
theorem efil (m : MethodId) (a0 : Addr) : entryFrame m #[(.ref a0)] 1 = mkF m 0 #[rv a0] [] := by first | (simp [entryFrame, mkF, argsToLocals, Value.category]; done) | rfl
set_option maxRecDepth 65536 in
set_option maxHeartbeats 40000000 in
theorem rmil (l : Launch) (Z : State) (aZ : Array Value) (hw : HW aZ Z) (ws : List Jvm.Cond) (a0 : Addr) (s_COMPACT_STRINGS : Int32) (h0 : Heap) (n0 : Nat) (Z0 : n0 ≤ h0.size) (S_COMPACT_STRINGS : SfC Z h0 (.int s_COMPACT_STRINGS)) (hcs : ¬ s_COMPACT_STRINGS = (0 : Int32)) (F_a0_coder : Fcd Z h0 a0 (.int 0)) :
    MFn l (⟨"java/lang/String", "isLatin1", "()Z"⟩ : MethodName) jdk_42_method_154_code 1 (some .boolean) ws (Rm 0 0 0 0) #[(.ref a0)] Z h0 (QP n0 h0 (some (.int 1))) := by
  refine own_mf (C := "java/lang/String") rfl (plainFor_of_name pn_15) (fun m => efil m a0) ?_
  intro p e s m below meth cd0 s₁ En hx hby hml hown hnm hZ X0 e0 hlk hrt go0
  have N0 := Fr.nil n0
  have K0 : Keep h0 h0 [] := Keep.refl _ _
  obtain ⟨T1, X1, e1, st1⟩ := getS2 X0 hx hZ hown (host := "") (Or.inl (hw _ (mi 46 rfl))) Via.refl e0 S_COMPACT_STRINGS (g := (mkF m 0 #[rv a0] [])) rfl (hb hby d8_0)
  have go2 := gap go0 st1
  have go3 : Go p.tables e below T1 (mkF m 7 #[rv a0] [(.ref a0)]) En := by
    intro t k
    refine go2 _ ?_
    refine XS.ifNo X1.here hx rfl (hb hby d8_3) rfl (XT.i0_eq_f hcs) ?_
    refine XS.aloadN X1.here hx rfl (hb hby d8_6) rfl rfl ?_
    exact k
  obtain ⟨T4, X4, e4, st4⟩ := getF X1 hx hZ hown (host := "") (Or.inl (hw _ (mi 26 rfl))) Via.refl e1 F_a0_coder (g := (mkF m 7 #[rv a0] [(.ref a0)])) rfl rfl (hb hby d8_7)
  have go5 := gap go3 st4
  have go6 : Go p.tables e below T4 (mkF m 18 #[rv a0] [(.int 1)]) En := by
    intro t k
    refine go5 _ ?_
    refine XS.ifNo X4.here hx rfl (hb hby d8_10) rfl (XT.i0_ne_f (by decide : ((0 : Int32) = (0 : Int32)))) ?_
    refine XS.iconst X4.here hx rfl (hb hby d8_13) ?_
    refine XS.goto X4.here hx rfl (pc0 := 14) (pc' := 18) rfl (hb hby d8_14) (by decide) (by decide) ?_
    exact k
  refine own_out (w := (.int 1)) X4 hx hlk go6 hrt rfl (Or.inl ⟨rfl, Or.inr (Or.inl rfl), _, rfl⟩) (hb hby d8_18) e4 (by decide) (by decide) ?_
  exact ⟨rfl, N0, rfl⟩
theorem d10_0 : decode jdk_42_method_152_code 0 = .ok (.getstatic 38, 3) := by decide +kernel
theorem d10_3 : decode jdk_42_method_152_code 3 = .ok (.ifCond .eq 10, 3) := by decide +kernel
theorem d10_6 : decode jdk_42_method_152_code 6 = .ok (.aload_n 0, 1) := by decide +kernel
theorem d10_7 : decode jdk_42_method_152_code 7 = .ok (.getfield 15, 3) := by decide +kernel
theorem d10_10 : decode jdk_42_method_152_code 10 = .ok (.goto 4, 3) := by decide +kernel
theorem d10_14 : decode jdk_42_method_152_code 14 = .ok (.ireturn, 1) := by decide +kernel
theorem efco (m : MethodId) (a0 : Addr) : entryFrame m #[(.ref a0)] 1 = mkF m 0 #[rv a0] [] := by first | (simp [entryFrame, mkF, argsToLocals, Value.category]; done) | rfl
set_option maxRecDepth 65536 in
set_option maxHeartbeats 40000000 in
theorem rmco (l : Launch) (Z : State) (aZ : Array Value) (hw : HW aZ Z) (ws : List Jvm.Cond) (a0 : Addr) (s_COMPACT_STRINGS : Int32) (h0 : Heap) (n0 : Nat) (Z0 : n0 ≤ h0.size) (S_COMPACT_STRINGS : SfC Z h0 (.int s_COMPACT_STRINGS)) (hcs : ¬ s_COMPACT_STRINGS = (0 : Int32)) (F_a0_coder : Fcd Z h0 a0 (.int 0)) :
    MFn l (⟨"java/lang/String", "coder", "()B"⟩ : MethodName) jdk_42_method_152_code 1 (some .byte) ws (Rm 0 0 0 0) #[(.ref a0)] Z h0 (QP n0 h0 (some (.int 0))) := by
  refine own_mf (C := "java/lang/String") rfl (plainFor_of_name pn_15) (fun m => efco m a0) ?_
  intro p e s m below meth cd0 s₁ En hx hby hml hown hnm hZ X0 e0 hlk hrt go0
  have N0 := Fr.nil n0
  have K0 : Keep h0 h0 [] := Keep.refl _ _
  obtain ⟨T1, X1, e1, st1⟩ := getS2 X0 hx hZ hown (host := "") (Or.inl (hw _ (mi 46 rfl))) Via.refl e0 S_COMPACT_STRINGS (g := (mkF m 0 #[rv a0] [])) rfl (hb hby d10_0)
  have go2 := gap go0 st1
  have go3 : Go p.tables e below T1 (mkF m 7 #[rv a0] [(.ref a0)]) En := by
    intro t k
    refine go2 _ ?_
    refine XS.ifNo X1.here hx rfl (hb hby d10_3) rfl (XT.i0_eq_f hcs) ?_
    refine XS.aloadN X1.here hx rfl (hb hby d10_6) rfl rfl ?_
    exact k
  obtain ⟨T4, X4, e4, st4⟩ := getF X1 hx hZ hown (host := "") (Or.inl (hw _ (mi 26 rfl))) Via.refl e1 F_a0_coder (g := (mkF m 7 #[rv a0] [(.ref a0)])) rfl rfl (hb hby d10_7)
  have go5 := gap go3 st4
  have go6 : Go p.tables e below T4 (mkF m 14 #[rv a0] [(.int 0)]) En := by
    intro t k
    refine go5 _ ?_
    refine XS.goto X4.here hx rfl (pc0 := 10) (pc' := 14) rfl (hb hby d10_10) (by decide) (by decide) ?_
    exact k
  refine own_out (w := (.int 0)) X4 hx hlk go6 hrt rfl (Or.inl ⟨rfl, Or.inr (Or.inr (Or.inl rfl)), _, rfl⟩) (hb hby d10_14) e4 (by decide) (by decide) ?_
  exact ⟨rfl, N0, rfl⟩
theorem d9_0 : decode jdk_42_method_54_code 0 = .ok (.aload_n 0, 1) := by decide +kernel
theorem d9_1 : decode jdk_42_method_54_code 1 = .ok (.getfield 9, 3) := by decide +kernel
theorem d9_4 : decode jdk_42_method_54_code 4 = .ok (.arraylength, 1) := by decide +kernel
theorem d9_5 : decode jdk_42_method_54_code 5 = .ok (.aload_n 0, 1) := by decide +kernel
theorem d9_6 : decode jdk_42_method_54_code 6 = .ok (.invokevirtual 335, 3) := by decide +kernel
theorem own_site148 {Z : State} {aZ : Array Value} (hw : HW aZ Z) : SVt aZ Z "java/lang/String" (⟨"java/lang/String", "coder", "()B"⟩ : MethodName) jdk_42_method_152_code 1 (some .byte) := ⟨⟨⟨(hw _ (mi 53 rfl)), (hw _ (mi 55 rfl))⟩, (hw _ (mi 54 rfl)), (hw _ (mi 8 rfl))⟩, (hw _ (mi 56 rfl))⟩
theorem pd_149 : parseMethodDescriptor "()B" = some ⟨[], some .byte⟩ := by decide +kernel
theorem d9_9 : decode jdk_42_method_54_code 9 = .ok (.ishr, 1) := by decide +kernel
theorem d9_10 : decode jdk_42_method_54_code 10 = .ok (.ireturn, 1) := by decide +kernel
theorem efln (m : MethodId) (a0 : Addr) : entryFrame m #[(.ref a0)] 1 = mkF m 0 #[rv a0] [] := by first | (simp [entryFrame, mkF, argsToLocals, Value.category]; done) | rfl
set_option maxRecDepth 65536 in
set_option maxHeartbeats 40000000 in
theorem rmln (l : Launch) (Z : State) (aZ : Array Value) (hw : HW aZ Z) (ws : List Jvm.Cond) (a0 : Addr) (w_a0_value : Addr) (k_w_a0_value : ClassId) (n_w_a0_value : Int32) (vs_w_a0_value : List Value) (s_COMPACT_STRINGS : Int32) (h0 : Heap) (n0 : Nat) (Z0 : n0 ≤ h0.size) (E_a0 : Est Z h0 a0) (F_a0_coder : Fcd Z h0 a0 (.int 0)) (F_a0_value : Fvl Z h0 a0 (.ref w_a0_value)) (V_w_a0_value : Arv Z h0 w_a0_value k_w_a0_value .byte n_w_a0_value vs_w_a0_value (.int 0)) (S_COMPACT_STRINGS : SfC Z h0 (.int s_COMPACT_STRINGS)) (hcs : ¬ s_COMPACT_STRINGS = (0 : Int32)) :
    MFn l (⟨"java/lang/String", "length", "()I"⟩ : MethodName) jdk_42_method_54_code 1 (some .int) ws (Rm 1 0 0 13) #[(.ref a0)] Z h0 (QP n0 h0 (some (.int n_w_a0_value))) := by
  refine own_mf (C := "java/lang/String") rfl (plainFor_of_name pn_15) (fun m => efln m a0) ?_
  intro p e s m below meth cd0 s₁ En hx hby hml hown hnm hZ X0 e0 hlk hrt go0
  have N0 := Fr.nil n0
  have K0 : Keep h0 h0 [] := Keep.refl _ _
  have go1 : Go p.tables e below s₁ (mkF m 1 #[rv a0] [(.ref a0)]) En := by
    intro t k
    refine go0 _ ?_
    refine XS.aloadN X0.here hx rfl (hb hby d9_0) rfl rfl ?_
    exact k
  obtain ⟨T2, X2, e2, st2⟩ := getF X0 hx hZ hown (host := "") (Or.inl (hw _ (mi 25 rfl))) Via.refl e0 F_a0_value (g := (mkF m 1 #[rv a0] [(.ref a0)])) rfl rfl (hb hby d9_1)
  have go3 := gap go1 st2
  obtain ⟨cl4, Ar4, q4, S4, N4, H4, G4⟩ := id V_w_a0_value
  have go5 : Go p.tables e below T2 (mkF m 6 #[rv a0] [(.ref a0), (.int n_w_a0_value)]) En := by
    intro t k
    refine go3 _ ?_
    refine X2.arraylength hx (by rw [e2]; exact Ar4.1) (State.isArrayOf_alike hZ.alike Ar4.2.1) (g := (mkF m 4 #[rv a0] [(.ref w_a0_value)])) rfl rfl (hb hby d9_4) _ ?_
    rw [len_of S4 N4]
    refine XS.aloadN X2.here hx rfl (hb hby d9_5) rfl rfl ?_
    exact k
  obtain ⟨_, T6, Lc6, X6, hQ6, st6⟩ := own_cv X2 hx hZ hown hml go5 (hb hby d9_6) e2 (hw _ (mi 52 rfl)) (own_site148 hw) E_a0 (rmco l Z aZ hw [] a0 _ h0 n0 Z0 S_COMPACT_STRINGS hcs F_a0_coder) (by decide) (argsL := []) (rest := [(.int n_w_a0_value)]) rfl rfl rfl (lenOf pd_149 rfl) (W := 1) rfl (by decide) (by decide) (by decide : 0 + 0 ≤ _) (by decide : 0 + 0 ≤ _)
  obtain ⟨rfl, N6q, e6⟩ := hQ6
  have N6 := Fr.app N0 N6q
  have go7 : Go p.tables e below T6 (mkF m 10 #[rv a0] [(.int n_w_a0_value)]) En := by
    intro t k
    refine st6 _ ?_
    refine XS.ishr X6.here hx rfl (hb hby d9_9) rfl ?_
    show Steps _ _ _ (T6.setTop (mkF m 10 #[rv a0] [(.int (n_w_a0_value >>> ((0 : Int32) &&& 31)))])) _
    rw [own_shr0 n_w_a0_value]
    exact k
  refine own_out (w := (.int n_w_a0_value)) X6 hx hlk go7 hrt rfl (Or.inl ⟨rfl, Or.inl rfl, _, rfl⟩) (hb hby d9_10) e6 (by decide) (by decide) ?_
  exact ⟨rfl, N6, rfl⟩
theorem d11_0 : decode jdk_43_method_22_code 0 = .ok (.iload_n 1, 1) := by decide +kernel
theorem d11_1 : decode jdk_43_method_22_code 1 = .ok (.invokestatic 88, 3) := by decide +kernel
theorem own_site154 {Z : State} {aZ : Array Value} (hw : HW aZ Z) : SSt aZ Z (⟨"java/lang/StringLatin1", "canEncode", "(I)Z"⟩ : MethodName) jdk_43_method_4_code 1 (some .boolean) := ⟨⟨(hw _ (mi 62 rfl)), (hw _ (mi 59 rfl))⟩, (hw _ (mi 63 rfl))⟩
theorem pd_155 : parseMethodDescriptor "(I)Z" = some ⟨[.int], some .boolean⟩ := by decide +kernel
theorem d11_4 : decode jdk_43_method_22_code 4 = .ok (.ifCond .ne 5, 3) := by decide +kernel
theorem d11_9 : decode jdk_43_method_22_code 9 = .ok (.iload_n 2, 1) := by decide +kernel
theorem d11_10 : decode jdk_43_method_22_code 10 = .ok (.iconst 0, 1) := by decide +kernel
theorem d11_11 : decode jdk_43_method_22_code 11 = .ok (.invokestatic 92, 3) := by decide +kernel
theorem own_site160 {Z : State} {aZ : Array Value} (hw : HW aZ Z) : SSt aZ Z (⟨"java/lang/Math", "max", "(II)I"⟩ : MethodName) jdk_29_method_65_code 2 (some .int) := ⟨⟨(hw _ (mi 65 rfl)), (hw _ (mi 66 rfl))⟩, (hw _ (mi 67 rfl))⟩
theorem pd_161 : parseMethodDescriptor "(II)I" = some ⟨[.int, .int], some .int⟩ := by decide +kernel
theorem d11_14 : decode jdk_43_method_22_code 14 = .ok (.istore_n 2, 1) := by decide +kernel
theorem d11_15 : decode jdk_43_method_22_code 15 = .ok (.iload_n 3, 1) := by decide +kernel
theorem d11_16 : decode jdk_43_method_22_code 16 = .ok (.aload_n 0, 1) := by decide +kernel
theorem d11_17 : decode jdk_43_method_22_code 17 = .ok (.arraylength, 1) := by decide +kernel
theorem d11_18 : decode jdk_43_method_22_code 18 = .ok (.invokestatic 38, 3) := by decide +kernel
theorem own_site167 {Z : State} {aZ : Array Value} (hw : HW aZ Z) : SSt aZ Z (⟨"java/lang/Math", "min", "(II)I"⟩ : MethodName) jdk_29_method_69_code 2 (some .int) := ⟨⟨(hw _ (mi 69 rfl)), (hw _ (mi 66 rfl))⟩, (hw _ (mi 70 rfl))⟩
theorem d11_21 : decode jdk_43_method_22_code 21 = .ok (.istore_n 3, 1) := by decide +kernel
theorem d11_22 : decode jdk_43_method_22_code 22 = .ok (.iload_n 2, 1) := by decide +kernel
theorem d11_23 : decode jdk_43_method_22_code 23 = .ok (.iload_n 3, 1) := by decide +kernel
theorem d11_24 : decode jdk_43_method_22_code 24 = .ok (.if_icmp .lt 5, 3) := by decide +kernel
theorem d11_27 : decode jdk_43_method_22_code 27 = .ok (.iconst (-1), 1) := by decide +kernel
theorem d11_28 : decode jdk_43_method_22_code 28 = .ok (.ireturn, 1) := by decide +kernel
theorem efix0 (m : MethodId) (a0 : Addr) : entryFrame m #[(.ref a0), (.int (63 : Int32)), (.int (0 : Int32)), (.int (0 : Int32))] 4 = mkF m 0 #[rv a0, iv (63 : Int32), iv (0 : Int32), iv (0 : Int32)] [] := by first | (simp [entryFrame, mkF, argsToLocals, Value.category]; done) | rfl
abbrev Lix0_0 (a0 : Addr) : Array Slot := #[rv a0, iv 63, iv 0, iv 0]
set_option maxRecDepth 65536 in
set_option maxHeartbeats 40000000 in
theorem rmix0 (l : Launch) (Z : State) (aZ : Array Value) (hw : HW aZ Z) (ws : List Jvm.Cond) (a0 : Addr) (k_a0 : ClassId) (h0 : Heap) (n0 : Nat) (Z0 : n0 ≤ h0.size) (V_a0 : Arv Z h0 a0 k_a0 .byte (0 : Int32) [] (.int 0)) :
    MFn l (⟨"java/lang/StringLatin1", "indexOf", "([BIII)I"⟩ : MethodName) jdk_43_method_22_code 4 (some .int) ws (Rm 1 0 0 13) #[(.ref a0), (.int 63), (.int 0), (.int 0)] Z h0 (QP n0 h0 (some (.int (-1)))) := by
  refine own_mf (C := "java/lang/StringLatin1") rfl (plainFor_of_name pn_128) (fun m => efix0 m a0) ?_
  intro p e s m below meth cd0 s₁ En hx hby hml hown hnm hZ X0 e0 hlk hrt go0
  have N0 := Fr.nil n0
  have K0 : Keep h0 h0 [] := Keep.refl _ _
  have go1 : Go p.tables e below s₁ (mkF m 1 (Lix0_0 a0) [(.int 63)]) En := by
    intro t k
    refine go0 _ ?_
    refine XS.iloadN X0.here hx rfl (hb hby d11_0) rfl ?_
    exact k
  obtain ⟨_, T2, Lc2, X2, hQ2, st2⟩ := own_cs X0 hx hZ hown hml go1 (hb hby d11_1) e0 (hw _ (mi 61 rfl)) (own_site154 hw) (rmce l Z aZ hw []  h0 n0 Z0 ) (by decide) (argsL := [(.int 63)]) (rest := []) rfl rfl rfl (lenOf pd_155 rfl) (W := 0) rfl (by decide) (by decide) (by decide : 0 + 0 ≤ _) (by decide : 0 + 0 ≤ _)
  obtain ⟨rfl, N2q, e2⟩ := hQ2
  have N2 := Fr.app N0 N2q
  have go3 : Go p.tables e below T2 (mkF m 11 (Lix0_0 a0) [(.int 0), (.int 0)]) En := by
    intro t k
    refine st2 _ ?_
    refine XS.ifYes X2.here hx rfl (pc0 := 4) (pc' := 9) rfl (hb hby d11_4) rfl (XT.i0_ne_t (by decide : ¬ ((1 : Int32) = (0 : Int32)))) (by decide) (by decide) ?_
    refine XS.iloadN X2.here hx rfl (hb hby d11_9) rfl ?_
    refine XS.iconst X2.here hx rfl (hb hby d11_10) ?_
    exact k
  obtain ⟨_, T4, Lc4, X4, hQ4, st4⟩ := own_cs X2 hx hZ hown hml go3 (hb hby d11_11) e2 (hw _ (mi 64 rfl)) (own_site160 hw) (rmmx l Z aZ hw []  h0 n0 Z0 ) (by decide) (argsL := [(.int 0), (.int 0)]) (rest := []) rfl rfl rfl (lenOf pd_161 rfl) (W := 0) rfl (by decide) (by decide) (by decide : 0 + 0 ≤ _) (by decide : 0 + 0 ≤ _)
  obtain ⟨rfl, N4q, e4⟩ := hQ4
  have N4 := Fr.app N2 N4q
  obtain ⟨cl5, Ar5, q5, S5, N5, H5, G5⟩ := id V_a0
  have go6 : Go p.tables e below T4 (mkF m 18 (Lix0_0 a0) [(.int 0), (.int 0)]) En := by
    intro t k
    refine st4 _ ?_
    refine XS.istoreN X4.here hx rfl (hb hby d11_14) rfl (l' := (Lix0_0 a0)) rfl ?_
    refine XS.iloadN X4.here hx rfl (hb hby d11_15) rfl ?_
    refine XS.aloadN X4.here hx rfl (hb hby d11_16) rfl rfl ?_
    refine X4.arraylength hx (by rw [e4]; exact Ar5.1) (State.isArrayOf_alike hZ.alike Ar5.2.1) (g := (mkF m 17 (Lix0_0 a0) [(.ref a0), (.int 0)])) rfl rfl (hb hby d11_17) _ ?_
    rw [len_of S5 N5]
    show Steps _ _ _ (T4.setTop (mkF m 18 (Lix0_0 a0) [(.int 0), (.int 0)])) _
    exact k
  obtain ⟨_, T7, Lc7, X7, hQ7, st7⟩ := own_cs X4 hx hZ hown hml go6 (hb hby d11_18) e4 (hw _ (mi 68 rfl)) (own_site167 hw) (rmmn l Z aZ hw [] (0 : Int32) h0 n0 Z0 ) (by decide) (argsL := [(.int 0), (.int 0)]) (rest := []) rfl rfl rfl (lenOf pd_161 rfl) (W := 0) rfl (by decide) (by decide) (by decide : 0 + 0 ≤ _) (by decide : 0 + 0 ≤ _)
  obtain ⟨rfl, N7q, e7⟩ := hQ7
  have N7 := Fr.app N4 N7q
  have go8 : Go p.tables e below T7 (mkF m 28 (Lix0_0 a0) [(.int (-1))]) En := by
    intro t k
    refine st7 _ ?_
    refine XS.istoreN X7.here hx rfl (hb hby d11_21) rfl (l' := (Lix0_0 a0)) rfl ?_
    refine XS.iloadN X7.here hx rfl (hb hby d11_22) rfl ?_
    refine XS.iloadN X7.here hx rfl (hb hby d11_23) rfl ?_
    refine XS.icmpNo X7.here hx rfl (hb hby d11_24) rfl (XT.ii_lt_f (by decide : ¬ ((0 : Int32) < (0 : Int32)))) ?_
    refine XS.iconst X7.here hx rfl (hb hby d11_27) ?_
    show Steps _ _ _ (T7.setTop (mkF m 28 (Lix0_0 a0) [(.int (-1))])) _
    exact k
  refine own_out (w := (.int (-1))) X7 hx hlk go8 hrt rfl (Or.inl ⟨rfl, Or.inl rfl, _, rfl⟩) (hb hby d11_28) e7 (by decide) (by decide) ?_
  exact ⟨rfl, N7, rfl⟩
theorem d7_0 : decode jdk_42_method_80_code 0 = .ok (.aload_n 0, 1) := by decide +kernel
theorem d7_1 : decode jdk_42_method_80_code 1 = .ok (.invokevirtual 492, 3) := by decide +kernel
theorem own_site176 {Z : State} {aZ : Array Value} (hw : HW aZ Z) : SVt aZ Z "java/lang/String" (⟨"java/lang/String", "isLatin1", "()Z"⟩ : MethodName) jdk_42_method_154_code 1 (some .boolean) := ⟨⟨⟨(hw _ (mi 42 rfl)), (hw _ (mi 44 rfl))⟩, (hw _ (mi 43 rfl)), (hw _ (mi 8 rfl))⟩, (hw _ (mi 45 rfl))⟩
theorem pd_177 : parseMethodDescriptor "()Z" = some ⟨[], some .boolean⟩ := by decide +kernel
theorem d7_4 : decode jdk_42_method_80_code 4 = .ok (.ifCond .eq 19, 3) := by decide +kernel
theorem d7_7 : decode jdk_42_method_80_code 7 = .ok (.aload_n 0, 1) := by decide +kernel
theorem d7_8 : decode jdk_42_method_80_code 8 = .ok (.getfield 9, 3) := by decide +kernel
theorem d7_11 : decode jdk_42_method_80_code 11 = .ok (.iload_n 1, 1) := by decide +kernel
theorem d7_12 : decode jdk_42_method_80_code 12 = .ok (.iload_n 2, 1) := by decide +kernel
theorem d7_13 : decode jdk_42_method_80_code 13 = .ok (.aload_n 0, 1) := by decide +kernel
theorem d7_14 : decode jdk_42_method_80_code 14 = .ok (.invokevirtual 505, 3) := by decide +kernel
theorem own_site185 {Z : State} {aZ : Array Value} (hw : HW aZ Z) : SVt aZ Z "java/lang/String" (⟨"java/lang/String", "length", "()I"⟩ : MethodName) jdk_42_method_54_code 1 (some .int) := ⟨⟨⟨(hw _ (mi 48 rfl)), (hw _ (mi 50 rfl))⟩, (hw _ (mi 49 rfl)), (hw _ (mi 8 rfl))⟩, (hw _ (mi 51 rfl))⟩
theorem pd_186 : parseMethodDescriptor "()I" = some ⟨[], some .int⟩ := by decide +kernel
theorem d7_17 : decode jdk_42_method_80_code 17 = .ok (.invokestatic 637, 3) := by decide +kernel
theorem own_site188 {Z : State} {aZ : Array Value} (hw : HW aZ Z) : SSt aZ Z (⟨"java/lang/StringLatin1", "indexOf", "([BIII)I"⟩ : MethodName) jdk_43_method_22_code 4 (some .int) := ⟨⟨(hw _ (mi 58 rfl)), (hw _ (mi 59 rfl))⟩, (hw _ (mi 60 rfl))⟩
theorem pd_189 : parseMethodDescriptor "([BIII)I" = some ⟨[(.array .byte), .int, .int, .int], some .int⟩ := by decide +kernel
theorem d7_20 : decode jdk_42_method_80_code 20 = .ok (.goto 16, 3) := by decide +kernel
theorem d7_36 : decode jdk_42_method_80_code 36 = .ok (.ireturn, 1) := by decide +kernel
theorem efiy0 (m : MethodId) (a0 : Addr) : entryFrame m #[(.ref a0), (.int (63 : Int32)), (.int (0 : Int32))] 3 = mkF m 0 #[rv a0, iv (63 : Int32), iv (0 : Int32)] [] := by first | (simp [entryFrame, mkF, argsToLocals, Value.category]; done) | rfl
set_option maxRecDepth 65536 in
set_option maxHeartbeats 40000000 in
theorem rmiy0 (l : Launch) (Z : State) (aZ : Array Value) (hw : HW aZ Z) (ws : List Jvm.Cond) (a0 : Addr) (w_a0_value : Addr) (k_w_a0_value : ClassId) (s_COMPACT_STRINGS : Int32) (h0 : Heap) (n0 : Nat) (Z0 : n0 ≤ h0.size) (E_a0 : Est Z h0 a0) (F_a0_coder : Fcd Z h0 a0 (.int 0)) (F_a0_value : Fvl Z h0 a0 (.ref w_a0_value)) (V_w_a0_value : Arv Z h0 w_a0_value k_w_a0_value .byte (0 : Int32) [] (.int 0)) (S_COMPACT_STRINGS : SfC Z h0 (.int s_COMPACT_STRINGS)) (hcs : ¬ s_COMPACT_STRINGS = (0 : Int32)) :
    MFn l (⟨"java/lang/String", "indexOf", "(II)I"⟩ : MethodName) jdk_42_method_80_code 3 (some .int) ws (Rm 2 0 0 28) #[(.ref a0), (.int 63), (.int 0)] Z h0 (QP n0 h0 (some (.int (-1)))) := by
  refine own_mf (C := "java/lang/String") rfl (plainFor_of_name pn_15) (fun m => efiy0 m a0) ?_
  intro p e s m below meth cd0 s₁ En hx hby hml hown hnm hZ X0 e0 hlk hrt go0
  have N0 := Fr.nil n0
  have K0 : Keep h0 h0 [] := Keep.refl _ _
  have go1 : Go p.tables e below s₁ (mkF m 1 #[rv a0, iv 63, iv 0] [(.ref a0)]) En := by
    intro t k
    refine go0 _ ?_
    refine XS.aloadN X0.here hx rfl (hb hby d7_0) rfl rfl ?_
    exact k
  obtain ⟨_, T2, Lc2, X2, hQ2, st2⟩ := own_cv X0 hx hZ hown hml go1 (hb hby d7_1) e0 (hw _ (mi 41 rfl)) (own_site176 hw) E_a0 (rmil l Z aZ hw [] a0 _ h0 n0 Z0 S_COMPACT_STRINGS hcs F_a0_coder) (by decide) (argsL := []) (rest := []) rfl rfl rfl (lenOf pd_177 rfl) (W := 0) rfl (by decide) (by decide) (by decide : 0 + 0 ≤ _) (by decide : 0 + 0 ≤ _)
  obtain ⟨rfl, N2q, e2⟩ := hQ2
  have N2 := Fr.app N0 N2q
  have go3 : Go p.tables e below T2 (mkF m 8 #[rv a0, iv 63, iv 0] [(.ref a0)]) En := by
    intro t k
    refine st2 _ ?_
    refine XS.ifNo X2.here hx rfl (hb hby d7_4) rfl (XT.i0_eq_f (by decide : ¬ ((1 : Int32) = (0 : Int32)))) ?_
    refine XS.aloadN X2.here hx rfl (hb hby d7_7) rfl rfl ?_
    exact k
  obtain ⟨T4, X4, e4, st4⟩ := getF X2 hx hZ hown (host := "") (Or.inl (hw _ (mi 25 rfl))) Via.refl e2 F_a0_value (g := (mkF m 8 #[rv a0, iv 63, iv 0] [(.ref a0)])) rfl rfl (hb hby d7_8)
  have go5 := gap go3 st4
  have go6 : Go p.tables e below T4 (mkF m 14 #[rv a0, iv 63, iv 0] [(.ref a0), (.int 0), (.int 63), (.ref w_a0_value)]) En := by
    intro t k
    refine go5 _ ?_
    refine XS.iloadN X4.here hx rfl (hb hby d7_11) rfl ?_
    refine XS.iloadN X4.here hx rfl (hb hby d7_12) rfl ?_
    refine XS.aloadN X4.here hx rfl (hb hby d7_13) rfl rfl ?_
    exact k
  obtain ⟨_, T7, Lc7, X7, hQ7, st7⟩ := own_cv X4 hx hZ hown hml go6 (hb hby d7_14) e4 (hw _ (mi 47 rfl)) (own_site185 hw) E_a0 (rmln l Z aZ hw [] a0 _ _ _ [] _ h0 n0 Z0 E_a0 F_a0_coder F_a0_value V_w_a0_value S_COMPACT_STRINGS hcs) (by decide) (argsL := []) (rest := [(.int 0), (.int 63), (.ref w_a0_value)]) rfl rfl rfl (lenOf pd_186 rfl) (W := 3) rfl (by decide) (by decide) (by decide : 0 + 0 ≤ _) (by decide : 0 + 0 ≤ _)
  obtain ⟨rfl, N7q, e7⟩ := hQ7
  have N7 := Fr.app N2 N7q
  obtain ⟨_, T8, Lc8, X8, hQ8, st8⟩ := own_cs X7 hx hZ hown hml st7 (hb hby d7_17) e7 (hw _ (mi 57 rfl)) (own_site188 hw) (rmix0 l Z aZ hw [] _ _ h0 n0 Z0 V_w_a0_value) (by decide) (argsL := [(.ref w_a0_value), (.int 63), (.int 0), (.int 0)]) (rest := []) rfl rfl rfl (lenOf pd_189 rfl) (W := 0) rfl (by decide) (by decide) (by decide : 0 + 0 ≤ _) (by decide : 0 + 0 ≤ _)
  obtain ⟨rfl, N8q, e8⟩ := hQ8
  have N8 := Fr.app N7 N8q
  have go9 : Go p.tables e below T8 (mkF m 36 #[rv a0, iv 63, iv 0] [(.int (-1))]) En := by
    intro t k
    refine st8 _ ?_
    refine XS.goto X8.here hx rfl (pc0 := 20) (pc' := 36) rfl (hb hby d7_20) (by decide) (by decide) ?_
    exact k
  refine own_out (w := (.int (-1))) X8 hx hlk go9 hrt rfl (Or.inl ⟨rfl, Or.inl rfl, _, rfl⟩) (hb hby d7_36) e8 (by decide) (by decide) ?_
  exact ⟨rfl, N8, rfl⟩
theorem d6_0 : decode jdk_42_method_79_code 0 = .ok (.aload_n 0, 1) := by decide +kernel
theorem d6_1 : decode jdk_42_method_79_code 1 = .ok (.iload_n 1, 1) := by decide +kernel
theorem d6_2 : decode jdk_42_method_79_code 2 = .ok (.iconst 0, 1) := by decide +kernel
theorem d6_3 : decode jdk_42_method_79_code 3 = .ok (.invokevirtual 633, 3) := by decide +kernel
theorem own_site196 {Z : State} {aZ : Array Value} (hw : HW aZ Z) : SVt aZ Z "java/lang/String" (⟨"java/lang/String", "indexOf", "(II)I"⟩ : MethodName) jdk_42_method_80_code 3 (some .int) := ⟨⟨⟨(hw _ (mi 37 rfl)), (hw _ (mi 39 rfl))⟩, (hw _ (mi 38 rfl)), (hw _ (mi 8 rfl))⟩, (hw _ (mi 40 rfl))⟩
theorem d6_6 : decode jdk_42_method_79_code 6 = .ok (.ireturn, 1) := by decide +kernel
theorem efiz0 (m : MethodId) (a0 : Addr) : entryFrame m #[(.ref a0), (.int (63 : Int32))] 2 = mkF m 0 #[rv a0, iv (63 : Int32)] [] := by first | (simp [entryFrame, mkF, argsToLocals, Value.category]; done) | rfl
set_option maxRecDepth 65536 in
set_option maxHeartbeats 40000000 in
theorem rmiz0 (l : Launch) (Z : State) (aZ : Array Value) (hw : HW aZ Z) (ws : List Jvm.Cond) (a0 : Addr) (w_a0_value : Addr) (k_w_a0_value : ClassId) (s_COMPACT_STRINGS : Int32) (h0 : Heap) (n0 : Nat) (Z0 : n0 ≤ h0.size) (E_a0 : Est Z h0 a0) (F_a0_coder : Fcd Z h0 a0 (.int 0)) (F_a0_value : Fvl Z h0 a0 (.ref w_a0_value)) (V_w_a0_value : Arv Z h0 w_a0_value k_w_a0_value .byte (0 : Int32) [] (.int 0)) (S_COMPACT_STRINGS : SfC Z h0 (.int s_COMPACT_STRINGS)) (hcs : ¬ s_COMPACT_STRINGS = (0 : Int32)) :
    MFn l (⟨"java/lang/String", "indexOf", "(I)I"⟩ : MethodName) jdk_42_method_79_code 2 (some .int) ws (Rm 3 0 0 42) #[(.ref a0), (.int 63)] Z h0 (QP n0 h0 (some (.int (-1)))) := by
  refine own_mf (C := "java/lang/String") rfl (plainFor_of_name pn_15) (fun m => efiz0 m a0) ?_
  intro p e s m below meth cd0 s₁ En hx hby hml hown hnm hZ X0 e0 hlk hrt go0
  have N0 := Fr.nil n0
  have K0 : Keep h0 h0 [] := Keep.refl _ _
  have go1 : Go p.tables e below s₁ (mkF m 3 #[rv a0, iv 63] [(.int 0), (.int 63), (.ref a0)]) En := by
    intro t k
    refine go0 _ ?_
    refine XS.aloadN X0.here hx rfl (hb hby d6_0) rfl rfl ?_
    refine XS.iloadN X0.here hx rfl (hb hby d6_1) rfl ?_
    refine XS.iconst X0.here hx rfl (hb hby d6_2) ?_
    exact k
  obtain ⟨_, T2, Lc2, X2, hQ2, st2⟩ := own_cv X0 hx hZ hown hml go1 (hb hby d6_3) e0 (hw _ (mi 36 rfl)) (own_site196 hw) E_a0 (rmiy0 l Z aZ hw [] a0 _ _ _ h0 n0 Z0 E_a0 F_a0_coder F_a0_value V_w_a0_value S_COMPACT_STRINGS hcs) (by decide) (argsL := [(.int 63), (.int 0)]) (rest := []) rfl rfl rfl (lenOf pd_161 rfl) (W := 0) rfl (by decide) (by decide) (by decide : 0 + 0 ≤ _) (by decide : 0 + 0 ≤ _)
  obtain ⟨rfl, N2q, e2⟩ := hQ2
  have N2 := Fr.app N0 N2q
  refine own_out (w := (.int (-1))) X2 hx hlk st2 hrt rfl (Or.inl ⟨rfl, Or.inl rfl, _, rfl⟩) (hb hby d6_6) e2 (by decide) (by decide) ?_
  exact ⟨rfl, N2, rfl⟩
theorem d18_0 : decode jdk_43_method_23_code 0 = .ok (.iload_n 1, 1) := by decide +kernel
theorem d18_1 : decode jdk_43_method_23_code 1 = .ok (.i2b, 1) := by decide +kernel
theorem d18_2 : decode jdk_43_method_23_code 2 = .ok (.istore 4, 2) := by decide +kernel
theorem d18_4 : decode jdk_43_method_23_code 4 = .ok (.iload_n 2, 1) := by decide +kernel
theorem d18_5 : decode jdk_43_method_23_code 5 = .ok (.istore 5, 2) := by decide +kernel
theorem d18_7 : decode jdk_43_method_23_code 7 = .ok (.iload 5, 2) := by decide +kernel
theorem d18_9 : decode jdk_43_method_23_code 9 = .ok (.iload_n 3, 1) := by decide +kernel
theorem d18_10 : decode jdk_43_method_23_code 10 = .ok (.if_icmp .ge 21, 3) := by decide +kernel
theorem d18_13 : decode jdk_43_method_23_code 13 = .ok (.aload_n 0, 1) := by decide +kernel
theorem d18_14 : decode jdk_43_method_23_code 14 = .ok (.iload 5, 2) := by decide +kernel
theorem d18_16 : decode jdk_43_method_23_code 16 = .ok (.baload, 1) := by decide +kernel
theorem d18_17 : decode jdk_43_method_23_code 17 = .ok (.iload 4, 2) := by decide +kernel
theorem d18_19 : decode jdk_43_method_23_code 19 = .ok (.if_icmp .ne 6, 3) := by decide +kernel
theorem d18_22 : decode jdk_43_method_23_code 22 = .ok (.iload 5, 2) := by decide +kernel
theorem d18_24 : decode jdk_43_method_23_code 24 = .ok (.ireturn, 1) := by decide +kernel
theorem d18_25 : decode jdk_43_method_23_code 25 = .ok (.iinc 5 1, 3) := by decide +kernel
theorem d18_28 : decode jdk_43_method_23_code 28 = .ok (.goto (-21), 3) := by decide +kernel
theorem d18_31 : decode jdk_43_method_23_code 31 = .ok (.iconst (-1), 1) := by decide +kernel
theorem d18_32 : decode jdk_43_method_23_code 32 = .ok (.ireturn, 1) := by decide +kernel
def fic1 (y0 : Int32) : Int32 := (if y0 = (63 : Int32) then (0 : Int32) else (-1 : Int32))
theorem efic1 (m : MethodId) (a0 : Addr) : entryFrame m #[(.ref a0), (.int (63 : Int32)), (.int (0 : Int32)), (.int (1 : Int32))] 6 = mkF m 0 #[rv a0, iv (63 : Int32), iv (0 : Int32), iv (1 : Int32), .unset, .unset] [] := by first | (simp [entryFrame, mkF, argsToLocals, Value.category]; done) | rfl
abbrev Lic1_0 (a0 : Addr) : Array Slot := #[rv a0, iv 63, iv 0, iv 1, iv 63, iv 0]
set_option maxRecDepth 65536 in
set_option maxHeartbeats 40000000 in
theorem rmic1 (l : Launch) (Z : State) (aZ : Array Value) (hw : HW aZ Z) (ws : List Jvm.Cond) (a0 : Addr) (k_a0 : ClassId) (y0 : Int32) (h0 : Heap) (n0 : Nat) (Z0 : n0 ≤ h0.size) (V_a0 : Arv Z h0 a0 k_a0 .byte (1 : Int32) [(.int y0)] (.int 0)) :
    MFn l (⟨"java/lang/StringLatin1", "indexOfChar", "([BIII)I"⟩ : MethodName) jdk_43_method_23_code 6 (some .int) ws (Rm 0 0 0 0) #[(.ref a0), (.int 63), (.int 0), (.int 1)] Z h0 (QP n0 h0 (some (.int (fic1 y0)))) := by
  refine own_mf (C := "java/lang/StringLatin1") rfl (plainFor_of_name pn_128) (fun m => efic1 m a0) ?_
  intro p e s m below meth cd0 s₁ En hx hby hml hown hnm hZ X0 e0 hlk hrt go0
  have N0 := Fr.nil n0
  have K0 : Keep h0 h0 [] := Keep.refl _ _
  obtain ⟨cl1, Ar1, q1, S1, N1, H1, G1⟩ := id V_a0
  have go2 : Go p.tables e below s₁ (mkF m 19 (Lic1_0 a0) [(.int 63), (.int y0)]) En := by
    intro t k
    refine go0 _ ?_
    refine XS.iloadN X0.here hx rfl (hb hby d18_0) rfl ?_
    refine XS.i2b X0.here hx rfl (hb hby d18_1) rfl ?_
    show Steps _ _ _ (s₁.setTop (mkF m 2 #[rv a0, iv 63, iv 0, iv 1, .unset, .unset] [(.int (63 : Int32).toInt8.toInt32)])) _
    rw [(by decide : (63 : Int32).toInt8.toInt32 = (63 : Int32))]
    refine XS.istore X0.here hx rfl (hb hby d18_2) rfl (l' := #[rv a0, iv 63, iv 0, iv 1, iv 63, .unset]) rfl ?_
    refine XS.iloadN X0.here hx rfl (hb hby d18_4) rfl ?_
    refine XS.istore X0.here hx rfl (hb hby d18_5) rfl (l' := (Lic1_0 a0)) rfl ?_
    refine XS.iload X0.here hx rfl (hb hby d18_7) rfl ?_
    show Steps _ _ _ (s₁.setTop (mkF m 9 (Lic1_0 a0) [(.int 0)])) _
    refine XS.iloadN X0.here hx rfl (hb hby d18_9) rfl ?_
    refine XS.icmpNo X0.here hx rfl (hb hby d18_10) rfl (XT.ii_ge_f (by decide : ((0 : Int32) < (1 : Int32)))) ?_
    refine XS.aloadN X0.here hx rfl (hb hby d18_13) rfl rfl ?_
    refine XS.iload X0.here hx rfl (hb hby d18_14) rfl ?_
    refine X0.baloadBytes hx (j := (0 : Int32)) (v := (.int y0)) (by rw [e0]; exact Ar1.1) (State.isArrayOf_alike hZ.alike Ar1.2.1) Ar1.2.2 (inb_of S1 ⟨by decide, by decide⟩) (Has.at H1 (inb_of S1 ⟨by decide, by decide⟩) rfl) (g := (mkF m 16 (Lic1_0 a0) [(.int 0), (.ref a0)])) rfl rfl (hb hby d18_16) _ ?_
    show Steps _ _ _ (s₁.setTop (mkF m 17 (Lic1_0 a0) [(.int y0)])) _
    refine XS.iload X0.here hx rfl (hb hby d18_17) rfl ?_
    exact k
  by_cases hs3 : y0 = (63 : Int32)
  · have go4 : Go p.tables e below s₁ (mkF m 24 (Lic1_0 a0) [(.int 0)]) En := by
      intro t k
      refine go2 _ ?_
      refine XS.icmpNo X0.here hx rfl (hb hby d18_19) rfl (XT.ii_ne_f hs3) ?_
      refine XS.iload X0.here hx rfl (hb hby d18_22) rfl ?_
      exact k
    refine own_out (w := (.int 0)) X0 hx hlk go4 hrt rfl (Or.inl ⟨rfl, Or.inl rfl, _, rfl⟩) (hb hby d18_24) e0 (by decide) (by decide) ?_
    exact ⟨by rw [fic1, if_pos hs3], N0, rfl⟩
  have go5 : Go p.tables e below s₁ (mkF m 32 #[rv a0, iv 63, iv 0, iv 1, iv 63, iv 1] [(.int (-1))]) En := by
    intro t k
    refine go2 _ ?_
    refine XS.icmpYes X0.here hx rfl (pc0 := 19) (pc' := 25) rfl (hb hby d18_19) rfl (XT.ii_ne_t hs3) (by decide) (by decide) ?_
    refine XS.iinc X0.here hx rfl (hb hby d18_25) rfl (l' := #[rv a0, iv 63, iv 0, iv 1, iv 63, iv 1]) rfl ?_
    refine XS.goto X0.here hx rfl (pc0 := 28) (pc' := 7) rfl (hb hby d18_28) (by decide) (by decide) ?_
    refine XS.iload X0.here hx rfl (hb hby d18_7) rfl ?_
    refine XS.iloadN X0.here hx rfl (hb hby d18_9) rfl ?_
    show Steps _ _ _ (s₁.setTop (mkF m 10 #[rv a0, iv 63, iv 0, iv 1, iv 63, iv 1] [(.int 1), (.int 1)])) _
    refine XS.icmpYes X0.here hx rfl (pc0 := 10) (pc' := 31) rfl (hb hby d18_10) rfl (XT.ii_ge_t (by decide : ¬ ((1 : Int32) < (1 : Int32)))) (by decide) (by decide) ?_
    refine XS.iconst X0.here hx rfl (hb hby d18_31) ?_
    exact k
  refine own_out (w := (.int (-1))) X0 hx hlk go5 hrt rfl (Or.inl ⟨rfl, Or.inl rfl, _, rfl⟩) (hb hby d18_32) e0 (by decide) (by decide) ?_
  exact ⟨by rw [fic1, if_neg hs3], N0, rfl⟩
theorem d11_29 : decode jdk_43_method_22_code 29 = .ok (.aload_n 0, 1) := by decide +kernel
theorem d11_30 : decode jdk_43_method_22_code 30 = .ok (.iload_n 1, 1) := by decide +kernel
theorem d11_31 : decode jdk_43_method_22_code 31 = .ok (.iload_n 2, 1) := by decide +kernel
theorem d11_32 : decode jdk_43_method_22_code 32 = .ok (.iload_n 3, 1) := by decide +kernel
theorem d11_33 : decode jdk_43_method_22_code 33 = .ok (.invokestatic 95, 3) := by decide +kernel
theorem own_site222 {Z : State} {aZ : Array Value} (hw : HW aZ Z) : SSt aZ Z (⟨"java/lang/StringLatin1", "indexOfChar", "([BIII)I"⟩ : MethodName) jdk_43_method_23_code 6 (some .int) := ⟨⟨(hw _ (mi 82 rfl)), (hw _ (mi 59 rfl))⟩, (hw _ (mi 83 rfl))⟩
theorem d11_36 : decode jdk_43_method_22_code 36 = .ok (.ireturn, 1) := by decide +kernel
def fix1 (y0 : Int32) : Int32 := (fic1 y0)
theorem efix1 (m : MethodId) (a0 : Addr) : entryFrame m #[(.ref a0), (.int (63 : Int32)), (.int (0 : Int32)), (.int (1 : Int32))] 4 = mkF m 0 #[rv a0, iv (63 : Int32), iv (0 : Int32), iv (1 : Int32)] [] := by first | (simp [entryFrame, mkF, argsToLocals, Value.category]; done) | rfl
abbrev Lix1_0 (a0 : Addr) : Array Slot := #[rv a0, iv 63, iv 0, iv 1]
set_option maxRecDepth 65536 in
set_option maxHeartbeats 40000000 in
theorem rmix1 (l : Launch) (Z : State) (aZ : Array Value) (hw : HW aZ Z) (ws : List Jvm.Cond) (a0 : Addr) (k_a0 : ClassId) (y0 : Int32) (h0 : Heap) (n0 : Nat) (Z0 : n0 ≤ h0.size) (V_a0 : Arv Z h0 a0 k_a0 .byte (1 : Int32) [(.int y0)] (.int 0)) :
    MFn l (⟨"java/lang/StringLatin1", "indexOf", "([BIII)I"⟩ : MethodName) jdk_43_method_22_code 4 (some .int) ws (Rm 1 0 0 17) #[(.ref a0), (.int 63), (.int 0), (.int 1)] Z h0 (QP n0 h0 (some (.int (fix1 y0)))) := by
  refine own_mf (C := "java/lang/StringLatin1") rfl (plainFor_of_name pn_128) (fun m => efix1 m a0) ?_
  intro p e s m below meth cd0 s₁ En hx hby hml hown hnm hZ X0 e0 hlk hrt go0
  have N0 := Fr.nil n0
  have K0 : Keep h0 h0 [] := Keep.refl _ _
  have go1 : Go p.tables e below s₁ (mkF m 1 (Lix1_0 a0) [(.int 63)]) En := by
    intro t k
    refine go0 _ ?_
    refine XS.iloadN X0.here hx rfl (hb hby d11_0) rfl ?_
    exact k
  obtain ⟨_, T2, Lc2, X2, hQ2, st2⟩ := own_cs X0 hx hZ hown hml go1 (hb hby d11_1) e0 (hw _ (mi 61 rfl)) (own_site154 hw) (rmce l Z aZ hw []  h0 n0 Z0 ) (by decide) (argsL := [(.int 63)]) (rest := []) rfl rfl rfl (lenOf pd_155 rfl) (W := 0) rfl (by decide) (by decide) (by decide : 0 + 0 ≤ _) (by decide : 0 + 0 ≤ _)
  obtain ⟨rfl, N2q, e2⟩ := hQ2
  have N2 := Fr.app N0 N2q
  have go3 : Go p.tables e below T2 (mkF m 11 (Lix1_0 a0) [(.int 0), (.int 0)]) En := by
    intro t k
    refine st2 _ ?_
    refine XS.ifYes X2.here hx rfl (pc0 := 4) (pc' := 9) rfl (hb hby d11_4) rfl (XT.i0_ne_t (by decide : ¬ ((1 : Int32) = (0 : Int32)))) (by decide) (by decide) ?_
    refine XS.iloadN X2.here hx rfl (hb hby d11_9) rfl ?_
    refine XS.iconst X2.here hx rfl (hb hby d11_10) ?_
    exact k
  obtain ⟨_, T4, Lc4, X4, hQ4, st4⟩ := own_cs X2 hx hZ hown hml go3 (hb hby d11_11) e2 (hw _ (mi 64 rfl)) (own_site160 hw) (rmmx l Z aZ hw []  h0 n0 Z0 ) (by decide) (argsL := [(.int 0), (.int 0)]) (rest := []) rfl rfl rfl (lenOf pd_161 rfl) (W := 0) rfl (by decide) (by decide) (by decide : 0 + 0 ≤ _) (by decide : 0 + 0 ≤ _)
  obtain ⟨rfl, N4q, e4⟩ := hQ4
  have N4 := Fr.app N2 N4q
  obtain ⟨cl5, Ar5, q5, S5, N5, H5, G5⟩ := id V_a0
  have go6 : Go p.tables e below T4 (mkF m 18 (Lix1_0 a0) [(.int 1), (.int 1)]) En := by
    intro t k
    refine st4 _ ?_
    refine XS.istoreN X4.here hx rfl (hb hby d11_14) rfl (l' := (Lix1_0 a0)) rfl ?_
    refine XS.iloadN X4.here hx rfl (hb hby d11_15) rfl ?_
    refine XS.aloadN X4.here hx rfl (hb hby d11_16) rfl rfl ?_
    refine X4.arraylength hx (by rw [e4]; exact Ar5.1) (State.isArrayOf_alike hZ.alike Ar5.2.1) (g := (mkF m 17 (Lix1_0 a0) [(.ref a0), (.int 1)])) rfl rfl (hb hby d11_17) _ ?_
    rw [len_of S5 N5]
    show Steps _ _ _ (T4.setTop (mkF m 18 (Lix1_0 a0) [(.int 1), (.int 1)])) _
    exact k
  obtain ⟨_, T7, Lc7, X7, hQ7, st7⟩ := own_cs X4 hx hZ hown hml go6 (hb hby d11_18) e4 (hw _ (mi 68 rfl)) (own_site167 hw) (rmmn l Z aZ hw [] (1 : Int32) h0 n0 Z0 ) (by decide) (argsL := [(.int 1), (.int 1)]) (rest := []) rfl rfl rfl (lenOf pd_161 rfl) (W := 0) rfl (by decide) (by decide) (by decide : 0 + 0 ≤ _) (by decide : 0 + 0 ≤ _)
  obtain ⟨rfl, N7q, e7⟩ := hQ7
  have N7 := Fr.app N4 N7q
  have go8 : Go p.tables e below T7 (mkF m 33 (Lix1_0 a0) [(.int 1), (.int 0), (.int 63), (.ref a0)]) En := by
    intro t k
    refine st7 _ ?_
    refine XS.istoreN X7.here hx rfl (hb hby d11_21) rfl (l' := (Lix1_0 a0)) rfl ?_
    refine XS.iloadN X7.here hx rfl (hb hby d11_22) rfl ?_
    refine XS.iloadN X7.here hx rfl (hb hby d11_23) rfl ?_
    refine XS.icmpYes X7.here hx rfl (pc0 := 24) (pc' := 29) rfl (hb hby d11_24) rfl (XT.ii_lt_t (by decide : ((0 : Int32) < (1 : Int32)))) (by decide) (by decide) ?_
    refine XS.aloadN X7.here hx rfl (hb hby d11_29) rfl rfl ?_
    show Steps _ _ _ (T7.setTop (mkF m 30 (Lix1_0 a0) [(.ref a0)])) _
    refine XS.iloadN X7.here hx rfl (hb hby d11_30) rfl ?_
    refine XS.iloadN X7.here hx rfl (hb hby d11_31) rfl ?_
    refine XS.iloadN X7.here hx rfl (hb hby d11_32) rfl ?_
    exact k
  obtain ⟨_, T9, Lc9, X9, hQ9, st9⟩ := own_cs X7 hx hZ hown hml go8 (hb hby d11_33) e7 (hw _ (mi 81 rfl)) (own_site222 hw) (rmic1 l Z aZ hw [] a0 _ y0 h0 n0 Z0 V_a0) (by decide) (argsL := [(.ref a0), (.int 63), (.int 0), (.int 1)]) (rest := []) rfl rfl rfl (lenOf pd_189 rfl) (W := 0) rfl (by decide) (by decide) (by decide : 0 + 0 ≤ _) (by decide : 0 + 0 ≤ _)
  obtain ⟨rfl, N9q, e9⟩ := hQ9
  have N9 := Fr.app N7 N9q
  refine own_out (w := (.int (fic1 y0))) X9 hx hlk st9 hrt rfl (Or.inl ⟨rfl, Or.inl rfl, _, rfl⟩) (hb hby d11_36) e9 (by decide) (by decide) ?_
  exact ⟨by rw [fix1], N9, rfl⟩
def fiy1 (y0 : Int32) : Int32 := (fix1 y0)
theorem efiy1 (m : MethodId) (a0 : Addr) : entryFrame m #[(.ref a0), (.int (63 : Int32)), (.int (0 : Int32))] 3 = mkF m 0 #[rv a0, iv (63 : Int32), iv (0 : Int32)] [] := by first | (simp [entryFrame, mkF, argsToLocals, Value.category]; done) | rfl
set_option maxRecDepth 65536 in
set_option maxHeartbeats 40000000 in
theorem rmiy1 (l : Launch) (Z : State) (aZ : Array Value) (hw : HW aZ Z) (ws : List Jvm.Cond) (a0 : Addr) (w_a0_value : Addr) (k_w_a0_value : ClassId) (y0 : Int32) (s_COMPACT_STRINGS : Int32) (h0 : Heap) (n0 : Nat) (Z0 : n0 ≤ h0.size) (E_a0 : Est Z h0 a0) (F_a0_coder : Fcd Z h0 a0 (.int 0)) (F_a0_value : Fvl Z h0 a0 (.ref w_a0_value)) (V_w_a0_value : Arv Z h0 w_a0_value k_w_a0_value .byte (1 : Int32) [(.int y0)] (.int 0)) (S_COMPACT_STRINGS : SfC Z h0 (.int s_COMPACT_STRINGS)) (hcs : ¬ s_COMPACT_STRINGS = (0 : Int32)) :
    MFn l (⟨"java/lang/String", "indexOf", "(II)I"⟩ : MethodName) jdk_42_method_80_code 3 (some .int) ws (Rm 2 0 0 32) #[(.ref a0), (.int 63), (.int 0)] Z h0 (QP n0 h0 (some (.int (fiy1 y0)))) := by
  refine own_mf (C := "java/lang/String") rfl (plainFor_of_name pn_15) (fun m => efiy1 m a0) ?_
  intro p e s m below meth cd0 s₁ En hx hby hml hown hnm hZ X0 e0 hlk hrt go0
  have N0 := Fr.nil n0
  have K0 : Keep h0 h0 [] := Keep.refl _ _
  have go1 : Go p.tables e below s₁ (mkF m 1 #[rv a0, iv 63, iv 0] [(.ref a0)]) En := by
    intro t k
    refine go0 _ ?_
    refine XS.aloadN X0.here hx rfl (hb hby d7_0) rfl rfl ?_
    exact k
  obtain ⟨_, T2, Lc2, X2, hQ2, st2⟩ := own_cv X0 hx hZ hown hml go1 (hb hby d7_1) e0 (hw _ (mi 41 rfl)) (own_site176 hw) E_a0 (rmil l Z aZ hw [] a0 _ h0 n0 Z0 S_COMPACT_STRINGS hcs F_a0_coder) (by decide) (argsL := []) (rest := []) rfl rfl rfl (lenOf pd_177 rfl) (W := 0) rfl (by decide) (by decide) (by decide : 0 + 0 ≤ _) (by decide : 0 + 0 ≤ _)
  obtain ⟨rfl, N2q, e2⟩ := hQ2
  have N2 := Fr.app N0 N2q
  have go3 : Go p.tables e below T2 (mkF m 8 #[rv a0, iv 63, iv 0] [(.ref a0)]) En := by
    intro t k
    refine st2 _ ?_
    refine XS.ifNo X2.here hx rfl (hb hby d7_4) rfl (XT.i0_eq_f (by decide : ¬ ((1 : Int32) = (0 : Int32)))) ?_
    refine XS.aloadN X2.here hx rfl (hb hby d7_7) rfl rfl ?_
    exact k
  obtain ⟨T4, X4, e4, st4⟩ := getF X2 hx hZ hown (host := "") (Or.inl (hw _ (mi 25 rfl))) Via.refl e2 F_a0_value (g := (mkF m 8 #[rv a0, iv 63, iv 0] [(.ref a0)])) rfl rfl (hb hby d7_8)
  have go5 := gap go3 st4
  have go6 : Go p.tables e below T4 (mkF m 14 #[rv a0, iv 63, iv 0] [(.ref a0), (.int 0), (.int 63), (.ref w_a0_value)]) En := by
    intro t k
    refine go5 _ ?_
    refine XS.iloadN X4.here hx rfl (hb hby d7_11) rfl ?_
    refine XS.iloadN X4.here hx rfl (hb hby d7_12) rfl ?_
    refine XS.aloadN X4.here hx rfl (hb hby d7_13) rfl rfl ?_
    exact k
  obtain ⟨_, T7, Lc7, X7, hQ7, st7⟩ := own_cv X4 hx hZ hown hml go6 (hb hby d7_14) e4 (hw _ (mi 47 rfl)) (own_site185 hw) E_a0 (rmln l Z aZ hw [] a0 _ _ _ _ _ h0 n0 Z0 E_a0 F_a0_coder F_a0_value V_w_a0_value S_COMPACT_STRINGS hcs) (by decide) (argsL := []) (rest := [(.int 0), (.int 63), (.ref w_a0_value)]) rfl rfl rfl (lenOf pd_186 rfl) (W := 3) rfl (by decide) (by decide) (by decide : 0 + 0 ≤ _) (by decide : 0 + 0 ≤ _)
  obtain ⟨rfl, N7q, e7⟩ := hQ7
  have N7 := Fr.app N2 N7q
  obtain ⟨_, T8, Lc8, X8, hQ8, st8⟩ := own_cs X7 hx hZ hown hml st7 (hb hby d7_17) e7 (hw _ (mi 57 rfl)) (own_site188 hw) (rmix1 l Z aZ hw [] _ _ y0 h0 n0 Z0 V_w_a0_value) (by decide) (argsL := [(.ref w_a0_value), (.int 63), (.int 0), (.int 1)]) (rest := []) rfl rfl rfl (lenOf pd_189 rfl) (W := 0) rfl (by decide) (by decide) (by decide : 0 + 0 ≤ _) (by decide : 0 + 0 ≤ _)
  obtain ⟨rfl, N8q, e8⟩ := hQ8
  have N8 := Fr.app N7 N8q
  have go9 : Go p.tables e below T8 (mkF m 36 #[rv a0, iv 63, iv 0] [(.int (fix1 y0))]) En := by
    intro t k
    refine st8 _ ?_
    refine XS.goto X8.here hx rfl (pc0 := 20) (pc' := 36) rfl (hb hby d7_20) (by decide) (by decide) ?_
    exact k
  refine own_out (w := (.int (fix1 y0))) X8 hx hlk go9 hrt rfl (Or.inl ⟨rfl, Or.inl rfl, _, rfl⟩) (hb hby d7_36) e8 (by decide) (by decide) ?_
  exact ⟨by rw [fiy1], N8, rfl⟩
def fiz1 (y0 : Int32) : Int32 := (fiy1 y0)
theorem efiz1 (m : MethodId) (a0 : Addr) : entryFrame m #[(.ref a0), (.int (63 : Int32))] 2 = mkF m 0 #[rv a0, iv (63 : Int32)] [] := by first | (simp [entryFrame, mkF, argsToLocals, Value.category]; done) | rfl
set_option maxRecDepth 65536 in
set_option maxHeartbeats 40000000 in
theorem rmiz1 (l : Launch) (Z : State) (aZ : Array Value) (hw : HW aZ Z) (ws : List Jvm.Cond) (a0 : Addr) (w_a0_value : Addr) (k_w_a0_value : ClassId) (y0 : Int32) (s_COMPACT_STRINGS : Int32) (h0 : Heap) (n0 : Nat) (Z0 : n0 ≤ h0.size) (E_a0 : Est Z h0 a0) (F_a0_coder : Fcd Z h0 a0 (.int 0)) (F_a0_value : Fvl Z h0 a0 (.ref w_a0_value)) (V_w_a0_value : Arv Z h0 w_a0_value k_w_a0_value .byte (1 : Int32) [(.int y0)] (.int 0)) (S_COMPACT_STRINGS : SfC Z h0 (.int s_COMPACT_STRINGS)) (hcs : ¬ s_COMPACT_STRINGS = (0 : Int32)) :
    MFn l (⟨"java/lang/String", "indexOf", "(I)I"⟩ : MethodName) jdk_42_method_79_code 2 (some .int) ws (Rm 3 0 0 46) #[(.ref a0), (.int 63)] Z h0 (QP n0 h0 (some (.int (fiz1 y0)))) := by
  refine own_mf (C := "java/lang/String") rfl (plainFor_of_name pn_15) (fun m => efiz1 m a0) ?_
  intro p e s m below meth cd0 s₁ En hx hby hml hown hnm hZ X0 e0 hlk hrt go0
  have N0 := Fr.nil n0
  have K0 : Keep h0 h0 [] := Keep.refl _ _
  have go1 : Go p.tables e below s₁ (mkF m 3 #[rv a0, iv 63] [(.int 0), (.int 63), (.ref a0)]) En := by
    intro t k
    refine go0 _ ?_
    refine XS.aloadN X0.here hx rfl (hb hby d6_0) rfl rfl ?_
    refine XS.iloadN X0.here hx rfl (hb hby d6_1) rfl ?_
    refine XS.iconst X0.here hx rfl (hb hby d6_2) ?_
    exact k
  obtain ⟨_, T2, Lc2, X2, hQ2, st2⟩ := own_cv X0 hx hZ hown hml go1 (hb hby d6_3) e0 (hw _ (mi 36 rfl)) (own_site196 hw) E_a0 (rmiy1 l Z aZ hw [] a0 _ _ y0 _ h0 n0 Z0 E_a0 F_a0_coder F_a0_value V_w_a0_value S_COMPACT_STRINGS hcs) (by decide) (argsL := [(.int 63), (.int 0)]) (rest := []) rfl rfl rfl (lenOf pd_161 rfl) (W := 0) rfl (by decide) (by decide) (by decide : 0 + 0 ≤ _) (by decide : 0 + 0 ≤ _)
  obtain ⟨rfl, N2q, e2⟩ := hQ2
  have N2 := Fr.app N0 N2q
  refine own_out (w := (.int (fiy1 y0))) X2 hx hlk st2 hrt rfl (Or.inl ⟨rfl, Or.inl rfl, _, rfl⟩) (hb hby d6_6) e2 (by decide) (by decide) ?_
  exact ⟨by rw [fiz1], N2, rfl⟩
def fic2 (y0 : Int32) (y1 : Int32) : Int32 := (if y0 = (63 : Int32) then (0 : Int32) else (if y1 = (63 : Int32) then (1 : Int32) else (-1 : Int32)))
theorem efic2 (m : MethodId) (a0 : Addr) : entryFrame m #[(.ref a0), (.int (63 : Int32)), (.int (0 : Int32)), (.int (2 : Int32))] 6 = mkF m 0 #[rv a0, iv (63 : Int32), iv (0 : Int32), iv (2 : Int32), .unset, .unset] [] := by first | (simp [entryFrame, mkF, argsToLocals, Value.category]; done) | rfl
abbrev Lic2_0 (a0 : Addr) : Array Slot := #[rv a0, iv 63, iv 0, iv 2, iv 63, iv 0]
abbrev Lic2_1 (a0 : Addr) : Array Slot := #[rv a0, iv 63, iv 0, iv 2, iv 63, iv 1]
set_option maxRecDepth 65536 in
set_option maxHeartbeats 40000000 in
theorem rmic2 (l : Launch) (Z : State) (aZ : Array Value) (hw : HW aZ Z) (ws : List Jvm.Cond) (a0 : Addr) (k_a0 : ClassId) (y0 : Int32) (y1 : Int32) (h0 : Heap) (n0 : Nat) (Z0 : n0 ≤ h0.size) (V_a0 : Arv Z h0 a0 k_a0 .byte (2 : Int32) [(.int y0), (.int y1)] (.int 0)) :
    MFn l (⟨"java/lang/StringLatin1", "indexOfChar", "([BIII)I"⟩ : MethodName) jdk_43_method_23_code 6 (some .int) ws (Rm 0 0 0 0) #[(.ref a0), (.int 63), (.int 0), (.int 2)] Z h0 (QP n0 h0 (some (.int (fic2 y0 y1)))) := by
  refine own_mf (C := "java/lang/StringLatin1") rfl (plainFor_of_name pn_128) (fun m => efic2 m a0) ?_
  intro p e s m below meth cd0 s₁ En hx hby hml hown hnm hZ X0 e0 hlk hrt go0
  have N0 := Fr.nil n0
  have K0 : Keep h0 h0 [] := Keep.refl _ _
  obtain ⟨cl1, Ar1, q1, S1, N1, H1, G1⟩ := id V_a0
  have go2 : Go p.tables e below s₁ (mkF m 19 (Lic2_0 a0) [(.int 63), (.int y0)]) En := by
    intro t k
    refine go0 _ ?_
    refine XS.iloadN X0.here hx rfl (hb hby d18_0) rfl ?_
    refine XS.i2b X0.here hx rfl (hb hby d18_1) rfl ?_
    show Steps _ _ _ (s₁.setTop (mkF m 2 #[rv a0, iv 63, iv 0, iv 2, .unset, .unset] [(.int (63 : Int32).toInt8.toInt32)])) _
    rw [(by decide : (63 : Int32).toInt8.toInt32 = (63 : Int32))]
    refine XS.istore X0.here hx rfl (hb hby d18_2) rfl (l' := #[rv a0, iv 63, iv 0, iv 2, iv 63, .unset]) rfl ?_
    refine XS.iloadN X0.here hx rfl (hb hby d18_4) rfl ?_
    refine XS.istore X0.here hx rfl (hb hby d18_5) rfl (l' := (Lic2_0 a0)) rfl ?_
    refine XS.iload X0.here hx rfl (hb hby d18_7) rfl ?_
    show Steps _ _ _ (s₁.setTop (mkF m 9 (Lic2_0 a0) [(.int 0)])) _
    refine XS.iloadN X0.here hx rfl (hb hby d18_9) rfl ?_
    refine XS.icmpNo X0.here hx rfl (hb hby d18_10) rfl (XT.ii_ge_f (by decide : ((0 : Int32) < (2 : Int32)))) ?_
    refine XS.aloadN X0.here hx rfl (hb hby d18_13) rfl rfl ?_
    refine XS.iload X0.here hx rfl (hb hby d18_14) rfl ?_
    refine X0.baloadBytes hx (j := (0 : Int32)) (v := (.int y0)) (by rw [e0]; exact Ar1.1) (State.isArrayOf_alike hZ.alike Ar1.2.1) Ar1.2.2 (inb_of S1 ⟨by decide, by decide⟩) (Has.at H1 (inb_of S1 ⟨by decide, by decide⟩) rfl) (g := (mkF m 16 (Lic2_0 a0) [(.int 0), (.ref a0)])) rfl rfl (hb hby d18_16) _ ?_
    show Steps _ _ _ (s₁.setTop (mkF m 17 (Lic2_0 a0) [(.int y0)])) _
    refine XS.iload X0.here hx rfl (hb hby d18_17) rfl ?_
    exact k
  by_cases hs3 : y0 = (63 : Int32)
  · have go4 : Go p.tables e below s₁ (mkF m 24 (Lic2_0 a0) [(.int 0)]) En := by
      intro t k
      refine go2 _ ?_
      refine XS.icmpNo X0.here hx rfl (hb hby d18_19) rfl (XT.ii_ne_f hs3) ?_
      refine XS.iload X0.here hx rfl (hb hby d18_22) rfl ?_
      exact k
    refine own_out (w := (.int 0)) X0 hx hlk go4 hrt rfl (Or.inl ⟨rfl, Or.inl rfl, _, rfl⟩) (hb hby d18_24) e0 (by decide) (by decide) ?_
    exact ⟨by rw [fic2, if_pos hs3], N0, rfl⟩
  have go5 : Go p.tables e below s₁ (mkF m 19 (Lic2_1 a0) [(.int 63), (.int y1)]) En := by
    intro t k
    refine go2 _ ?_
    refine XS.icmpYes X0.here hx rfl (pc0 := 19) (pc' := 25) rfl (hb hby d18_19) rfl (XT.ii_ne_t hs3) (by decide) (by decide) ?_
    refine XS.iinc X0.here hx rfl (hb hby d18_25) rfl (l' := (Lic2_1 a0)) rfl ?_
    refine XS.goto X0.here hx rfl (pc0 := 28) (pc' := 7) rfl (hb hby d18_28) (by decide) (by decide) ?_
    refine XS.iload X0.here hx rfl (hb hby d18_7) rfl ?_
    refine XS.iloadN X0.here hx rfl (hb hby d18_9) rfl ?_
    show Steps _ _ _ (s₁.setTop (mkF m 10 (Lic2_1 a0) [(.int 2), (.int 1)])) _
    refine XS.icmpNo X0.here hx rfl (hb hby d18_10) rfl (XT.ii_ge_f (by decide : ((1 : Int32) < (2 : Int32)))) ?_
    refine XS.aloadN X0.here hx rfl (hb hby d18_13) rfl rfl ?_
    refine XS.iload X0.here hx rfl (hb hby d18_14) rfl ?_
    refine X0.baloadBytes hx (j := (1 : Int32)) (v := (.int y1)) (by rw [e0]; exact Ar1.1) (State.isArrayOf_alike hZ.alike Ar1.2.1) Ar1.2.2 (inb_of S1 ⟨by decide, by decide⟩) (Has.at H1 (inb_of S1 ⟨by decide, by decide⟩) rfl) (g := (mkF m 16 (Lic2_1 a0) [(.int 1), (.ref a0)])) rfl rfl (hb hby d18_16) _ ?_
    refine XS.iload X0.here hx rfl (hb hby d18_17) rfl ?_
    show Steps _ _ _ (s₁.setTop (mkF m 19 (Lic2_1 a0) [(.int 63), (.int y1)])) _
    exact k
  by_cases hs6 : y1 = (63 : Int32)
  · have go7 : Go p.tables e below s₁ (mkF m 24 (Lic2_1 a0) [(.int 1)]) En := by
      intro t k
      refine go5 _ ?_
      refine XS.icmpNo X0.here hx rfl (hb hby d18_19) rfl (XT.ii_ne_f hs6) ?_
      refine XS.iload X0.here hx rfl (hb hby d18_22) rfl ?_
      exact k
    refine own_out (w := (.int 1)) X0 hx hlk go7 hrt rfl (Or.inl ⟨rfl, Or.inl rfl, _, rfl⟩) (hb hby d18_24) e0 (by decide) (by decide) ?_
    exact ⟨by rw [fic2, if_neg hs3, if_pos hs6], N0, rfl⟩
  have go8 : Go p.tables e below s₁ (mkF m 32 #[rv a0, iv 63, iv 0, iv 2, iv 63, iv 2] [(.int (-1))]) En := by
    intro t k
    refine go5 _ ?_
    refine XS.icmpYes X0.here hx rfl (pc0 := 19) (pc' := 25) rfl (hb hby d18_19) rfl (XT.ii_ne_t hs6) (by decide) (by decide) ?_
    refine XS.iinc X0.here hx rfl (hb hby d18_25) rfl (l' := #[rv a0, iv 63, iv 0, iv 2, iv 63, iv 2]) rfl ?_
    refine XS.goto X0.here hx rfl (pc0 := 28) (pc' := 7) rfl (hb hby d18_28) (by decide) (by decide) ?_
    refine XS.iload X0.here hx rfl (hb hby d18_7) rfl ?_
    refine XS.iloadN X0.here hx rfl (hb hby d18_9) rfl ?_
    show Steps _ _ _ (s₁.setTop (mkF m 10 #[rv a0, iv 63, iv 0, iv 2, iv 63, iv 2] [(.int 2), (.int 2)])) _
    refine XS.icmpYes X0.here hx rfl (pc0 := 10) (pc' := 31) rfl (hb hby d18_10) rfl (XT.ii_ge_t (by decide : ¬ ((2 : Int32) < (2 : Int32)))) (by decide) (by decide) ?_
    refine XS.iconst X0.here hx rfl (hb hby d18_31) ?_
    exact k
  refine own_out (w := (.int (-1))) X0 hx hlk go8 hrt rfl (Or.inl ⟨rfl, Or.inl rfl, _, rfl⟩) (hb hby d18_32) e0 (by decide) (by decide) ?_
  exact ⟨by rw [fic2, if_neg hs3, if_neg hs6], N0, rfl⟩
def fix2 (y0 : Int32) (y1 : Int32) : Int32 := (fic2 y0 y1)
theorem efix2 (m : MethodId) (a0 : Addr) : entryFrame m #[(.ref a0), (.int (63 : Int32)), (.int (0 : Int32)), (.int (2 : Int32))] 4 = mkF m 0 #[rv a0, iv (63 : Int32), iv (0 : Int32), iv (2 : Int32)] [] := by first | (simp [entryFrame, mkF, argsToLocals, Value.category]; done) | rfl
abbrev Lix2_0 (a0 : Addr) : Array Slot := #[rv a0, iv 63, iv 0, iv 2]
set_option maxRecDepth 65536 in
set_option maxHeartbeats 40000000 in
theorem rmix2 (l : Launch) (Z : State) (aZ : Array Value) (hw : HW aZ Z) (ws : List Jvm.Cond) (a0 : Addr) (k_a0 : ClassId) (y0 : Int32) (y1 : Int32) (h0 : Heap) (n0 : Nat) (Z0 : n0 ≤ h0.size) (V_a0 : Arv Z h0 a0 k_a0 .byte (2 : Int32) [(.int y0), (.int y1)] (.int 0)) :
    MFn l (⟨"java/lang/StringLatin1", "indexOf", "([BIII)I"⟩ : MethodName) jdk_43_method_22_code 4 (some .int) ws (Rm 1 0 0 17) #[(.ref a0), (.int 63), (.int 0), (.int 2)] Z h0 (QP n0 h0 (some (.int (fix2 y0 y1)))) := by
  refine own_mf (C := "java/lang/StringLatin1") rfl (plainFor_of_name pn_128) (fun m => efix2 m a0) ?_
  intro p e s m below meth cd0 s₁ En hx hby hml hown hnm hZ X0 e0 hlk hrt go0
  have N0 := Fr.nil n0
  have K0 : Keep h0 h0 [] := Keep.refl _ _
  have go1 : Go p.tables e below s₁ (mkF m 1 (Lix2_0 a0) [(.int 63)]) En := by
    intro t k
    refine go0 _ ?_
    refine XS.iloadN X0.here hx rfl (hb hby d11_0) rfl ?_
    exact k
  obtain ⟨_, T2, Lc2, X2, hQ2, st2⟩ := own_cs X0 hx hZ hown hml go1 (hb hby d11_1) e0 (hw _ (mi 61 rfl)) (own_site154 hw) (rmce l Z aZ hw []  h0 n0 Z0 ) (by decide) (argsL := [(.int 63)]) (rest := []) rfl rfl rfl (lenOf pd_155 rfl) (W := 0) rfl (by decide) (by decide) (by decide : 0 + 0 ≤ _) (by decide : 0 + 0 ≤ _)
  obtain ⟨rfl, N2q, e2⟩ := hQ2
  have N2 := Fr.app N0 N2q
  have go3 : Go p.tables e below T2 (mkF m 11 (Lix2_0 a0) [(.int 0), (.int 0)]) En := by
    intro t k
    refine st2 _ ?_
    refine XS.ifYes X2.here hx rfl (pc0 := 4) (pc' := 9) rfl (hb hby d11_4) rfl (XT.i0_ne_t (by decide : ¬ ((1 : Int32) = (0 : Int32)))) (by decide) (by decide) ?_
    refine XS.iloadN X2.here hx rfl (hb hby d11_9) rfl ?_
    refine XS.iconst X2.here hx rfl (hb hby d11_10) ?_
    exact k
  obtain ⟨_, T4, Lc4, X4, hQ4, st4⟩ := own_cs X2 hx hZ hown hml go3 (hb hby d11_11) e2 (hw _ (mi 64 rfl)) (own_site160 hw) (rmmx l Z aZ hw []  h0 n0 Z0 ) (by decide) (argsL := [(.int 0), (.int 0)]) (rest := []) rfl rfl rfl (lenOf pd_161 rfl) (W := 0) rfl (by decide) (by decide) (by decide : 0 + 0 ≤ _) (by decide : 0 + 0 ≤ _)
  obtain ⟨rfl, N4q, e4⟩ := hQ4
  have N4 := Fr.app N2 N4q
  obtain ⟨cl5, Ar5, q5, S5, N5, H5, G5⟩ := id V_a0
  have go6 : Go p.tables e below T4 (mkF m 18 (Lix2_0 a0) [(.int 2), (.int 2)]) En := by
    intro t k
    refine st4 _ ?_
    refine XS.istoreN X4.here hx rfl (hb hby d11_14) rfl (l' := (Lix2_0 a0)) rfl ?_
    refine XS.iloadN X4.here hx rfl (hb hby d11_15) rfl ?_
    refine XS.aloadN X4.here hx rfl (hb hby d11_16) rfl rfl ?_
    refine X4.arraylength hx (by rw [e4]; exact Ar5.1) (State.isArrayOf_alike hZ.alike Ar5.2.1) (g := (mkF m 17 (Lix2_0 a0) [(.ref a0), (.int 2)])) rfl rfl (hb hby d11_17) _ ?_
    rw [len_of S5 N5]
    show Steps _ _ _ (T4.setTop (mkF m 18 (Lix2_0 a0) [(.int 2), (.int 2)])) _
    exact k
  obtain ⟨_, T7, Lc7, X7, hQ7, st7⟩ := own_cs X4 hx hZ hown hml go6 (hb hby d11_18) e4 (hw _ (mi 68 rfl)) (own_site167 hw) (rmmn l Z aZ hw [] (2 : Int32) h0 n0 Z0 ) (by decide) (argsL := [(.int 2), (.int 2)]) (rest := []) rfl rfl rfl (lenOf pd_161 rfl) (W := 0) rfl (by decide) (by decide) (by decide : 0 + 0 ≤ _) (by decide : 0 + 0 ≤ _)
  obtain ⟨rfl, N7q, e7⟩ := hQ7
  have N7 := Fr.app N4 N7q
  have go8 : Go p.tables e below T7 (mkF m 33 (Lix2_0 a0) [(.int 2), (.int 0), (.int 63), (.ref a0)]) En := by
    intro t k
    refine st7 _ ?_
    refine XS.istoreN X7.here hx rfl (hb hby d11_21) rfl (l' := (Lix2_0 a0)) rfl ?_
    refine XS.iloadN X7.here hx rfl (hb hby d11_22) rfl ?_
    refine XS.iloadN X7.here hx rfl (hb hby d11_23) rfl ?_
    refine XS.icmpYes X7.here hx rfl (pc0 := 24) (pc' := 29) rfl (hb hby d11_24) rfl (XT.ii_lt_t (by decide : ((0 : Int32) < (2 : Int32)))) (by decide) (by decide) ?_
    refine XS.aloadN X7.here hx rfl (hb hby d11_29) rfl rfl ?_
    show Steps _ _ _ (T7.setTop (mkF m 30 (Lix2_0 a0) [(.ref a0)])) _
    refine XS.iloadN X7.here hx rfl (hb hby d11_30) rfl ?_
    refine XS.iloadN X7.here hx rfl (hb hby d11_31) rfl ?_
    refine XS.iloadN X7.here hx rfl (hb hby d11_32) rfl ?_
    exact k
  obtain ⟨_, T9, Lc9, X9, hQ9, st9⟩ := own_cs X7 hx hZ hown hml go8 (hb hby d11_33) e7 (hw _ (mi 81 rfl)) (own_site222 hw) (rmic2 l Z aZ hw [] a0 _ y0 y1 h0 n0 Z0 V_a0) (by decide) (argsL := [(.ref a0), (.int 63), (.int 0), (.int 2)]) (rest := []) rfl rfl rfl (lenOf pd_189 rfl) (W := 0) rfl (by decide) (by decide) (by decide : 0 + 0 ≤ _) (by decide : 0 + 0 ≤ _)
  obtain ⟨rfl, N9q, e9⟩ := hQ9
  have N9 := Fr.app N7 N9q
  refine own_out (w := (.int (fic2 y0 y1))) X9 hx hlk st9 hrt rfl (Or.inl ⟨rfl, Or.inl rfl, _, rfl⟩) (hb hby d11_36) e9 (by decide) (by decide) ?_
  exact ⟨by rw [fix2], N9, rfl⟩
def fiy2 (y0 : Int32) (y1 : Int32) : Int32 := (fix2 y0 y1)
theorem efiy2 (m : MethodId) (a0 : Addr) : entryFrame m #[(.ref a0), (.int (63 : Int32)), (.int (0 : Int32))] 3 = mkF m 0 #[rv a0, iv (63 : Int32), iv (0 : Int32)] [] := by first | (simp [entryFrame, mkF, argsToLocals, Value.category]; done) | rfl
set_option maxRecDepth 65536 in
set_option maxHeartbeats 40000000 in
theorem rmiy2 (l : Launch) (Z : State) (aZ : Array Value) (hw : HW aZ Z) (ws : List Jvm.Cond) (a0 : Addr) (w_a0_value : Addr) (k_w_a0_value : ClassId) (y0 : Int32) (y1 : Int32) (s_COMPACT_STRINGS : Int32) (h0 : Heap) (n0 : Nat) (Z0 : n0 ≤ h0.size) (E_a0 : Est Z h0 a0) (F_a0_coder : Fcd Z h0 a0 (.int 0)) (F_a0_value : Fvl Z h0 a0 (.ref w_a0_value)) (V_w_a0_value : Arv Z h0 w_a0_value k_w_a0_value .byte (2 : Int32) [(.int y0), (.int y1)] (.int 0)) (S_COMPACT_STRINGS : SfC Z h0 (.int s_COMPACT_STRINGS)) (hcs : ¬ s_COMPACT_STRINGS = (0 : Int32)) :
    MFn l (⟨"java/lang/String", "indexOf", "(II)I"⟩ : MethodName) jdk_42_method_80_code 3 (some .int) ws (Rm 2 0 0 32) #[(.ref a0), (.int 63), (.int 0)] Z h0 (QP n0 h0 (some (.int (fiy2 y0 y1)))) := by
  refine own_mf (C := "java/lang/String") rfl (plainFor_of_name pn_15) (fun m => efiy2 m a0) ?_
  intro p e s m below meth cd0 s₁ En hx hby hml hown hnm hZ X0 e0 hlk hrt go0
  have N0 := Fr.nil n0
  have K0 : Keep h0 h0 [] := Keep.refl _ _
  have go1 : Go p.tables e below s₁ (mkF m 1 #[rv a0, iv 63, iv 0] [(.ref a0)]) En := by
    intro t k
    refine go0 _ ?_
    refine XS.aloadN X0.here hx rfl (hb hby d7_0) rfl rfl ?_
    exact k
  obtain ⟨_, T2, Lc2, X2, hQ2, st2⟩ := own_cv X0 hx hZ hown hml go1 (hb hby d7_1) e0 (hw _ (mi 41 rfl)) (own_site176 hw) E_a0 (rmil l Z aZ hw [] a0 _ h0 n0 Z0 S_COMPACT_STRINGS hcs F_a0_coder) (by decide) (argsL := []) (rest := []) rfl rfl rfl (lenOf pd_177 rfl) (W := 0) rfl (by decide) (by decide) (by decide : 0 + 0 ≤ _) (by decide : 0 + 0 ≤ _)
  obtain ⟨rfl, N2q, e2⟩ := hQ2
  have N2 := Fr.app N0 N2q
  have go3 : Go p.tables e below T2 (mkF m 8 #[rv a0, iv 63, iv 0] [(.ref a0)]) En := by
    intro t k
    refine st2 _ ?_
    refine XS.ifNo X2.here hx rfl (hb hby d7_4) rfl (XT.i0_eq_f (by decide : ¬ ((1 : Int32) = (0 : Int32)))) ?_
    refine XS.aloadN X2.here hx rfl (hb hby d7_7) rfl rfl ?_
    exact k
  obtain ⟨T4, X4, e4, st4⟩ := getF X2 hx hZ hown (host := "") (Or.inl (hw _ (mi 25 rfl))) Via.refl e2 F_a0_value (g := (mkF m 8 #[rv a0, iv 63, iv 0] [(.ref a0)])) rfl rfl (hb hby d7_8)
  have go5 := gap go3 st4
  have go6 : Go p.tables e below T4 (mkF m 14 #[rv a0, iv 63, iv 0] [(.ref a0), (.int 0), (.int 63), (.ref w_a0_value)]) En := by
    intro t k
    refine go5 _ ?_
    refine XS.iloadN X4.here hx rfl (hb hby d7_11) rfl ?_
    refine XS.iloadN X4.here hx rfl (hb hby d7_12) rfl ?_
    refine XS.aloadN X4.here hx rfl (hb hby d7_13) rfl rfl ?_
    exact k
  obtain ⟨_, T7, Lc7, X7, hQ7, st7⟩ := own_cv X4 hx hZ hown hml go6 (hb hby d7_14) e4 (hw _ (mi 47 rfl)) (own_site185 hw) E_a0 (rmln l Z aZ hw [] a0 _ _ _ _ _ h0 n0 Z0 E_a0 F_a0_coder F_a0_value V_w_a0_value S_COMPACT_STRINGS hcs) (by decide) (argsL := []) (rest := [(.int 0), (.int 63), (.ref w_a0_value)]) rfl rfl rfl (lenOf pd_186 rfl) (W := 3) rfl (by decide) (by decide) (by decide : 0 + 0 ≤ _) (by decide : 0 + 0 ≤ _)
  obtain ⟨rfl, N7q, e7⟩ := hQ7
  have N7 := Fr.app N2 N7q
  obtain ⟨_, T8, Lc8, X8, hQ8, st8⟩ := own_cs X7 hx hZ hown hml st7 (hb hby d7_17) e7 (hw _ (mi 57 rfl)) (own_site188 hw) (rmix2 l Z aZ hw [] _ _ y0 y1 h0 n0 Z0 V_w_a0_value) (by decide) (argsL := [(.ref w_a0_value), (.int 63), (.int 0), (.int 2)]) (rest := []) rfl rfl rfl (lenOf pd_189 rfl) (W := 0) rfl (by decide) (by decide) (by decide : 0 + 0 ≤ _) (by decide : 0 + 0 ≤ _)
  obtain ⟨rfl, N8q, e8⟩ := hQ8
  have N8 := Fr.app N7 N8q
  have go9 : Go p.tables e below T8 (mkF m 36 #[rv a0, iv 63, iv 0] [(.int (fix2 y0 y1))]) En := by
    intro t k
    refine st8 _ ?_
    refine XS.goto X8.here hx rfl (pc0 := 20) (pc' := 36) rfl (hb hby d7_20) (by decide) (by decide) ?_
    exact k
  refine own_out (w := (.int (fix2 y0 y1))) X8 hx hlk go9 hrt rfl (Or.inl ⟨rfl, Or.inl rfl, _, rfl⟩) (hb hby d7_36) e8 (by decide) (by decide) ?_
  exact ⟨by rw [fiy2], N8, rfl⟩
def fiz2 (y0 : Int32) (y1 : Int32) : Int32 := (fiy2 y0 y1)
theorem efiz2 (m : MethodId) (a0 : Addr) : entryFrame m #[(.ref a0), (.int (63 : Int32))] 2 = mkF m 0 #[rv a0, iv (63 : Int32)] [] := by first | (simp [entryFrame, mkF, argsToLocals, Value.category]; done) | rfl
set_option maxRecDepth 65536 in
set_option maxHeartbeats 40000000 in
theorem rmiz2 (l : Launch) (Z : State) (aZ : Array Value) (hw : HW aZ Z) (ws : List Jvm.Cond) (a0 : Addr) (w_a0_value : Addr) (k_w_a0_value : ClassId) (y0 : Int32) (y1 : Int32) (s_COMPACT_STRINGS : Int32) (h0 : Heap) (n0 : Nat) (Z0 : n0 ≤ h0.size) (E_a0 : Est Z h0 a0) (F_a0_coder : Fcd Z h0 a0 (.int 0)) (F_a0_value : Fvl Z h0 a0 (.ref w_a0_value)) (V_w_a0_value : Arv Z h0 w_a0_value k_w_a0_value .byte (2 : Int32) [(.int y0), (.int y1)] (.int 0)) (S_COMPACT_STRINGS : SfC Z h0 (.int s_COMPACT_STRINGS)) (hcs : ¬ s_COMPACT_STRINGS = (0 : Int32)) :
    MFn l (⟨"java/lang/String", "indexOf", "(I)I"⟩ : MethodName) jdk_42_method_79_code 2 (some .int) ws (Rm 3 0 0 46) #[(.ref a0), (.int 63)] Z h0 (QP n0 h0 (some (.int (fiz2 y0 y1)))) := by
  refine own_mf (C := "java/lang/String") rfl (plainFor_of_name pn_15) (fun m => efiz2 m a0) ?_
  intro p e s m below meth cd0 s₁ En hx hby hml hown hnm hZ X0 e0 hlk hrt go0
  have N0 := Fr.nil n0
  have K0 : Keep h0 h0 [] := Keep.refl _ _
  have go1 : Go p.tables e below s₁ (mkF m 3 #[rv a0, iv 63] [(.int 0), (.int 63), (.ref a0)]) En := by
    intro t k
    refine go0 _ ?_
    refine XS.aloadN X0.here hx rfl (hb hby d6_0) rfl rfl ?_
    refine XS.iloadN X0.here hx rfl (hb hby d6_1) rfl ?_
    refine XS.iconst X0.here hx rfl (hb hby d6_2) ?_
    exact k
  obtain ⟨_, T2, Lc2, X2, hQ2, st2⟩ := own_cv X0 hx hZ hown hml go1 (hb hby d6_3) e0 (hw _ (mi 36 rfl)) (own_site196 hw) E_a0 (rmiy2 l Z aZ hw [] a0 _ _ y0 y1 _ h0 n0 Z0 E_a0 F_a0_coder F_a0_value V_w_a0_value S_COMPACT_STRINGS hcs) (by decide) (argsL := [(.int 63), (.int 0)]) (rest := []) rfl rfl rfl (lenOf pd_161 rfl) (W := 0) rfl (by decide) (by decide) (by decide : 0 + 0 ≤ _) (by decide : 0 + 0 ≤ _)
  obtain ⟨rfl, N2q, e2⟩ := hQ2
  have N2 := Fr.app N0 N2q
  refine own_out (w := (.int (fiy2 y0 y1))) X2 hx hlk st2 hrt rfl (Or.inl ⟨rfl, Or.inl rfl, _, rfl⟩) (hb hby d6_6) e2 (by decide) (by decide) ?_
  exact ⟨by rw [fiz2], N2, rfl⟩
def fic3 (y0 : Int32) (y1 : Int32) (y2 : Int32) : Int32 := (if y0 = (63 : Int32) then (0 : Int32) else (if y1 = (63 : Int32) then (1 : Int32) else (if y2 = (63 : Int32) then (2 : Int32) else (-1 : Int32))))
theorem efic3 (m : MethodId) (a0 : Addr) : entryFrame m #[(.ref a0), (.int (63 : Int32)), (.int (0 : Int32)), (.int (3 : Int32))] 6 = mkF m 0 #[rv a0, iv (63 : Int32), iv (0 : Int32), iv (3 : Int32), .unset, .unset] [] := by first | (simp [entryFrame, mkF, argsToLocals, Value.category]; done) | rfl
abbrev Lic3_0 (a0 : Addr) : Array Slot := #[rv a0, iv 63, iv 0, iv 3, iv 63, iv 0]
abbrev Lic3_1 (a0 : Addr) : Array Slot := #[rv a0, iv 63, iv 0, iv 3, iv 63, iv 1]
abbrev Lic3_2 (a0 : Addr) : Array Slot := #[rv a0, iv 63, iv 0, iv 3, iv 63, iv 2]
set_option maxRecDepth 65536 in
set_option maxHeartbeats 40000000 in
theorem rmic3 (l : Launch) (Z : State) (aZ : Array Value) (hw : HW aZ Z) (ws : List Jvm.Cond) (a0 : Addr) (k_a0 : ClassId) (y0 : Int32) (y1 : Int32) (y2 : Int32) (h0 : Heap) (n0 : Nat) (Z0 : n0 ≤ h0.size) (V_a0 : Arv Z h0 a0 k_a0 .byte (3 : Int32) [(.int y0), (.int y1), (.int y2)] (.int 0)) :
    MFn l (⟨"java/lang/StringLatin1", "indexOfChar", "([BIII)I"⟩ : MethodName) jdk_43_method_23_code 6 (some .int) ws (Rm 0 0 0 0) #[(.ref a0), (.int 63), (.int 0), (.int 3)] Z h0 (QP n0 h0 (some (.int (fic3 y0 y1 y2)))) := by
  refine own_mf (C := "java/lang/StringLatin1") rfl (plainFor_of_name pn_128) (fun m => efic3 m a0) ?_
  intro p e s m below meth cd0 s₁ En hx hby hml hown hnm hZ X0 e0 hlk hrt go0
  have N0 := Fr.nil n0
  have K0 : Keep h0 h0 [] := Keep.refl _ _
  obtain ⟨cl1, Ar1, q1, S1, N1, H1, G1⟩ := id V_a0
  have go2 : Go p.tables e below s₁ (mkF m 19 (Lic3_0 a0) [(.int 63), (.int y0)]) En := by
    intro t k
    refine go0 _ ?_
    refine XS.iloadN X0.here hx rfl (hb hby d18_0) rfl ?_
    refine XS.i2b X0.here hx rfl (hb hby d18_1) rfl ?_
    show Steps _ _ _ (s₁.setTop (mkF m 2 #[rv a0, iv 63, iv 0, iv 3, .unset, .unset] [(.int (63 : Int32).toInt8.toInt32)])) _
    rw [(by decide : (63 : Int32).toInt8.toInt32 = (63 : Int32))]
    refine XS.istore X0.here hx rfl (hb hby d18_2) rfl (l' := #[rv a0, iv 63, iv 0, iv 3, iv 63, .unset]) rfl ?_
    refine XS.iloadN X0.here hx rfl (hb hby d18_4) rfl ?_
    refine XS.istore X0.here hx rfl (hb hby d18_5) rfl (l' := (Lic3_0 a0)) rfl ?_
    refine XS.iload X0.here hx rfl (hb hby d18_7) rfl ?_
    show Steps _ _ _ (s₁.setTop (mkF m 9 (Lic3_0 a0) [(.int 0)])) _
    refine XS.iloadN X0.here hx rfl (hb hby d18_9) rfl ?_
    refine XS.icmpNo X0.here hx rfl (hb hby d18_10) rfl (XT.ii_ge_f (by decide : ((0 : Int32) < (3 : Int32)))) ?_
    refine XS.aloadN X0.here hx rfl (hb hby d18_13) rfl rfl ?_
    refine XS.iload X0.here hx rfl (hb hby d18_14) rfl ?_
    refine X0.baloadBytes hx (j := (0 : Int32)) (v := (.int y0)) (by rw [e0]; exact Ar1.1) (State.isArrayOf_alike hZ.alike Ar1.2.1) Ar1.2.2 (inb_of S1 ⟨by decide, by decide⟩) (Has.at H1 (inb_of S1 ⟨by decide, by decide⟩) rfl) (g := (mkF m 16 (Lic3_0 a0) [(.int 0), (.ref a0)])) rfl rfl (hb hby d18_16) _ ?_
    show Steps _ _ _ (s₁.setTop (mkF m 17 (Lic3_0 a0) [(.int y0)])) _
    refine XS.iload X0.here hx rfl (hb hby d18_17) rfl ?_
    exact k
  by_cases hs3 : y0 = (63 : Int32)
  · have go4 : Go p.tables e below s₁ (mkF m 24 (Lic3_0 a0) [(.int 0)]) En := by
      intro t k
      refine go2 _ ?_
      refine XS.icmpNo X0.here hx rfl (hb hby d18_19) rfl (XT.ii_ne_f hs3) ?_
      refine XS.iload X0.here hx rfl (hb hby d18_22) rfl ?_
      exact k
    refine own_out (w := (.int 0)) X0 hx hlk go4 hrt rfl (Or.inl ⟨rfl, Or.inl rfl, _, rfl⟩) (hb hby d18_24) e0 (by decide) (by decide) ?_
    exact ⟨by rw [fic3, if_pos hs3], N0, rfl⟩
  have go5 : Go p.tables e below s₁ (mkF m 19 (Lic3_1 a0) [(.int 63), (.int y1)]) En := by
    intro t k
    refine go2 _ ?_
    refine XS.icmpYes X0.here hx rfl (pc0 := 19) (pc' := 25) rfl (hb hby d18_19) rfl (XT.ii_ne_t hs3) (by decide) (by decide) ?_
    refine XS.iinc X0.here hx rfl (hb hby d18_25) rfl (l' := (Lic3_1 a0)) rfl ?_
    refine XS.goto X0.here hx rfl (pc0 := 28) (pc' := 7) rfl (hb hby d18_28) (by decide) (by decide) ?_
    refine XS.iload X0.here hx rfl (hb hby d18_7) rfl ?_
    refine XS.iloadN X0.here hx rfl (hb hby d18_9) rfl ?_
    show Steps _ _ _ (s₁.setTop (mkF m 10 (Lic3_1 a0) [(.int 3), (.int 1)])) _
    refine XS.icmpNo X0.here hx rfl (hb hby d18_10) rfl (XT.ii_ge_f (by decide : ((1 : Int32) < (3 : Int32)))) ?_
    refine XS.aloadN X0.here hx rfl (hb hby d18_13) rfl rfl ?_
    refine XS.iload X0.here hx rfl (hb hby d18_14) rfl ?_
    refine X0.baloadBytes hx (j := (1 : Int32)) (v := (.int y1)) (by rw [e0]; exact Ar1.1) (State.isArrayOf_alike hZ.alike Ar1.2.1) Ar1.2.2 (inb_of S1 ⟨by decide, by decide⟩) (Has.at H1 (inb_of S1 ⟨by decide, by decide⟩) rfl) (g := (mkF m 16 (Lic3_1 a0) [(.int 1), (.ref a0)])) rfl rfl (hb hby d18_16) _ ?_
    refine XS.iload X0.here hx rfl (hb hby d18_17) rfl ?_
    show Steps _ _ _ (s₁.setTop (mkF m 19 (Lic3_1 a0) [(.int 63), (.int y1)])) _
    exact k
  by_cases hs6 : y1 = (63 : Int32)
  · have go7 : Go p.tables e below s₁ (mkF m 24 (Lic3_1 a0) [(.int 1)]) En := by
      intro t k
      refine go5 _ ?_
      refine XS.icmpNo X0.here hx rfl (hb hby d18_19) rfl (XT.ii_ne_f hs6) ?_
      refine XS.iload X0.here hx rfl (hb hby d18_22) rfl ?_
      exact k
    refine own_out (w := (.int 1)) X0 hx hlk go7 hrt rfl (Or.inl ⟨rfl, Or.inl rfl, _, rfl⟩) (hb hby d18_24) e0 (by decide) (by decide) ?_
    exact ⟨by rw [fic3, if_neg hs3, if_pos hs6], N0, rfl⟩
  have go8 : Go p.tables e below s₁ (mkF m 19 (Lic3_2 a0) [(.int 63), (.int y2)]) En := by
    intro t k
    refine go5 _ ?_
    refine XS.icmpYes X0.here hx rfl (pc0 := 19) (pc' := 25) rfl (hb hby d18_19) rfl (XT.ii_ne_t hs6) (by decide) (by decide) ?_
    refine XS.iinc X0.here hx rfl (hb hby d18_25) rfl (l' := (Lic3_2 a0)) rfl ?_
    refine XS.goto X0.here hx rfl (pc0 := 28) (pc' := 7) rfl (hb hby d18_28) (by decide) (by decide) ?_
    refine XS.iload X0.here hx rfl (hb hby d18_7) rfl ?_
    refine XS.iloadN X0.here hx rfl (hb hby d18_9) rfl ?_
    show Steps _ _ _ (s₁.setTop (mkF m 10 (Lic3_2 a0) [(.int 3), (.int 2)])) _
    refine XS.icmpNo X0.here hx rfl (hb hby d18_10) rfl (XT.ii_ge_f (by decide : ((2 : Int32) < (3 : Int32)))) ?_
    refine XS.aloadN X0.here hx rfl (hb hby d18_13) rfl rfl ?_
    refine XS.iload X0.here hx rfl (hb hby d18_14) rfl ?_
    refine X0.baloadBytes hx (j := (2 : Int32)) (v := (.int y2)) (by rw [e0]; exact Ar1.1) (State.isArrayOf_alike hZ.alike Ar1.2.1) Ar1.2.2 (inb_of S1 ⟨by decide, by decide⟩) (Has.at H1 (inb_of S1 ⟨by decide, by decide⟩) rfl) (g := (mkF m 16 (Lic3_2 a0) [(.int 2), (.ref a0)])) rfl rfl (hb hby d18_16) _ ?_
    refine XS.iload X0.here hx rfl (hb hby d18_17) rfl ?_
    show Steps _ _ _ (s₁.setTop (mkF m 19 (Lic3_2 a0) [(.int 63), (.int y2)])) _
    exact k
  by_cases hs9 : y2 = (63 : Int32)
  · have go10 : Go p.tables e below s₁ (mkF m 24 (Lic3_2 a0) [(.int 2)]) En := by
      intro t k
      refine go8 _ ?_
      refine XS.icmpNo X0.here hx rfl (hb hby d18_19) rfl (XT.ii_ne_f hs9) ?_
      refine XS.iload X0.here hx rfl (hb hby d18_22) rfl ?_
      exact k
    refine own_out (w := (.int 2)) X0 hx hlk go10 hrt rfl (Or.inl ⟨rfl, Or.inl rfl, _, rfl⟩) (hb hby d18_24) e0 (by decide) (by decide) ?_
    exact ⟨by rw [fic3, if_neg hs3, if_neg hs6, if_pos hs9], N0, rfl⟩
  have go11 : Go p.tables e below s₁ (mkF m 32 #[rv a0, iv 63, iv 0, iv 3, iv 63, iv 3] [(.int (-1))]) En := by
    intro t k
    refine go8 _ ?_
    refine XS.icmpYes X0.here hx rfl (pc0 := 19) (pc' := 25) rfl (hb hby d18_19) rfl (XT.ii_ne_t hs9) (by decide) (by decide) ?_
    refine XS.iinc X0.here hx rfl (hb hby d18_25) rfl (l' := #[rv a0, iv 63, iv 0, iv 3, iv 63, iv 3]) rfl ?_
    refine XS.goto X0.here hx rfl (pc0 := 28) (pc' := 7) rfl (hb hby d18_28) (by decide) (by decide) ?_
    refine XS.iload X0.here hx rfl (hb hby d18_7) rfl ?_
    refine XS.iloadN X0.here hx rfl (hb hby d18_9) rfl ?_
    show Steps _ _ _ (s₁.setTop (mkF m 10 #[rv a0, iv 63, iv 0, iv 3, iv 63, iv 3] [(.int 3), (.int 3)])) _
    refine XS.icmpYes X0.here hx rfl (pc0 := 10) (pc' := 31) rfl (hb hby d18_10) rfl (XT.ii_ge_t (by decide : ¬ ((3 : Int32) < (3 : Int32)))) (by decide) (by decide) ?_
    refine XS.iconst X0.here hx rfl (hb hby d18_31) ?_
    exact k
  refine own_out (w := (.int (-1))) X0 hx hlk go11 hrt rfl (Or.inl ⟨rfl, Or.inl rfl, _, rfl⟩) (hb hby d18_32) e0 (by decide) (by decide) ?_
  exact ⟨by rw [fic3, if_neg hs3, if_neg hs6, if_neg hs9], N0, rfl⟩
def fix3 (y0 : Int32) (y1 : Int32) (y2 : Int32) : Int32 := (fic3 y0 y1 y2)
theorem efix3 (m : MethodId) (a0 : Addr) : entryFrame m #[(.ref a0), (.int (63 : Int32)), (.int (0 : Int32)), (.int (3 : Int32))] 4 = mkF m 0 #[rv a0, iv (63 : Int32), iv (0 : Int32), iv (3 : Int32)] [] := by first | (simp [entryFrame, mkF, argsToLocals, Value.category]; done) | rfl
abbrev Lix3_0 (a0 : Addr) : Array Slot := #[rv a0, iv 63, iv 0, iv 3]
set_option maxRecDepth 65536 in
set_option maxHeartbeats 40000000 in
theorem rmix3 (l : Launch) (Z : State) (aZ : Array Value) (hw : HW aZ Z) (ws : List Jvm.Cond) (a0 : Addr) (k_a0 : ClassId) (y0 : Int32) (y1 : Int32) (y2 : Int32) (h0 : Heap) (n0 : Nat) (Z0 : n0 ≤ h0.size) (V_a0 : Arv Z h0 a0 k_a0 .byte (3 : Int32) [(.int y0), (.int y1), (.int y2)] (.int 0)) :
    MFn l (⟨"java/lang/StringLatin1", "indexOf", "([BIII)I"⟩ : MethodName) jdk_43_method_22_code 4 (some .int) ws (Rm 1 0 0 17) #[(.ref a0), (.int 63), (.int 0), (.int 3)] Z h0 (QP n0 h0 (some (.int (fix3 y0 y1 y2)))) := by
  refine own_mf (C := "java/lang/StringLatin1") rfl (plainFor_of_name pn_128) (fun m => efix3 m a0) ?_
  intro p e s m below meth cd0 s₁ En hx hby hml hown hnm hZ X0 e0 hlk hrt go0
  have N0 := Fr.nil n0
  have K0 : Keep h0 h0 [] := Keep.refl _ _
  have go1 : Go p.tables e below s₁ (mkF m 1 (Lix3_0 a0) [(.int 63)]) En := by
    intro t k
    refine go0 _ ?_
    refine XS.iloadN X0.here hx rfl (hb hby d11_0) rfl ?_
    exact k
  obtain ⟨_, T2, Lc2, X2, hQ2, st2⟩ := own_cs X0 hx hZ hown hml go1 (hb hby d11_1) e0 (hw _ (mi 61 rfl)) (own_site154 hw) (rmce l Z aZ hw []  h0 n0 Z0 ) (by decide) (argsL := [(.int 63)]) (rest := []) rfl rfl rfl (lenOf pd_155 rfl) (W := 0) rfl (by decide) (by decide) (by decide : 0 + 0 ≤ _) (by decide : 0 + 0 ≤ _)
  obtain ⟨rfl, N2q, e2⟩ := hQ2
  have N2 := Fr.app N0 N2q
  have go3 : Go p.tables e below T2 (mkF m 11 (Lix3_0 a0) [(.int 0), (.int 0)]) En := by
    intro t k
    refine st2 _ ?_
    refine XS.ifYes X2.here hx rfl (pc0 := 4) (pc' := 9) rfl (hb hby d11_4) rfl (XT.i0_ne_t (by decide : ¬ ((1 : Int32) = (0 : Int32)))) (by decide) (by decide) ?_
    refine XS.iloadN X2.here hx rfl (hb hby d11_9) rfl ?_
    refine XS.iconst X2.here hx rfl (hb hby d11_10) ?_
    exact k
  obtain ⟨_, T4, Lc4, X4, hQ4, st4⟩ := own_cs X2 hx hZ hown hml go3 (hb hby d11_11) e2 (hw _ (mi 64 rfl)) (own_site160 hw) (rmmx l Z aZ hw []  h0 n0 Z0 ) (by decide) (argsL := [(.int 0), (.int 0)]) (rest := []) rfl rfl rfl (lenOf pd_161 rfl) (W := 0) rfl (by decide) (by decide) (by decide : 0 + 0 ≤ _) (by decide : 0 + 0 ≤ _)
  obtain ⟨rfl, N4q, e4⟩ := hQ4
  have N4 := Fr.app N2 N4q
  obtain ⟨cl5, Ar5, q5, S5, N5, H5, G5⟩ := id V_a0
  have go6 : Go p.tables e below T4 (mkF m 18 (Lix3_0 a0) [(.int 3), (.int 3)]) En := by
    intro t k
    refine st4 _ ?_
    refine XS.istoreN X4.here hx rfl (hb hby d11_14) rfl (l' := (Lix3_0 a0)) rfl ?_
    refine XS.iloadN X4.here hx rfl (hb hby d11_15) rfl ?_
    refine XS.aloadN X4.here hx rfl (hb hby d11_16) rfl rfl ?_
    refine X4.arraylength hx (by rw [e4]; exact Ar5.1) (State.isArrayOf_alike hZ.alike Ar5.2.1) (g := (mkF m 17 (Lix3_0 a0) [(.ref a0), (.int 3)])) rfl rfl (hb hby d11_17) _ ?_
    rw [len_of S5 N5]
    show Steps _ _ _ (T4.setTop (mkF m 18 (Lix3_0 a0) [(.int 3), (.int 3)])) _
    exact k
  obtain ⟨_, T7, Lc7, X7, hQ7, st7⟩ := own_cs X4 hx hZ hown hml go6 (hb hby d11_18) e4 (hw _ (mi 68 rfl)) (own_site167 hw) (rmmn l Z aZ hw [] (3 : Int32) h0 n0 Z0 ) (by decide) (argsL := [(.int 3), (.int 3)]) (rest := []) rfl rfl rfl (lenOf pd_161 rfl) (W := 0) rfl (by decide) (by decide) (by decide : 0 + 0 ≤ _) (by decide : 0 + 0 ≤ _)
  obtain ⟨rfl, N7q, e7⟩ := hQ7
  have N7 := Fr.app N4 N7q
  have go8 : Go p.tables e below T7 (mkF m 33 (Lix3_0 a0) [(.int 3), (.int 0), (.int 63), (.ref a0)]) En := by
    intro t k
    refine st7 _ ?_
    refine XS.istoreN X7.here hx rfl (hb hby d11_21) rfl (l' := (Lix3_0 a0)) rfl ?_
    refine XS.iloadN X7.here hx rfl (hb hby d11_22) rfl ?_
    refine XS.iloadN X7.here hx rfl (hb hby d11_23) rfl ?_
    refine XS.icmpYes X7.here hx rfl (pc0 := 24) (pc' := 29) rfl (hb hby d11_24) rfl (XT.ii_lt_t (by decide : ((0 : Int32) < (3 : Int32)))) (by decide) (by decide) ?_
    refine XS.aloadN X7.here hx rfl (hb hby d11_29) rfl rfl ?_
    show Steps _ _ _ (T7.setTop (mkF m 30 (Lix3_0 a0) [(.ref a0)])) _
    refine XS.iloadN X7.here hx rfl (hb hby d11_30) rfl ?_
    refine XS.iloadN X7.here hx rfl (hb hby d11_31) rfl ?_
    refine XS.iloadN X7.here hx rfl (hb hby d11_32) rfl ?_
    exact k
  obtain ⟨_, T9, Lc9, X9, hQ9, st9⟩ := own_cs X7 hx hZ hown hml go8 (hb hby d11_33) e7 (hw _ (mi 81 rfl)) (own_site222 hw) (rmic3 l Z aZ hw [] a0 _ y0 y1 y2 h0 n0 Z0 V_a0) (by decide) (argsL := [(.ref a0), (.int 63), (.int 0), (.int 3)]) (rest := []) rfl rfl rfl (lenOf pd_189 rfl) (W := 0) rfl (by decide) (by decide) (by decide : 0 + 0 ≤ _) (by decide : 0 + 0 ≤ _)
  obtain ⟨rfl, N9q, e9⟩ := hQ9
  have N9 := Fr.app N7 N9q
  refine own_out (w := (.int (fic3 y0 y1 y2))) X9 hx hlk st9 hrt rfl (Or.inl ⟨rfl, Or.inl rfl, _, rfl⟩) (hb hby d11_36) e9 (by decide) (by decide) ?_
  exact ⟨by rw [fix3], N9, rfl⟩
def fiy3 (y0 : Int32) (y1 : Int32) (y2 : Int32) : Int32 := (fix3 y0 y1 y2)
theorem efiy3 (m : MethodId) (a0 : Addr) : entryFrame m #[(.ref a0), (.int (63 : Int32)), (.int (0 : Int32))] 3 = mkF m 0 #[rv a0, iv (63 : Int32), iv (0 : Int32)] [] := by first | (simp [entryFrame, mkF, argsToLocals, Value.category]; done) | rfl
set_option maxRecDepth 65536 in
set_option maxHeartbeats 40000000 in
theorem rmiy3 (l : Launch) (Z : State) (aZ : Array Value) (hw : HW aZ Z) (ws : List Jvm.Cond) (a0 : Addr) (w_a0_value : Addr) (k_w_a0_value : ClassId) (y0 : Int32) (y1 : Int32) (y2 : Int32) (s_COMPACT_STRINGS : Int32) (h0 : Heap) (n0 : Nat) (Z0 : n0 ≤ h0.size) (E_a0 : Est Z h0 a0) (F_a0_coder : Fcd Z h0 a0 (.int 0)) (F_a0_value : Fvl Z h0 a0 (.ref w_a0_value)) (V_w_a0_value : Arv Z h0 w_a0_value k_w_a0_value .byte (3 : Int32) [(.int y0), (.int y1), (.int y2)] (.int 0)) (S_COMPACT_STRINGS : SfC Z h0 (.int s_COMPACT_STRINGS)) (hcs : ¬ s_COMPACT_STRINGS = (0 : Int32)) :
    MFn l (⟨"java/lang/String", "indexOf", "(II)I"⟩ : MethodName) jdk_42_method_80_code 3 (some .int) ws (Rm 2 0 0 32) #[(.ref a0), (.int 63), (.int 0)] Z h0 (QP n0 h0 (some (.int (fiy3 y0 y1 y2)))) := by
  refine own_mf (C := "java/lang/String") rfl (plainFor_of_name pn_15) (fun m => efiy3 m a0) ?_
  intro p e s m below meth cd0 s₁ En hx hby hml hown hnm hZ X0 e0 hlk hrt go0
  have N0 := Fr.nil n0
  have K0 : Keep h0 h0 [] := Keep.refl _ _
  have go1 : Go p.tables e below s₁ (mkF m 1 #[rv a0, iv 63, iv 0] [(.ref a0)]) En := by
    intro t k
    refine go0 _ ?_
    refine XS.aloadN X0.here hx rfl (hb hby d7_0) rfl rfl ?_
    exact k
  obtain ⟨_, T2, Lc2, X2, hQ2, st2⟩ := own_cv X0 hx hZ hown hml go1 (hb hby d7_1) e0 (hw _ (mi 41 rfl)) (own_site176 hw) E_a0 (rmil l Z aZ hw [] a0 _ h0 n0 Z0 S_COMPACT_STRINGS hcs F_a0_coder) (by decide) (argsL := []) (rest := []) rfl rfl rfl (lenOf pd_177 rfl) (W := 0) rfl (by decide) (by decide) (by decide : 0 + 0 ≤ _) (by decide : 0 + 0 ≤ _)
  obtain ⟨rfl, N2q, e2⟩ := hQ2
  have N2 := Fr.app N0 N2q
  have go3 : Go p.tables e below T2 (mkF m 8 #[rv a0, iv 63, iv 0] [(.ref a0)]) En := by
    intro t k
    refine st2 _ ?_
    refine XS.ifNo X2.here hx rfl (hb hby d7_4) rfl (XT.i0_eq_f (by decide : ¬ ((1 : Int32) = (0 : Int32)))) ?_
    refine XS.aloadN X2.here hx rfl (hb hby d7_7) rfl rfl ?_
    exact k
  obtain ⟨T4, X4, e4, st4⟩ := getF X2 hx hZ hown (host := "") (Or.inl (hw _ (mi 25 rfl))) Via.refl e2 F_a0_value (g := (mkF m 8 #[rv a0, iv 63, iv 0] [(.ref a0)])) rfl rfl (hb hby d7_8)
  have go5 := gap go3 st4
  have go6 : Go p.tables e below T4 (mkF m 14 #[rv a0, iv 63, iv 0] [(.ref a0), (.int 0), (.int 63), (.ref w_a0_value)]) En := by
    intro t k
    refine go5 _ ?_
    refine XS.iloadN X4.here hx rfl (hb hby d7_11) rfl ?_
    refine XS.iloadN X4.here hx rfl (hb hby d7_12) rfl ?_
    refine XS.aloadN X4.here hx rfl (hb hby d7_13) rfl rfl ?_
    exact k
  obtain ⟨_, T7, Lc7, X7, hQ7, st7⟩ := own_cv X4 hx hZ hown hml go6 (hb hby d7_14) e4 (hw _ (mi 47 rfl)) (own_site185 hw) E_a0 (rmln l Z aZ hw [] a0 _ _ _ _ _ h0 n0 Z0 E_a0 F_a0_coder F_a0_value V_w_a0_value S_COMPACT_STRINGS hcs) (by decide) (argsL := []) (rest := [(.int 0), (.int 63), (.ref w_a0_value)]) rfl rfl rfl (lenOf pd_186 rfl) (W := 3) rfl (by decide) (by decide) (by decide : 0 + 0 ≤ _) (by decide : 0 + 0 ≤ _)
  obtain ⟨rfl, N7q, e7⟩ := hQ7
  have N7 := Fr.app N2 N7q
  obtain ⟨_, T8, Lc8, X8, hQ8, st8⟩ := own_cs X7 hx hZ hown hml st7 (hb hby d7_17) e7 (hw _ (mi 57 rfl)) (own_site188 hw) (rmix3 l Z aZ hw [] _ _ y0 y1 y2 h0 n0 Z0 V_w_a0_value) (by decide) (argsL := [(.ref w_a0_value), (.int 63), (.int 0), (.int 3)]) (rest := []) rfl rfl rfl (lenOf pd_189 rfl) (W := 0) rfl (by decide) (by decide) (by decide : 0 + 0 ≤ _) (by decide : 0 + 0 ≤ _)
  obtain ⟨rfl, N8q, e8⟩ := hQ8
  have N8 := Fr.app N7 N8q
  have go9 : Go p.tables e below T8 (mkF m 36 #[rv a0, iv 63, iv 0] [(.int (fix3 y0 y1 y2))]) En := by
    intro t k
    refine st8 _ ?_
    refine XS.goto X8.here hx rfl (pc0 := 20) (pc' := 36) rfl (hb hby d7_20) (by decide) (by decide) ?_
    exact k
  refine own_out (w := (.int (fix3 y0 y1 y2))) X8 hx hlk go9 hrt rfl (Or.inl ⟨rfl, Or.inl rfl, _, rfl⟩) (hb hby d7_36) e8 (by decide) (by decide) ?_
  exact ⟨by rw [fiy3], N8, rfl⟩
def fiz3 (y0 : Int32) (y1 : Int32) (y2 : Int32) : Int32 := (fiy3 y0 y1 y2)
theorem efiz3 (m : MethodId) (a0 : Addr) : entryFrame m #[(.ref a0), (.int (63 : Int32))] 2 = mkF m 0 #[rv a0, iv (63 : Int32)] [] := by first | (simp [entryFrame, mkF, argsToLocals, Value.category]; done) | rfl
set_option maxRecDepth 65536 in
set_option maxHeartbeats 40000000 in
theorem rmiz3 (l : Launch) (Z : State) (aZ : Array Value) (hw : HW aZ Z) (ws : List Jvm.Cond) (a0 : Addr) (w_a0_value : Addr) (k_w_a0_value : ClassId) (y0 : Int32) (y1 : Int32) (y2 : Int32) (s_COMPACT_STRINGS : Int32) (h0 : Heap) (n0 : Nat) (Z0 : n0 ≤ h0.size) (E_a0 : Est Z h0 a0) (F_a0_coder : Fcd Z h0 a0 (.int 0)) (F_a0_value : Fvl Z h0 a0 (.ref w_a0_value)) (V_w_a0_value : Arv Z h0 w_a0_value k_w_a0_value .byte (3 : Int32) [(.int y0), (.int y1), (.int y2)] (.int 0)) (S_COMPACT_STRINGS : SfC Z h0 (.int s_COMPACT_STRINGS)) (hcs : ¬ s_COMPACT_STRINGS = (0 : Int32)) :
    MFn l (⟨"java/lang/String", "indexOf", "(I)I"⟩ : MethodName) jdk_42_method_79_code 2 (some .int) ws (Rm 3 0 0 46) #[(.ref a0), (.int 63)] Z h0 (QP n0 h0 (some (.int (fiz3 y0 y1 y2)))) := by
  refine own_mf (C := "java/lang/String") rfl (plainFor_of_name pn_15) (fun m => efiz3 m a0) ?_
  intro p e s m below meth cd0 s₁ En hx hby hml hown hnm hZ X0 e0 hlk hrt go0
  have N0 := Fr.nil n0
  have K0 : Keep h0 h0 [] := Keep.refl _ _
  have go1 : Go p.tables e below s₁ (mkF m 3 #[rv a0, iv 63] [(.int 0), (.int 63), (.ref a0)]) En := by
    intro t k
    refine go0 _ ?_
    refine XS.aloadN X0.here hx rfl (hb hby d6_0) rfl rfl ?_
    refine XS.iloadN X0.here hx rfl (hb hby d6_1) rfl ?_
    refine XS.iconst X0.here hx rfl (hb hby d6_2) ?_
    exact k
  obtain ⟨_, T2, Lc2, X2, hQ2, st2⟩ := own_cv X0 hx hZ hown hml go1 (hb hby d6_3) e0 (hw _ (mi 36 rfl)) (own_site196 hw) E_a0 (rmiy3 l Z aZ hw [] a0 _ _ y0 y1 y2 _ h0 n0 Z0 E_a0 F_a0_coder F_a0_value V_w_a0_value S_COMPACT_STRINGS hcs) (by decide) (argsL := [(.int 63), (.int 0)]) (rest := []) rfl rfl rfl (lenOf pd_161 rfl) (W := 0) rfl (by decide) (by decide) (by decide : 0 + 0 ≤ _) (by decide : 0 + 0 ≤ _)
  obtain ⟨rfl, N2q, e2⟩ := hQ2
  have N2 := Fr.app N0 N2q
  refine own_out (w := (.int (fiy3 y0 y1 y2))) X2 hx hlk st2 hrt rfl (Or.inl ⟨rfl, Or.inl rfl, _, rfl⟩) (hb hby d6_6) e2 (by decide) (by decide) ?_
  exact ⟨by rw [fiz3], N2, rfl⟩
def fic4 (y0 : Int32) (y1 : Int32) (y2 : Int32) (y3 : Int32) : Int32 := (if y0 = (63 : Int32) then (0 : Int32) else (if y1 = (63 : Int32) then (1 : Int32) else (if y2 = (63 : Int32) then (2 : Int32) else (if y3 = (63 : Int32) then (3 : Int32) else (-1 : Int32)))))
theorem efic4 (m : MethodId) (a0 : Addr) : entryFrame m #[(.ref a0), (.int (63 : Int32)), (.int (0 : Int32)), (.int (4 : Int32))] 6 = mkF m 0 #[rv a0, iv (63 : Int32), iv (0 : Int32), iv (4 : Int32), .unset, .unset] [] := by first | (simp [entryFrame, mkF, argsToLocals, Value.category]; done) | rfl
abbrev Lic4_0 (a0 : Addr) : Array Slot := #[rv a0, iv 63, iv 0, iv 4, iv 63, iv 0]
abbrev Lic4_1 (a0 : Addr) : Array Slot := #[rv a0, iv 63, iv 0, iv 4, iv 63, iv 1]
abbrev Lic4_2 (a0 : Addr) : Array Slot := #[rv a0, iv 63, iv 0, iv 4, iv 63, iv 2]
abbrev Lic4_3 (a0 : Addr) : Array Slot := #[rv a0, iv 63, iv 0, iv 4, iv 63, iv 3]
set_option maxRecDepth 65536 in
set_option maxHeartbeats 40000000 in
theorem rmic4 (l : Launch) (Z : State) (aZ : Array Value) (hw : HW aZ Z) (ws : List Jvm.Cond) (a0 : Addr) (k_a0 : ClassId) (y0 : Int32) (y1 : Int32) (y2 : Int32) (y3 : Int32) (h0 : Heap) (n0 : Nat) (Z0 : n0 ≤ h0.size) (V_a0 : Arv Z h0 a0 k_a0 .byte (4 : Int32) [(.int y0), (.int y1), (.int y2), (.int y3)] (.int 0)) :
    MFn l (⟨"java/lang/StringLatin1", "indexOfChar", "([BIII)I"⟩ : MethodName) jdk_43_method_23_code 6 (some .int) ws (Rm 0 0 0 0) #[(.ref a0), (.int 63), (.int 0), (.int 4)] Z h0 (QP n0 h0 (some (.int (fic4 y0 y1 y2 y3)))) := by
  refine own_mf (C := "java/lang/StringLatin1") rfl (plainFor_of_name pn_128) (fun m => efic4 m a0) ?_
  intro p e s m below meth cd0 s₁ En hx hby hml hown hnm hZ X0 e0 hlk hrt go0
  have N0 := Fr.nil n0
  have K0 : Keep h0 h0 [] := Keep.refl _ _
  obtain ⟨cl1, Ar1, q1, S1, N1, H1, G1⟩ := id V_a0
  have go2 : Go p.tables e below s₁ (mkF m 19 (Lic4_0 a0) [(.int 63), (.int y0)]) En := by
    intro t k
    refine go0 _ ?_
    refine XS.iloadN X0.here hx rfl (hb hby d18_0) rfl ?_
    refine XS.i2b X0.here hx rfl (hb hby d18_1) rfl ?_
    show Steps _ _ _ (s₁.setTop (mkF m 2 #[rv a0, iv 63, iv 0, iv 4, .unset, .unset] [(.int (63 : Int32).toInt8.toInt32)])) _
    rw [(by decide : (63 : Int32).toInt8.toInt32 = (63 : Int32))]
    refine XS.istore X0.here hx rfl (hb hby d18_2) rfl (l' := #[rv a0, iv 63, iv 0, iv 4, iv 63, .unset]) rfl ?_
    refine XS.iloadN X0.here hx rfl (hb hby d18_4) rfl ?_
    refine XS.istore X0.here hx rfl (hb hby d18_5) rfl (l' := (Lic4_0 a0)) rfl ?_
    refine XS.iload X0.here hx rfl (hb hby d18_7) rfl ?_
    show Steps _ _ _ (s₁.setTop (mkF m 9 (Lic4_0 a0) [(.int 0)])) _
    refine XS.iloadN X0.here hx rfl (hb hby d18_9) rfl ?_
    refine XS.icmpNo X0.here hx rfl (hb hby d18_10) rfl (XT.ii_ge_f (by decide : ((0 : Int32) < (4 : Int32)))) ?_
    refine XS.aloadN X0.here hx rfl (hb hby d18_13) rfl rfl ?_
    refine XS.iload X0.here hx rfl (hb hby d18_14) rfl ?_
    refine X0.baloadBytes hx (j := (0 : Int32)) (v := (.int y0)) (by rw [e0]; exact Ar1.1) (State.isArrayOf_alike hZ.alike Ar1.2.1) Ar1.2.2 (inb_of S1 ⟨by decide, by decide⟩) (Has.at H1 (inb_of S1 ⟨by decide, by decide⟩) rfl) (g := (mkF m 16 (Lic4_0 a0) [(.int 0), (.ref a0)])) rfl rfl (hb hby d18_16) _ ?_
    show Steps _ _ _ (s₁.setTop (mkF m 17 (Lic4_0 a0) [(.int y0)])) _
    refine XS.iload X0.here hx rfl (hb hby d18_17) rfl ?_
    exact k
  by_cases hs3 : y0 = (63 : Int32)
  · have go4 : Go p.tables e below s₁ (mkF m 24 (Lic4_0 a0) [(.int 0)]) En := by
      intro t k
      refine go2 _ ?_
      refine XS.icmpNo X0.here hx rfl (hb hby d18_19) rfl (XT.ii_ne_f hs3) ?_
      refine XS.iload X0.here hx rfl (hb hby d18_22) rfl ?_
      exact k
    refine own_out (w := (.int 0)) X0 hx hlk go4 hrt rfl (Or.inl ⟨rfl, Or.inl rfl, _, rfl⟩) (hb hby d18_24) e0 (by decide) (by decide) ?_
    exact ⟨by rw [fic4, if_pos hs3], N0, rfl⟩
  have go5 : Go p.tables e below s₁ (mkF m 19 (Lic4_1 a0) [(.int 63), (.int y1)]) En := by
    intro t k
    refine go2 _ ?_
    refine XS.icmpYes X0.here hx rfl (pc0 := 19) (pc' := 25) rfl (hb hby d18_19) rfl (XT.ii_ne_t hs3) (by decide) (by decide) ?_
    refine XS.iinc X0.here hx rfl (hb hby d18_25) rfl (l' := (Lic4_1 a0)) rfl ?_
    refine XS.goto X0.here hx rfl (pc0 := 28) (pc' := 7) rfl (hb hby d18_28) (by decide) (by decide) ?_
    refine XS.iload X0.here hx rfl (hb hby d18_7) rfl ?_
    refine XS.iloadN X0.here hx rfl (hb hby d18_9) rfl ?_
    show Steps _ _ _ (s₁.setTop (mkF m 10 (Lic4_1 a0) [(.int 4), (.int 1)])) _
    refine XS.icmpNo X0.here hx rfl (hb hby d18_10) rfl (XT.ii_ge_f (by decide : ((1 : Int32) < (4 : Int32)))) ?_
    refine XS.aloadN X0.here hx rfl (hb hby d18_13) rfl rfl ?_
    refine XS.iload X0.here hx rfl (hb hby d18_14) rfl ?_
    refine X0.baloadBytes hx (j := (1 : Int32)) (v := (.int y1)) (by rw [e0]; exact Ar1.1) (State.isArrayOf_alike hZ.alike Ar1.2.1) Ar1.2.2 (inb_of S1 ⟨by decide, by decide⟩) (Has.at H1 (inb_of S1 ⟨by decide, by decide⟩) rfl) (g := (mkF m 16 (Lic4_1 a0) [(.int 1), (.ref a0)])) rfl rfl (hb hby d18_16) _ ?_
    refine XS.iload X0.here hx rfl (hb hby d18_17) rfl ?_
    show Steps _ _ _ (s₁.setTop (mkF m 19 (Lic4_1 a0) [(.int 63), (.int y1)])) _
    exact k
  by_cases hs6 : y1 = (63 : Int32)
  · have go7 : Go p.tables e below s₁ (mkF m 24 (Lic4_1 a0) [(.int 1)]) En := by
      intro t k
      refine go5 _ ?_
      refine XS.icmpNo X0.here hx rfl (hb hby d18_19) rfl (XT.ii_ne_f hs6) ?_
      refine XS.iload X0.here hx rfl (hb hby d18_22) rfl ?_
      exact k
    refine own_out (w := (.int 1)) X0 hx hlk go7 hrt rfl (Or.inl ⟨rfl, Or.inl rfl, _, rfl⟩) (hb hby d18_24) e0 (by decide) (by decide) ?_
    exact ⟨by rw [fic4, if_neg hs3, if_pos hs6], N0, rfl⟩
  have go8 : Go p.tables e below s₁ (mkF m 19 (Lic4_2 a0) [(.int 63), (.int y2)]) En := by
    intro t k
    refine go5 _ ?_
    refine XS.icmpYes X0.here hx rfl (pc0 := 19) (pc' := 25) rfl (hb hby d18_19) rfl (XT.ii_ne_t hs6) (by decide) (by decide) ?_
    refine XS.iinc X0.here hx rfl (hb hby d18_25) rfl (l' := (Lic4_2 a0)) rfl ?_
    refine XS.goto X0.here hx rfl (pc0 := 28) (pc' := 7) rfl (hb hby d18_28) (by decide) (by decide) ?_
    refine XS.iload X0.here hx rfl (hb hby d18_7) rfl ?_
    refine XS.iloadN X0.here hx rfl (hb hby d18_9) rfl ?_
    show Steps _ _ _ (s₁.setTop (mkF m 10 (Lic4_2 a0) [(.int 4), (.int 2)])) _
    refine XS.icmpNo X0.here hx rfl (hb hby d18_10) rfl (XT.ii_ge_f (by decide : ((2 : Int32) < (4 : Int32)))) ?_
    refine XS.aloadN X0.here hx rfl (hb hby d18_13) rfl rfl ?_
    refine XS.iload X0.here hx rfl (hb hby d18_14) rfl ?_
    refine X0.baloadBytes hx (j := (2 : Int32)) (v := (.int y2)) (by rw [e0]; exact Ar1.1) (State.isArrayOf_alike hZ.alike Ar1.2.1) Ar1.2.2 (inb_of S1 ⟨by decide, by decide⟩) (Has.at H1 (inb_of S1 ⟨by decide, by decide⟩) rfl) (g := (mkF m 16 (Lic4_2 a0) [(.int 2), (.ref a0)])) rfl rfl (hb hby d18_16) _ ?_
    refine XS.iload X0.here hx rfl (hb hby d18_17) rfl ?_
    show Steps _ _ _ (s₁.setTop (mkF m 19 (Lic4_2 a0) [(.int 63), (.int y2)])) _
    exact k
  by_cases hs9 : y2 = (63 : Int32)
  · have go10 : Go p.tables e below s₁ (mkF m 24 (Lic4_2 a0) [(.int 2)]) En := by
      intro t k
      refine go8 _ ?_
      refine XS.icmpNo X0.here hx rfl (hb hby d18_19) rfl (XT.ii_ne_f hs9) ?_
      refine XS.iload X0.here hx rfl (hb hby d18_22) rfl ?_
      exact k
    refine own_out (w := (.int 2)) X0 hx hlk go10 hrt rfl (Or.inl ⟨rfl, Or.inl rfl, _, rfl⟩) (hb hby d18_24) e0 (by decide) (by decide) ?_
    exact ⟨by rw [fic4, if_neg hs3, if_neg hs6, if_pos hs9], N0, rfl⟩
  have go11 : Go p.tables e below s₁ (mkF m 19 (Lic4_3 a0) [(.int 63), (.int y3)]) En := by
    intro t k
    refine go8 _ ?_
    refine XS.icmpYes X0.here hx rfl (pc0 := 19) (pc' := 25) rfl (hb hby d18_19) rfl (XT.ii_ne_t hs9) (by decide) (by decide) ?_
    refine XS.iinc X0.here hx rfl (hb hby d18_25) rfl (l' := (Lic4_3 a0)) rfl ?_
    refine XS.goto X0.here hx rfl (pc0 := 28) (pc' := 7) rfl (hb hby d18_28) (by decide) (by decide) ?_
    refine XS.iload X0.here hx rfl (hb hby d18_7) rfl ?_
    refine XS.iloadN X0.here hx rfl (hb hby d18_9) rfl ?_
    show Steps _ _ _ (s₁.setTop (mkF m 10 (Lic4_3 a0) [(.int 4), (.int 3)])) _
    refine XS.icmpNo X0.here hx rfl (hb hby d18_10) rfl (XT.ii_ge_f (by decide : ((3 : Int32) < (4 : Int32)))) ?_
    refine XS.aloadN X0.here hx rfl (hb hby d18_13) rfl rfl ?_
    refine XS.iload X0.here hx rfl (hb hby d18_14) rfl ?_
    refine X0.baloadBytes hx (j := (3 : Int32)) (v := (.int y3)) (by rw [e0]; exact Ar1.1) (State.isArrayOf_alike hZ.alike Ar1.2.1) Ar1.2.2 (inb_of S1 ⟨by decide, by decide⟩) (Has.at H1 (inb_of S1 ⟨by decide, by decide⟩) rfl) (g := (mkF m 16 (Lic4_3 a0) [(.int 3), (.ref a0)])) rfl rfl (hb hby d18_16) _ ?_
    refine XS.iload X0.here hx rfl (hb hby d18_17) rfl ?_
    show Steps _ _ _ (s₁.setTop (mkF m 19 (Lic4_3 a0) [(.int 63), (.int y3)])) _
    exact k
  by_cases hs12 : y3 = (63 : Int32)
  · have go13 : Go p.tables e below s₁ (mkF m 24 (Lic4_3 a0) [(.int 3)]) En := by
      intro t k
      refine go11 _ ?_
      refine XS.icmpNo X0.here hx rfl (hb hby d18_19) rfl (XT.ii_ne_f hs12) ?_
      refine XS.iload X0.here hx rfl (hb hby d18_22) rfl ?_
      exact k
    refine own_out (w := (.int 3)) X0 hx hlk go13 hrt rfl (Or.inl ⟨rfl, Or.inl rfl, _, rfl⟩) (hb hby d18_24) e0 (by decide) (by decide) ?_
    exact ⟨by rw [fic4, if_neg hs3, if_neg hs6, if_neg hs9, if_pos hs12], N0, rfl⟩
  have go14 : Go p.tables e below s₁ (mkF m 32 #[rv a0, iv 63, iv 0, iv 4, iv 63, iv 4] [(.int (-1))]) En := by
    intro t k
    refine go11 _ ?_
    refine XS.icmpYes X0.here hx rfl (pc0 := 19) (pc' := 25) rfl (hb hby d18_19) rfl (XT.ii_ne_t hs12) (by decide) (by decide) ?_
    refine XS.iinc X0.here hx rfl (hb hby d18_25) rfl (l' := #[rv a0, iv 63, iv 0, iv 4, iv 63, iv 4]) rfl ?_
    refine XS.goto X0.here hx rfl (pc0 := 28) (pc' := 7) rfl (hb hby d18_28) (by decide) (by decide) ?_
    refine XS.iload X0.here hx rfl (hb hby d18_7) rfl ?_
    refine XS.iloadN X0.here hx rfl (hb hby d18_9) rfl ?_
    show Steps _ _ _ (s₁.setTop (mkF m 10 #[rv a0, iv 63, iv 0, iv 4, iv 63, iv 4] [(.int 4), (.int 4)])) _
    refine XS.icmpYes X0.here hx rfl (pc0 := 10) (pc' := 31) rfl (hb hby d18_10) rfl (XT.ii_ge_t (by decide : ¬ ((4 : Int32) < (4 : Int32)))) (by decide) (by decide) ?_
    refine XS.iconst X0.here hx rfl (hb hby d18_31) ?_
    exact k
  refine own_out (w := (.int (-1))) X0 hx hlk go14 hrt rfl (Or.inl ⟨rfl, Or.inl rfl, _, rfl⟩) (hb hby d18_32) e0 (by decide) (by decide) ?_
  exact ⟨by rw [fic4, if_neg hs3, if_neg hs6, if_neg hs9, if_neg hs12], N0, rfl⟩
def fix4 (y0 : Int32) (y1 : Int32) (y2 : Int32) (y3 : Int32) : Int32 := (fic4 y0 y1 y2 y3)
theorem efix4 (m : MethodId) (a0 : Addr) : entryFrame m #[(.ref a0), (.int (63 : Int32)), (.int (0 : Int32)), (.int (4 : Int32))] 4 = mkF m 0 #[rv a0, iv (63 : Int32), iv (0 : Int32), iv (4 : Int32)] [] := by first | (simp [entryFrame, mkF, argsToLocals, Value.category]; done) | rfl
abbrev Lix4_0 (a0 : Addr) : Array Slot := #[rv a0, iv 63, iv 0, iv 4]
set_option maxRecDepth 65536 in
set_option maxHeartbeats 40000000 in
theorem rmix4 (l : Launch) (Z : State) (aZ : Array Value) (hw : HW aZ Z) (ws : List Jvm.Cond) (a0 : Addr) (k_a0 : ClassId) (y0 : Int32) (y1 : Int32) (y2 : Int32) (y3 : Int32) (h0 : Heap) (n0 : Nat) (Z0 : n0 ≤ h0.size) (V_a0 : Arv Z h0 a0 k_a0 .byte (4 : Int32) [(.int y0), (.int y1), (.int y2), (.int y3)] (.int 0)) :
    MFn l (⟨"java/lang/StringLatin1", "indexOf", "([BIII)I"⟩ : MethodName) jdk_43_method_22_code 4 (some .int) ws (Rm 1 0 0 17) #[(.ref a0), (.int 63), (.int 0), (.int 4)] Z h0 (QP n0 h0 (some (.int (fix4 y0 y1 y2 y3)))) := by
  refine own_mf (C := "java/lang/StringLatin1") rfl (plainFor_of_name pn_128) (fun m => efix4 m a0) ?_
  intro p e s m below meth cd0 s₁ En hx hby hml hown hnm hZ X0 e0 hlk hrt go0
  have N0 := Fr.nil n0
  have K0 : Keep h0 h0 [] := Keep.refl _ _
  have go1 : Go p.tables e below s₁ (mkF m 1 (Lix4_0 a0) [(.int 63)]) En := by
    intro t k
    refine go0 _ ?_
    refine XS.iloadN X0.here hx rfl (hb hby d11_0) rfl ?_
    exact k
  obtain ⟨_, T2, Lc2, X2, hQ2, st2⟩ := own_cs X0 hx hZ hown hml go1 (hb hby d11_1) e0 (hw _ (mi 61 rfl)) (own_site154 hw) (rmce l Z aZ hw []  h0 n0 Z0 ) (by decide) (argsL := [(.int 63)]) (rest := []) rfl rfl rfl (lenOf pd_155 rfl) (W := 0) rfl (by decide) (by decide) (by decide : 0 + 0 ≤ _) (by decide : 0 + 0 ≤ _)
  obtain ⟨rfl, N2q, e2⟩ := hQ2
  have N2 := Fr.app N0 N2q
  have go3 : Go p.tables e below T2 (mkF m 11 (Lix4_0 a0) [(.int 0), (.int 0)]) En := by
    intro t k
    refine st2 _ ?_
    refine XS.ifYes X2.here hx rfl (pc0 := 4) (pc' := 9) rfl (hb hby d11_4) rfl (XT.i0_ne_t (by decide : ¬ ((1 : Int32) = (0 : Int32)))) (by decide) (by decide) ?_
    refine XS.iloadN X2.here hx rfl (hb hby d11_9) rfl ?_
    refine XS.iconst X2.here hx rfl (hb hby d11_10) ?_
    exact k
  obtain ⟨_, T4, Lc4, X4, hQ4, st4⟩ := own_cs X2 hx hZ hown hml go3 (hb hby d11_11) e2 (hw _ (mi 64 rfl)) (own_site160 hw) (rmmx l Z aZ hw []  h0 n0 Z0 ) (by decide) (argsL := [(.int 0), (.int 0)]) (rest := []) rfl rfl rfl (lenOf pd_161 rfl) (W := 0) rfl (by decide) (by decide) (by decide : 0 + 0 ≤ _) (by decide : 0 + 0 ≤ _)
  obtain ⟨rfl, N4q, e4⟩ := hQ4
  have N4 := Fr.app N2 N4q
  obtain ⟨cl5, Ar5, q5, S5, N5, H5, G5⟩ := id V_a0
  have go6 : Go p.tables e below T4 (mkF m 18 (Lix4_0 a0) [(.int 4), (.int 4)]) En := by
    intro t k
    refine st4 _ ?_
    refine XS.istoreN X4.here hx rfl (hb hby d11_14) rfl (l' := (Lix4_0 a0)) rfl ?_
    refine XS.iloadN X4.here hx rfl (hb hby d11_15) rfl ?_
    refine XS.aloadN X4.here hx rfl (hb hby d11_16) rfl rfl ?_
    refine X4.arraylength hx (by rw [e4]; exact Ar5.1) (State.isArrayOf_alike hZ.alike Ar5.2.1) (g := (mkF m 17 (Lix4_0 a0) [(.ref a0), (.int 4)])) rfl rfl (hb hby d11_17) _ ?_
    rw [len_of S5 N5]
    show Steps _ _ _ (T4.setTop (mkF m 18 (Lix4_0 a0) [(.int 4), (.int 4)])) _
    exact k
  obtain ⟨_, T7, Lc7, X7, hQ7, st7⟩ := own_cs X4 hx hZ hown hml go6 (hb hby d11_18) e4 (hw _ (mi 68 rfl)) (own_site167 hw) (rmmn l Z aZ hw [] (4 : Int32) h0 n0 Z0 ) (by decide) (argsL := [(.int 4), (.int 4)]) (rest := []) rfl rfl rfl (lenOf pd_161 rfl) (W := 0) rfl (by decide) (by decide) (by decide : 0 + 0 ≤ _) (by decide : 0 + 0 ≤ _)
  obtain ⟨rfl, N7q, e7⟩ := hQ7
  have N7 := Fr.app N4 N7q
  have go8 : Go p.tables e below T7 (mkF m 33 (Lix4_0 a0) [(.int 4), (.int 0), (.int 63), (.ref a0)]) En := by
    intro t k
    refine st7 _ ?_
    refine XS.istoreN X7.here hx rfl (hb hby d11_21) rfl (l' := (Lix4_0 a0)) rfl ?_
    refine XS.iloadN X7.here hx rfl (hb hby d11_22) rfl ?_
    refine XS.iloadN X7.here hx rfl (hb hby d11_23) rfl ?_
    refine XS.icmpYes X7.here hx rfl (pc0 := 24) (pc' := 29) rfl (hb hby d11_24) rfl (XT.ii_lt_t (by decide : ((0 : Int32) < (4 : Int32)))) (by decide) (by decide) ?_
    refine XS.aloadN X7.here hx rfl (hb hby d11_29) rfl rfl ?_
    show Steps _ _ _ (T7.setTop (mkF m 30 (Lix4_0 a0) [(.ref a0)])) _
    refine XS.iloadN X7.here hx rfl (hb hby d11_30) rfl ?_
    refine XS.iloadN X7.here hx rfl (hb hby d11_31) rfl ?_
    refine XS.iloadN X7.here hx rfl (hb hby d11_32) rfl ?_
    exact k
  obtain ⟨_, T9, Lc9, X9, hQ9, st9⟩ := own_cs X7 hx hZ hown hml go8 (hb hby d11_33) e7 (hw _ (mi 81 rfl)) (own_site222 hw) (rmic4 l Z aZ hw [] a0 _ y0 y1 y2 y3 h0 n0 Z0 V_a0) (by decide) (argsL := [(.ref a0), (.int 63), (.int 0), (.int 4)]) (rest := []) rfl rfl rfl (lenOf pd_189 rfl) (W := 0) rfl (by decide) (by decide) (by decide : 0 + 0 ≤ _) (by decide : 0 + 0 ≤ _)
  obtain ⟨rfl, N9q, e9⟩ := hQ9
  have N9 := Fr.app N7 N9q
  refine own_out (w := (.int (fic4 y0 y1 y2 y3))) X9 hx hlk st9 hrt rfl (Or.inl ⟨rfl, Or.inl rfl, _, rfl⟩) (hb hby d11_36) e9 (by decide) (by decide) ?_
  exact ⟨by rw [fix4], N9, rfl⟩
def fiy4 (y0 : Int32) (y1 : Int32) (y2 : Int32) (y3 : Int32) : Int32 := (fix4 y0 y1 y2 y3)
theorem efiy4 (m : MethodId) (a0 : Addr) : entryFrame m #[(.ref a0), (.int (63 : Int32)), (.int (0 : Int32))] 3 = mkF m 0 #[rv a0, iv (63 : Int32), iv (0 : Int32)] [] := by first | (simp [entryFrame, mkF, argsToLocals, Value.category]; done) | rfl
set_option maxRecDepth 65536 in
set_option maxHeartbeats 40000000 in
theorem rmiy4 (l : Launch) (Z : State) (aZ : Array Value) (hw : HW aZ Z) (ws : List Jvm.Cond) (a0 : Addr) (w_a0_value : Addr) (k_w_a0_value : ClassId) (y0 : Int32) (y1 : Int32) (y2 : Int32) (y3 : Int32) (s_COMPACT_STRINGS : Int32) (h0 : Heap) (n0 : Nat) (Z0 : n0 ≤ h0.size) (E_a0 : Est Z h0 a0) (F_a0_coder : Fcd Z h0 a0 (.int 0)) (F_a0_value : Fvl Z h0 a0 (.ref w_a0_value)) (V_w_a0_value : Arv Z h0 w_a0_value k_w_a0_value .byte (4 : Int32) [(.int y0), (.int y1), (.int y2), (.int y3)] (.int 0)) (S_COMPACT_STRINGS : SfC Z h0 (.int s_COMPACT_STRINGS)) (hcs : ¬ s_COMPACT_STRINGS = (0 : Int32)) :
    MFn l (⟨"java/lang/String", "indexOf", "(II)I"⟩ : MethodName) jdk_42_method_80_code 3 (some .int) ws (Rm 2 0 0 32) #[(.ref a0), (.int 63), (.int 0)] Z h0 (QP n0 h0 (some (.int (fiy4 y0 y1 y2 y3)))) := by
  refine own_mf (C := "java/lang/String") rfl (plainFor_of_name pn_15) (fun m => efiy4 m a0) ?_
  intro p e s m below meth cd0 s₁ En hx hby hml hown hnm hZ X0 e0 hlk hrt go0
  have N0 := Fr.nil n0
  have K0 : Keep h0 h0 [] := Keep.refl _ _
  have go1 : Go p.tables e below s₁ (mkF m 1 #[rv a0, iv 63, iv 0] [(.ref a0)]) En := by
    intro t k
    refine go0 _ ?_
    refine XS.aloadN X0.here hx rfl (hb hby d7_0) rfl rfl ?_
    exact k
  obtain ⟨_, T2, Lc2, X2, hQ2, st2⟩ := own_cv X0 hx hZ hown hml go1 (hb hby d7_1) e0 (hw _ (mi 41 rfl)) (own_site176 hw) E_a0 (rmil l Z aZ hw [] a0 _ h0 n0 Z0 S_COMPACT_STRINGS hcs F_a0_coder) (by decide) (argsL := []) (rest := []) rfl rfl rfl (lenOf pd_177 rfl) (W := 0) rfl (by decide) (by decide) (by decide : 0 + 0 ≤ _) (by decide : 0 + 0 ≤ _)
  obtain ⟨rfl, N2q, e2⟩ := hQ2
  have N2 := Fr.app N0 N2q
  have go3 : Go p.tables e below T2 (mkF m 8 #[rv a0, iv 63, iv 0] [(.ref a0)]) En := by
    intro t k
    refine st2 _ ?_
    refine XS.ifNo X2.here hx rfl (hb hby d7_4) rfl (XT.i0_eq_f (by decide : ¬ ((1 : Int32) = (0 : Int32)))) ?_
    refine XS.aloadN X2.here hx rfl (hb hby d7_7) rfl rfl ?_
    exact k
  obtain ⟨T4, X4, e4, st4⟩ := getF X2 hx hZ hown (host := "") (Or.inl (hw _ (mi 25 rfl))) Via.refl e2 F_a0_value (g := (mkF m 8 #[rv a0, iv 63, iv 0] [(.ref a0)])) rfl rfl (hb hby d7_8)
  have go5 := gap go3 st4
  have go6 : Go p.tables e below T4 (mkF m 14 #[rv a0, iv 63, iv 0] [(.ref a0), (.int 0), (.int 63), (.ref w_a0_value)]) En := by
    intro t k
    refine go5 _ ?_
    refine XS.iloadN X4.here hx rfl (hb hby d7_11) rfl ?_
    refine XS.iloadN X4.here hx rfl (hb hby d7_12) rfl ?_
    refine XS.aloadN X4.here hx rfl (hb hby d7_13) rfl rfl ?_
    exact k
  obtain ⟨_, T7, Lc7, X7, hQ7, st7⟩ := own_cv X4 hx hZ hown hml go6 (hb hby d7_14) e4 (hw _ (mi 47 rfl)) (own_site185 hw) E_a0 (rmln l Z aZ hw [] a0 _ _ _ _ _ h0 n0 Z0 E_a0 F_a0_coder F_a0_value V_w_a0_value S_COMPACT_STRINGS hcs) (by decide) (argsL := []) (rest := [(.int 0), (.int 63), (.ref w_a0_value)]) rfl rfl rfl (lenOf pd_186 rfl) (W := 3) rfl (by decide) (by decide) (by decide : 0 + 0 ≤ _) (by decide : 0 + 0 ≤ _)
  obtain ⟨rfl, N7q, e7⟩ := hQ7
  have N7 := Fr.app N2 N7q
  obtain ⟨_, T8, Lc8, X8, hQ8, st8⟩ := own_cs X7 hx hZ hown hml st7 (hb hby d7_17) e7 (hw _ (mi 57 rfl)) (own_site188 hw) (rmix4 l Z aZ hw [] _ _ y0 y1 y2 y3 h0 n0 Z0 V_w_a0_value) (by decide) (argsL := [(.ref w_a0_value), (.int 63), (.int 0), (.int 4)]) (rest := []) rfl rfl rfl (lenOf pd_189 rfl) (W := 0) rfl (by decide) (by decide) (by decide : 0 + 0 ≤ _) (by decide : 0 + 0 ≤ _)
  obtain ⟨rfl, N8q, e8⟩ := hQ8
  have N8 := Fr.app N7 N8q
  have go9 : Go p.tables e below T8 (mkF m 36 #[rv a0, iv 63, iv 0] [(.int (fix4 y0 y1 y2 y3))]) En := by
    intro t k
    refine st8 _ ?_
    refine XS.goto X8.here hx rfl (pc0 := 20) (pc' := 36) rfl (hb hby d7_20) (by decide) (by decide) ?_
    exact k
  refine own_out (w := (.int (fix4 y0 y1 y2 y3))) X8 hx hlk go9 hrt rfl (Or.inl ⟨rfl, Or.inl rfl, _, rfl⟩) (hb hby d7_36) e8 (by decide) (by decide) ?_
  exact ⟨by rw [fiy4], N8, rfl⟩
def fiz4 (y0 : Int32) (y1 : Int32) (y2 : Int32) (y3 : Int32) : Int32 := (fiy4 y0 y1 y2 y3)
theorem efiz4 (m : MethodId) (a0 : Addr) : entryFrame m #[(.ref a0), (.int (63 : Int32))] 2 = mkF m 0 #[rv a0, iv (63 : Int32)] [] := by first | (simp [entryFrame, mkF, argsToLocals, Value.category]; done) | rfl
set_option maxRecDepth 65536 in
set_option maxHeartbeats 40000000 in
theorem rmiz4 (l : Launch) (Z : State) (aZ : Array Value) (hw : HW aZ Z) (ws : List Jvm.Cond) (a0 : Addr) (w_a0_value : Addr) (k_w_a0_value : ClassId) (y0 : Int32) (y1 : Int32) (y2 : Int32) (y3 : Int32) (s_COMPACT_STRINGS : Int32) (h0 : Heap) (n0 : Nat) (Z0 : n0 ≤ h0.size) (E_a0 : Est Z h0 a0) (F_a0_coder : Fcd Z h0 a0 (.int 0)) (F_a0_value : Fvl Z h0 a0 (.ref w_a0_value)) (V_w_a0_value : Arv Z h0 w_a0_value k_w_a0_value .byte (4 : Int32) [(.int y0), (.int y1), (.int y2), (.int y3)] (.int 0)) (S_COMPACT_STRINGS : SfC Z h0 (.int s_COMPACT_STRINGS)) (hcs : ¬ s_COMPACT_STRINGS = (0 : Int32)) :
    MFn l (⟨"java/lang/String", "indexOf", "(I)I"⟩ : MethodName) jdk_42_method_79_code 2 (some .int) ws (Rm 3 0 0 46) #[(.ref a0), (.int 63)] Z h0 (QP n0 h0 (some (.int (fiz4 y0 y1 y2 y3)))) := by
  refine own_mf (C := "java/lang/String") rfl (plainFor_of_name pn_15) (fun m => efiz4 m a0) ?_
  intro p e s m below meth cd0 s₁ En hx hby hml hown hnm hZ X0 e0 hlk hrt go0
  have N0 := Fr.nil n0
  have K0 : Keep h0 h0 [] := Keep.refl _ _
  have go1 : Go p.tables e below s₁ (mkF m 3 #[rv a0, iv 63] [(.int 0), (.int 63), (.ref a0)]) En := by
    intro t k
    refine go0 _ ?_
    refine XS.aloadN X0.here hx rfl (hb hby d6_0) rfl rfl ?_
    refine XS.iloadN X0.here hx rfl (hb hby d6_1) rfl ?_
    refine XS.iconst X0.here hx rfl (hb hby d6_2) ?_
    exact k
  obtain ⟨_, T2, Lc2, X2, hQ2, st2⟩ := own_cv X0 hx hZ hown hml go1 (hb hby d6_3) e0 (hw _ (mi 36 rfl)) (own_site196 hw) E_a0 (rmiy4 l Z aZ hw [] a0 _ _ y0 y1 y2 y3 _ h0 n0 Z0 E_a0 F_a0_coder F_a0_value V_w_a0_value S_COMPACT_STRINGS hcs) (by decide) (argsL := [(.int 63), (.int 0)]) (rest := []) rfl rfl rfl (lenOf pd_161 rfl) (W := 0) rfl (by decide) (by decide) (by decide : 0 + 0 ≤ _) (by decide : 0 + 0 ≤ _)
  obtain ⟨rfl, N2q, e2⟩ := hQ2
  have N2 := Fr.app N0 N2q
  refine own_out (w := (.int (fiy4 y0 y1 y2 y3))) X2 hx hlk st2 hrt rfl (Or.inl ⟨rfl, Or.inl rfl, _, rfl⟩) (hb hby d6_6) e2 (by decide) (by decide) ?_
  exact ⟨by rw [fiz4], N2, rfl⟩
theorem d27_0 : decode jdk_42_method_151_code 0 = .ok (.aload_n 0, 1) := by decide +kernel
theorem d27_1 : decode jdk_42_method_151_code 1 = .ok (.invokespecial 1, 3) := by decide +kernel
theorem d27_4 : decode jdk_42_method_151_code 4 = .ok (.aload_n 0, 1) := by decide +kernel
theorem d27_5 : decode jdk_42_method_151_code 5 = .ok (.aload_n 1, 1) := by decide +kernel
theorem d27_6 : decode jdk_42_method_151_code 6 = .ok (.putfield 9, 3) := by decide +kernel
theorem d27_9 : decode jdk_42_method_151_code 9 = .ok (.aload_n 0, 1) := by decide +kernel
theorem d27_10 : decode jdk_42_method_151_code 10 = .ok (.iload_n 2, 1) := by decide +kernel
theorem d27_11 : decode jdk_42_method_151_code 11 = .ok (.putfield 15, 3) := by decide +kernel
theorem d27_14 : decode jdk_42_method_151_code 14 = .ok (.return_, 1) := by decide +kernel
def Qsi (Z : State) (n0 : Nat) (a0 : Addr) (a1 : Addr) (h0 : Heap) (v : Option Value) (h : Heap) (L : List Loc) : Prop := v = none ∧ Fr n0 L ∧ Keep h0 h [a0] ∧ Est Z h a0 ∧ Fvl Z h a0 (.ref a1) ∧ Fcd Z h a0 (.int (0 : Int32))
theorem efsi (m : MethodId) (a0 : Addr) (a1 : Addr) : entryFrame m #[(.ref a0), (.ref a1), (.int (0 : Int32))] 3 = mkF m 0 #[rv a0, rv a1, iv (0 : Int32)] [] := by first | (simp [entryFrame, mkF, argsToLocals, Value.category]; done) | rfl
set_option maxRecDepth 65536 in
set_option maxHeartbeats 40000000 in
theorem rmsi (l : Launch) (Z : State) (aZ : Array Value) (hw : HW aZ Z) (ws : List Jvm.Cond) (a0 : Addr) (a1 : Addr) (h0 : Heap) (n0 : Nat) (Z0 : n0 ≤ h0.size) (E_a0 : Est Z h0 a0) (F_a0_value : Fvl Z h0 a0 .null) (F_a0_coder : Fcd Z h0 a0 (.int 0)) (g_a0 : n0 ≤ a0) :
    MFn l (⟨"java/lang/String", "<init>", "([BB)V"⟩ : MethodName) jdk_42_method_151_code 3 none ws (Rm 1 0 0 12) #[(.ref a0), (.ref a1), (.int 0)] Z h0 (Qsi Z n0 a0 a1 h0) := by
  refine own_mf (C := "java/lang/String") rfl (plainFor_of_name pn_15) (fun m => efsi m a0 a1) ?_
  intro p e s m below meth cd0 s₁ En hx hby hml hown hnm hZ X0 e0 hlk hrt go0
  have N0 := Fr.nil n0
  have K0 : Keep h0 h0 [a0] := Keep.refl _ _
  have go1 : Go p.tables e below s₁ (mkF m 1 #[rv a0, rv a1, iv 0] [(.ref a0)]) En := by
    intro t k
    refine go0 _ ?_
    refine XS.aloadN X0.here hx rfl (hb hby d27_0) rfl rfl ?_
    exact k
  obtain ⟨T2, X2, e2, st2⟩ := initO X0 hx hZ hown (hw _ (mi 16 rfl)) (hw _ (mi 17 rfl)) (hw _ (mi 18 rfl)) e0 (g := (mkF m 1 #[rv a0, rv a1, iv 0] [(.ref a0)])) rfl (by rw [hml]; rfl) rfl (hb hby d27_1) (by decide) (W := 0) (by show 2 * 0 + _ ≤ _; exact Nat.le_of_eq rfl) (by decide)
  have go3 := gap go1 st2
  have go4 : Go p.tables e below T2 (mkF m 6 #[rv a0, rv a1, iv 0] [(.ref a1), (.ref a0)]) En := by
    intro t k
    refine go3 _ ?_
    refine XS.aloadN X2.here hx rfl (hb hby d27_4) rfl rfl ?_
    refine XS.aloadN X2.here hx rfl (hb hby d27_5) rfl rfl ?_
    exact k
  obtain ⟨T5, h5, X5, e5, W5, st5⟩ := putF X2 hx hZ hown (host := "") (Or.inl (hw _ (mi 25 rfl))) Via.refl e2 F_a0_value E_a0 (Or.inr ⟨(hw _ (mi 21 rfl)), rfl, hnm⟩) (hw _ (mi 7 rfl)) (ty := (.array .byte)) (by decide) rfl rfl (g := (mkF m 6 #[rv a0, rv a1, iv 0] [(.ref a1), (.ref a0)])) rfl rfl (hb hby d27_6)
  have go6 := gap go4 st5
  have N5 := Fr.snoc X5 N0 g_a0
  have K5 : Keep h0 h5 [a0] := K0.wr W5 (Or.inl (List.mem_of_getElem? (i := 0) rfl))
  have Zs5 : n0 ≤ h5.size := Nat.le_trans Z0 (Keep.of_wr W5).1
  have F7 : Fvl Z h5 a0 (.ref a1) := F_a0_value.same W5
  have F8 := F_a0_coder.other W5 (Or.inr (slot_ne (Or.inr (hw _ (mi 22 rfl))) (Or.inr (hw _ (mi 21 rfl))) (by decide) (t := .byte) (t' := (.array .byte)) (by decide) (by decide)))
  have go9 : Go p.tables e below T5 (mkF m 11 #[rv a0, rv a1, iv 0] [(.int 0), (.ref a0)]) En := by
    intro t k
    refine go6 _ ?_
    refine XS.aloadN X5.here hx rfl (hb hby d27_9) rfl rfl ?_
    refine XS.iloadN X5.here hx rfl (hb hby d27_10) rfl ?_
    exact k
  obtain ⟨T10, h10, X10, e10, W10, st10⟩ := putFN X5 hx hZ hown (hw _ (mi 26 rfl)) Via.refl e5 F8 (E_a0.keep K5) (Or.inr ⟨(hw _ (mi 22 rfl)), rfl, hnm⟩) (hw _ (mi 7 rfl)) (ty := .byte) (v' := (.int 0)) (by decide) rfl rfl (g := (mkF m 11 #[rv a0, rv a1, iv 0] [(.int 0), (.ref a0)])) rfl rfl (hb hby d27_11)
  have go11 := gap go9 st10
  have N10 := Fr.snoc X10 N5 g_a0
  have K10 : Keep h0 h10 [a0] := K5.wr W10 (Or.inl (List.mem_of_getElem? (i := 0) rfl))
  have Zs10 : n0 ≤ h10.size := Nat.le_trans Zs5 (Keep.of_wr W10).1
  have F12 := F7.other W10 (Or.inr (slot_ne (Or.inr (hw _ (mi 21 rfl))) (Or.inr (hw _ (mi 22 rfl))) (by decide) (t := (.array .byte)) (t' := .byte) (by decide) (by decide)))
  have F13 : Fcd Z h10 a0 (.int 0) := F8.same W10
  refine own_outV X10 hx hlk go11 hrt (hb hby d27_14) e10 (by decide) (by decide) ?_
  exact ⟨rfl, N10, K10, (E_a0.keep K10), F12, F13⟩
theorem d22_0 : decode jdk_41_method_12_code 0 = .ok (.iload_n 0, 1) := by decide +kernel
theorem d22_1 : decode jdk_41_method_12_code 1 = .ok (.ifCond .lt 13, 3) := by decide +kernel
theorem d22_4 : decode jdk_41_method_12_code 4 = .ok (.iload_n 0, 1) := by decide +kernel
theorem d22_5 : decode jdk_41_method_12_code 5 = .ok (.iload_n 1, 1) := by decide +kernel
theorem d22_6 : decode jdk_41_method_12_code 6 = .ok (.if_icmp .gt 8, 3) := by decide +kernel
theorem d22_9 : decode jdk_41_method_12_code 9 = .ok (.iload_n 1, 1) := by decide +kernel
theorem d22_10 : decode jdk_41_method_12_code 10 = .ok (.iload_n 2, 1) := by decide +kernel
theorem d22_11 : decode jdk_41_method_12_code 11 = .ok (.if_icmp .le 11, 3) := by decide +kernel
theorem d22_22 : decode jdk_41_method_12_code 22 = .ok (.iload_n 0, 1) := by decide +kernel
theorem d22_23 : decode jdk_41_method_12_code 23 = .ok (.ireturn, 1) := by decide +kernel
theorem pn_243 : plainName "jdk/internal/util/Preconditions" = true := by first | (simp [plainName, overriddenIn]; done) | decide +kernel
theorem efcf (m : MethodId) (p0 : Int32) (p1 : Int32) (p2 : Int32) (u3 : Value) (h0 : u3.isRef = true) : entryFrame m #[(.int p0), (.int p1), (.int p2), u3] 4 = mkF m 0 #[iv p0, iv p1, iv p2, .val u3] [] := by rcases XT.refc h0 with rfl | ⟨_, rfl⟩ <;> first | (simp [entryFrame, mkF, argsToLocals, Value.category]; done) | rfl
set_option maxRecDepth 65536 in
set_option maxHeartbeats 40000000 in
theorem rmcf (l : Launch) (Z : State) (aZ : Array Value) (hw : HW aZ Z) (ws : List Jvm.Cond) (p0 : Int32) (p1 : Int32) (p2 : Int32) (u3 : Value) (h0 : Heap) (n0 : Nat) (Z0 : n0 ≤ h0.size) (hu : u3.isRef = true) (hf0 : ¬ p0 < (0 : Int32)) (hf1 : ¬ p1 < p0) (hf2 : ¬ p2 < p1) :
    MFn l (⟨"jdk/internal/util/Preconditions", "checkFromToIndex", "(IIILjava/util/function/BiFunction;)I"⟩ : MethodName) jdk_41_method_12_code 4 (some .int) ws (Rm 0 0 0 0) #[(.int p0), (.int p1), (.int p2), u3] Z h0 (QP n0 h0 (some (.int p0))) := by
  refine own_mf (C := "jdk/internal/util/Preconditions") rfl (plainFor_of_name pn_243) (fun m => efcf m p0 p1 p2 u3 hu) ?_
  intro p e s m below meth cd0 s₁ En hx hby hml hown hnm hZ X0 e0 hlk hrt go0
  have N0 := Fr.nil n0
  have K0 : Keep h0 h0 [] := Keep.refl _ _
  have go1 : Go p.tables e below s₁ (mkF m 23 #[iv p0, iv p1, iv p2, .val u3] [(.int p0)]) En := by
    intro t k
    refine go0 _ ?_
    refine XS.iloadN X0.here hx rfl (hb hby d22_0) rfl ?_
    refine XS.ifNo X0.here hx rfl (hb hby d22_1) rfl (XT.i0_lt_f hf0) ?_
    refine XS.iloadN X0.here hx rfl (hb hby d22_4) rfl ?_
    refine XS.iloadN X0.here hx rfl (hb hby d22_5) rfl ?_
    refine XS.icmpNo X0.here hx rfl (hb hby d22_6) rfl (XT.ii_gt_f hf1) ?_
    show Steps _ _ _ (s₁.setTop (mkF m 9 #[iv p0, iv p1, iv p2, .val u3] [])) _
    refine XS.iloadN X0.here hx rfl (hb hby d22_9) rfl ?_
    refine XS.iloadN X0.here hx rfl (hb hby d22_10) rfl ?_
    refine XS.icmpYes X0.here hx rfl (pc0 := 11) (pc' := 22) rfl (hb hby d22_11) rfl (XT.ii_le_t hf2) (by decide) (by decide) ?_
    refine XS.iloadN X0.here hx rfl (hb hby d22_22) rfl ?_
    exact k
  refine own_out (w := (.int p0)) X0 hx hlk go1 hrt rfl (Or.inl ⟨rfl, Or.inl rfl, _, rfl⟩) (hb hby d22_23) e0 (by decide) (by decide) ?_
  exact ⟨rfl, N0, rfl⟩
theorem d21_0 : decode jdk_42_method_158_code 0 = .ok (.iload_n 0, 1) := by decide +kernel
theorem d21_1 : decode jdk_42_method_158_code 1 = .ok (.iload_n 1, 1) := by decide +kernel
theorem d21_2 : decode jdk_42_method_158_code 2 = .ok (.iload_n 2, 1) := by decide +kernel
theorem d21_3 : decode jdk_42_method_158_code 3 = .ok (.getstatic 1053, 3) := by decide +kernel
theorem d21_6 : decode jdk_42_method_158_code 6 = .ok (.invokestatic 1062, 3) := by decide +kernel
theorem own_site249 {Z : State} {aZ : Array Value} (hw : HW aZ Z) : SSt aZ Z (⟨"jdk/internal/util/Preconditions", "checkFromToIndex", "(IIILjava/util/function/BiFunction;)I"⟩ : MethodName) jdk_41_method_12_code 4 (some .int) := ⟨⟨(hw _ (mi 100 rfl)), (hw _ (mi 98 rfl))⟩, (hw _ (mi 101 rfl))⟩
theorem pd_250 : parseMethodDescriptor "(IIILjava/util/function/BiFunction;)I" = some ⟨[.int, .int, .int, (.object "java/util/function/BiFunction")], some .int⟩ := by decide +kernel
theorem d21_9 : decode jdk_42_method_158_code 9 = .ok (.pop, 1) := by decide +kernel
theorem d21_10 : decode jdk_42_method_158_code 10 = .ok (.return_, 1) := by decide +kernel
theorem efcbb (m : MethodId) (p0 : Int32) (p1 : Int32) (p2 : Int32) : entryFrame m #[(.int p0), (.int p1), (.int p2)] 3 = mkF m 0 #[iv p0, iv p1, iv p2] [] := by first | (simp [entryFrame, mkF, argsToLocals, Value.category]; done) | rfl
set_option maxRecDepth 65536 in
set_option maxHeartbeats 40000000 in
theorem rmcbb (l : Launch) (Z : State) (aZ : Array Value) (hw : HW aZ Z) (ws : List Jvm.Cond) (p0 : Int32) (p1 : Int32) (p2 : Int32) (s_SIOOBE_FORMATTER : Value) (h0 : Heap) (n0 : Nat) (Z0 : n0 ≤ h0.size) (S_SIOOBE_FORMATTER : SfF Z h0 s_SIOOBE_FORMATTER) (rS_SIOOBE_FORMATTER : s_SIOOBE_FORMATTER.isRef = true) (hf0 : ¬ p0 < (0 : Int32)) (hf1 : ¬ p1 < p0) (hf2 : ¬ p2 < p1) :
    MFn l (⟨"java/lang/String", "checkBoundsBeginEnd", "(III)V"⟩ : MethodName) jdk_42_method_158_code 3 none ws (Rm 1 0 0 15) #[(.int p0), (.int p1), (.int p2)] Z h0 (QP n0 h0 (none)) := by
  refine own_mf (C := "java/lang/String") rfl (plainFor_of_name pn_15) (fun m => efcbb m p0 p1 p2) ?_
  intro p e s m below meth cd0 s₁ En hx hby hml hown hnm hZ X0 e0 hlk hrt go0
  have N0 := Fr.nil n0
  have K0 : Keep h0 h0 [] := Keep.refl _ _
  have go1 : Go p.tables e below s₁ (mkF m 3 #[iv p0, iv p1, iv p2] [(.int p2), (.int p1), (.int p0)]) En := by
    intro t k
    refine go0 _ ?_
    refine XS.iloadN X0.here hx rfl (hb hby d21_0) rfl ?_
    refine XS.iloadN X0.here hx rfl (hb hby d21_1) rfl ?_
    refine XS.iloadN X0.here hx rfl (hb hby d21_2) rfl ?_
    exact k
  obtain ⟨T2, X2, e2, st2⟩ := getS2 X0 hx hZ hown (host := "") (Or.inl (hw _ (mi 97 rfl))) Via.refl e0 S_SIOOBE_FORMATTER (g := (mkF m 3 #[iv p0, iv p1, iv p2] [(.int p2), (.int p1), (.int p0)])) rfl (hb hby d21_3)
  have go3 := gap go1 st2
  obtain ⟨_, T4, Lc4, X4, hQ4, st4⟩ := own_cs X2 hx hZ hown hml go3 (hb hby d21_6) e2 (hw _ (mi 99 rfl)) (own_site249 hw) (rmcf l Z aZ hw [] p0 p1 p2 s_SIOOBE_FORMATTER h0 n0 Z0 rS_SIOOBE_FORMATTER hf0 hf1 hf2) (by decide) (argsL := [(.int p0), (.int p1), (.int p2), s_SIOOBE_FORMATTER]) (rest := []) rfl rfl rfl (lenOf pd_250 rfl) (W := 0) rfl (by decide) (by decide) (by decide : 0 + 0 ≤ _) (by decide : 0 + 0 ≤ _)
  obtain ⟨rfl, N4q, e4⟩ := hQ4
  have N4 := Fr.app N0 N4q
  have go5 : Go p.tables e below T4 (mkF m 10 #[iv p0, iv p1, iv p2] []) En := by
    intro t k
    refine st4 _ ?_
    refine XS.pop X4.here hx rfl (hb hby d21_9) rfl rfl ?_
    exact k
  refine own_outV X4 hx hlk go5 hrt (hb hby d21_10) e4 (by decide) (by decide) ?_
  exact ⟨rfl, N4, rfl⟩
theorem d26_0 : decode jdk_65_method_131_code 0 = .ok (.iload_n 1, 1) := by decide +kernel
theorem d26_1 : decode jdk_65_method_131_code 1 = .ok (.iload_n 0, 1) := by decide +kernel
theorem d26_2 : decode jdk_65_method_131_code 2 = .ok (.if_icmp .ge 35, 3) := by decide +kernel
theorem d26_37 : decode jdk_65_method_131_code 37 = .ok (.return_, 1) := by decide +kernel
theorem pn_257 : plainName "java/util/Arrays" = true := by first | (simp [plainName, overriddenIn]; done) | decide +kernel
theorem efcl (m : MethodId) (p0 : Int32) (p1 : Int32) : entryFrame m #[(.int p0), (.int p1)] 2 = mkF m 0 #[iv p0, iv p1] [] := by first | (simp [entryFrame, mkF, argsToLocals, Value.category]; done) | rfl
set_option maxRecDepth 65536 in
set_option maxHeartbeats 40000000 in
theorem rmcl (l : Launch) (Z : State) (aZ : Array Value) (hw : HW aZ Z) (ws : List Jvm.Cond) (p0 : Int32) (p1 : Int32) (h0 : Heap) (n0 : Nat) (Z0 : n0 ≤ h0.size) (hf1 : ¬ p1 < p0) :
    MFn l (⟨"java/util/Arrays", "checkLength", "(II)V"⟩ : MethodName) jdk_65_method_131_code 2 none ws (Rm 0 0 0 0) #[(.int p0), (.int p1)] Z h0 (QP n0 h0 (none)) := by
  refine own_mf (C := "java/util/Arrays") rfl (plainFor_of_name pn_257) (fun m => efcl m p0 p1) ?_
  intro p e s m below meth cd0 s₁ En hx hby hml hown hnm hZ X0 e0 hlk hrt go0
  have N0 := Fr.nil n0
  have K0 : Keep h0 h0 [] := Keep.refl _ _
  have go1 : Go p.tables e below s₁ (mkF m 37 #[iv p0, iv p1] []) En := by
    intro t k
    refine go0 _ ?_
    refine XS.iloadN X0.here hx rfl (hb hby d26_0) rfl ?_
    refine XS.iloadN X0.here hx rfl (hb hby d26_1) rfl ?_
    refine XS.icmpYes X0.here hx rfl (pc0 := 2) (pc' := 37) rfl (hb hby d26_2) rfl (XT.ii_ge_t hf1) (by decide) (by decide) ?_
    exact k
  refine own_outV X0 hx hlk go1 hrt (hb hby d26_37) e0 (by decide) (by decide) ?_
  exact ⟨rfl, N0, rfl⟩
theorem d23_0 : decode jdk_43_method_47_code 0 = .ok (.iload_n 2, 1) := by decide +kernel
theorem d23_1 : decode jdk_43_method_47_code 1 = .ok (.ifCond .ne 6, 3) := by decide +kernel
theorem d23_4 : decode jdk_43_method_47_code 4 = .ok (.ldc 151, 2) := by decide +kernel
theorem own_txt_java_lang_StringLatin1_151 : (∀ c ∈ ("" : String).toList, c.toNat < 256) ∧ ("" : String).toList.map (fun c => Value.int (Jvm.Lit.byteI c.toNat.toUInt16)) = [] := ⟨by decide +kernel, by first | rfl | decide +kernel⟩
theorem d23_6 : decode jdk_43_method_47_code 6 = .ok (.areturn, 1) := by decide +kernel
def Qns0 (Z : State) (n0 : Nat) (a0 : Addr) (p1 : Int32) (h0 : Heap) (v : Option Value) (h : Heap) (L : List Loc) : Prop := ∃ (b bx : Addr) (kx : ClassId), v = some (.ref b) ∧ Fr n0 L ∧ Keep h0 h [] ∧ Est Z h b ∧ Fcd Z h b (.int (0 : Int32)) ∧ Fvl Z h b (.ref bx) ∧ Arv Z h bx kx .byte (0 : Int32) [] (.int (0 : Int32))
theorem efns0 (m : MethodId) (a0 : Addr) (p1 : Int32) : entryFrame m #[(.ref a0), (.int p1), (.int (0 : Int32))] 3 = mkF m 0 #[rv a0, iv p1, iv (0 : Int32)] [] := by first | (simp [entryFrame, mkF, argsToLocals, Value.category]; done) | rfl
set_option maxRecDepth 65536 in
set_option maxHeartbeats 40000000 in
theorem rmns0 (l : Launch) (Z : State) (aZ : Array Value) (hw : HW aZ Z) (ws : List Jvm.Cond) (a0 : Addr) (p1 : Int32) (h0 : Heap) (n0 : Nat) (Z0 : n0 ≤ h0.size) (hkp : ∀ (b : Addr) (cl : Cell), Z.heap[b]? = some cl → h0[b]? = some cl) (hcn151 : Jvm.Lit.constHeld Z "java/lang/StringLatin1" 151) (hcw : Jvm.Lit.compactW.before aZ Z = true) :
    MetFree l (⟨"java/lang/StringLatin1", "newString", "([BII)Ljava/lang/String;"⟩ : MethodName) (head1 (Jvm.Cond.code (⟨"java/lang/StringLatin1", "newString", "([BII)Ljava/lang/String;"⟩ : MethodName) jdk_43_method_47_code 3 (some (.object "java/lang/String")) :: ws) ({ frames := 0, cells := 2, slots := 4, locals := 0 } : Room)) (fun a U => a = #[(.ref a0), (.int p1), (.int 0)] ∧ Z.Warmed39 U.vm ∧ U.heap = h0 ∧ IB Z U.vm []) (fun _ _ _ _ _ => True) (fun _ U o U' => ∃ v L, o = .returned v ∧ Qns0 Z n0 a0 p1 h0 v U'.heap L ∧ ReturnedEndW U o U' L ({ frames := 0, cells := 2, slots := 4, locals := 0 } : Room).cells ({ frames := 0, cells := 2, slots := 4, locals := 0 } : Room).slots) := by
  refine MetFree.of_bodySF (plainFor_of_name pn_128) hisR ?_
  intro p e s m args below meth c s₁ Bd hml0 hP hK
  obtain ⟨rfl, hZ, hh, IB0⟩ := hP
  have hx := Bd.exec
  have hby := Bd.bytes
  have hml : c.maxLocals = 3 := hml0
  have hown : s.vm.findClass "java/lang/StringLatin1" = some m.cls := findClass_of_methodNamed Bd.named
  have hnm := (name_of_methodNamed Bd.named Bd.method).1
  have X0 : Stand p l e ({ frames := 0, cells := 2, slots := 4, locals := 0 } : Room) (s.setVm s.vm) m #[(.ref a0), (.int p1), (.int 0)] below meth c s₁ [] 0 0 := Stand.of_body Bd
  have e0 : s₁.heap = h0 := by rw [← hh, Bd.state]; rfl
  have N0 := Fr.nil n0
  have K0 : Keep h0 h0 [] := Keep.refl _ _
  obtain ⟨En, hEn⟩ : ∃ z, z = (s₁.setTop (entryFrame m #[(.ref a0), (.int p1), (.int 0)] 3)) := ⟨_, rfl⟩
  have go0 : Go p.tables e below s₁ (mkF m 0 #[rv a0, iv p1, iv 0] []) En := fun t k => by subst hEn; exact castTop (efns0 m a0 p1) k
  have hS0 : s.Since s.vm s.heap.size := (State.WarmedH.refl s).since _
  have hk0 : s.heap.size ≤ h0.size := by rw [← hh]; exact Nat.le_refl _
  have hkS : ∀ (b : Addr) (cl : Cell), Z.heap[b]? = some cl → s.heap[b]? = some cl := fun b cl q => by rw [hh]; exact hkp b cl q
  have go1 : Go p.tables e below s₁ (mkF m 4 #[rv a0, iv p1, iv 0] []) En := by
    intro t k
    refine go0 _ ?_
    refine XS.iloadN X0.here hx rfl (hb hby d23_0) rfl ?_
    refine XS.ifNo X0.here hx rfl (hb hby d23_1) rfl (XT.i0_ne_f (by decide : ((0 : Int32) = (0 : Int32)))) ?_
    exact k
  obtain ⟨b2, T2, h2, k2, bv2, kv2, X2, e2, E2, hS2, hk2, hZ2, hown2, A2, FC2, FV2, AV2, -, -, I2, Lt2, wh2, st2⟩ := ldcSVd X0 hx hZ hown (hw _ (mi 139 rfl)) (fun a ha => hw a (own_sa a ha)) e0 hS0 hk0 (Fr.nil _) hkS IB0 (by decide) hcn151 hcw (vs := []) (z := (0 : Int32)) own_txt_java_lang_StringLatin1_151 (by decide) rfl (g := (mkF m 4 #[rv a0, iv p1, iv 0] [])) rfl (hb hby d23_4) (n := 0) (by decide +kernel) (by decide) (by decide) (by decide)
  have go3 := gap go1 st2
  have K2 : Keep h0 h2 [] := K0.ext E2
  have Zs2 : n0 ≤ h2.size := Nat.le_trans Z0 E2.1
  obtain ⟨fs, hr, hrun, hended, hRW⟩ := X2.leaveW hS2 (by rw [e2]; exact hk2) (v := some (.ref b2)) (fun h => by rw [Bd.returns] at h; cases h) Bd.notSynchronized
  subst hEn
  refine ⟨_, _, go3 _ (Jvm.RoadKit.retOut X2 hx Bd.returns rfl (Or.inr (Or.inr (Or.inr (Or.inr ⟨rfl, rfl, rfl⟩)))) (hb hby d23_6) hr), hrun, hended, _, _, rfl, ?_, hRW.1, hRW.2.1, hRW.2.2.1, hRW.2.2.2.mono (by decide) (by decide)⟩
  show Qns0 _ _ a0 p1 h0 _ (T2.setFrames fs).heap _
  have hE : (T2.setFrames fs).heap = h2 := e2
  rw [hE]
  exact ⟨b2, bv2, kv2, rfl, N0, K2, A2, FC2, FV2, AV2⟩
theorem d5_0 : decode prog_24_method_3_code 0 = .ok (.aload_n 0, 1) := by decide +kernel
theorem d5_1 : decode prog_24_method_3_code 1 = .ok (.bipush 63, 2) := by decide +kernel
theorem d5_3 : decode prog_24_method_3_code 3 = .ok (.invokevirtual 25, 3) := by decide +kernel
theorem own_site266 {Z : State} {aZ : Array Value} (hw : HW aZ Z) : SVt aZ Z "java/lang/String" (⟨"java/lang/String", "indexOf", "(I)I"⟩ : MethodName) jdk_42_method_79_code 2 (some .int) := ⟨⟨⟨(hw _ (mi 32 rfl)), (hw _ (mi 34 rfl))⟩, (hw _ (mi 33 rfl)), (hw _ (mi 8 rfl))⟩, (hw _ (mi 35 rfl))⟩
theorem pd_267 : parseMethodDescriptor "(I)I" = some ⟨[.int], some .int⟩ := by decide +kernel
theorem d5_6 : decode prog_24_method_3_code 6 = .ok (.istore_n 1, 1) := by decide +kernel
theorem d5_7 : decode prog_24_method_3_code 7 = .ok (.iload_n 1, 1) := by decide +kernel
theorem d5_8 : decode prog_24_method_3_code 8 = .ok (.ifCond .ge 7, 3) := by decide +kernel
theorem d5_11 : decode prog_24_method_3_code 11 = .ok (.aconst_null, 1) := by decide +kernel
theorem d5_12 : decode prog_24_method_3_code 12 = .ok (.goto 10, 3) := by decide +kernel
theorem d5_22 : decode prog_24_method_3_code 22 = .ok (.areturn, 1) := by decide +kernel
theorem pn_274 : plainName "com/example/nephele/nephele/web/internal/RequestPath" = true := by first | (simp [plainName, overriddenIn]; done) | decide +kernel
def fqs0_m : Value := (.null : Value)
theorem efqs0_m (m : MethodId) (a0 : Addr) : entryFrame m #[(.ref a0)] 2 = mkF m 0 #[rv a0, .unset] [] := by first | (simp [entryFrame, mkF, argsToLocals, Value.category]; done) | rfl
set_option maxRecDepth 65536 in
set_option maxHeartbeats 40000000 in
theorem rmqs0_m (l : Launch) (Z : State) (aZ : Array Value) (hw : HW aZ Z) (ws : List Jvm.Cond) (a0 : Addr) (w_a0_value : Addr) (k_w_a0_value : ClassId) (s_COMPACT_STRINGS : Int32) (h0 : Heap) (n0 : Nat) (Z0 : n0 ≤ h0.size) (E_a0 : Est Z h0 a0) (F_a0_coder : Fcd Z h0 a0 (.int 0)) (F_a0_value : Fvl Z h0 a0 (.ref w_a0_value)) (V_w_a0_value : Arv Z h0 w_a0_value k_w_a0_value .byte (0 : Int32) [] (.int 0)) (S_COMPACT_STRINGS : SfC Z h0 (.int s_COMPACT_STRINGS)) (hcs : ¬ s_COMPACT_STRINGS = (0 : Int32)) :
    MFn l (⟨"com/example/nephele/nephele/web/internal/RequestPath", "queryString", "(Ljava/lang/String;)Ljava/lang/String;"⟩ : MethodName) prog_24_method_3_code 2 (some (.object "java/lang/String")) ws (Rm 4 0 0 55) #[(.ref a0)] Z h0 (QP n0 h0 (some fqs0_m)) := by
  refine own_mf (C := "com/example/nephele/nephele/web/internal/RequestPath") rfl (plainFor_of_name pn_274) (fun m => efqs0_m m a0) ?_
  intro p e s m below meth cd0 s₁ En hx hby hml hown hnm hZ X0 e0 hlk hrt go0
  have N0 := Fr.nil n0
  have K0 : Keep h0 h0 [] := Keep.refl _ _
  have go1 : Go p.tables e below s₁ (mkF m 3 #[rv a0, .unset] [(.int 63), (.ref a0)]) En := by
    intro t k
    refine go0 _ ?_
    refine XS.aloadN X0.here hx rfl (hb hby d5_0) rfl rfl ?_
    refine XS.bipush X0.here hx rfl (hb hby d5_1) ?_
    exact k
  obtain ⟨_, T2, Lc2, X2, hQ2, st2⟩ := own_cv X0 hx hZ hown hml go1 (hb hby d5_3) e0 (hw _ (mi 31 rfl)) (own_site266 hw) E_a0 (rmiz0 l Z aZ hw [] a0 _ _ _ h0 n0 Z0 E_a0 F_a0_coder F_a0_value V_w_a0_value S_COMPACT_STRINGS hcs) (by decide) (argsL := [(.int 63)]) (rest := []) rfl rfl rfl (lenOf pd_267 rfl) (W := 0) rfl (by decide) (by decide) (by decide : 0 + 0 ≤ _) (by decide : 0 + 0 ≤ _)
  obtain ⟨rfl, N2q, e2⟩ := hQ2
  have N2 := Fr.app N0 N2q
  have go3 : Go p.tables e below T2 (mkF m 22 #[rv a0, iv (-1)] [.null]) En := by
    intro t k
    refine st2 _ ?_
    refine XS.istoreN X2.here hx rfl (hb hby d5_6) rfl (l' := #[rv a0, iv (-1)]) rfl ?_
    refine XS.iloadN X2.here hx rfl (hb hby d5_7) rfl ?_
    refine XS.ifNo X2.here hx rfl (hb hby d5_8) rfl (XT.i0_ge_f (by decide : ((-1 : Int32) < (0 : Int32)))) ?_
    refine XS.aconstNull X2.here hx rfl (hb hby d5_11) ?_
    refine XS.goto X2.here hx rfl (pc0 := 12) (pc' := 22) rfl (hb hby d5_12) (by decide) (by decide) ?_
    show Steps _ _ _ (T2.setTop (mkF m 22 #[rv a0, iv (-1)] [.null])) _
    exact k
  refine own_out (w := .null) X2 hx hlk go3 hrt rfl (Or.inr (Or.inr (Or.inr (Or.inr ⟨rfl, rfl, rfl⟩)))) (hb hby d5_22) e2 (by decide) (by decide) ?_
  exact ⟨by rw [fqs0_m], N2, rfl⟩
theorem fqs0_m_ref : (fqs0_m).isRef = true := by unfold fqs0_m; (repeat' split) <;> rfl
def fqs1_m : Value := (.null : Value)
theorem efqs1_m (m : MethodId) (a0 : Addr) : entryFrame m #[(.ref a0)] 2 = mkF m 0 #[rv a0, .unset] [] := by first | (simp [entryFrame, mkF, argsToLocals, Value.category]; done) | rfl
set_option maxRecDepth 65536 in
set_option maxHeartbeats 40000000 in
theorem rmqs1_m (l : Launch) (Z : State) (aZ : Array Value) (hw : HW aZ Z) (ws : List Jvm.Cond) (a0 : Addr) (w_a0_value : Addr) (k_w_a0_value : ClassId) (y0 : Int32) (s_COMPACT_STRINGS : Int32) (h0 : Heap) (n0 : Nat) (Z0 : n0 ≤ h0.size) (E_a0 : Est Z h0 a0) (F_a0_coder : Fcd Z h0 a0 (.int 0)) (F_a0_value : Fvl Z h0 a0 (.ref w_a0_value)) (V_w_a0_value : Arv Z h0 w_a0_value k_w_a0_value .byte (1 : Int32) [(.int y0)] (.int 0)) (S_COMPACT_STRINGS : SfC Z h0 (.int s_COMPACT_STRINGS)) (hcs : ¬ s_COMPACT_STRINGS = (0 : Int32)) (hk : (fiz1 y0) = (-1 : Int32)) :
    MFn l (⟨"com/example/nephele/nephele/web/internal/RequestPath", "queryString", "(Ljava/lang/String;)Ljava/lang/String;"⟩ : MethodName) prog_24_method_3_code 2 (some (.object "java/lang/String")) ws (Rm 4 0 0 59) #[(.ref a0)] Z h0 (QP n0 h0 (some fqs1_m)) := by
  refine own_mf (C := "com/example/nephele/nephele/web/internal/RequestPath") rfl (plainFor_of_name pn_274) (fun m => efqs1_m m a0) ?_
  intro p e s m below meth cd0 s₁ En hx hby hml hown hnm hZ X0 e0 hlk hrt go0
  have N0 := Fr.nil n0
  have K0 : Keep h0 h0 [] := Keep.refl _ _
  have go1 : Go p.tables e below s₁ (mkF m 3 #[rv a0, .unset] [(.int 63), (.ref a0)]) En := by
    intro t k
    refine go0 _ ?_
    refine XS.aloadN X0.here hx rfl (hb hby d5_0) rfl rfl ?_
    refine XS.bipush X0.here hx rfl (hb hby d5_1) ?_
    exact k
  obtain ⟨_, T2, Lc2, X2, hQ2, st2⟩ := own_cv X0 hx hZ hown hml go1 (hb hby d5_3) e0 (hw _ (mi 31 rfl)) (own_site266 hw) E_a0 (rmiz1 l Z aZ hw [] a0 _ _ y0 _ h0 n0 Z0 E_a0 F_a0_coder F_a0_value V_w_a0_value S_COMPACT_STRINGS hcs) (by decide) (argsL := [(.int 63)]) (rest := []) rfl rfl rfl (lenOf pd_267 rfl) (W := 0) rfl (by decide) (by decide) (by decide : 0 + 0 ≤ _) (by decide : 0 + 0 ≤ _)
  obtain ⟨rfl, N2q, e2⟩ := hQ2
  have N2 := Fr.app N0 N2q
  have go3 : Go p.tables e below T2 (mkF m 6 #[rv a0, .unset] [(.int (-1))]) En := by
    have q := st2
    rw [hk] at q
    exact q
  have go4 : Go p.tables e below T2 (mkF m 22 #[rv a0, iv (-1)] [.null]) En := by
    intro t k
    refine go3 _ ?_
    refine XS.istoreN X2.here hx rfl (hb hby d5_6) rfl (l' := #[rv a0, iv (-1)]) rfl ?_
    refine XS.iloadN X2.here hx rfl (hb hby d5_7) rfl ?_
    refine XS.ifNo X2.here hx rfl (hb hby d5_8) rfl (XT.i0_ge_f (by decide : ((-1 : Int32) < (0 : Int32)))) ?_
    refine XS.aconstNull X2.here hx rfl (hb hby d5_11) ?_
    refine XS.goto X2.here hx rfl (pc0 := 12) (pc' := 22) rfl (hb hby d5_12) (by decide) (by decide) ?_
    show Steps _ _ _ (T2.setTop (mkF m 22 #[rv a0, iv (-1)] [.null])) _
    exact k
  refine own_out (w := .null) X2 hx hlk go4 hrt rfl (Or.inr (Or.inr (Or.inr (Or.inr ⟨rfl, rfl, rfl⟩)))) (hb hby d5_22) e2 (by decide) (by decide) ?_
  exact ⟨by rw [fqs1_m], N2, rfl⟩
theorem fqs1_m_ref : (fqs1_m).isRef = true := by unfold fqs1_m; (repeat' split) <;> rfl
theorem d20_0 : decode jdk_42_method_92_code 0 = .ok (.aload_n 0, 1) := by decide +kernel
theorem d20_1 : decode jdk_42_method_92_code 1 = .ok (.invokevirtual 505, 3) := by decide +kernel
theorem d20_4 : decode jdk_42_method_92_code 4 = .ok (.istore_n 3, 1) := by decide +kernel
theorem d20_5 : decode jdk_42_method_92_code 5 = .ok (.iload_n 1, 1) := by decide +kernel
theorem d20_6 : decode jdk_42_method_92_code 6 = .ok (.iload_n 2, 1) := by decide +kernel
theorem d20_7 : decode jdk_42_method_92_code 7 = .ok (.iload_n 3, 1) := by decide +kernel
theorem d20_8 : decode jdk_42_method_92_code 8 = .ok (.invokestatic 521, 3) := by decide +kernel
theorem own_site282 {Z : State} {aZ : Array Value} (hw : HW aZ Z) : SSt aZ Z (⟨"java/lang/String", "checkBoundsBeginEnd", "(III)V"⟩ : MethodName) jdk_42_method_158_code 3 none := ⟨⟨(hw _ (mi 95 rfl)), (hw _ (mi 8 rfl))⟩, (hw _ (mi 96 rfl))⟩
theorem pd_283 : parseMethodDescriptor "(III)V" = some ⟨[.int, .int, .int], none⟩ := by decide +kernel
theorem d20_11 : decode jdk_42_method_92_code 11 = .ok (.iload_n 1, 1) := by decide +kernel
theorem d20_12 : decode jdk_42_method_92_code 12 = .ok (.ifCond .ne 10, 3) := by decide +kernel
theorem d20_22 : decode jdk_42_method_92_code 22 = .ok (.iload_n 2, 1) := by decide +kernel
theorem d20_23 : decode jdk_42_method_92_code 23 = .ok (.iload_n 1, 1) := by decide +kernel
theorem d20_24 : decode jdk_42_method_92_code 24 = .ok (.isub, 1) := by decide +kernel
theorem d20_25 : decode jdk_42_method_92_code 25 = .ok (.istore 4, 2) := by decide +kernel
theorem d20_27 : decode jdk_42_method_92_code 27 = .ok (.aload_n 0, 1) := by decide +kernel
theorem d20_28 : decode jdk_42_method_92_code 28 = .ok (.invokevirtual 492, 3) := by decide +kernel
theorem d20_31 : decode jdk_42_method_92_code 31 = .ok (.ifCond .eq 16, 3) := by decide +kernel
theorem d20_34 : decode jdk_42_method_92_code 34 = .ok (.aload_n 0, 1) := by decide +kernel
theorem d20_35 : decode jdk_42_method_92_code 35 = .ok (.getfield 9, 3) := by decide +kernel
theorem d20_38 : decode jdk_42_method_92_code 38 = .ok (.iload_n 1, 1) := by decide +kernel
theorem d20_39 : decode jdk_42_method_92_code 39 = .ok (.iload 4, 2) := by decide +kernel
theorem d20_41 : decode jdk_42_method_92_code 41 = .ok (.invokestatic 685, 3) := by decide +kernel
theorem pd_298 : parseMethodDescriptor "([BII)Ljava/lang/String;" = some ⟨[(.array .byte), .int, .int], some (.object "java/lang/String")⟩ := by decide +kernel
theorem d20_44 : decode jdk_42_method_92_code 44 = .ok (.goto 13, 3) := by decide +kernel
theorem d20_57 : decode jdk_42_method_92_code 57 = .ok (.areturn, 1) := by decide +kernel
def Qss1_0 (Z : State) (n0 : Nat) (a0 : Addr) (w_a0_value : Addr) (k_w_a0_value : ClassId) (y0 : Int32) (s_COMPACT_STRINGS : Int32) (s_SIOOBE_FORMATTER : Value) (h0 : Heap) (v : Option Value) (h : Heap) (L : List Loc) : Prop := ∃ (b bx : Addr) (kx : ClassId), v = some (.ref b) ∧ Fr n0 L ∧ Keep h0 h [] ∧ Est Z h b ∧ Fcd Z h b (.int (0 : Int32)) ∧ Fvl Z h b (.ref bx) ∧ Arv Z h bx kx .byte (0 : Int32) [] (.int (0 : Int32))
theorem efss1_0 (m : MethodId) (a0 : Addr) : entryFrame m #[(.ref a0), (.int (1 : Int32)), (.int (1 : Int32))] 5 = mkF m 0 #[rv a0, iv (1 : Int32), iv (1 : Int32), .unset, .unset] [] := by first | (simp [entryFrame, mkF, argsToLocals, Value.category]; done) | rfl
abbrev Lss1_0_0 (a0 : Addr) : Array Slot := #[rv a0, iv 1, iv 1, iv 1, iv 0]
set_option maxRecDepth 65536 in
set_option maxHeartbeats 40000000 in
theorem rmss1_0 (l : Launch) (Z : State) (aZ : Array Value) (hw : HW aZ Z) (ws : List Jvm.Cond) (a0 : Addr) (w_a0_value : Addr) (k_w_a0_value : ClassId) (y0 : Int32) (s_COMPACT_STRINGS : Int32) (s_SIOOBE_FORMATTER : Value) (h0 : Heap) (n0 : Nat) (Z0 : n0 ≤ h0.size) (E_a0 : Est Z h0 a0) (F_a0_coder : Fcd Z h0 a0 (.int 0)) (F_a0_value : Fvl Z h0 a0 (.ref w_a0_value)) (V_w_a0_value : Arv Z h0 w_a0_value k_w_a0_value .byte (1 : Int32) [(.int y0)] (.int 0)) (S_COMPACT_STRINGS : SfC Z h0 (.int s_COMPACT_STRINGS)) (hcs : ¬ s_COMPACT_STRINGS = (0 : Int32)) (S_SIOOBE_FORMATTER : SfF Z h0 s_SIOOBE_FORMATTER) (rS_SIOOBE_FORMATTER : s_SIOOBE_FORMATTER.isRef = true) (hkp : ∀ (b : Addr) (cl : Cell), Z.heap[b]? = some cl → h0[b]? = some cl) (hcn151 : Jvm.Lit.constHeld Z "java/lang/StringLatin1" 151) (hcw : Jvm.Lit.compactW.before aZ Z = true) :
    MetFree l (⟨"java/lang/String", "substring", "(II)Ljava/lang/String;"⟩ : MethodName) (head1 (Jvm.Cond.code (⟨"java/lang/String", "substring", "(II)Ljava/lang/String;"⟩ : MethodName) jdk_42_method_92_code 5 (some (.object "java/lang/String")) :: ws) ({ frames := 2, cells := 2, slots := 4, locals := 29 } : Room)) (fun a U => a = #[(.ref a0), (.int 1), (.int 1)] ∧ Z.Warmed39 U.vm ∧ U.heap = h0 ∧ IB Z U.vm []) (fun _ _ _ _ _ => True) (fun _ U o U' => ∃ v L, o = .returned v ∧ Qss1_0 Z n0 a0 w_a0_value k_w_a0_value y0 s_COMPACT_STRINGS s_SIOOBE_FORMATTER h0 v U'.heap L ∧ ReturnedEndW U o U' L ({ frames := 2, cells := 2, slots := 4, locals := 29 } : Room).cells ({ frames := 2, cells := 2, slots := 4, locals := 29 } : Room).slots) := by
  refine MetFree.of_bodySF (plainFor_of_name pn_15) hisR ?_
  intro p e s m args below meth c s₁ Bd hml0 hP hK
  obtain ⟨rfl, hZ, hh, IB0⟩ := hP
  have hx := Bd.exec
  have hby := Bd.bytes
  have hml : c.maxLocals = 5 := hml0
  have hown : s.vm.findClass "java/lang/String" = some m.cls := findClass_of_methodNamed Bd.named
  have hnm := (name_of_methodNamed Bd.named Bd.method).1
  have X0 : Stand p l e ({ frames := 2, cells := 2, slots := 4, locals := 29 } : Room) (s.setVm s.vm) m #[(.ref a0), (.int 1), (.int 1)] below meth c s₁ [] 0 0 := Stand.of_body Bd
  have e0 : s₁.heap = h0 := by rw [← hh, Bd.state]; rfl
  have N0 := Fr.nil n0
  have K0 : Keep h0 h0 [] := Keep.refl _ _
  obtain ⟨En, hEn⟩ : ∃ z, z = (s₁.setTop (entryFrame m #[(.ref a0), (.int 1), (.int 1)] 5)) := ⟨_, rfl⟩
  have go0 : Go p.tables e below s₁ (mkF m 0 #[rv a0, iv 1, iv 1, .unset, .unset] []) En := fun t k => by subst hEn; exact castTop (efss1_0 m a0) k
  have hS0 : s.Since s.vm s.heap.size := (State.WarmedH.refl s).since _
  have hk0 : s.heap.size ≤ h0.size := by rw [← hh]; exact Nat.le_refl _
  have hkS : ∀ (b : Addr) (cl : Cell), Z.heap[b]? = some cl → s.heap[b]? = some cl := fun b cl q => by rw [hh]; exact hkp b cl q
  have go1 : Go p.tables e below s₁ (mkF m 1 #[rv a0, iv 1, iv 1, .unset, .unset] [(.ref a0)]) En := by
    intro t k
    refine go0 _ ?_
    refine XS.aloadN X0.here hx rfl (hb hby d20_0) rfl rfl ?_
    exact k
  obtain ⟨_, T2, Lc2, X2, hQ2, st2⟩ := own_cv X0 hx hZ hown hml go1 (hb hby d20_1) e0 (hw _ (mi 47 rfl)) (own_site185 hw) E_a0 (rmln l Z aZ hw [] a0 _ _ _ _ _ h0 n0 Z0 E_a0 F_a0_coder F_a0_value V_w_a0_value S_COMPACT_STRINGS hcs) (by decide) (argsL := []) (rest := []) rfl rfl rfl (lenOf pd_186 rfl) (W := 0) rfl (by decide) (by decide) (by decide : 0 + 0 ≤ _) (by decide : 0 + 0 ≤ _)
  obtain ⟨rfl, N2q, e2⟩ := hQ2
  have N2 := Fr.app N0 N2q
  have go3 : Go p.tables e below T2 (mkF m 8 #[rv a0, iv 1, iv 1, iv 1, .unset] [(.int 1), (.int 1), (.int 1)]) En := by
    intro t k
    refine st2 _ ?_
    refine XS.istoreN X2.here hx rfl (hb hby d20_4) rfl (l' := #[rv a0, iv 1, iv 1, iv 1, .unset]) rfl ?_
    refine XS.iloadN X2.here hx rfl (hb hby d20_5) rfl ?_
    refine XS.iloadN X2.here hx rfl (hb hby d20_6) rfl ?_
    refine XS.iloadN X2.here hx rfl (hb hby d20_7) rfl ?_
    exact k
  obtain ⟨_, T4, Lc4, X4, hQ4, st4⟩ := own_cs X2 hx hZ hown hml go3 (hb hby d20_8) e2 (hw _ (mi 94 rfl)) (own_site282 hw) (rmcbb l Z aZ hw [] (1 : Int32) (1 : Int32) (1 : Int32) _ h0 n0 Z0 S_SIOOBE_FORMATTER rS_SIOOBE_FORMATTER (by decide) (by decide) (by decide)) (by decide) (argsL := [(.int 1), (.int 1), (.int 1)]) (rest := []) rfl rfl rfl (lenOf pd_283 rfl) (W := 0) rfl (by decide) (by decide) (by decide : 0 + 0 ≤ _) (by decide : 0 + 0 ≤ _)
  obtain ⟨rfl, N4q, e4⟩ := hQ4
  have N4 := Fr.app N2 N4q
  have go5 : Go p.tables e below T4 (mkF m 28 (Lss1_0_0 a0) [(.ref a0)]) En := by
    intro t k
    refine st4 _ ?_
    refine XS.iloadN X4.here hx rfl (hb hby d20_11) rfl ?_
    refine XS.ifYes X4.here hx rfl (pc0 := 12) (pc' := 22) rfl (hb hby d20_12) rfl (XT.i0_ne_t (by decide : ¬ ((1 : Int32) = (0 : Int32)))) (by decide) (by decide) ?_
    refine XS.iloadN X4.here hx rfl (hb hby d20_22) rfl ?_
    refine XS.iloadN X4.here hx rfl (hb hby d20_23) rfl ?_
    refine XS.isub X4.here hx rfl (hb hby d20_24) rfl ?_
    show Steps _ _ _ (T4.setTop (mkF m 25 #[rv a0, iv 1, iv 1, iv 1, .unset] [(.int 0)])) _
    refine XS.istore X4.here hx rfl (hb hby d20_25) rfl (l' := (Lss1_0_0 a0)) rfl ?_
    refine XS.aloadN X4.here hx rfl (hb hby d20_27) rfl rfl ?_
    exact k
  obtain ⟨_, T6, Lc6, X6, hQ6, st6⟩ := own_cv X4 hx hZ hown hml go5 (hb hby d20_28) e4 (hw _ (mi 41 rfl)) (own_site176 hw) E_a0 (rmil l Z aZ hw [] a0 _ h0 n0 Z0 S_COMPACT_STRINGS hcs F_a0_coder) (by decide) (argsL := []) (rest := []) rfl rfl rfl (lenOf pd_177 rfl) (W := 0) rfl (by decide) (by decide) (by decide : 0 + 0 ≤ _) (by decide : 0 + 0 ≤ _)
  obtain ⟨rfl, N6q, e6⟩ := hQ6
  have N6 := Fr.app N4 N6q
  have go7 : Go p.tables e below T6 (mkF m 35 (Lss1_0_0 a0) [(.ref a0)]) En := by
    intro t k
    refine st6 _ ?_
    refine XS.ifNo X6.here hx rfl (hb hby d20_31) rfl (XT.i0_eq_f (by decide : ¬ ((1 : Int32) = (0 : Int32)))) ?_
    refine XS.aloadN X6.here hx rfl (hb hby d20_34) rfl rfl ?_
    exact k
  obtain ⟨T8, X8, e8, st8⟩ := getF X6 hx hZ hown (host := "") (Or.inl (hw _ (mi 25 rfl))) Via.refl e6 F_a0_value (g := (mkF m 35 (Lss1_0_0 a0) [(.ref a0)])) rfl rfl (hb hby d20_35)
  have go9 := gap go7 st8
  have go10 : Go p.tables e below T8 (mkF m 41 (Lss1_0_0 a0) [(.int 0), (.int 1), (.ref w_a0_value)]) En := by
    intro t k
    refine go9 _ ?_
    refine XS.iloadN X8.here hx rfl (hb hby d20_38) rfl ?_
    refine XS.iload X8.here hx rfl (hb hby d20_39) rfl ?_
    exact k
  obtain ⟨_, _, ⟨T11, L11, k11, n11⟩, -, X11q, hS11q, hg11, ⟨Lc11, hQ11, l11, y11, z11⟩, st11⟩ := callSS X8 hx (y := (⟨"java/lang/StringLatin1", "newString", "([BII)Ljava/lang/String;"⟩ : MethodName)) hown (mvT hZ (hw _ (mi 102 rfl))) (mvT hZ (hw _ (mi 103 rfl))) (mvT hZ (hw _ (mi 59 rfl))) (mvT hZ (hw _ (mi 104 rfl))) (by decide) (own_backOfSI (W := 0) (rmns0 l Z aZ hw [] w_a0_value (1 : Int32) h0 n0 Z0 hkp hcn151 hcw) hZ (hw _ (mi 104 rfl)) (hw _ (mi 59 rfl)) (by decide) (by decide) IB0) (g := (mkF m 41 (Lss1_0_0 a0) [(.int 0), (.int 1), (.ref w_a0_value)])) rfl (by rw [hml]; rfl) (argsL := [(.ref w_a0_value), (.int 1), (.int 0)]) (rest := []) (lenOf pd_298 rfl) rfl (by show 2 * 0 + _ ≤ _; exact Nat.le_of_eq rfl) (hb hby d20_41) (fun _ _ => ⟨rfl, e8, (by decide : 0 + 2 ≤ _), (by decide : 0 + 4 ≤ _)⟩)
  dsimp only [Pt.U, Pt.locs, Pt.cells, Pt.slots] at X11q hS11q hg11 l11 y11 z11 st11 hQ11
  subst l11 y11 z11
  have hk11q : s.heap.size ≤ T8.heap.size := by rw [e8]; exact hk0
  obtain ⟨X11, hS11, hZ11, hown11⟩ := rebS hS0 hk11q X11q hS11q hg11 hZ hown
  have hk11r : T11.heap.size ≤ T11.heap.size := Nat.le_refl _
  obtain ⟨b11, bx11, kx11, rfl, N11q, K11q, GE11, GC11, GX11, GV11⟩ := hQ11
  have N11 := Fr.app N6 N11q
  have K11 : Keep h0 T11.heap [] := K0.trans K11q all0
  have Zs11 : n0 ≤ T11.heap.size := Nat.le_trans Z0 K11q.1
  have hk11 : s.heap.size ≤ T11.heap.size := Nat.le_trans hk0 K11q.1
  have go12 := gapT go10 st11
  have go13 : Go p.tables e below T11 (mkF m 57 (Lss1_0_0 a0) [(.ref b11)]) En := by
    intro t k
    refine go12 _ ?_
    refine XS.goto X11.here hx rfl (pc0 := 44) (pc' := 57) rfl (hb hby d20_44) (by decide) (by decide) ?_
    exact k
  obtain ⟨fs, hr, hrun, hended, hRW⟩ := X11.leaveW hS11 (hk11r) (v := some (.ref b11)) (fun h => by rw [Bd.returns] at h; cases h) Bd.notSynchronized
  subst hEn
  refine ⟨_, _, go13 _ (Jvm.RoadKit.retOut X11 hx Bd.returns rfl (Or.inr (Or.inr (Or.inr (Or.inr ⟨rfl, rfl, rfl⟩)))) (hb hby d20_57) hr), hrun, hended, _, _, rfl, ?_, hRW.1, hRW.2.1, hRW.2.2.1, hRW.2.2.2.mono (by decide) (by decide)⟩
  show Qss1_0 _ _ a0 w_a0_value k_w_a0_value y0 s_COMPACT_STRINGS s_SIOOBE_FORMATTER h0 _ (T11.setFrames fs).heap _
  have hE : (T11.setFrames fs).heap = T11.heap := rfl
  rw [hE]
  exact ⟨b11, bx11, kx11, rfl, N11, K11, GE11, GC11, GX11, GV11⟩
theorem d19_0 : decode jdk_42_method_91_code 0 = .ok (.aload_n 0, 1) := by decide +kernel
theorem d19_1 : decode jdk_42_method_91_code 1 = .ok (.iload_n 1, 1) := by decide +kernel
theorem d19_2 : decode jdk_42_method_91_code 2 = .ok (.aload_n 0, 1) := by decide +kernel
theorem d19_3 : decode jdk_42_method_91_code 3 = .ok (.invokevirtual 505, 3) := by decide +kernel
theorem d19_6 : decode jdk_42_method_91_code 6 = .ok (.invokevirtual 681, 3) := by decide +kernel
theorem pd_306 : parseMethodDescriptor "(II)Ljava/lang/String;" = some ⟨[.int, .int], some (.object "java/lang/String")⟩ := by decide +kernel
theorem d19_9 : decode jdk_42_method_91_code 9 = .ok (.areturn, 1) := by decide +kernel
def Qst1_0 (Z : State) (n0 : Nat) (a0 : Addr) (w_a0_value : Addr) (k_w_a0_value : ClassId) (y0 : Int32) (s_COMPACT_STRINGS : Int32) (s_SIOOBE_FORMATTER : Value) (h0 : Heap) (v : Option Value) (h : Heap) (L : List Loc) : Prop := ∃ (b bx : Addr) (kx : ClassId), v = some (.ref b) ∧ Fr n0 L ∧ Keep h0 h [] ∧ Est Z h b ∧ Fcd Z h b (.int (0 : Int32)) ∧ Fvl Z h b (.ref bx) ∧ Arv Z h bx kx .byte (0 : Int32) [] (.int (0 : Int32))
theorem efst1_0 (m : MethodId) (a0 : Addr) : entryFrame m #[(.ref a0), (.int (1 : Int32))] 2 = mkF m 0 #[rv a0, iv (1 : Int32)] [] := by first | (simp [entryFrame, mkF, argsToLocals, Value.category]; done) | rfl
set_option maxRecDepth 65536 in
set_option maxHeartbeats 40000000 in
theorem rmst1_0 (l : Launch) (Z : State) (aZ : Array Value) (hw : HW aZ Z) (ws : List Jvm.Cond) (a0 : Addr) (w_a0_value : Addr) (k_w_a0_value : ClassId) (y0 : Int32) (s_COMPACT_STRINGS : Int32) (s_SIOOBE_FORMATTER : Value) (h0 : Heap) (n0 : Nat) (Z0 : n0 ≤ h0.size) (E_a0 : Est Z h0 a0) (F_a0_coder : Fcd Z h0 a0 (.int 0)) (F_a0_value : Fvl Z h0 a0 (.ref w_a0_value)) (V_w_a0_value : Arv Z h0 w_a0_value k_w_a0_value .byte (1 : Int32) [(.int y0)] (.int 0)) (S_COMPACT_STRINGS : SfC Z h0 (.int s_COMPACT_STRINGS)) (hcs : ¬ s_COMPACT_STRINGS = (0 : Int32)) (S_SIOOBE_FORMATTER : SfF Z h0 s_SIOOBE_FORMATTER) (rS_SIOOBE_FORMATTER : s_SIOOBE_FORMATTER.isRef = true) (hkp : ∀ (b : Addr) (cl : Cell), Z.heap[b]? = some cl → h0[b]? = some cl) (hcn151 : Jvm.Lit.constHeld Z "java/lang/StringLatin1" 151) (hcw : Jvm.Lit.compactW.before aZ Z = true) :
    MetFree l (⟨"java/lang/String", "substring", "(I)Ljava/lang/String;"⟩ : MethodName) (head1 (Jvm.Cond.code (⟨"java/lang/String", "substring", "(I)Ljava/lang/String;"⟩ : MethodName) jdk_42_method_91_code 2 (some (.object "java/lang/String")) :: ws) ({ frames := 3, cells := 2, slots := 4, locals := 45 } : Room)) (fun a U => a = #[(.ref a0), (.int 1)] ∧ Z.Warmed39 U.vm ∧ U.heap = h0 ∧ IB Z U.vm []) (fun _ _ _ _ _ => True) (fun _ U o U' => ∃ v L, o = .returned v ∧ Qst1_0 Z n0 a0 w_a0_value k_w_a0_value y0 s_COMPACT_STRINGS s_SIOOBE_FORMATTER h0 v U'.heap L ∧ ReturnedEndW U o U' L ({ frames := 3, cells := 2, slots := 4, locals := 45 } : Room).cells ({ frames := 3, cells := 2, slots := 4, locals := 45 } : Room).slots) := by
  refine MetFree.of_bodySF (plainFor_of_name pn_15) hisR ?_
  intro p e s m args below meth c s₁ Bd hml0 hP hK
  obtain ⟨rfl, hZ, hh, IB0⟩ := hP
  have hx := Bd.exec
  have hby := Bd.bytes
  have hml : c.maxLocals = 2 := hml0
  have hown : s.vm.findClass "java/lang/String" = some m.cls := findClass_of_methodNamed Bd.named
  have hnm := (name_of_methodNamed Bd.named Bd.method).1
  have X0 : Stand p l e ({ frames := 3, cells := 2, slots := 4, locals := 45 } : Room) (s.setVm s.vm) m #[(.ref a0), (.int 1)] below meth c s₁ [] 0 0 := Stand.of_body Bd
  have e0 : s₁.heap = h0 := by rw [← hh, Bd.state]; rfl
  have N0 := Fr.nil n0
  have K0 : Keep h0 h0 [] := Keep.refl _ _
  obtain ⟨En, hEn⟩ : ∃ z, z = (s₁.setTop (entryFrame m #[(.ref a0), (.int 1)] 2)) := ⟨_, rfl⟩
  have go0 : Go p.tables e below s₁ (mkF m 0 #[rv a0, iv 1] []) En := fun t k => by subst hEn; exact castTop (efst1_0 m a0) k
  have hS0 : s.Since s.vm s.heap.size := (State.WarmedH.refl s).since _
  have hk0 : s.heap.size ≤ h0.size := by rw [← hh]; exact Nat.le_refl _
  have hkS : ∀ (b : Addr) (cl : Cell), Z.heap[b]? = some cl → s.heap[b]? = some cl := fun b cl q => by rw [hh]; exact hkp b cl q
  have go1 : Go p.tables e below s₁ (mkF m 3 #[rv a0, iv 1] [(.ref a0), (.int 1), (.ref a0)]) En := by
    intro t k
    refine go0 _ ?_
    refine XS.aloadN X0.here hx rfl (hb hby d19_0) rfl rfl ?_
    refine XS.iloadN X0.here hx rfl (hb hby d19_1) rfl ?_
    refine XS.aloadN X0.here hx rfl (hb hby d19_2) rfl rfl ?_
    exact k
  obtain ⟨_, T2, Lc2, X2, hQ2, st2⟩ := own_cv X0 hx hZ hown hml go1 (hb hby d19_3) e0 (hw _ (mi 47 rfl)) (own_site185 hw) E_a0 (rmln l Z aZ hw [] a0 _ _ _ _ _ h0 n0 Z0 E_a0 F_a0_coder F_a0_value V_w_a0_value S_COMPACT_STRINGS hcs) (by decide) (argsL := []) (rest := [(.int 1), (.ref a0)]) rfl rfl rfl (lenOf pd_186 rfl) (W := 2) rfl (by decide) (by decide) (by decide : 0 + 0 ≤ _) (by decide : 0 + 0 ≤ _)
  obtain ⟨rfl, N2q, e2⟩ := hQ2
  have N2 := Fr.app N0 N2q
  obtain ⟨cq3, kq3, q3a, q3b, q3c⟩ := isOf hZ e2 E_a0
  obtain ⟨_, _, ⟨T3, L3, k3, n3⟩, -, X3q, hS3q, hg3, ⟨Lc3, hQ3, l3, y3, z3⟩, st3⟩ := X2.virtualBackS hx (y := (⟨"java/lang/String", "substring", "(II)Ljava/lang/String;"⟩ : MethodName)) (z := (⟨"java/lang/String", "substring", "(II)Ljava/lang/String;"⟩ : MethodName)) hown (mvT hZ (hw _ (mi 89 rfl))) (mvT hZ (hw _ (mi 90 rfl))) (notFace_of_selects (args := #[]) (mvT hZ (hw _ (mi 92 rfl)))) (mvT hZ (hw _ (mi 92 rfl))) (mvT hZ (hw _ (mi 91 rfl))) (by decide) (own_backOfSI (W := 0) (rmss1_0 l Z aZ hw [] a0 _ _ y0 _ _ h0 n0 Z0 E_a0 F_a0_coder F_a0_value V_w_a0_value S_COMPACT_STRINGS hcs S_SIOOBE_FORMATTER rS_SIOOBE_FORMATTER hkp hcn151 hcw) hZ (hw _ (mi 93 rfl)) (hw _ (mi 8 rfl)) (by decide) (by decide) IB0) q3a q3c (g := (mkF m 6 #[rv a0, iv 1] [(.int 1), (.int 1), (.ref a0)])) rfl (by rw [hml]; rfl) (Steps.refl _) (argsL := [(.int 1), (.int 1)]) (rest := []) (lenOf pd_306 rfl) rfl (by show 2 * 0 + _ ≤ _; exact Nat.le_of_eq rfl) (hb hby d19_6) (fun _ _ => ⟨rfl, e2, (by decide : 0 + 2 ≤ _), (by decide : 0 + 4 ≤ _)⟩)
  dsimp only [Pt.U, Pt.locs, Pt.cells, Pt.slots] at X3q hS3q hg3 l3 y3 z3 st3 hQ3
  subst l3 y3 z3
  have hk3q : s.heap.size ≤ T2.heap.size := by rw [e2]; exact hk0
  obtain ⟨X3, hS3, hZ3, hown3⟩ := rebS hS0 hk3q X3q hS3q hg3 hZ hown
  have hk3r : T3.heap.size ≤ T3.heap.size := Nat.le_refl _
  obtain ⟨b3, bx3, kx3, rfl, N3q, K3q, GE3, GC3, GX3, GV3⟩ := hQ3
  have N3 := Fr.app N2 N3q
  have K3 : Keep h0 T3.heap [] := K0.trans K3q all0
  have Zs3 : n0 ≤ T3.heap.size := Nat.le_trans Z0 K3q.1
  have hk3 : s.heap.size ≤ T3.heap.size := Nat.le_trans hk0 K3q.1
  have go4 := gapT st2 st3
  obtain ⟨fs, hr, hrun, hended, hRW⟩ := X3.leaveW hS3 (hk3r) (v := some (.ref b3)) (fun h => by rw [Bd.returns] at h; cases h) Bd.notSynchronized
  subst hEn
  refine ⟨_, _, go4 _ (Jvm.RoadKit.retOut X3 hx Bd.returns rfl (Or.inr (Or.inr (Or.inr (Or.inr ⟨rfl, rfl, rfl⟩)))) (hb hby d19_9) hr), hrun, hended, _, _, rfl, ?_, hRW.1, hRW.2.1, hRW.2.2.1, hRW.2.2.2.mono (by decide) (by decide)⟩
  show Qst1_0 _ _ a0 w_a0_value k_w_a0_value y0 s_COMPACT_STRINGS s_SIOOBE_FORMATTER h0 _ (T3.setFrames fs).heap _
  have hE : (T3.setFrames fs).heap = T3.heap := rfl
  rw [hE]
  exact ⟨b3, bx3, kx3, rfl, N3, K3, GE3, GC3, GX3, GV3⟩
theorem d5_15 : decode prog_24_method_3_code 15 = .ok (.aload_n 0, 1) := by decide +kernel
theorem d5_16 : decode prog_24_method_3_code 16 = .ok (.iload_n 1, 1) := by decide +kernel
theorem d5_17 : decode prog_24_method_3_code 17 = .ok (.iconst 1, 1) := by decide +kernel
theorem d5_18 : decode prog_24_method_3_code 18 = .ok (.iadd, 1) := by decide +kernel
theorem d5_19 : decode prog_24_method_3_code 19 = .ok (.invokevirtual 77, 3) := by decide +kernel
theorem pd_313 : parseMethodDescriptor "(I)Ljava/lang/String;" = some ⟨[.int], some (.object "java/lang/String")⟩ := by decide +kernel
def Qqs1_0 (Z : State) (n0 : Nat) (a0 : Addr) (w_a0_value : Addr) (k_w_a0_value : ClassId) (y0 : Int32) (s_COMPACT_STRINGS : Int32) (s_SIOOBE_FORMATTER : Value) (h0 : Heap) (v : Option Value) (h : Heap) (L : List Loc) : Prop := ∃ (b bx : Addr) (kx : ClassId), v = some (.ref b) ∧ Fr n0 L ∧ Keep h0 h [] ∧ Est Z h b ∧ Fcd Z h b (.int (0 : Int32)) ∧ Fvl Z h b (.ref bx) ∧ Arv Z h bx kx .byte (0 : Int32) [] (.int (0 : Int32))
theorem efqs1_0 (m : MethodId) (a0 : Addr) : entryFrame m #[(.ref a0)] 2 = mkF m 0 #[rv a0, .unset] [] := by first | (simp [entryFrame, mkF, argsToLocals, Value.category]; done) | rfl
set_option maxRecDepth 65536 in
set_option maxHeartbeats 40000000 in
theorem rmqs1_0 (l : Launch) (Z : State) (aZ : Array Value) (hw : HW aZ Z) (ws : List Jvm.Cond) (a0 : Addr) (w_a0_value : Addr) (k_w_a0_value : ClassId) (y0 : Int32) (s_COMPACT_STRINGS : Int32) (s_SIOOBE_FORMATTER : Value) (h0 : Heap) (n0 : Nat) (Z0 : n0 ≤ h0.size) (E_a0 : Est Z h0 a0) (F_a0_coder : Fcd Z h0 a0 (.int 0)) (F_a0_value : Fvl Z h0 a0 (.ref w_a0_value)) (V_w_a0_value : Arv Z h0 w_a0_value k_w_a0_value .byte (1 : Int32) [(.int y0)] (.int 0)) (S_COMPACT_STRINGS : SfC Z h0 (.int s_COMPACT_STRINGS)) (hcs : ¬ s_COMPACT_STRINGS = (0 : Int32)) (hk : (fiz1 y0) = (0 : Int32)) (S_SIOOBE_FORMATTER : SfF Z h0 s_SIOOBE_FORMATTER) (rS_SIOOBE_FORMATTER : s_SIOOBE_FORMATTER.isRef = true) (hkp : ∀ (b : Addr) (cl : Cell), Z.heap[b]? = some cl → h0[b]? = some cl) (hcn151 : Jvm.Lit.constHeld Z "java/lang/StringLatin1" 151) (hcw : Jvm.Lit.compactW.before aZ Z = true) :
    MetFree l (⟨"com/example/nephele/nephele/web/internal/RequestPath", "queryString", "(Ljava/lang/String;)Ljava/lang/String;"⟩ : MethodName) (head1 (Jvm.Cond.code (⟨"com/example/nephele/nephele/web/internal/RequestPath", "queryString", "(Ljava/lang/String;)Ljava/lang/String;"⟩ : MethodName) prog_24_method_3_code 2 (some (.object "java/lang/String")) :: ws) ({ frames := 4, cells := 2, slots := 4, locals := 59 } : Room)) (fun a U => a = #[(.ref a0)] ∧ Z.Warmed39 U.vm ∧ U.heap = h0 ∧ IB Z U.vm []) (fun _ _ _ _ _ => True) (fun _ U o U' => ∃ v L, o = .returned v ∧ Qqs1_0 Z n0 a0 w_a0_value k_w_a0_value y0 s_COMPACT_STRINGS s_SIOOBE_FORMATTER h0 v U'.heap L ∧ ReturnedEndW U o U' L ({ frames := 4, cells := 2, slots := 4, locals := 59 } : Room).cells ({ frames := 4, cells := 2, slots := 4, locals := 59 } : Room).slots) := by
  refine MetFree.of_bodySF (plainFor_of_name pn_274) hisR ?_
  intro p e s m args below meth c s₁ Bd hml0 hP hK
  obtain ⟨rfl, hZ, hh, IB0⟩ := hP
  have hx := Bd.exec
  have hby := Bd.bytes
  have hml : c.maxLocals = 2 := hml0
  have hown : s.vm.findClass "com/example/nephele/nephele/web/internal/RequestPath" = some m.cls := findClass_of_methodNamed Bd.named
  have hnm := (name_of_methodNamed Bd.named Bd.method).1
  have X0 : Stand p l e ({ frames := 4, cells := 2, slots := 4, locals := 59 } : Room) (s.setVm s.vm) m #[(.ref a0)] below meth c s₁ [] 0 0 := Stand.of_body Bd
  have e0 : s₁.heap = h0 := by rw [← hh, Bd.state]; rfl
  have N0 := Fr.nil n0
  have K0 : Keep h0 h0 [] := Keep.refl _ _
  obtain ⟨En, hEn⟩ : ∃ z, z = (s₁.setTop (entryFrame m #[(.ref a0)] 2)) := ⟨_, rfl⟩
  have go0 : Go p.tables e below s₁ (mkF m 0 #[rv a0, .unset] []) En := fun t k => by subst hEn; exact castTop (efqs1_0 m a0) k
  have hS0 : s.Since s.vm s.heap.size := (State.WarmedH.refl s).since _
  have hk0 : s.heap.size ≤ h0.size := by rw [← hh]; exact Nat.le_refl _
  have hkS : ∀ (b : Addr) (cl : Cell), Z.heap[b]? = some cl → s.heap[b]? = some cl := fun b cl q => by rw [hh]; exact hkp b cl q
  have go1 : Go p.tables e below s₁ (mkF m 3 #[rv a0, .unset] [(.int 63), (.ref a0)]) En := by
    intro t k
    refine go0 _ ?_
    refine XS.aloadN X0.here hx rfl (hb hby d5_0) rfl rfl ?_
    refine XS.bipush X0.here hx rfl (hb hby d5_1) ?_
    exact k
  obtain ⟨_, T2, Lc2, X2, hQ2, st2⟩ := own_cv X0 hx hZ hown hml go1 (hb hby d5_3) e0 (hw _ (mi 31 rfl)) (own_site266 hw) E_a0 (rmiz1 l Z aZ hw [] a0 _ _ y0 _ h0 n0 Z0 E_a0 F_a0_coder F_a0_value V_w_a0_value S_COMPACT_STRINGS hcs) (by decide) (argsL := [(.int 63)]) (rest := []) rfl rfl rfl (lenOf pd_267 rfl) (W := 0) rfl (by decide) (by decide) (by decide : 0 + 0 ≤ _) (by decide : 0 + 0 ≤ _)
  obtain ⟨rfl, N2q, e2⟩ := hQ2
  have N2 := Fr.app N0 N2q
  have go3 : Go p.tables e below T2 (mkF m 6 #[rv a0, .unset] [(.int 0)]) En := by
    have q := st2
    rw [hk] at q
    exact q
  have go4 : Go p.tables e below T2 (mkF m 19 #[rv a0, iv 0] [(.int 1), (.ref a0)]) En := by
    intro t k
    refine go3 _ ?_
    refine XS.istoreN X2.here hx rfl (hb hby d5_6) rfl (l' := #[rv a0, iv 0]) rfl ?_
    refine XS.iloadN X2.here hx rfl (hb hby d5_7) rfl ?_
    refine XS.ifYes X2.here hx rfl (pc0 := 8) (pc' := 15) rfl (hb hby d5_8) rfl (XT.i0_ge_t (by decide : ¬ ((0 : Int32) < (0 : Int32)))) (by decide) (by decide) ?_
    refine XS.aloadN X2.here hx rfl (hb hby d5_15) rfl rfl ?_
    refine XS.iloadN X2.here hx rfl (hb hby d5_16) rfl ?_
    show Steps _ _ _ (T2.setTop (mkF m 17 #[rv a0, iv 0] [(.int 0), (.ref a0)])) _
    refine XS.iconst X2.here hx rfl (hb hby d5_17) ?_
    refine XS.iadd X2.here hx rfl (hb hby d5_18) rfl ?_
    exact k
  obtain ⟨cq5, kq5, q5a, q5b, q5c⟩ := isOf hZ e2 E_a0
  obtain ⟨_, _, ⟨T5, L5, k5, n5⟩, -, X5q, hS5q, hg5, ⟨Lc5, hQ5, l5, y5, z5⟩, st5⟩ := X2.virtualBackS hx (y := (⟨"java/lang/String", "substring", "(I)Ljava/lang/String;"⟩ : MethodName)) (z := (⟨"java/lang/String", "substring", "(I)Ljava/lang/String;"⟩ : MethodName)) hown (mvT hZ (hw _ (mi 84 rfl))) (mvT hZ (hw _ (mi 85 rfl))) (notFace_of_selects (args := #[]) (mvT hZ (hw _ (mi 87 rfl)))) (mvT hZ (hw _ (mi 87 rfl))) (mvT hZ (hw _ (mi 86 rfl))) (by decide) (own_backOfSI (W := 0) (rmst1_0 l Z aZ hw [] a0 _ _ y0 _ _ h0 n0 Z0 E_a0 F_a0_coder F_a0_value V_w_a0_value S_COMPACT_STRINGS hcs S_SIOOBE_FORMATTER rS_SIOOBE_FORMATTER hkp hcn151 hcw) hZ (hw _ (mi 88 rfl)) (hw _ (mi 8 rfl)) (by decide) (by decide) IB0) q5a q5c (g := (mkF m 19 #[rv a0, iv 0] [(.int 1), (.ref a0)])) rfl (by rw [hml]; rfl) (Steps.refl _) (argsL := [(.int 1)]) (rest := []) (lenOf pd_313 rfl) rfl (by show 2 * 0 + _ ≤ _; exact Nat.le_of_eq rfl) (hb hby d5_19) (fun _ _ => ⟨rfl, e2, (by decide : 0 + 2 ≤ _), (by decide : 0 + 4 ≤ _)⟩)
  dsimp only [Pt.U, Pt.locs, Pt.cells, Pt.slots] at X5q hS5q hg5 l5 y5 z5 st5 hQ5
  subst l5 y5 z5
  have hk5q : s.heap.size ≤ T2.heap.size := by rw [e2]; exact hk0
  obtain ⟨X5, hS5, hZ5, hown5⟩ := rebS hS0 hk5q X5q hS5q hg5 hZ hown
  have hk5r : T5.heap.size ≤ T5.heap.size := Nat.le_refl _
  obtain ⟨b5, bx5, kx5, rfl, N5q, K5q, GE5, GC5, GX5, GV5⟩ := hQ5
  have N5 := Fr.app N2 N5q
  have K5 : Keep h0 T5.heap [] := K0.trans K5q all0
  have Zs5 : n0 ≤ T5.heap.size := Nat.le_trans Z0 K5q.1
  have hk5 : s.heap.size ≤ T5.heap.size := Nat.le_trans hk0 K5q.1
  have go6 := gapT go4 st5
  obtain ⟨fs, hr, hrun, hended, hRW⟩ := X5.leaveW hS5 (hk5r) (v := some (.ref b5)) (fun h => by rw [Bd.returns] at h; cases h) Bd.notSynchronized
  subst hEn
  refine ⟨_, _, go6 _ (Jvm.RoadKit.retOut X5 hx Bd.returns rfl (Or.inr (Or.inr (Or.inr (Or.inr ⟨rfl, rfl, rfl⟩)))) (hb hby d5_22) hr), hrun, hended, _, _, rfl, ?_, hRW.1, hRW.2.1, hRW.2.2.1, hRW.2.2.2.mono (by decide) (by decide)⟩
  show Qqs1_0 _ _ a0 w_a0_value k_w_a0_value y0 s_COMPACT_STRINGS s_SIOOBE_FORMATTER h0 _ (T5.setFrames fs).heap _
  have hE : (T5.setFrames fs).heap = T5.heap := rfl
  rw [hE]
  exact ⟨b5, bx5, kx5, rfl, N5, K5, GE5, GC5, GX5, GV5⟩
def fqs2_m : Value := (.null : Value)
theorem efqs2_m (m : MethodId) (a0 : Addr) : entryFrame m #[(.ref a0)] 2 = mkF m 0 #[rv a0, .unset] [] := by first | (simp [entryFrame, mkF, argsToLocals, Value.category]; done) | rfl
set_option maxRecDepth 65536 in
set_option maxHeartbeats 40000000 in
theorem rmqs2_m (l : Launch) (Z : State) (aZ : Array Value) (hw : HW aZ Z) (ws : List Jvm.Cond) (a0 : Addr) (w_a0_value : Addr) (k_w_a0_value : ClassId) (y0 : Int32) (y1 : Int32) (s_COMPACT_STRINGS : Int32) (h0 : Heap) (n0 : Nat) (Z0 : n0 ≤ h0.size) (E_a0 : Est Z h0 a0) (F_a0_coder : Fcd Z h0 a0 (.int 0)) (F_a0_value : Fvl Z h0 a0 (.ref w_a0_value)) (V_w_a0_value : Arv Z h0 w_a0_value k_w_a0_value .byte (2 : Int32) [(.int y0), (.int y1)] (.int 0)) (S_COMPACT_STRINGS : SfC Z h0 (.int s_COMPACT_STRINGS)) (hcs : ¬ s_COMPACT_STRINGS = (0 : Int32)) (hk : (fiz2 y0 y1) = (-1 : Int32)) :
    MFn l (⟨"com/example/nephele/nephele/web/internal/RequestPath", "queryString", "(Ljava/lang/String;)Ljava/lang/String;"⟩ : MethodName) prog_24_method_3_code 2 (some (.object "java/lang/String")) ws (Rm 4 0 0 59) #[(.ref a0)] Z h0 (QP n0 h0 (some fqs2_m)) := by
  refine own_mf (C := "com/example/nephele/nephele/web/internal/RequestPath") rfl (plainFor_of_name pn_274) (fun m => efqs2_m m a0) ?_
  intro p e s m below meth cd0 s₁ En hx hby hml hown hnm hZ X0 e0 hlk hrt go0
  have N0 := Fr.nil n0
  have K0 : Keep h0 h0 [] := Keep.refl _ _
  have go1 : Go p.tables e below s₁ (mkF m 3 #[rv a0, .unset] [(.int 63), (.ref a0)]) En := by
    intro t k
    refine go0 _ ?_
    refine XS.aloadN X0.here hx rfl (hb hby d5_0) rfl rfl ?_
    refine XS.bipush X0.here hx rfl (hb hby d5_1) ?_
    exact k
  obtain ⟨_, T2, Lc2, X2, hQ2, st2⟩ := own_cv X0 hx hZ hown hml go1 (hb hby d5_3) e0 (hw _ (mi 31 rfl)) (own_site266 hw) E_a0 (rmiz2 l Z aZ hw [] a0 _ _ y0 y1 _ h0 n0 Z0 E_a0 F_a0_coder F_a0_value V_w_a0_value S_COMPACT_STRINGS hcs) (by decide) (argsL := [(.int 63)]) (rest := []) rfl rfl rfl (lenOf pd_267 rfl) (W := 0) rfl (by decide) (by decide) (by decide : 0 + 0 ≤ _) (by decide : 0 + 0 ≤ _)
  obtain ⟨rfl, N2q, e2⟩ := hQ2
  have N2 := Fr.app N0 N2q
  have go3 : Go p.tables e below T2 (mkF m 6 #[rv a0, .unset] [(.int (-1))]) En := by
    have q := st2
    rw [hk] at q
    exact q
  have go4 : Go p.tables e below T2 (mkF m 22 #[rv a0, iv (-1)] [.null]) En := by
    intro t k
    refine go3 _ ?_
    refine XS.istoreN X2.here hx rfl (hb hby d5_6) rfl (l' := #[rv a0, iv (-1)]) rfl ?_
    refine XS.iloadN X2.here hx rfl (hb hby d5_7) rfl ?_
    refine XS.ifNo X2.here hx rfl (hb hby d5_8) rfl (XT.i0_ge_f (by decide : ((-1 : Int32) < (0 : Int32)))) ?_
    refine XS.aconstNull X2.here hx rfl (hb hby d5_11) ?_
    refine XS.goto X2.here hx rfl (pc0 := 12) (pc' := 22) rfl (hb hby d5_12) (by decide) (by decide) ?_
    show Steps _ _ _ (T2.setTop (mkF m 22 #[rv a0, iv (-1)] [.null])) _
    exact k
  refine own_out (w := .null) X2 hx hlk go4 hrt rfl (Or.inr (Or.inr (Or.inr (Or.inr ⟨rfl, rfl, rfl⟩)))) (hb hby d5_22) e2 (by decide) (by decide) ?_
  exact ⟨by rw [fqs2_m], N2, rfl⟩
theorem fqs2_m_ref : (fqs2_m).isRef = true := by unfold fqs2_m; (repeat' split) <;> rfl
theorem d25_0 : decode jdk_65_method_133_code 0 = .ok (.iload_n 1, 1) := by decide +kernel
theorem d25_1 : decode jdk_65_method_133_code 1 = .ok (.iload_n 2, 1) := by decide +kernel
theorem d25_2 : decode jdk_65_method_133_code 2 = .ok (.invokestatic 343, 3) := by decide +kernel
theorem own_site317 {Z : State} {aZ : Array Value} (hw : HW aZ Z) : SSt aZ Z (⟨"java/util/Arrays", "checkLength", "(II)V"⟩ : MethodName) jdk_65_method_131_code 2 none := ⟨⟨(hw _ (mi 114 rfl)), (hw _ (mi 108 rfl))⟩, (hw _ (mi 115 rfl))⟩
theorem pd_318 : parseMethodDescriptor "(II)V" = some ⟨[.int, .int], none⟩ := by decide +kernel
theorem d25_5 : decode jdk_65_method_133_code 5 = .ok (.iload_n 2, 1) := by decide +kernel
theorem d25_6 : decode jdk_65_method_133_code 6 = .ok (.iload_n 1, 1) := by decide +kernel
theorem d25_7 : decode jdk_65_method_133_code 7 = .ok (.isub, 1) := by decide +kernel
theorem d25_8 : decode jdk_65_method_133_code 8 = .ok (.istore_n 3, 1) := by decide +kernel
theorem d25_9 : decode jdk_65_method_133_code 9 = .ok (.iload_n 3, 1) := by decide +kernel
theorem d25_10 : decode jdk_65_method_133_code 10 = .ok (.newarray .byte, 2) := by decide +kernel
theorem d25_12 : decode jdk_65_method_133_code 12 = .ok (.astore 4, 2) := by decide +kernel
theorem d25_14 : decode jdk_65_method_133_code 14 = .ok (.aload_n 0, 1) := by decide +kernel
theorem d25_15 : decode jdk_65_method_133_code 15 = .ok (.iload_n 1, 1) := by decide +kernel
theorem d25_16 : decode jdk_65_method_133_code 16 = .ok (.aload 4, 2) := by decide +kernel
theorem d25_18 : decode jdk_65_method_133_code 18 = .ok (.iconst 0, 1) := by decide +kernel
theorem d25_19 : decode jdk_65_method_133_code 19 = .ok (.aload_n 0, 1) := by decide +kernel
theorem d25_20 : decode jdk_65_method_133_code 20 = .ok (.arraylength, 1) := by decide +kernel
theorem d25_21 : decode jdk_65_method_133_code 21 = .ok (.iload_n 1, 1) := by decide +kernel
theorem d25_22 : decode jdk_65_method_133_code 22 = .ok (.isub, 1) := by decide +kernel
theorem d25_23 : decode jdk_65_method_133_code 23 = .ok (.iload_n 3, 1) := by decide +kernel
theorem d25_24 : decode jdk_65_method_133_code 24 = .ok (.invokestatic 304, 3) := by decide +kernel
theorem d25_27 : decode jdk_65_method_133_code 27 = .ok (.invokestatic 150, 3) := by decide +kernel
theorem d25_30 : decode jdk_65_method_133_code 30 = .ok (.aload 4, 2) := by decide +kernel
theorem d25_32 : decode jdk_65_method_133_code 32 = .ok (.areturn, 1) := by decide +kernel
def Qcb2_0 (Z : State) (n0 : Nat) (a0 : Addr) (k_a0 : ClassId) (y0 : Int32) (y1 : Int32) (h0 : Heap) (v : Option Value) (h : Heap) (L : List Loc) : Prop := ∃ (b : Addr) (kb : ClassId), v = some (.ref b) ∧ Fr n0 L ∧ Keep h0 h [] ∧ h0.size ≤ b ∧ Arv Z h b kb .byte (1 : Int32) [(.int y1)] (.int (0 : Int32))
theorem efcb2_0 (m : MethodId) (a0 : Addr) : entryFrame m #[(.ref a0), (.int (1 : Int32)), (.int (2 : Int32))] 5 = mkF m 0 #[rv a0, iv (1 : Int32), iv (2 : Int32), .unset, .unset] [] := by first | (simp [entryFrame, mkF, argsToLocals, Value.category]; done) | rfl
abbrev Lcb2_0_0 (a0 : Addr) (b4 : Addr) : Array Slot := #[rv a0, iv 1, iv 2, iv 1, rv b4]
set_option maxRecDepth 65536 in
set_option maxHeartbeats 40000000 in
theorem rmcb2_0 (l : Launch) (Z : State) (aZ : Array Value) (hw : HW aZ Z) (ws : List Jvm.Cond) (a0 : Addr) (k_a0 : ClassId) (y0 : Int32) (y1 : Int32) (h0 : Heap) (n0 : Nat) (Z0 : n0 ≤ h0.size) (V_a0 : Arv Z h0 a0 k_a0 .byte (2 : Int32) [(.int y0), (.int y1)] (.int 0)) :
    MFn l (⟨"java/util/Arrays", "copyOfRangeByte", "([BII)[B"⟩ : MethodName) jdk_65_method_133_code 5 (some (.array .byte)) ws (Rm 1 1 1 18) #[(.ref a0), (.int 1), (.int 2)] Z h0 (Qcb2_0 Z n0 a0 k_a0 y0 y1 h0) := by
  refine own_mf (C := "java/util/Arrays") rfl (plainFor_of_name pn_257) (fun m => efcb2_0 m a0) ?_
  intro p e s m below meth cd0 s₁ En hx hby hml hown hnm hZ X0 e0 hlk hrt go0
  have N0 := Fr.nil n0
  have K0 : Keep h0 h0 [] := Keep.refl _ _
  have go1 : Go p.tables e below s₁ (mkF m 2 #[rv a0, iv 1, iv 2, .unset, .unset] [(.int 2), (.int 1)]) En := by
    intro t k
    refine go0 _ ?_
    refine XS.iloadN X0.here hx rfl (hb hby d25_0) rfl ?_
    refine XS.iloadN X0.here hx rfl (hb hby d25_1) rfl ?_
    exact k
  obtain ⟨_, T2, Lc2, X2, hQ2, st2⟩ := own_cs X0 hx hZ hown hml go1 (hb hby d25_2) e0 (hw _ (mi 113 rfl)) (own_site317 hw) (rmcl l Z aZ hw [] (1 : Int32) (2 : Int32) h0 n0 Z0 (by decide)) (by decide) (argsL := [(.int 1), (.int 2)]) (rest := []) rfl rfl rfl (lenOf pd_318 rfl) (W := 0) rfl (by decide) (by decide) (by decide : 0 + 0 ≤ _) (by decide : 0 + 0 ≤ _)
  obtain ⟨rfl, N2q, e2⟩ := hQ2
  have N2 := Fr.app N0 N2q
  have go3 : Go p.tables e below T2 (mkF m 10 #[rv a0, iv 1, iv 2, iv 1, .unset] [(.int 1)]) En := by
    intro t k
    refine st2 _ ?_
    refine XS.iloadN X2.here hx rfl (hb hby d25_5) rfl ?_
    refine XS.iloadN X2.here hx rfl (hb hby d25_6) rfl ?_
    refine XS.isub X2.here hx rfl (hb hby d25_7) rfl ?_
    refine XS.istoreN X2.here hx rfl (hb hby d25_8) rfl (l' := #[rv a0, iv 1, iv 2, iv 1, .unset]) rfl ?_
    refine XS.iloadN X2.here hx rfl (hb hby d25_9) rfl ?_
    show Steps _ _ _ (T2.setTop (mkF m 10 #[rv a0, iv 1, iv 2, iv 1, .unset] [(.int 1)])) _
    exact k
  obtain ⟨T4, h4, k4, X4, e4, E4, A4, st4⟩ := newP X2 hx hZ (hw _ (mi 20 rfl)) e2 (g := (mkF m 10 #[rv a0, iv 1, iv 2, iv 1, .unset] [(.int 1)])) rfl (hb hby d25_10) rfl (by decide) (cap := 1) (by decide) (by decide) (by decide) (by decide)
  obtain ⟨b4, g4⟩ : ∃ z, z = h0.size := ⟨_, rfl⟩
  rw [← g4] at A4 st4
  have ne5 : a0 ≠ b4 := Nat.ne_of_lt (Nat.lt_of_lt_of_le V_a0.lt (Nat.le_of_eq g4.symm))
  have low4 : n0 ≤ b4 := Nat.le_trans Z0 (Nat.le_of_eq g4.symm)
  have fsh4 : h0.size ≤ b4 := Nat.le_trans K0.1 (Nat.le_of_eq g4.symm)
  have K4 : Keep h0 h4 [] := K0.ext E4
  have Zs4 : n0 ≤ h4.size := Nat.le_trans Z0 E4.1
  have go6 := gap go3 st4
  have F7 : Arv Z h4 b4 k4 .byte (1 : Int32) [(.int 0)] (.int 0) := (Arv.new A4 (by decide)).pad (pad_rep [] (.int 0) 1)
  obtain ⟨cl8, Ar8, q8, S8, N8, H8, G8⟩ := id (V_a0.keep K4 nin0)
  have go9 : Go p.tables e below T4 (mkF m 24 (Lcb2_0_0 a0 b4) [(.int 1), (.int 1), (.int 0), (.ref b4), (.int 1), (.ref a0)]) En := by
    intro t k
    refine go6 _ ?_
    refine XS.astore X4.here hx rfl (hb hby d25_12) rfl rfl (l' := (Lcb2_0_0 a0 b4)) rfl ?_
    refine XS.aloadN X4.here hx rfl (hb hby d25_14) rfl rfl ?_
    refine XS.iloadN X4.here hx rfl (hb hby d25_15) rfl ?_
    refine XS.aload X4.here hx rfl (hb hby d25_16) rfl rfl ?_
    refine XS.iconst X4.here hx rfl (hb hby d25_18) ?_
    show Steps _ _ _ (T4.setTop (mkF m 19 (Lcb2_0_0 a0 b4) [(.int 0), (.ref b4), (.int 1), (.ref a0)])) _
    refine XS.aloadN X4.here hx rfl (hb hby d25_19) rfl rfl ?_
    refine X4.arraylength hx (by rw [e4]; exact Ar8.1) (State.isArrayOf_alike hZ.alike Ar8.2.1) (g := (mkF m 20 (Lcb2_0_0 a0 b4) [(.ref a0), (.int 0), (.ref b4), (.int 1), (.ref a0)])) rfl rfl (hb hby d25_20) _ ?_
    rw [len_of S8 N8]
    refine XS.iloadN X4.here hx rfl (hb hby d25_21) rfl ?_
    refine XS.isub X4.here hx rfl (hb hby d25_22) rfl ?_
    show Steps _ _ _ (T4.setTop (mkF m 23 (Lcb2_0_0 a0 b4) [(.int 1), (.int 0), (.ref b4), (.int 1), (.ref a0)])) _
    refine XS.iloadN X4.here hx rfl (hb hby d25_23) rfl ?_
    exact k
  obtain ⟨_, T10, Lc10, X10, hQ10, st10⟩ := own_cs X4 hx hZ hown hml go9 (hb hby d25_24) e4 (hw _ (mi 116 rfl)) (own_site167 hw) (rmmn l Z aZ hw [] (1 : Int32) h4 n0 Zs4 ) (by decide) (argsL := [(.int 1), (.int 1)]) (rest := [(.int 0), (.ref b4), (.int 1), (.ref a0)]) rfl rfl rfl (lenOf pd_161 rfl) (W := 4) rfl (by decide) (by decide) (by decide : 1 + 0 ≤ _) (by decide : 1 + 0 ≤ _)
  obtain ⟨rfl, N10q, e10⟩ := hQ10
  have N10 := Fr.app N2 N10q
  obtain ⟨T11, _, L11, X11, rfl, N11q, K11q, AR11, st11⟩ := cpA X10 hx hZ hown (hw _ (mi 117 rfl)) (hw _ (mi 120 rfl)) (hw _ (mi 118 rfl)) (hw _ (mi 119 rfl)) e10 (V_a0.keep K4 nin0) F7 (us := [(.int y1)]) (Or.inl ⟨rfl, rfl⟩) (by decide) (by decide) (by decide) (by decide) (by decide) rfl (Nat.le_of_ble_eq_true rfl) N10 low4 (g := (mkF m 27 (Lcb2_0_0 a0 b4) [(.int 1), (.int 0), (.ref b4), (.int 1), (.ref a0)])) rfl (by rw [hml]; rfl) rfl (hb hby d25_27) (by decide) (W := 0) (by show 2 * 0 + _ ≤ _; exact Nat.le_of_eq rfl) (by decide)
  have K11 : Keep h0 T11.heap [] := K4.trans K11q (allS (Or.inr fsh4) all0)
  have go12 := gap st10 st11
  have Zs11 : n0 ≤ T11.heap.size := Nat.le_trans Zs4 K11q.1
  have F13 : Arv Z T11.heap b4 k4 .byte (1 : Int32) [(.int y1)] (.int 0) := AR11
  have go14 : Go p.tables e below T11 (mkF m 32 (Lcb2_0_0 a0 b4) [(.ref b4)]) En := by
    intro t k
    refine go12 _ ?_
    refine XS.aload X11.here hx rfl (hb hby d25_30) rfl rfl ?_
    exact k
  refine own_out (w := (.ref b4)) X11 hx hlk go14 hrt rfl (Or.inr (Or.inr (Or.inr (Or.inr ⟨rfl, rfl, rfl⟩)))) (hb hby d25_32) rfl (by decide) (by decide) ?_
  exact ⟨b4, k4, rfl, N11q, K11, fsh4, F13⟩
theorem d24_0 : decode jdk_65_method_132_code 0 = .ok (.iload_n 1, 1) := by decide +kernel
theorem d24_1 : decode jdk_65_method_132_code 1 = .ok (.ifCond .ne 9, 3) := by decide +kernel
theorem d24_10 : decode jdk_65_method_132_code 10 = .ok (.aload_n 0, 1) := by decide +kernel
theorem d24_11 : decode jdk_65_method_132_code 11 = .ok (.iload_n 1, 1) := by decide +kernel
theorem d24_12 : decode jdk_65_method_132_code 12 = .ok (.iload_n 2, 1) := by decide +kernel
theorem d24_13 : decode jdk_65_method_132_code 13 = .ok (.invokestatic 339, 3) := by decide +kernel
theorem own_site345 {Z : State} {aZ : Array Value} (hw : HW aZ Z) : SSt aZ Z (⟨"java/util/Arrays", "copyOfRangeByte", "([BII)[B"⟩ : MethodName) jdk_65_method_133_code 5 (some (.array .byte)) := ⟨⟨(hw _ (mi 111 rfl)), (hw _ (mi 108 rfl))⟩, (hw _ (mi 112 rfl))⟩
theorem pd_346 : parseMethodDescriptor "([BII)[B" = some ⟨[(.array .byte), .int, .int], some (.array .byte)⟩ := by decide +kernel
theorem d24_16 : decode jdk_65_method_132_code 16 = .ok (.areturn, 1) := by decide +kernel
def Qcr2_0 (Z : State) (n0 : Nat) (a0 : Addr) (k_a0 : ClassId) (y0 : Int32) (y1 : Int32) (h0 : Heap) (v : Option Value) (h : Heap) (L : List Loc) : Prop := ∃ (b : Addr) (kb : ClassId), v = some (.ref b) ∧ Fr n0 L ∧ Keep h0 h [] ∧ h0.size ≤ b ∧ Arv Z h b kb .byte (1 : Int32) [(.int y1)] (.int (0 : Int32))
theorem efcr2_0 (m : MethodId) (a0 : Addr) : entryFrame m #[(.ref a0), (.int (1 : Int32)), (.int (2 : Int32))] 3 = mkF m 0 #[rv a0, iv (1 : Int32), iv (2 : Int32)] [] := by first | (simp [entryFrame, mkF, argsToLocals, Value.category]; done) | rfl
set_option maxRecDepth 65536 in
set_option maxHeartbeats 40000000 in
theorem rmcr2_0 (l : Launch) (Z : State) (aZ : Array Value) (hw : HW aZ Z) (ws : List Jvm.Cond) (a0 : Addr) (k_a0 : ClassId) (y0 : Int32) (y1 : Int32) (h0 : Heap) (n0 : Nat) (Z0 : n0 ≤ h0.size) (V_a0 : Arv Z h0 a0 k_a0 .byte (2 : Int32) [(.int y0), (.int y1)] (.int 0)) :
    MFn l (⟨"java/util/Arrays", "copyOfRange", "([BII)[B"⟩ : MethodName) jdk_65_method_132_code 3 (some (.array .byte)) ws (Rm 2 1 1 34) #[(.ref a0), (.int 1), (.int 2)] Z h0 (Qcr2_0 Z n0 a0 k_a0 y0 y1 h0) := by
  refine own_mf (C := "java/util/Arrays") rfl (plainFor_of_name pn_257) (fun m => efcr2_0 m a0) ?_
  intro p e s m below meth cd0 s₁ En hx hby hml hown hnm hZ X0 e0 hlk hrt go0
  have N0 := Fr.nil n0
  have K0 : Keep h0 h0 [] := Keep.refl _ _
  have go1 : Go p.tables e below s₁ (mkF m 13 #[rv a0, iv 1, iv 2] [(.int 2), (.int 1), (.ref a0)]) En := by
    intro t k
    refine go0 _ ?_
    refine XS.iloadN X0.here hx rfl (hb hby d24_0) rfl ?_
    refine XS.ifYes X0.here hx rfl (pc0 := 1) (pc' := 10) rfl (hb hby d24_1) rfl (XT.i0_ne_t (by decide : ¬ ((1 : Int32) = (0 : Int32)))) (by decide) (by decide) ?_
    refine XS.aloadN X0.here hx rfl (hb hby d24_10) rfl rfl ?_
    refine XS.iloadN X0.here hx rfl (hb hby d24_11) rfl ?_
    refine XS.iloadN X0.here hx rfl (hb hby d24_12) rfl ?_
    show Steps _ _ _ (s₁.setTop (mkF m 13 #[rv a0, iv 1, iv 2] [(.int 2), (.int 1), (.ref a0)])) _
    exact k
  obtain ⟨_, T2, Lc2, X2, hQ2, st2⟩ := own_cs X0 hx hZ hown hml go1 (hb hby d24_13) e0 (hw _ (mi 110 rfl)) (own_site345 hw) (rmcb2_0 l Z aZ hw [] a0 _ y0 y1 h0 n0 Z0 V_a0) (by decide) (argsL := [(.ref a0), (.int 1), (.int 2)]) (rest := []) rfl rfl rfl (lenOf pd_346 rfl) (W := 0) rfl (by decide) (by decide) (by decide : 0 + 1 ≤ _) (by decide : 0 + 1 ≤ _)
  obtain ⟨b2, kb2, rfl, N2q, K2q, fr2, G2_0⟩ := hQ2
  have N2 := Fr.app N0 N2q
  have K2 : Keep h0 T2.heap [] := K0.trans K2q all0
  have low2 : n0 ≤ b2 := Nat.le_trans Z0 fr2
  have fsh2 : h0.size ≤ b2 := Nat.le_trans K0.1 fr2
  have ne3 : a0 ≠ b2 := Nat.ne_of_lt (Nat.lt_of_lt_of_le V_a0.lt fr2)
  have Zs2 : n0 ≤ T2.heap.size := Nat.le_trans Z0 K2q.1
  refine own_out (w := (.ref b2)) X2 hx hlk st2 hrt rfl (Or.inr (Or.inr (Or.inr (Or.inr ⟨rfl, rfl, rfl⟩)))) (hb hby d24_16) rfl (by decide) (by decide) ?_
  exact ⟨b2, kb2, rfl, N2, K2, fsh2, G2_0⟩
theorem d23_7 : decode jdk_43_method_47_code 7 = .ok (.new 1, 3) := by decide +kernel
theorem d23_10 : decode jdk_43_method_47_code 10 = .ok (.dup, 1) := by decide +kernel
theorem d23_11 : decode jdk_43_method_47_code 11 = .ok (.aload_n 0, 1) := by decide +kernel
theorem d23_12 : decode jdk_43_method_47_code 12 = .ok (.iload_n 1, 1) := by decide +kernel
theorem d23_13 : decode jdk_43_method_47_code 13 = .ok (.iload_n 1, 1) := by decide +kernel
theorem d23_14 : decode jdk_43_method_47_code 14 = .ok (.iload_n 2, 1) := by decide +kernel
theorem d23_15 : decode jdk_43_method_47_code 15 = .ok (.iadd, 1) := by decide +kernel
theorem d23_16 : decode jdk_43_method_47_code 16 = .ok (.invokestatic 232, 3) := by decide +kernel
theorem own_site356 {Z : State} {aZ : Array Value} (hw : HW aZ Z) : SSt aZ Z (⟨"java/util/Arrays", "copyOfRange", "([BII)[B"⟩ : MethodName) jdk_65_method_132_code 3 (some (.array .byte)) := ⟨⟨(hw _ (mi 107 rfl)), (hw _ (mi 108 rfl))⟩, (hw _ (mi 109 rfl))⟩
theorem d23_19 : decode jdk_43_method_47_code 19 = .ok (.iconst 0, 1) := by decide +kernel
theorem d23_20 : decode jdk_43_method_47_code 20 = .ok (.invokespecial 112, 3) := by decide +kernel
theorem own_site359 {Z : State} {aZ : Array Value} (hw : HW aZ Z) : SIt aZ Z (⟨"java/lang/String", "<init>", "([BB)V"⟩ : MethodName) jdk_42_method_151_code 3 := ⟨⟨(hw _ (mi 122 rfl)), (hw _ (mi 8 rfl))⟩, (hw _ (mi 123 rfl))⟩
theorem pd_360 : parseMethodDescriptor "([BB)V" = some ⟨[(.array .byte), .byte], none⟩ := by decide +kernel
theorem d23_23 : decode jdk_43_method_47_code 23 = .ok (.areturn, 1) := by decide +kernel
def Qns2_0 (Z : State) (n0 : Nat) (a0 : Addr) (k_a0 : ClassId) (y0 : Int32) (y1 : Int32) (h0 : Heap) (v : Option Value) (h : Heap) (L : List Loc) : Prop := ∃ (b bx : Addr) (kx : ClassId), v = some (.ref b) ∧ Fr n0 L ∧ Keep h0 h [] ∧ Est Z h b ∧ Fcd Z h b (.int (0 : Int32)) ∧ Fvl Z h b (.ref bx) ∧ Arv Z h bx kx .byte (1 : Int32) [(.int y1)] (.int (0 : Int32))
theorem efns2_0 (m : MethodId) (a0 : Addr) : entryFrame m #[(.ref a0), (.int (1 : Int32)), (.int (1 : Int32))] 3 = mkF m 0 #[rv a0, iv (1 : Int32), iv (1 : Int32)] [] := by first | (simp [entryFrame, mkF, argsToLocals, Value.category]; done) | rfl
set_option maxRecDepth 65536 in
set_option maxHeartbeats 40000000 in
theorem rmns2_0 (l : Launch) (Z : State) (aZ : Array Value) (hw : HW aZ Z) (ws : List Jvm.Cond) (a0 : Addr) (k_a0 : ClassId) (y0 : Int32) (y1 : Int32) (h0 : Heap) (n0 : Nat) (Z0 : n0 ≤ h0.size) (V_a0 : Arv Z h0 a0 k_a0 .byte (2 : Int32) [(.int y0), (.int y1)] (.int 0)) :
    MFn l (⟨"java/lang/StringLatin1", "newString", "([BII)Ljava/lang/String;"⟩ : MethodName) jdk_43_method_47_code 3 (some (.object "java/lang/String")) ws (Rm 3 2 5 50) #[(.ref a0), (.int 1), (.int 1)] Z h0 (Qns2_0 Z n0 a0 k_a0 y0 y1 h0) := by
  refine own_mf (C := "java/lang/StringLatin1") rfl (plainFor_of_name pn_128) (fun m => efns2_0 m a0) ?_
  intro p e s m below meth cd0 s₁ En hx hby hml hown hnm hZ X0 e0 hlk hrt go0
  have N0 := Fr.nil n0
  have K0 : Keep h0 h0 [] := Keep.refl _ _
  have go1 : Go p.tables e below s₁ (mkF m 7 #[rv a0, iv 1, iv 1] []) En := by
    intro t k
    refine go0 _ ?_
    refine XS.iloadN X0.here hx rfl (hb hby d23_0) rfl ?_
    refine XS.ifYes X0.here hx rfl (pc0 := 1) (pc' := 7) rfl (hb hby d23_1) rfl (XT.i0_ne_t (by decide : ¬ ((1 : Int32) = (0 : Int32)))) (by decide) (by decide) ?_
    exact k
  obtain ⟨T2, h2, X2, e2, E2, A2, D2, -, st2⟩ := newO X0 hx hZ hown (hw _ (mi 105 rfl)) (hw _ (mi 7 rfl)) (hw _ (mi 8 rfl)) e0 (g := (mkF m 7 #[rv a0, iv 1, iv 1] [])) rfl (hb hby d23_7) (by decide) (by decide)
  obtain ⟨b2, g2⟩ : ∃ z, z = h0.size := ⟨_, rfl⟩
  rw [← g2] at A2 D2 st2
  have ne3 : a0 ≠ b2 := Nat.ne_of_lt (Nat.lt_of_lt_of_le V_a0.lt (Nat.le_of_eq g2.symm))
  have low2 : n0 ≤ b2 := Nat.le_trans Z0 (Nat.le_of_eq g2.symm)
  have fsh2 : h0.size ≤ b2 := Nat.le_trans K0.1 (Nat.le_of_eq g2.symm)
  have K2 : Keep h0 h2 [] := K0.ext E2
  have Zs2 : n0 ≤ h2.size := Nat.le_trans Z0 E2.1
  have go4 := gap go1 st2
  have F5 : Fvl Z h2 b2 .null := D2 (Or.inr (hw _ (mi 21 rfl))) (ty := (.array .byte)) (by decide)
  have F6 : Fcd Z h2 b2 (.int 0) := D2 (Or.inr (hw _ (mi 22 rfl))) (ty := .byte) (by decide)
  have go7 : Go p.tables e below T2 (mkF m 16 #[rv a0, iv 1, iv 1] [(.int 2), (.int 1), (.ref a0), (.ref b2), (.ref b2)]) En := by
    intro t k
    refine go4 _ ?_
    refine XS.dup X2.here hx rfl (hb hby d23_10) rfl rfl ?_
    refine XS.aloadN X2.here hx rfl (hb hby d23_11) rfl rfl ?_
    refine XS.iloadN X2.here hx rfl (hb hby d23_12) rfl ?_
    refine XS.iloadN X2.here hx rfl (hb hby d23_13) rfl ?_
    refine XS.iloadN X2.here hx rfl (hb hby d23_14) rfl ?_
    show Steps _ _ _ (T2.setTop (mkF m 15 #[rv a0, iv 1, iv 1] [(.int 1), (.int 1), (.int 1), (.ref a0), (.ref b2), (.ref b2)])) _
    refine XS.iadd X2.here hx rfl (hb hby d23_15) rfl ?_
    exact k
  obtain ⟨_, T8, Lc8, X8, hQ8, st8⟩ := own_cs X2 hx hZ hown hml go7 (hb hby d23_16) e2 (hw _ (mi 106 rfl)) (own_site356 hw) (rmcr2_0 l Z aZ hw [] a0 _ y0 y1 h2 n0 Zs2 (V_a0.keep K2 nin0)) (by decide) (argsL := [(.ref a0), (.int 1), (.int 2)]) (rest := [(.ref b2), (.ref b2)]) rfl rfl rfl (lenOf pd_346 rfl) (W := 2) rfl (by decide) (by decide) (by decide : 1 + 1 ≤ _) (by decide : 4 + 1 ≤ _)
  obtain ⟨b8, kb8, rfl, N8q, K8q, fr8, G8_0⟩ := hQ8
  have N8 := Fr.app N0 N8q
  have K8 : Keep h0 T8.heap [] := K2.trans K8q all0
  have low8 : n0 ≤ b8 := Nat.le_trans Zs2 fr8
  have fsh8 : h0.size ≤ b8 := Nat.le_trans K2.1 fr8
  have ne9 : a0 ≠ b8 := Nat.ne_of_lt (Nat.lt_of_lt_of_le (V_a0.keep K2 nin0).lt fr8)
  have ne10 : b2 ≠ b8 := Nat.ne_of_lt (Nat.lt_of_lt_of_le A2.lt fr8)
  have Zs8 : n0 ≤ T8.heap.size := Nat.le_trans Zs2 K8q.1
  have F11 := A2.keep K8q
  have F12 := F5.keep K8q nin0
  have F13 := F6.keep K8q nin0
  have go14 : Go p.tables e below T8 (mkF m 20 #[rv a0, iv 1, iv 1] [(.int 0), (.ref b8), (.ref b2), (.ref b2)]) En := by
    intro t k
    refine st8 _ ?_
    refine XS.iconst X8.here hx rfl (hb hby d23_19) ?_
    exact k
  obtain ⟨_, T15, Lc15, X15, hQ15, st15⟩ := own_ci X8 hx hZ hown hml go14 (hb hby d23_20) rfl (hw _ (mi 121 rfl)) (own_site359 hw) rfl (rmsi l Z aZ hw [] b2 b8 T8.heap n0 Zs8 F11 F12 F13 low2) (by decide) (argsL := [(.ref b8), (.int 0)]) (rest := [(.ref b2)]) rfl rfl rfl (lenOf pd_360 rfl) (W := 1) rfl (by decide) (by decide) (by decide : 2 + 0 ≤ _) (by decide : 5 + 0 ≤ _)
  obtain ⟨rfl, N15q, K15q, G15_0, G15_1, G15_2⟩ := hQ15
  have N15 := Fr.app N8 N15q
  have K15 : Keep h0 T15.heap [] := K8.trans K15q (allS (Or.inr fsh2) all0)
  have Zs15 : n0 ≤ T15.heap.size := Nat.le_trans Zs8 K15q.1
  have F16 := F11.keep K15q
  have F17 := G8_0.keep K15q (ninS (Ne.symm ne10) nin0)
  refine own_out (w := (.ref b2)) X15 hx hlk st15 hrt rfl (Or.inr (Or.inr (Or.inr (Or.inr ⟨rfl, rfl, rfl⟩)))) (hb hby d23_23) rfl (by decide) (by decide) ?_
  exact ⟨b2, b8, kb8, rfl, N15, K15, G15_0, G15_2, G15_1, F17⟩
theorem own_site362 {Z : State} {aZ : Array Value} (hw : HW aZ Z) : SSt aZ Z (⟨"java/lang/StringLatin1", "newString", "([BII)Ljava/lang/String;"⟩ : MethodName) jdk_43_method_47_code 3 (some (.object "java/lang/String")) := ⟨⟨(hw _ (mi 103 rfl)), (hw _ (mi 59 rfl))⟩, (hw _ (mi 104 rfl))⟩
def Qss2_0 (Z : State) (n0 : Nat) (a0 : Addr) (w_a0_value : Addr) (k_w_a0_value : ClassId) (y0 : Int32) (y1 : Int32) (s_COMPACT_STRINGS : Int32) (s_SIOOBE_FORMATTER : Value) (h0 : Heap) (v : Option Value) (h : Heap) (L : List Loc) : Prop := ∃ (b bx : Addr) (kx : ClassId), v = some (.ref b) ∧ Fr n0 L ∧ Keep h0 h [] ∧ Est Z h b ∧ Fcd Z h b (.int (0 : Int32)) ∧ Fvl Z h b (.ref bx) ∧ Arv Z h bx kx .byte (1 : Int32) [(.int y1)] (.int (0 : Int32))
theorem efss2_0 (m : MethodId) (a0 : Addr) : entryFrame m #[(.ref a0), (.int (1 : Int32)), (.int (2 : Int32))] 5 = mkF m 0 #[rv a0, iv (1 : Int32), iv (2 : Int32), .unset, .unset] [] := by first | (simp [entryFrame, mkF, argsToLocals, Value.category]; done) | rfl
abbrev Lss2_0_0 (a0 : Addr) : Array Slot := #[rv a0, iv 1, iv 2, iv 2, iv 1]
set_option maxRecDepth 65536 in
set_option maxHeartbeats 40000000 in
theorem rmss2_0 (l : Launch) (Z : State) (aZ : Array Value) (hw : HW aZ Z) (ws : List Jvm.Cond) (a0 : Addr) (w_a0_value : Addr) (k_w_a0_value : ClassId) (y0 : Int32) (y1 : Int32) (s_COMPACT_STRINGS : Int32) (s_SIOOBE_FORMATTER : Value) (h0 : Heap) (n0 : Nat) (Z0 : n0 ≤ h0.size) (E_a0 : Est Z h0 a0) (F_a0_coder : Fcd Z h0 a0 (.int 0)) (F_a0_value : Fvl Z h0 a0 (.ref w_a0_value)) (V_w_a0_value : Arv Z h0 w_a0_value k_w_a0_value .byte (2 : Int32) [(.int y0), (.int y1)] (.int 0)) (S_COMPACT_STRINGS : SfC Z h0 (.int s_COMPACT_STRINGS)) (hcs : ¬ s_COMPACT_STRINGS = (0 : Int32)) (S_SIOOBE_FORMATTER : SfF Z h0 s_SIOOBE_FORMATTER) (rS_SIOOBE_FORMATTER : s_SIOOBE_FORMATTER.isRef = true) :
    MFn l (⟨"java/lang/String", "substring", "(II)Ljava/lang/String;"⟩ : MethodName) jdk_42_method_92_code 5 (some (.object "java/lang/String")) ws (Rm 4 2 5 64) #[(.ref a0), (.int 1), (.int 2)] Z h0 (Qss2_0 Z n0 a0 w_a0_value k_w_a0_value y0 y1 s_COMPACT_STRINGS s_SIOOBE_FORMATTER h0) := by
  refine own_mf (C := "java/lang/String") rfl (plainFor_of_name pn_15) (fun m => efss2_0 m a0) ?_
  intro p e s m below meth cd0 s₁ En hx hby hml hown hnm hZ X0 e0 hlk hrt go0
  have N0 := Fr.nil n0
  have K0 : Keep h0 h0 [] := Keep.refl _ _
  have go1 : Go p.tables e below s₁ (mkF m 1 #[rv a0, iv 1, iv 2, .unset, .unset] [(.ref a0)]) En := by
    intro t k
    refine go0 _ ?_
    refine XS.aloadN X0.here hx rfl (hb hby d20_0) rfl rfl ?_
    exact k
  obtain ⟨_, T2, Lc2, X2, hQ2, st2⟩ := own_cv X0 hx hZ hown hml go1 (hb hby d20_1) e0 (hw _ (mi 47 rfl)) (own_site185 hw) E_a0 (rmln l Z aZ hw [] a0 _ _ _ _ _ h0 n0 Z0 E_a0 F_a0_coder F_a0_value V_w_a0_value S_COMPACT_STRINGS hcs) (by decide) (argsL := []) (rest := []) rfl rfl rfl (lenOf pd_186 rfl) (W := 0) rfl (by decide) (by decide) (by decide : 0 + 0 ≤ _) (by decide : 0 + 0 ≤ _)
  obtain ⟨rfl, N2q, e2⟩ := hQ2
  have N2 := Fr.app N0 N2q
  have go3 : Go p.tables e below T2 (mkF m 8 #[rv a0, iv 1, iv 2, iv 2, .unset] [(.int 2), (.int 2), (.int 1)]) En := by
    intro t k
    refine st2 _ ?_
    refine XS.istoreN X2.here hx rfl (hb hby d20_4) rfl (l' := #[rv a0, iv 1, iv 2, iv 2, .unset]) rfl ?_
    refine XS.iloadN X2.here hx rfl (hb hby d20_5) rfl ?_
    refine XS.iloadN X2.here hx rfl (hb hby d20_6) rfl ?_
    refine XS.iloadN X2.here hx rfl (hb hby d20_7) rfl ?_
    exact k
  obtain ⟨_, T4, Lc4, X4, hQ4, st4⟩ := own_cs X2 hx hZ hown hml go3 (hb hby d20_8) e2 (hw _ (mi 94 rfl)) (own_site282 hw) (rmcbb l Z aZ hw [] (1 : Int32) (2 : Int32) (2 : Int32) _ h0 n0 Z0 S_SIOOBE_FORMATTER rS_SIOOBE_FORMATTER (by decide) (by decide) (by decide)) (by decide) (argsL := [(.int 1), (.int 2), (.int 2)]) (rest := []) rfl rfl rfl (lenOf pd_283 rfl) (W := 0) rfl (by decide) (by decide) (by decide : 0 + 0 ≤ _) (by decide : 0 + 0 ≤ _)
  obtain ⟨rfl, N4q, e4⟩ := hQ4
  have N4 := Fr.app N2 N4q
  have go5 : Go p.tables e below T4 (mkF m 28 (Lss2_0_0 a0) [(.ref a0)]) En := by
    intro t k
    refine st4 _ ?_
    refine XS.iloadN X4.here hx rfl (hb hby d20_11) rfl ?_
    refine XS.ifYes X4.here hx rfl (pc0 := 12) (pc' := 22) rfl (hb hby d20_12) rfl (XT.i0_ne_t (by decide : ¬ ((1 : Int32) = (0 : Int32)))) (by decide) (by decide) ?_
    refine XS.iloadN X4.here hx rfl (hb hby d20_22) rfl ?_
    refine XS.iloadN X4.here hx rfl (hb hby d20_23) rfl ?_
    refine XS.isub X4.here hx rfl (hb hby d20_24) rfl ?_
    show Steps _ _ _ (T4.setTop (mkF m 25 #[rv a0, iv 1, iv 2, iv 2, .unset] [(.int 1)])) _
    refine XS.istore X4.here hx rfl (hb hby d20_25) rfl (l' := (Lss2_0_0 a0)) rfl ?_
    refine XS.aloadN X4.here hx rfl (hb hby d20_27) rfl rfl ?_
    exact k
  obtain ⟨_, T6, Lc6, X6, hQ6, st6⟩ := own_cv X4 hx hZ hown hml go5 (hb hby d20_28) e4 (hw _ (mi 41 rfl)) (own_site176 hw) E_a0 (rmil l Z aZ hw [] a0 _ h0 n0 Z0 S_COMPACT_STRINGS hcs F_a0_coder) (by decide) (argsL := []) (rest := []) rfl rfl rfl (lenOf pd_177 rfl) (W := 0) rfl (by decide) (by decide) (by decide : 0 + 0 ≤ _) (by decide : 0 + 0 ≤ _)
  obtain ⟨rfl, N6q, e6⟩ := hQ6
  have N6 := Fr.app N4 N6q
  have go7 : Go p.tables e below T6 (mkF m 35 (Lss2_0_0 a0) [(.ref a0)]) En := by
    intro t k
    refine st6 _ ?_
    refine XS.ifNo X6.here hx rfl (hb hby d20_31) rfl (XT.i0_eq_f (by decide : ¬ ((1 : Int32) = (0 : Int32)))) ?_
    refine XS.aloadN X6.here hx rfl (hb hby d20_34) rfl rfl ?_
    exact k
  obtain ⟨T8, X8, e8, st8⟩ := getF X6 hx hZ hown (host := "") (Or.inl (hw _ (mi 25 rfl))) Via.refl e6 F_a0_value (g := (mkF m 35 (Lss2_0_0 a0) [(.ref a0)])) rfl rfl (hb hby d20_35)
  have go9 := gap go7 st8
  have go10 : Go p.tables e below T8 (mkF m 41 (Lss2_0_0 a0) [(.int 1), (.int 1), (.ref w_a0_value)]) En := by
    intro t k
    refine go9 _ ?_
    refine XS.iloadN X8.here hx rfl (hb hby d20_38) rfl ?_
    refine XS.iload X8.here hx rfl (hb hby d20_39) rfl ?_
    exact k
  obtain ⟨_, T11, Lc11, X11, hQ11, st11⟩ := own_cs X8 hx hZ hown hml go10 (hb hby d20_41) e8 (hw _ (mi 102 rfl)) (own_site362 hw) (rmns2_0 l Z aZ hw [] _ _ y0 y1 h0 n0 Z0 V_w_a0_value) (by decide) (argsL := [(.ref w_a0_value), (.int 1), (.int 1)]) (rest := []) rfl rfl rfl (lenOf pd_298 rfl) (W := 0) rfl (by decide) (by decide) (by decide : 0 + 2 ≤ _) (by decide : 0 + 5 ≤ _)
  obtain ⟨b11, bx11, kx11, rfl, N11q, K11q, GE11, GC11, GX11, GV11⟩ := hQ11
  have N11 := Fr.app N6 N11q
  have K11 : Keep h0 T11.heap [] := K0.trans K11q all0
  have Zs11 : n0 ≤ T11.heap.size := Nat.le_trans Z0 K11q.1
  have go12 : Go p.tables e below T11 (mkF m 57 (Lss2_0_0 a0) [(.ref b11)]) En := by
    intro t k
    refine st11 _ ?_
    refine XS.goto X11.here hx rfl (pc0 := 44) (pc' := 57) rfl (hb hby d20_44) (by decide) (by decide) ?_
    exact k
  refine own_out (w := (.ref b11)) X11 hx hlk go12 hrt rfl (Or.inr (Or.inr (Or.inr (Or.inr ⟨rfl, rfl, rfl⟩)))) (hb hby d20_57) rfl (by decide) (by decide) ?_
  exact ⟨b11, bx11, kx11, rfl, N11, K11, GE11, GC11, GX11, GV11⟩
theorem own_site363 {Z : State} {aZ : Array Value} (hw : HW aZ Z) : SVt aZ Z "java/lang/String" (⟨"java/lang/String", "substring", "(II)Ljava/lang/String;"⟩ : MethodName) jdk_42_method_92_code 5 (some (.object "java/lang/String")) := ⟨⟨⟨(hw _ (mi 90 rfl)), (hw _ (mi 92 rfl))⟩, (hw _ (mi 91 rfl)), (hw _ (mi 8 rfl))⟩, (hw _ (mi 93 rfl))⟩
def Qst2_0 (Z : State) (n0 : Nat) (a0 : Addr) (w_a0_value : Addr) (k_w_a0_value : ClassId) (y0 : Int32) (y1 : Int32) (s_COMPACT_STRINGS : Int32) (s_SIOOBE_FORMATTER : Value) (h0 : Heap) (v : Option Value) (h : Heap) (L : List Loc) : Prop := ∃ (b bx : Addr) (kx : ClassId), v = some (.ref b) ∧ Fr n0 L ∧ Keep h0 h [] ∧ Est Z h b ∧ Fcd Z h b (.int (0 : Int32)) ∧ Fvl Z h b (.ref bx) ∧ Arv Z h bx kx .byte (1 : Int32) [(.int y1)] (.int (0 : Int32))
theorem efst2_0 (m : MethodId) (a0 : Addr) : entryFrame m #[(.ref a0), (.int (1 : Int32))] 2 = mkF m 0 #[rv a0, iv (1 : Int32)] [] := by first | (simp [entryFrame, mkF, argsToLocals, Value.category]; done) | rfl
set_option maxRecDepth 65536 in
set_option maxHeartbeats 40000000 in
theorem rmst2_0 (l : Launch) (Z : State) (aZ : Array Value) (hw : HW aZ Z) (ws : List Jvm.Cond) (a0 : Addr) (w_a0_value : Addr) (k_w_a0_value : ClassId) (y0 : Int32) (y1 : Int32) (s_COMPACT_STRINGS : Int32) (s_SIOOBE_FORMATTER : Value) (h0 : Heap) (n0 : Nat) (Z0 : n0 ≤ h0.size) (E_a0 : Est Z h0 a0) (F_a0_coder : Fcd Z h0 a0 (.int 0)) (F_a0_value : Fvl Z h0 a0 (.ref w_a0_value)) (V_w_a0_value : Arv Z h0 w_a0_value k_w_a0_value .byte (2 : Int32) [(.int y0), (.int y1)] (.int 0)) (S_COMPACT_STRINGS : SfC Z h0 (.int s_COMPACT_STRINGS)) (hcs : ¬ s_COMPACT_STRINGS = (0 : Int32)) (S_SIOOBE_FORMATTER : SfF Z h0 s_SIOOBE_FORMATTER) (rS_SIOOBE_FORMATTER : s_SIOOBE_FORMATTER.isRef = true) :
    MFn l (⟨"java/lang/String", "substring", "(I)Ljava/lang/String;"⟩ : MethodName) jdk_42_method_91_code 2 (some (.object "java/lang/String")) ws (Rm 5 2 5 80) #[(.ref a0), (.int 1)] Z h0 (Qst2_0 Z n0 a0 w_a0_value k_w_a0_value y0 y1 s_COMPACT_STRINGS s_SIOOBE_FORMATTER h0) := by
  refine own_mf (C := "java/lang/String") rfl (plainFor_of_name pn_15) (fun m => efst2_0 m a0) ?_
  intro p e s m below meth cd0 s₁ En hx hby hml hown hnm hZ X0 e0 hlk hrt go0
  have N0 := Fr.nil n0
  have K0 : Keep h0 h0 [] := Keep.refl _ _
  have go1 : Go p.tables e below s₁ (mkF m 3 #[rv a0, iv 1] [(.ref a0), (.int 1), (.ref a0)]) En := by
    intro t k
    refine go0 _ ?_
    refine XS.aloadN X0.here hx rfl (hb hby d19_0) rfl rfl ?_
    refine XS.iloadN X0.here hx rfl (hb hby d19_1) rfl ?_
    refine XS.aloadN X0.here hx rfl (hb hby d19_2) rfl rfl ?_
    exact k
  obtain ⟨_, T2, Lc2, X2, hQ2, st2⟩ := own_cv X0 hx hZ hown hml go1 (hb hby d19_3) e0 (hw _ (mi 47 rfl)) (own_site185 hw) E_a0 (rmln l Z aZ hw [] a0 _ _ _ _ _ h0 n0 Z0 E_a0 F_a0_coder F_a0_value V_w_a0_value S_COMPACT_STRINGS hcs) (by decide) (argsL := []) (rest := [(.int 1), (.ref a0)]) rfl rfl rfl (lenOf pd_186 rfl) (W := 2) rfl (by decide) (by decide) (by decide : 0 + 0 ≤ _) (by decide : 0 + 0 ≤ _)
  obtain ⟨rfl, N2q, e2⟩ := hQ2
  have N2 := Fr.app N0 N2q
  obtain ⟨_, T3, Lc3, X3, hQ3, st3⟩ := own_cv X2 hx hZ hown hml st2 (hb hby d19_6) e2 (hw _ (mi 89 rfl)) (own_site363 hw) E_a0 (rmss2_0 l Z aZ hw [] a0 _ _ y0 y1 _ _ h0 n0 Z0 E_a0 F_a0_coder F_a0_value V_w_a0_value S_COMPACT_STRINGS hcs S_SIOOBE_FORMATTER rS_SIOOBE_FORMATTER) (by decide) (argsL := [(.int 1), (.int 2)]) (rest := []) rfl rfl rfl (lenOf pd_306 rfl) (W := 0) rfl (by decide) (by decide) (by decide : 0 + 2 ≤ _) (by decide : 0 + 5 ≤ _)
  obtain ⟨b3, bx3, kx3, rfl, N3q, K3q, GE3, GC3, GX3, GV3⟩ := hQ3
  have N3 := Fr.app N2 N3q
  have K3 : Keep h0 T3.heap [] := K0.trans K3q all0
  have Zs3 : n0 ≤ T3.heap.size := Nat.le_trans Z0 K3q.1
  refine own_out (w := (.ref b3)) X3 hx hlk st3 hrt rfl (Or.inr (Or.inr (Or.inr (Or.inr ⟨rfl, rfl, rfl⟩)))) (hb hby d19_9) rfl (by decide) (by decide) ?_
  exact ⟨b3, bx3, kx3, rfl, N3, K3, GE3, GC3, GX3, GV3⟩
theorem own_site364 {Z : State} {aZ : Array Value} (hw : HW aZ Z) : SVt aZ Z "java/lang/String" (⟨"java/lang/String", "substring", "(I)Ljava/lang/String;"⟩ : MethodName) jdk_42_method_91_code 2 (some (.object "java/lang/String")) := ⟨⟨⟨(hw _ (mi 85 rfl)), (hw _ (mi 87 rfl))⟩, (hw _ (mi 86 rfl)), (hw _ (mi 8 rfl))⟩, (hw _ (mi 88 rfl))⟩
def Qqs2_0 (Z : State) (n0 : Nat) (a0 : Addr) (w_a0_value : Addr) (k_w_a0_value : ClassId) (y0 : Int32) (y1 : Int32) (s_COMPACT_STRINGS : Int32) (s_SIOOBE_FORMATTER : Value) (h0 : Heap) (v : Option Value) (h : Heap) (L : List Loc) : Prop := ∃ (b bx : Addr) (kx : ClassId), v = some (.ref b) ∧ Fr n0 L ∧ Keep h0 h [] ∧ Est Z h b ∧ Fcd Z h b (.int (0 : Int32)) ∧ Fvl Z h b (.ref bx) ∧ Arv Z h bx kx .byte (1 : Int32) [(.int y1)] (.int (0 : Int32))
theorem efqs2_0 (m : MethodId) (a0 : Addr) : entryFrame m #[(.ref a0)] 2 = mkF m 0 #[rv a0, .unset] [] := by first | (simp [entryFrame, mkF, argsToLocals, Value.category]; done) | rfl
set_option maxRecDepth 65536 in
set_option maxHeartbeats 40000000 in
theorem rmqs2_0 (l : Launch) (Z : State) (aZ : Array Value) (hw : HW aZ Z) (ws : List Jvm.Cond) (a0 : Addr) (w_a0_value : Addr) (k_w_a0_value : ClassId) (y0 : Int32) (y1 : Int32) (s_COMPACT_STRINGS : Int32) (s_SIOOBE_FORMATTER : Value) (h0 : Heap) (n0 : Nat) (Z0 : n0 ≤ h0.size) (E_a0 : Est Z h0 a0) (F_a0_coder : Fcd Z h0 a0 (.int 0)) (F_a0_value : Fvl Z h0 a0 (.ref w_a0_value)) (V_w_a0_value : Arv Z h0 w_a0_value k_w_a0_value .byte (2 : Int32) [(.int y0), (.int y1)] (.int 0)) (S_COMPACT_STRINGS : SfC Z h0 (.int s_COMPACT_STRINGS)) (hcs : ¬ s_COMPACT_STRINGS = (0 : Int32)) (hk : (fiz2 y0 y1) = (0 : Int32)) (S_SIOOBE_FORMATTER : SfF Z h0 s_SIOOBE_FORMATTER) (rS_SIOOBE_FORMATTER : s_SIOOBE_FORMATTER.isRef = true) :
    MFn l (⟨"com/example/nephele/nephele/web/internal/RequestPath", "queryString", "(Ljava/lang/String;)Ljava/lang/String;"⟩ : MethodName) prog_24_method_3_code 2 (some (.object "java/lang/String")) ws (Rm 6 2 5 93) #[(.ref a0)] Z h0 (Qqs2_0 Z n0 a0 w_a0_value k_w_a0_value y0 y1 s_COMPACT_STRINGS s_SIOOBE_FORMATTER h0) := by
  refine own_mf (C := "com/example/nephele/nephele/web/internal/RequestPath") rfl (plainFor_of_name pn_274) (fun m => efqs2_0 m a0) ?_
  intro p e s m below meth cd0 s₁ En hx hby hml hown hnm hZ X0 e0 hlk hrt go0
  have N0 := Fr.nil n0
  have K0 : Keep h0 h0 [] := Keep.refl _ _
  have go1 : Go p.tables e below s₁ (mkF m 3 #[rv a0, .unset] [(.int 63), (.ref a0)]) En := by
    intro t k
    refine go0 _ ?_
    refine XS.aloadN X0.here hx rfl (hb hby d5_0) rfl rfl ?_
    refine XS.bipush X0.here hx rfl (hb hby d5_1) ?_
    exact k
  obtain ⟨_, T2, Lc2, X2, hQ2, st2⟩ := own_cv X0 hx hZ hown hml go1 (hb hby d5_3) e0 (hw _ (mi 31 rfl)) (own_site266 hw) E_a0 (rmiz2 l Z aZ hw [] a0 _ _ y0 y1 _ h0 n0 Z0 E_a0 F_a0_coder F_a0_value V_w_a0_value S_COMPACT_STRINGS hcs) (by decide) (argsL := [(.int 63)]) (rest := []) rfl rfl rfl (lenOf pd_267 rfl) (W := 0) rfl (by decide) (by decide) (by decide : 0 + 0 ≤ _) (by decide : 0 + 0 ≤ _)
  obtain ⟨rfl, N2q, e2⟩ := hQ2
  have N2 := Fr.app N0 N2q
  have go3 : Go p.tables e below T2 (mkF m 6 #[rv a0, .unset] [(.int 0)]) En := by
    have q := st2
    rw [hk] at q
    exact q
  have go4 : Go p.tables e below T2 (mkF m 19 #[rv a0, iv 0] [(.int 1), (.ref a0)]) En := by
    intro t k
    refine go3 _ ?_
    refine XS.istoreN X2.here hx rfl (hb hby d5_6) rfl (l' := #[rv a0, iv 0]) rfl ?_
    refine XS.iloadN X2.here hx rfl (hb hby d5_7) rfl ?_
    refine XS.ifYes X2.here hx rfl (pc0 := 8) (pc' := 15) rfl (hb hby d5_8) rfl (XT.i0_ge_t (by decide : ¬ ((0 : Int32) < (0 : Int32)))) (by decide) (by decide) ?_
    refine XS.aloadN X2.here hx rfl (hb hby d5_15) rfl rfl ?_
    refine XS.iloadN X2.here hx rfl (hb hby d5_16) rfl ?_
    show Steps _ _ _ (T2.setTop (mkF m 17 #[rv a0, iv 0] [(.int 0), (.ref a0)])) _
    refine XS.iconst X2.here hx rfl (hb hby d5_17) ?_
    refine XS.iadd X2.here hx rfl (hb hby d5_18) rfl ?_
    exact k
  obtain ⟨_, T5, Lc5, X5, hQ5, st5⟩ := own_cv X2 hx hZ hown hml go4 (hb hby d5_19) e2 (hw _ (mi 84 rfl)) (own_site364 hw) E_a0 (rmst2_0 l Z aZ hw [] a0 _ _ y0 y1 _ _ h0 n0 Z0 E_a0 F_a0_coder F_a0_value V_w_a0_value S_COMPACT_STRINGS hcs S_SIOOBE_FORMATTER rS_SIOOBE_FORMATTER) (by decide) (argsL := [(.int 1)]) (rest := []) rfl rfl rfl (lenOf pd_313 rfl) (W := 0) rfl (by decide) (by decide) (by decide : 0 + 2 ≤ _) (by decide : 0 + 5 ≤ _)
  obtain ⟨b5, bx5, kx5, rfl, N5q, K5q, GE5, GC5, GX5, GV5⟩ := hQ5
  have N5 := Fr.app N2 N5q
  have K5 : Keep h0 T5.heap [] := K0.trans K5q all0
  have Zs5 : n0 ≤ T5.heap.size := Nat.le_trans Z0 K5q.1
  refine own_out (w := (.ref b5)) X5 hx hlk st5 hrt rfl (Or.inr (Or.inr (Or.inr (Or.inr ⟨rfl, rfl, rfl⟩)))) (hb hby d5_22) rfl (by decide) (by decide) ?_
  exact ⟨b5, bx5, kx5, rfl, N5, K5, GE5, GC5, GX5, GV5⟩
def Qss2_1 (Z : State) (n0 : Nat) (a0 : Addr) (w_a0_value : Addr) (k_w_a0_value : ClassId) (y0 : Int32) (y1 : Int32) (s_COMPACT_STRINGS : Int32) (s_SIOOBE_FORMATTER : Value) (h0 : Heap) (v : Option Value) (h : Heap) (L : List Loc) : Prop := ∃ (b bx : Addr) (kx : ClassId), v = some (.ref b) ∧ Fr n0 L ∧ Keep h0 h [] ∧ Est Z h b ∧ Fcd Z h b (.int (0 : Int32)) ∧ Fvl Z h b (.ref bx) ∧ Arv Z h bx kx .byte (0 : Int32) [] (.int (0 : Int32))
theorem efss2_1 (m : MethodId) (a0 : Addr) : entryFrame m #[(.ref a0), (.int (2 : Int32)), (.int (2 : Int32))] 5 = mkF m 0 #[rv a0, iv (2 : Int32), iv (2 : Int32), .unset, .unset] [] := by first | (simp [entryFrame, mkF, argsToLocals, Value.category]; done) | rfl
abbrev Lss2_1_0 (a0 : Addr) : Array Slot := #[rv a0, iv 2, iv 2, iv 2, iv 0]
set_option maxRecDepth 65536 in
set_option maxHeartbeats 40000000 in
theorem rmss2_1 (l : Launch) (Z : State) (aZ : Array Value) (hw : HW aZ Z) (ws : List Jvm.Cond) (a0 : Addr) (w_a0_value : Addr) (k_w_a0_value : ClassId) (y0 : Int32) (y1 : Int32) (s_COMPACT_STRINGS : Int32) (s_SIOOBE_FORMATTER : Value) (h0 : Heap) (n0 : Nat) (Z0 : n0 ≤ h0.size) (E_a0 : Est Z h0 a0) (F_a0_coder : Fcd Z h0 a0 (.int 0)) (F_a0_value : Fvl Z h0 a0 (.ref w_a0_value)) (V_w_a0_value : Arv Z h0 w_a0_value k_w_a0_value .byte (2 : Int32) [(.int y0), (.int y1)] (.int 0)) (S_COMPACT_STRINGS : SfC Z h0 (.int s_COMPACT_STRINGS)) (hcs : ¬ s_COMPACT_STRINGS = (0 : Int32)) (S_SIOOBE_FORMATTER : SfF Z h0 s_SIOOBE_FORMATTER) (rS_SIOOBE_FORMATTER : s_SIOOBE_FORMATTER.isRef = true) (hkp : ∀ (b : Addr) (cl : Cell), Z.heap[b]? = some cl → h0[b]? = some cl) (hcn151 : Jvm.Lit.constHeld Z "java/lang/StringLatin1" 151) (hcw : Jvm.Lit.compactW.before aZ Z = true) :
    MetFree l (⟨"java/lang/String", "substring", "(II)Ljava/lang/String;"⟩ : MethodName) (head1 (Jvm.Cond.code (⟨"java/lang/String", "substring", "(II)Ljava/lang/String;"⟩ : MethodName) jdk_42_method_92_code 5 (some (.object "java/lang/String")) :: ws) ({ frames := 2, cells := 2, slots := 4, locals := 29 } : Room)) (fun a U => a = #[(.ref a0), (.int 2), (.int 2)] ∧ Z.Warmed39 U.vm ∧ U.heap = h0 ∧ IB Z U.vm []) (fun _ _ _ _ _ => True) (fun _ U o U' => ∃ v L, o = .returned v ∧ Qss2_1 Z n0 a0 w_a0_value k_w_a0_value y0 y1 s_COMPACT_STRINGS s_SIOOBE_FORMATTER h0 v U'.heap L ∧ ReturnedEndW U o U' L ({ frames := 2, cells := 2, slots := 4, locals := 29 } : Room).cells ({ frames := 2, cells := 2, slots := 4, locals := 29 } : Room).slots) := by
  refine MetFree.of_bodySF (plainFor_of_name pn_15) hisR ?_
  intro p e s m args below meth c s₁ Bd hml0 hP hK
  obtain ⟨rfl, hZ, hh, IB0⟩ := hP
  have hx := Bd.exec
  have hby := Bd.bytes
  have hml : c.maxLocals = 5 := hml0
  have hown : s.vm.findClass "java/lang/String" = some m.cls := findClass_of_methodNamed Bd.named
  have hnm := (name_of_methodNamed Bd.named Bd.method).1
  have X0 : Stand p l e ({ frames := 2, cells := 2, slots := 4, locals := 29 } : Room) (s.setVm s.vm) m #[(.ref a0), (.int 2), (.int 2)] below meth c s₁ [] 0 0 := Stand.of_body Bd
  have e0 : s₁.heap = h0 := by rw [← hh, Bd.state]; rfl
  have N0 := Fr.nil n0
  have K0 : Keep h0 h0 [] := Keep.refl _ _
  obtain ⟨En, hEn⟩ : ∃ z, z = (s₁.setTop (entryFrame m #[(.ref a0), (.int 2), (.int 2)] 5)) := ⟨_, rfl⟩
  have go0 : Go p.tables e below s₁ (mkF m 0 #[rv a0, iv 2, iv 2, .unset, .unset] []) En := fun t k => by subst hEn; exact castTop (efss2_1 m a0) k
  have hS0 : s.Since s.vm s.heap.size := (State.WarmedH.refl s).since _
  have hk0 : s.heap.size ≤ h0.size := by rw [← hh]; exact Nat.le_refl _
  have hkS : ∀ (b : Addr) (cl : Cell), Z.heap[b]? = some cl → s.heap[b]? = some cl := fun b cl q => by rw [hh]; exact hkp b cl q
  have go1 : Go p.tables e below s₁ (mkF m 1 #[rv a0, iv 2, iv 2, .unset, .unset] [(.ref a0)]) En := by
    intro t k
    refine go0 _ ?_
    refine XS.aloadN X0.here hx rfl (hb hby d20_0) rfl rfl ?_
    exact k
  obtain ⟨_, T2, Lc2, X2, hQ2, st2⟩ := own_cv X0 hx hZ hown hml go1 (hb hby d20_1) e0 (hw _ (mi 47 rfl)) (own_site185 hw) E_a0 (rmln l Z aZ hw [] a0 _ _ _ _ _ h0 n0 Z0 E_a0 F_a0_coder F_a0_value V_w_a0_value S_COMPACT_STRINGS hcs) (by decide) (argsL := []) (rest := []) rfl rfl rfl (lenOf pd_186 rfl) (W := 0) rfl (by decide) (by decide) (by decide : 0 + 0 ≤ _) (by decide : 0 + 0 ≤ _)
  obtain ⟨rfl, N2q, e2⟩ := hQ2
  have N2 := Fr.app N0 N2q
  have go3 : Go p.tables e below T2 (mkF m 8 #[rv a0, iv 2, iv 2, iv 2, .unset] [(.int 2), (.int 2), (.int 2)]) En := by
    intro t k
    refine st2 _ ?_
    refine XS.istoreN X2.here hx rfl (hb hby d20_4) rfl (l' := #[rv a0, iv 2, iv 2, iv 2, .unset]) rfl ?_
    refine XS.iloadN X2.here hx rfl (hb hby d20_5) rfl ?_
    refine XS.iloadN X2.here hx rfl (hb hby d20_6) rfl ?_
    refine XS.iloadN X2.here hx rfl (hb hby d20_7) rfl ?_
    exact k
  obtain ⟨_, T4, Lc4, X4, hQ4, st4⟩ := own_cs X2 hx hZ hown hml go3 (hb hby d20_8) e2 (hw _ (mi 94 rfl)) (own_site282 hw) (rmcbb l Z aZ hw [] (2 : Int32) (2 : Int32) (2 : Int32) _ h0 n0 Z0 S_SIOOBE_FORMATTER rS_SIOOBE_FORMATTER (by decide) (by decide) (by decide)) (by decide) (argsL := [(.int 2), (.int 2), (.int 2)]) (rest := []) rfl rfl rfl (lenOf pd_283 rfl) (W := 0) rfl (by decide) (by decide) (by decide : 0 + 0 ≤ _) (by decide : 0 + 0 ≤ _)
  obtain ⟨rfl, N4q, e4⟩ := hQ4
  have N4 := Fr.app N2 N4q
  have go5 : Go p.tables e below T4 (mkF m 28 (Lss2_1_0 a0) [(.ref a0)]) En := by
    intro t k
    refine st4 _ ?_
    refine XS.iloadN X4.here hx rfl (hb hby d20_11) rfl ?_
    refine XS.ifYes X4.here hx rfl (pc0 := 12) (pc' := 22) rfl (hb hby d20_12) rfl (XT.i0_ne_t (by decide : ¬ ((2 : Int32) = (0 : Int32)))) (by decide) (by decide) ?_
    refine XS.iloadN X4.here hx rfl (hb hby d20_22) rfl ?_
    refine XS.iloadN X4.here hx rfl (hb hby d20_23) rfl ?_
    refine XS.isub X4.here hx rfl (hb hby d20_24) rfl ?_
    show Steps _ _ _ (T4.setTop (mkF m 25 #[rv a0, iv 2, iv 2, iv 2, .unset] [(.int 0)])) _
    refine XS.istore X4.here hx rfl (hb hby d20_25) rfl (l' := (Lss2_1_0 a0)) rfl ?_
    refine XS.aloadN X4.here hx rfl (hb hby d20_27) rfl rfl ?_
    exact k
  obtain ⟨_, T6, Lc6, X6, hQ6, st6⟩ := own_cv X4 hx hZ hown hml go5 (hb hby d20_28) e4 (hw _ (mi 41 rfl)) (own_site176 hw) E_a0 (rmil l Z aZ hw [] a0 _ h0 n0 Z0 S_COMPACT_STRINGS hcs F_a0_coder) (by decide) (argsL := []) (rest := []) rfl rfl rfl (lenOf pd_177 rfl) (W := 0) rfl (by decide) (by decide) (by decide : 0 + 0 ≤ _) (by decide : 0 + 0 ≤ _)
  obtain ⟨rfl, N6q, e6⟩ := hQ6
  have N6 := Fr.app N4 N6q
  have go7 : Go p.tables e below T6 (mkF m 35 (Lss2_1_0 a0) [(.ref a0)]) En := by
    intro t k
    refine st6 _ ?_
    refine XS.ifNo X6.here hx rfl (hb hby d20_31) rfl (XT.i0_eq_f (by decide : ¬ ((1 : Int32) = (0 : Int32)))) ?_
    refine XS.aloadN X6.here hx rfl (hb hby d20_34) rfl rfl ?_
    exact k
  obtain ⟨T8, X8, e8, st8⟩ := getF X6 hx hZ hown (host := "") (Or.inl (hw _ (mi 25 rfl))) Via.refl e6 F_a0_value (g := (mkF m 35 (Lss2_1_0 a0) [(.ref a0)])) rfl rfl (hb hby d20_35)
  have go9 := gap go7 st8
  have go10 : Go p.tables e below T8 (mkF m 41 (Lss2_1_0 a0) [(.int 0), (.int 2), (.ref w_a0_value)]) En := by
    intro t k
    refine go9 _ ?_
    refine XS.iloadN X8.here hx rfl (hb hby d20_38) rfl ?_
    refine XS.iload X8.here hx rfl (hb hby d20_39) rfl ?_
    exact k
  obtain ⟨_, _, ⟨T11, L11, k11, n11⟩, -, X11q, hS11q, hg11, ⟨Lc11, hQ11, l11, y11, z11⟩, st11⟩ := callSS X8 hx (y := (⟨"java/lang/StringLatin1", "newString", "([BII)Ljava/lang/String;"⟩ : MethodName)) hown (mvT hZ (hw _ (mi 102 rfl))) (mvT hZ (hw _ (mi 103 rfl))) (mvT hZ (hw _ (mi 59 rfl))) (mvT hZ (hw _ (mi 104 rfl))) (by decide) (own_backOfSI (W := 0) (rmns0 l Z aZ hw [] w_a0_value (2 : Int32) h0 n0 Z0 hkp hcn151 hcw) hZ (hw _ (mi 104 rfl)) (hw _ (mi 59 rfl)) (by decide) (by decide) IB0) (g := (mkF m 41 (Lss2_1_0 a0) [(.int 0), (.int 2), (.ref w_a0_value)])) rfl (by rw [hml]; rfl) (argsL := [(.ref w_a0_value), (.int 2), (.int 0)]) (rest := []) (lenOf pd_298 rfl) rfl (by show 2 * 0 + _ ≤ _; exact Nat.le_of_eq rfl) (hb hby d20_41) (fun _ _ => ⟨rfl, e8, (by decide : 0 + 2 ≤ _), (by decide : 0 + 4 ≤ _)⟩)
  dsimp only [Pt.U, Pt.locs, Pt.cells, Pt.slots] at X11q hS11q hg11 l11 y11 z11 st11 hQ11
  subst l11 y11 z11
  have hk11q : s.heap.size ≤ T8.heap.size := by rw [e8]; exact hk0
  obtain ⟨X11, hS11, hZ11, hown11⟩ := rebS hS0 hk11q X11q hS11q hg11 hZ hown
  have hk11r : T11.heap.size ≤ T11.heap.size := Nat.le_refl _
  obtain ⟨b11, bx11, kx11, rfl, N11q, K11q, GE11, GC11, GX11, GV11⟩ := hQ11
  have N11 := Fr.app N6 N11q
  have K11 : Keep h0 T11.heap [] := K0.trans K11q all0
  have Zs11 : n0 ≤ T11.heap.size := Nat.le_trans Z0 K11q.1
  have hk11 : s.heap.size ≤ T11.heap.size := Nat.le_trans hk0 K11q.1
  have go12 := gapT go10 st11
  have go13 : Go p.tables e below T11 (mkF m 57 (Lss2_1_0 a0) [(.ref b11)]) En := by
    intro t k
    refine go12 _ ?_
    refine XS.goto X11.here hx rfl (pc0 := 44) (pc' := 57) rfl (hb hby d20_44) (by decide) (by decide) ?_
    exact k
  obtain ⟨fs, hr, hrun, hended, hRW⟩ := X11.leaveW hS11 (hk11r) (v := some (.ref b11)) (fun h => by rw [Bd.returns] at h; cases h) Bd.notSynchronized
  subst hEn
  refine ⟨_, _, go13 _ (Jvm.RoadKit.retOut X11 hx Bd.returns rfl (Or.inr (Or.inr (Or.inr (Or.inr ⟨rfl, rfl, rfl⟩)))) (hb hby d20_57) hr), hrun, hended, _, _, rfl, ?_, hRW.1, hRW.2.1, hRW.2.2.1, hRW.2.2.2.mono (by decide) (by decide)⟩
  show Qss2_1 _ _ a0 w_a0_value k_w_a0_value y0 y1 s_COMPACT_STRINGS s_SIOOBE_FORMATTER h0 _ (T11.setFrames fs).heap _
  have hE : (T11.setFrames fs).heap = T11.heap := rfl
  rw [hE]
  exact ⟨b11, bx11, kx11, rfl, N11, K11, GE11, GC11, GX11, GV11⟩
def Qst2_1 (Z : State) (n0 : Nat) (a0 : Addr) (w_a0_value : Addr) (k_w_a0_value : ClassId) (y0 : Int32) (y1 : Int32) (s_COMPACT_STRINGS : Int32) (s_SIOOBE_FORMATTER : Value) (h0 : Heap) (v : Option Value) (h : Heap) (L : List Loc) : Prop := ∃ (b bx : Addr) (kx : ClassId), v = some (.ref b) ∧ Fr n0 L ∧ Keep h0 h [] ∧ Est Z h b ∧ Fcd Z h b (.int (0 : Int32)) ∧ Fvl Z h b (.ref bx) ∧ Arv Z h bx kx .byte (0 : Int32) [] (.int (0 : Int32))
theorem efst2_1 (m : MethodId) (a0 : Addr) : entryFrame m #[(.ref a0), (.int (2 : Int32))] 2 = mkF m 0 #[rv a0, iv (2 : Int32)] [] := by first | (simp [entryFrame, mkF, argsToLocals, Value.category]; done) | rfl
set_option maxRecDepth 65536 in
set_option maxHeartbeats 40000000 in
theorem rmst2_1 (l : Launch) (Z : State) (aZ : Array Value) (hw : HW aZ Z) (ws : List Jvm.Cond) (a0 : Addr) (w_a0_value : Addr) (k_w_a0_value : ClassId) (y0 : Int32) (y1 : Int32) (s_COMPACT_STRINGS : Int32) (s_SIOOBE_FORMATTER : Value) (h0 : Heap) (n0 : Nat) (Z0 : n0 ≤ h0.size) (E_a0 : Est Z h0 a0) (F_a0_coder : Fcd Z h0 a0 (.int 0)) (F_a0_value : Fvl Z h0 a0 (.ref w_a0_value)) (V_w_a0_value : Arv Z h0 w_a0_value k_w_a0_value .byte (2 : Int32) [(.int y0), (.int y1)] (.int 0)) (S_COMPACT_STRINGS : SfC Z h0 (.int s_COMPACT_STRINGS)) (hcs : ¬ s_COMPACT_STRINGS = (0 : Int32)) (S_SIOOBE_FORMATTER : SfF Z h0 s_SIOOBE_FORMATTER) (rS_SIOOBE_FORMATTER : s_SIOOBE_FORMATTER.isRef = true) (hkp : ∀ (b : Addr) (cl : Cell), Z.heap[b]? = some cl → h0[b]? = some cl) (hcn151 : Jvm.Lit.constHeld Z "java/lang/StringLatin1" 151) (hcw : Jvm.Lit.compactW.before aZ Z = true) :
    MetFree l (⟨"java/lang/String", "substring", "(I)Ljava/lang/String;"⟩ : MethodName) (head1 (Jvm.Cond.code (⟨"java/lang/String", "substring", "(I)Ljava/lang/String;"⟩ : MethodName) jdk_42_method_91_code 2 (some (.object "java/lang/String")) :: ws) ({ frames := 3, cells := 2, slots := 4, locals := 45 } : Room)) (fun a U => a = #[(.ref a0), (.int 2)] ∧ Z.Warmed39 U.vm ∧ U.heap = h0 ∧ IB Z U.vm []) (fun _ _ _ _ _ => True) (fun _ U o U' => ∃ v L, o = .returned v ∧ Qst2_1 Z n0 a0 w_a0_value k_w_a0_value y0 y1 s_COMPACT_STRINGS s_SIOOBE_FORMATTER h0 v U'.heap L ∧ ReturnedEndW U o U' L ({ frames := 3, cells := 2, slots := 4, locals := 45 } : Room).cells ({ frames := 3, cells := 2, slots := 4, locals := 45 } : Room).slots) := by
  refine MetFree.of_bodySF (plainFor_of_name pn_15) hisR ?_
  intro p e s m args below meth c s₁ Bd hml0 hP hK
  obtain ⟨rfl, hZ, hh, IB0⟩ := hP
  have hx := Bd.exec
  have hby := Bd.bytes
  have hml : c.maxLocals = 2 := hml0
  have hown : s.vm.findClass "java/lang/String" = some m.cls := findClass_of_methodNamed Bd.named
  have hnm := (name_of_methodNamed Bd.named Bd.method).1
  have X0 : Stand p l e ({ frames := 3, cells := 2, slots := 4, locals := 45 } : Room) (s.setVm s.vm) m #[(.ref a0), (.int 2)] below meth c s₁ [] 0 0 := Stand.of_body Bd
  have e0 : s₁.heap = h0 := by rw [← hh, Bd.state]; rfl
  have N0 := Fr.nil n0
  have K0 : Keep h0 h0 [] := Keep.refl _ _
  obtain ⟨En, hEn⟩ : ∃ z, z = (s₁.setTop (entryFrame m #[(.ref a0), (.int 2)] 2)) := ⟨_, rfl⟩
  have go0 : Go p.tables e below s₁ (mkF m 0 #[rv a0, iv 2] []) En := fun t k => by subst hEn; exact castTop (efst2_1 m a0) k
  have hS0 : s.Since s.vm s.heap.size := (State.WarmedH.refl s).since _
  have hk0 : s.heap.size ≤ h0.size := by rw [← hh]; exact Nat.le_refl _
  have hkS : ∀ (b : Addr) (cl : Cell), Z.heap[b]? = some cl → s.heap[b]? = some cl := fun b cl q => by rw [hh]; exact hkp b cl q
  have go1 : Go p.tables e below s₁ (mkF m 3 #[rv a0, iv 2] [(.ref a0), (.int 2), (.ref a0)]) En := by
    intro t k
    refine go0 _ ?_
    refine XS.aloadN X0.here hx rfl (hb hby d19_0) rfl rfl ?_
    refine XS.iloadN X0.here hx rfl (hb hby d19_1) rfl ?_
    refine XS.aloadN X0.here hx rfl (hb hby d19_2) rfl rfl ?_
    exact k
  obtain ⟨_, T2, Lc2, X2, hQ2, st2⟩ := own_cv X0 hx hZ hown hml go1 (hb hby d19_3) e0 (hw _ (mi 47 rfl)) (own_site185 hw) E_a0 (rmln l Z aZ hw [] a0 _ _ _ _ _ h0 n0 Z0 E_a0 F_a0_coder F_a0_value V_w_a0_value S_COMPACT_STRINGS hcs) (by decide) (argsL := []) (rest := [(.int 2), (.ref a0)]) rfl rfl rfl (lenOf pd_186 rfl) (W := 2) rfl (by decide) (by decide) (by decide : 0 + 0 ≤ _) (by decide : 0 + 0 ≤ _)
  obtain ⟨rfl, N2q, e2⟩ := hQ2
  have N2 := Fr.app N0 N2q
  obtain ⟨cq3, kq3, q3a, q3b, q3c⟩ := isOf hZ e2 E_a0
  obtain ⟨_, _, ⟨T3, L3, k3, n3⟩, -, X3q, hS3q, hg3, ⟨Lc3, hQ3, l3, y3, z3⟩, st3⟩ := X2.virtualBackS hx (y := (⟨"java/lang/String", "substring", "(II)Ljava/lang/String;"⟩ : MethodName)) (z := (⟨"java/lang/String", "substring", "(II)Ljava/lang/String;"⟩ : MethodName)) hown (mvT hZ (hw _ (mi 89 rfl))) (mvT hZ (hw _ (mi 90 rfl))) (notFace_of_selects (args := #[]) (mvT hZ (hw _ (mi 92 rfl)))) (mvT hZ (hw _ (mi 92 rfl))) (mvT hZ (hw _ (mi 91 rfl))) (by decide) (own_backOfSI (W := 0) (rmss2_1 l Z aZ hw [] a0 _ _ y0 y1 _ _ h0 n0 Z0 E_a0 F_a0_coder F_a0_value V_w_a0_value S_COMPACT_STRINGS hcs S_SIOOBE_FORMATTER rS_SIOOBE_FORMATTER hkp hcn151 hcw) hZ (hw _ (mi 93 rfl)) (hw _ (mi 8 rfl)) (by decide) (by decide) IB0) q3a q3c (g := (mkF m 6 #[rv a0, iv 2] [(.int 2), (.int 2), (.ref a0)])) rfl (by rw [hml]; rfl) (Steps.refl _) (argsL := [(.int 2), (.int 2)]) (rest := []) (lenOf pd_306 rfl) rfl (by show 2 * 0 + _ ≤ _; exact Nat.le_of_eq rfl) (hb hby d19_6) (fun _ _ => ⟨rfl, e2, (by decide : 0 + 2 ≤ _), (by decide : 0 + 4 ≤ _)⟩)
  dsimp only [Pt.U, Pt.locs, Pt.cells, Pt.slots] at X3q hS3q hg3 l3 y3 z3 st3 hQ3
  subst l3 y3 z3
  have hk3q : s.heap.size ≤ T2.heap.size := by rw [e2]; exact hk0
  obtain ⟨X3, hS3, hZ3, hown3⟩ := rebS hS0 hk3q X3q hS3q hg3 hZ hown
  have hk3r : T3.heap.size ≤ T3.heap.size := Nat.le_refl _
  obtain ⟨b3, bx3, kx3, rfl, N3q, K3q, GE3, GC3, GX3, GV3⟩ := hQ3
  have N3 := Fr.app N2 N3q
  have K3 : Keep h0 T3.heap [] := K0.trans K3q all0
  have Zs3 : n0 ≤ T3.heap.size := Nat.le_trans Z0 K3q.1
  have hk3 : s.heap.size ≤ T3.heap.size := Nat.le_trans hk0 K3q.1
  have go4 := gapT st2 st3
  obtain ⟨fs, hr, hrun, hended, hRW⟩ := X3.leaveW hS3 (hk3r) (v := some (.ref b3)) (fun h => by rw [Bd.returns] at h; cases h) Bd.notSynchronized
  subst hEn
  refine ⟨_, _, go4 _ (Jvm.RoadKit.retOut X3 hx Bd.returns rfl (Or.inr (Or.inr (Or.inr (Or.inr ⟨rfl, rfl, rfl⟩)))) (hb hby d19_9) hr), hrun, hended, _, _, rfl, ?_, hRW.1, hRW.2.1, hRW.2.2.1, hRW.2.2.2.mono (by decide) (by decide)⟩
  show Qst2_1 _ _ a0 w_a0_value k_w_a0_value y0 y1 s_COMPACT_STRINGS s_SIOOBE_FORMATTER h0 _ (T3.setFrames fs).heap _
  have hE : (T3.setFrames fs).heap = T3.heap := rfl
  rw [hE]
  exact ⟨b3, bx3, kx3, rfl, N3, K3, GE3, GC3, GX3, GV3⟩
def Qqs2_1 (Z : State) (n0 : Nat) (a0 : Addr) (w_a0_value : Addr) (k_w_a0_value : ClassId) (y0 : Int32) (y1 : Int32) (s_COMPACT_STRINGS : Int32) (s_SIOOBE_FORMATTER : Value) (h0 : Heap) (v : Option Value) (h : Heap) (L : List Loc) : Prop := ∃ (b bx : Addr) (kx : ClassId), v = some (.ref b) ∧ Fr n0 L ∧ Keep h0 h [] ∧ Est Z h b ∧ Fcd Z h b (.int (0 : Int32)) ∧ Fvl Z h b (.ref bx) ∧ Arv Z h bx kx .byte (0 : Int32) [] (.int (0 : Int32))
theorem efqs2_1 (m : MethodId) (a0 : Addr) : entryFrame m #[(.ref a0)] 2 = mkF m 0 #[rv a0, .unset] [] := by first | (simp [entryFrame, mkF, argsToLocals, Value.category]; done) | rfl
set_option maxRecDepth 65536 in
set_option maxHeartbeats 40000000 in
theorem rmqs2_1 (l : Launch) (Z : State) (aZ : Array Value) (hw : HW aZ Z) (ws : List Jvm.Cond) (a0 : Addr) (w_a0_value : Addr) (k_w_a0_value : ClassId) (y0 : Int32) (y1 : Int32) (s_COMPACT_STRINGS : Int32) (s_SIOOBE_FORMATTER : Value) (h0 : Heap) (n0 : Nat) (Z0 : n0 ≤ h0.size) (E_a0 : Est Z h0 a0) (F_a0_coder : Fcd Z h0 a0 (.int 0)) (F_a0_value : Fvl Z h0 a0 (.ref w_a0_value)) (V_w_a0_value : Arv Z h0 w_a0_value k_w_a0_value .byte (2 : Int32) [(.int y0), (.int y1)] (.int 0)) (S_COMPACT_STRINGS : SfC Z h0 (.int s_COMPACT_STRINGS)) (hcs : ¬ s_COMPACT_STRINGS = (0 : Int32)) (hk : (fiz2 y0 y1) = (1 : Int32)) (S_SIOOBE_FORMATTER : SfF Z h0 s_SIOOBE_FORMATTER) (rS_SIOOBE_FORMATTER : s_SIOOBE_FORMATTER.isRef = true) (hkp : ∀ (b : Addr) (cl : Cell), Z.heap[b]? = some cl → h0[b]? = some cl) (hcn151 : Jvm.Lit.constHeld Z "java/lang/StringLatin1" 151) (hcw : Jvm.Lit.compactW.before aZ Z = true) :
    MetFree l (⟨"com/example/nephele/nephele/web/internal/RequestPath", "queryString", "(Ljava/lang/String;)Ljava/lang/String;"⟩ : MethodName) (head1 (Jvm.Cond.code (⟨"com/example/nephele/nephele/web/internal/RequestPath", "queryString", "(Ljava/lang/String;)Ljava/lang/String;"⟩ : MethodName) prog_24_method_3_code 2 (some (.object "java/lang/String")) :: ws) ({ frames := 4, cells := 2, slots := 4, locals := 59 } : Room)) (fun a U => a = #[(.ref a0)] ∧ Z.Warmed39 U.vm ∧ U.heap = h0 ∧ IB Z U.vm []) (fun _ _ _ _ _ => True) (fun _ U o U' => ∃ v L, o = .returned v ∧ Qqs2_1 Z n0 a0 w_a0_value k_w_a0_value y0 y1 s_COMPACT_STRINGS s_SIOOBE_FORMATTER h0 v U'.heap L ∧ ReturnedEndW U o U' L ({ frames := 4, cells := 2, slots := 4, locals := 59 } : Room).cells ({ frames := 4, cells := 2, slots := 4, locals := 59 } : Room).slots) := by
  refine MetFree.of_bodySF (plainFor_of_name pn_274) hisR ?_
  intro p e s m args below meth c s₁ Bd hml0 hP hK
  obtain ⟨rfl, hZ, hh, IB0⟩ := hP
  have hx := Bd.exec
  have hby := Bd.bytes
  have hml : c.maxLocals = 2 := hml0
  have hown : s.vm.findClass "com/example/nephele/nephele/web/internal/RequestPath" = some m.cls := findClass_of_methodNamed Bd.named
  have hnm := (name_of_methodNamed Bd.named Bd.method).1
  have X0 : Stand p l e ({ frames := 4, cells := 2, slots := 4, locals := 59 } : Room) (s.setVm s.vm) m #[(.ref a0)] below meth c s₁ [] 0 0 := Stand.of_body Bd
  have e0 : s₁.heap = h0 := by rw [← hh, Bd.state]; rfl
  have N0 := Fr.nil n0
  have K0 : Keep h0 h0 [] := Keep.refl _ _
  obtain ⟨En, hEn⟩ : ∃ z, z = (s₁.setTop (entryFrame m #[(.ref a0)] 2)) := ⟨_, rfl⟩
  have go0 : Go p.tables e below s₁ (mkF m 0 #[rv a0, .unset] []) En := fun t k => by subst hEn; exact castTop (efqs2_1 m a0) k
  have hS0 : s.Since s.vm s.heap.size := (State.WarmedH.refl s).since _
  have hk0 : s.heap.size ≤ h0.size := by rw [← hh]; exact Nat.le_refl _
  have hkS : ∀ (b : Addr) (cl : Cell), Z.heap[b]? = some cl → s.heap[b]? = some cl := fun b cl q => by rw [hh]; exact hkp b cl q
  have go1 : Go p.tables e below s₁ (mkF m 3 #[rv a0, .unset] [(.int 63), (.ref a0)]) En := by
    intro t k
    refine go0 _ ?_
    refine XS.aloadN X0.here hx rfl (hb hby d5_0) rfl rfl ?_
    refine XS.bipush X0.here hx rfl (hb hby d5_1) ?_
    exact k
  obtain ⟨_, T2, Lc2, X2, hQ2, st2⟩ := own_cv X0 hx hZ hown hml go1 (hb hby d5_3) e0 (hw _ (mi 31 rfl)) (own_site266 hw) E_a0 (rmiz2 l Z aZ hw [] a0 _ _ y0 y1 _ h0 n0 Z0 E_a0 F_a0_coder F_a0_value V_w_a0_value S_COMPACT_STRINGS hcs) (by decide) (argsL := [(.int 63)]) (rest := []) rfl rfl rfl (lenOf pd_267 rfl) (W := 0) rfl (by decide) (by decide) (by decide : 0 + 0 ≤ _) (by decide : 0 + 0 ≤ _)
  obtain ⟨rfl, N2q, e2⟩ := hQ2
  have N2 := Fr.app N0 N2q
  have go3 : Go p.tables e below T2 (mkF m 6 #[rv a0, .unset] [(.int 1)]) En := by
    have q := st2
    rw [hk] at q
    exact q
  have go4 : Go p.tables e below T2 (mkF m 19 #[rv a0, iv 1] [(.int 2), (.ref a0)]) En := by
    intro t k
    refine go3 _ ?_
    refine XS.istoreN X2.here hx rfl (hb hby d5_6) rfl (l' := #[rv a0, iv 1]) rfl ?_
    refine XS.iloadN X2.here hx rfl (hb hby d5_7) rfl ?_
    refine XS.ifYes X2.here hx rfl (pc0 := 8) (pc' := 15) rfl (hb hby d5_8) rfl (XT.i0_ge_t (by decide : ¬ ((1 : Int32) < (0 : Int32)))) (by decide) (by decide) ?_
    refine XS.aloadN X2.here hx rfl (hb hby d5_15) rfl rfl ?_
    refine XS.iloadN X2.here hx rfl (hb hby d5_16) rfl ?_
    show Steps _ _ _ (T2.setTop (mkF m 17 #[rv a0, iv 1] [(.int 1), (.ref a0)])) _
    refine XS.iconst X2.here hx rfl (hb hby d5_17) ?_
    refine XS.iadd X2.here hx rfl (hb hby d5_18) rfl ?_
    exact k
  obtain ⟨cq5, kq5, q5a, q5b, q5c⟩ := isOf hZ e2 E_a0
  obtain ⟨_, _, ⟨T5, L5, k5, n5⟩, -, X5q, hS5q, hg5, ⟨Lc5, hQ5, l5, y5, z5⟩, st5⟩ := X2.virtualBackS hx (y := (⟨"java/lang/String", "substring", "(I)Ljava/lang/String;"⟩ : MethodName)) (z := (⟨"java/lang/String", "substring", "(I)Ljava/lang/String;"⟩ : MethodName)) hown (mvT hZ (hw _ (mi 84 rfl))) (mvT hZ (hw _ (mi 85 rfl))) (notFace_of_selects (args := #[]) (mvT hZ (hw _ (mi 87 rfl)))) (mvT hZ (hw _ (mi 87 rfl))) (mvT hZ (hw _ (mi 86 rfl))) (by decide) (own_backOfSI (W := 0) (rmst2_1 l Z aZ hw [] a0 _ _ y0 y1 _ _ h0 n0 Z0 E_a0 F_a0_coder F_a0_value V_w_a0_value S_COMPACT_STRINGS hcs S_SIOOBE_FORMATTER rS_SIOOBE_FORMATTER hkp hcn151 hcw) hZ (hw _ (mi 88 rfl)) (hw _ (mi 8 rfl)) (by decide) (by decide) IB0) q5a q5c (g := (mkF m 19 #[rv a0, iv 1] [(.int 2), (.ref a0)])) rfl (by rw [hml]; rfl) (Steps.refl _) (argsL := [(.int 2)]) (rest := []) (lenOf pd_313 rfl) rfl (by show 2 * 0 + _ ≤ _; exact Nat.le_of_eq rfl) (hb hby d5_19) (fun _ _ => ⟨rfl, e2, (by decide : 0 + 2 ≤ _), (by decide : 0 + 4 ≤ _)⟩)
  dsimp only [Pt.U, Pt.locs, Pt.cells, Pt.slots] at X5q hS5q hg5 l5 y5 z5 st5 hQ5
  subst l5 y5 z5
  have hk5q : s.heap.size ≤ T2.heap.size := by rw [e2]; exact hk0
  obtain ⟨X5, hS5, hZ5, hown5⟩ := rebS hS0 hk5q X5q hS5q hg5 hZ hown
  have hk5r : T5.heap.size ≤ T5.heap.size := Nat.le_refl _
  obtain ⟨b5, bx5, kx5, rfl, N5q, K5q, GE5, GC5, GX5, GV5⟩ := hQ5
  have N5 := Fr.app N2 N5q
  have K5 : Keep h0 T5.heap [] := K0.trans K5q all0
  have Zs5 : n0 ≤ T5.heap.size := Nat.le_trans Z0 K5q.1
  have hk5 : s.heap.size ≤ T5.heap.size := Nat.le_trans hk0 K5q.1
  have go6 := gapT go4 st5
  obtain ⟨fs, hr, hrun, hended, hRW⟩ := X5.leaveW hS5 (hk5r) (v := some (.ref b5)) (fun h => by rw [Bd.returns] at h; cases h) Bd.notSynchronized
  subst hEn
  refine ⟨_, _, go6 _ (Jvm.RoadKit.retOut X5 hx Bd.returns rfl (Or.inr (Or.inr (Or.inr (Or.inr ⟨rfl, rfl, rfl⟩)))) (hb hby d5_22) hr), hrun, hended, _, _, rfl, ?_, hRW.1, hRW.2.1, hRW.2.2.1, hRW.2.2.2.mono (by decide) (by decide)⟩
  show Qqs2_1 _ _ a0 w_a0_value k_w_a0_value y0 y1 s_COMPACT_STRINGS s_SIOOBE_FORMATTER h0 _ (T5.setFrames fs).heap _
  have hE : (T5.setFrames fs).heap = T5.heap := rfl
  rw [hE]
  exact ⟨b5, bx5, kx5, rfl, N5, K5, GE5, GC5, GX5, GV5⟩
def fqs3_m : Value := (.null : Value)
theorem efqs3_m (m : MethodId) (a0 : Addr) : entryFrame m #[(.ref a0)] 2 = mkF m 0 #[rv a0, .unset] [] := by first | (simp [entryFrame, mkF, argsToLocals, Value.category]; done) | rfl
set_option maxRecDepth 65536 in
set_option maxHeartbeats 40000000 in
theorem rmqs3_m (l : Launch) (Z : State) (aZ : Array Value) (hw : HW aZ Z) (ws : List Jvm.Cond) (a0 : Addr) (w_a0_value : Addr) (k_w_a0_value : ClassId) (y0 : Int32) (y1 : Int32) (y2 : Int32) (s_COMPACT_STRINGS : Int32) (h0 : Heap) (n0 : Nat) (Z0 : n0 ≤ h0.size) (E_a0 : Est Z h0 a0) (F_a0_coder : Fcd Z h0 a0 (.int 0)) (F_a0_value : Fvl Z h0 a0 (.ref w_a0_value)) (V_w_a0_value : Arv Z h0 w_a0_value k_w_a0_value .byte (3 : Int32) [(.int y0), (.int y1), (.int y2)] (.int 0)) (S_COMPACT_STRINGS : SfC Z h0 (.int s_COMPACT_STRINGS)) (hcs : ¬ s_COMPACT_STRINGS = (0 : Int32)) (hk : (fiz3 y0 y1 y2) = (-1 : Int32)) :
    MFn l (⟨"com/example/nephele/nephele/web/internal/RequestPath", "queryString", "(Ljava/lang/String;)Ljava/lang/String;"⟩ : MethodName) prog_24_method_3_code 2 (some (.object "java/lang/String")) ws (Rm 4 0 0 59) #[(.ref a0)] Z h0 (QP n0 h0 (some fqs3_m)) := by
  refine own_mf (C := "com/example/nephele/nephele/web/internal/RequestPath") rfl (plainFor_of_name pn_274) (fun m => efqs3_m m a0) ?_
  intro p e s m below meth cd0 s₁ En hx hby hml hown hnm hZ X0 e0 hlk hrt go0
  have N0 := Fr.nil n0
  have K0 : Keep h0 h0 [] := Keep.refl _ _
  have go1 : Go p.tables e below s₁ (mkF m 3 #[rv a0, .unset] [(.int 63), (.ref a0)]) En := by
    intro t k
    refine go0 _ ?_
    refine XS.aloadN X0.here hx rfl (hb hby d5_0) rfl rfl ?_
    refine XS.bipush X0.here hx rfl (hb hby d5_1) ?_
    exact k
  obtain ⟨_, T2, Lc2, X2, hQ2, st2⟩ := own_cv X0 hx hZ hown hml go1 (hb hby d5_3) e0 (hw _ (mi 31 rfl)) (own_site266 hw) E_a0 (rmiz3 l Z aZ hw [] a0 _ _ y0 y1 y2 _ h0 n0 Z0 E_a0 F_a0_coder F_a0_value V_w_a0_value S_COMPACT_STRINGS hcs) (by decide) (argsL := [(.int 63)]) (rest := []) rfl rfl rfl (lenOf pd_267 rfl) (W := 0) rfl (by decide) (by decide) (by decide : 0 + 0 ≤ _) (by decide : 0 + 0 ≤ _)
  obtain ⟨rfl, N2q, e2⟩ := hQ2
  have N2 := Fr.app N0 N2q
  have go3 : Go p.tables e below T2 (mkF m 6 #[rv a0, .unset] [(.int (-1))]) En := by
    have q := st2
    rw [hk] at q
    exact q
  have go4 : Go p.tables e below T2 (mkF m 22 #[rv a0, iv (-1)] [.null]) En := by
    intro t k
    refine go3 _ ?_
    refine XS.istoreN X2.here hx rfl (hb hby d5_6) rfl (l' := #[rv a0, iv (-1)]) rfl ?_
    refine XS.iloadN X2.here hx rfl (hb hby d5_7) rfl ?_
    refine XS.ifNo X2.here hx rfl (hb hby d5_8) rfl (XT.i0_ge_f (by decide : ((-1 : Int32) < (0 : Int32)))) ?_
    refine XS.aconstNull X2.here hx rfl (hb hby d5_11) ?_
    refine XS.goto X2.here hx rfl (pc0 := 12) (pc' := 22) rfl (hb hby d5_12) (by decide) (by decide) ?_
    show Steps _ _ _ (T2.setTop (mkF m 22 #[rv a0, iv (-1)] [.null])) _
    exact k
  refine own_out (w := .null) X2 hx hlk go4 hrt rfl (Or.inr (Or.inr (Or.inr (Or.inr ⟨rfl, rfl, rfl⟩)))) (hb hby d5_22) e2 (by decide) (by decide) ?_
  exact ⟨by rw [fqs3_m], N2, rfl⟩
theorem fqs3_m_ref : (fqs3_m).isRef = true := by unfold fqs3_m; (repeat' split) <;> rfl
def Qcb3_0 (Z : State) (n0 : Nat) (a0 : Addr) (k_a0 : ClassId) (y0 : Int32) (y1 : Int32) (y2 : Int32) (h0 : Heap) (v : Option Value) (h : Heap) (L : List Loc) : Prop := ∃ (b : Addr) (kb : ClassId), v = some (.ref b) ∧ Fr n0 L ∧ Keep h0 h [] ∧ h0.size ≤ b ∧ Arv Z h b kb .byte (2 : Int32) [(.int y1), (.int y2)] (.int (0 : Int32))
theorem efcb3_0 (m : MethodId) (a0 : Addr) : entryFrame m #[(.ref a0), (.int (1 : Int32)), (.int (3 : Int32))] 5 = mkF m 0 #[rv a0, iv (1 : Int32), iv (3 : Int32), .unset, .unset] [] := by first | (simp [entryFrame, mkF, argsToLocals, Value.category]; done) | rfl
abbrev Lcb3_0_0 (a0 : Addr) (b4 : Addr) : Array Slot := #[rv a0, iv 1, iv 3, iv 2, rv b4]
set_option maxRecDepth 65536 in
set_option maxHeartbeats 40000000 in
theorem rmcb3_0 (l : Launch) (Z : State) (aZ : Array Value) (hw : HW aZ Z) (ws : List Jvm.Cond) (a0 : Addr) (k_a0 : ClassId) (y0 : Int32) (y1 : Int32) (y2 : Int32) (h0 : Heap) (n0 : Nat) (Z0 : n0 ≤ h0.size) (V_a0 : Arv Z h0 a0 k_a0 .byte (3 : Int32) [(.int y0), (.int y1), (.int y2)] (.int 0)) :
    MFn l (⟨"java/util/Arrays", "copyOfRangeByte", "([BII)[B"⟩ : MethodName) jdk_65_method_133_code 5 (some (.array .byte)) ws (Rm 1 1 2 18) #[(.ref a0), (.int 1), (.int 3)] Z h0 (Qcb3_0 Z n0 a0 k_a0 y0 y1 y2 h0) := by
  refine own_mf (C := "java/util/Arrays") rfl (plainFor_of_name pn_257) (fun m => efcb3_0 m a0) ?_
  intro p e s m below meth cd0 s₁ En hx hby hml hown hnm hZ X0 e0 hlk hrt go0
  have N0 := Fr.nil n0
  have K0 : Keep h0 h0 [] := Keep.refl _ _
  have go1 : Go p.tables e below s₁ (mkF m 2 #[rv a0, iv 1, iv 3, .unset, .unset] [(.int 3), (.int 1)]) En := by
    intro t k
    refine go0 _ ?_
    refine XS.iloadN X0.here hx rfl (hb hby d25_0) rfl ?_
    refine XS.iloadN X0.here hx rfl (hb hby d25_1) rfl ?_
    exact k
  obtain ⟨_, T2, Lc2, X2, hQ2, st2⟩ := own_cs X0 hx hZ hown hml go1 (hb hby d25_2) e0 (hw _ (mi 113 rfl)) (own_site317 hw) (rmcl l Z aZ hw [] (1 : Int32) (3 : Int32) h0 n0 Z0 (by decide)) (by decide) (argsL := [(.int 1), (.int 3)]) (rest := []) rfl rfl rfl (lenOf pd_318 rfl) (W := 0) rfl (by decide) (by decide) (by decide : 0 + 0 ≤ _) (by decide : 0 + 0 ≤ _)
  obtain ⟨rfl, N2q, e2⟩ := hQ2
  have N2 := Fr.app N0 N2q
  have go3 : Go p.tables e below T2 (mkF m 10 #[rv a0, iv 1, iv 3, iv 2, .unset] [(.int 2)]) En := by
    intro t k
    refine st2 _ ?_
    refine XS.iloadN X2.here hx rfl (hb hby d25_5) rfl ?_
    refine XS.iloadN X2.here hx rfl (hb hby d25_6) rfl ?_
    refine XS.isub X2.here hx rfl (hb hby d25_7) rfl ?_
    refine XS.istoreN X2.here hx rfl (hb hby d25_8) rfl (l' := #[rv a0, iv 1, iv 3, iv 2, .unset]) rfl ?_
    refine XS.iloadN X2.here hx rfl (hb hby d25_9) rfl ?_
    show Steps _ _ _ (T2.setTop (mkF m 10 #[rv a0, iv 1, iv 3, iv 2, .unset] [(.int 2)])) _
    exact k
  obtain ⟨T4, h4, k4, X4, e4, E4, A4, st4⟩ := newP X2 hx hZ (hw _ (mi 20 rfl)) e2 (g := (mkF m 10 #[rv a0, iv 1, iv 3, iv 2, .unset] [(.int 2)])) rfl (hb hby d25_10) rfl (by decide) (cap := 2) (by decide) (by decide) (by decide) (by decide)
  obtain ⟨b4, g4⟩ : ∃ z, z = h0.size := ⟨_, rfl⟩
  rw [← g4] at A4 st4
  have ne5 : a0 ≠ b4 := Nat.ne_of_lt (Nat.lt_of_lt_of_le V_a0.lt (Nat.le_of_eq g4.symm))
  have low4 : n0 ≤ b4 := Nat.le_trans Z0 (Nat.le_of_eq g4.symm)
  have fsh4 : h0.size ≤ b4 := Nat.le_trans K0.1 (Nat.le_of_eq g4.symm)
  have K4 : Keep h0 h4 [] := K0.ext E4
  have Zs4 : n0 ≤ h4.size := Nat.le_trans Z0 E4.1
  have go6 := gap go3 st4
  have F7 : Arv Z h4 b4 k4 .byte (2 : Int32) [(.int 0), (.int 0)] (.int 0) := (Arv.new A4 (by decide)).pad (pad_rep [] (.int 0) 2)
  obtain ⟨cl8, Ar8, q8, S8, N8, H8, G8⟩ := id (V_a0.keep K4 nin0)
  have go9 : Go p.tables e below T4 (mkF m 24 (Lcb3_0_0 a0 b4) [(.int 2), (.int 2), (.int 0), (.ref b4), (.int 1), (.ref a0)]) En := by
    intro t k
    refine go6 _ ?_
    refine XS.astore X4.here hx rfl (hb hby d25_12) rfl rfl (l' := (Lcb3_0_0 a0 b4)) rfl ?_
    refine XS.aloadN X4.here hx rfl (hb hby d25_14) rfl rfl ?_
    refine XS.iloadN X4.here hx rfl (hb hby d25_15) rfl ?_
    refine XS.aload X4.here hx rfl (hb hby d25_16) rfl rfl ?_
    refine XS.iconst X4.here hx rfl (hb hby d25_18) ?_
    show Steps _ _ _ (T4.setTop (mkF m 19 (Lcb3_0_0 a0 b4) [(.int 0), (.ref b4), (.int 1), (.ref a0)])) _
    refine XS.aloadN X4.here hx rfl (hb hby d25_19) rfl rfl ?_
    refine X4.arraylength hx (by rw [e4]; exact Ar8.1) (State.isArrayOf_alike hZ.alike Ar8.2.1) (g := (mkF m 20 (Lcb3_0_0 a0 b4) [(.ref a0), (.int 0), (.ref b4), (.int 1), (.ref a0)])) rfl rfl (hb hby d25_20) _ ?_
    rw [len_of S8 N8]
    refine XS.iloadN X4.here hx rfl (hb hby d25_21) rfl ?_
    refine XS.isub X4.here hx rfl (hb hby d25_22) rfl ?_
    show Steps _ _ _ (T4.setTop (mkF m 23 (Lcb3_0_0 a0 b4) [(.int 2), (.int 0), (.ref b4), (.int 1), (.ref a0)])) _
    refine XS.iloadN X4.here hx rfl (hb hby d25_23) rfl ?_
    exact k
  obtain ⟨_, T10, Lc10, X10, hQ10, st10⟩ := own_cs X4 hx hZ hown hml go9 (hb hby d25_24) e4 (hw _ (mi 116 rfl)) (own_site167 hw) (rmmn l Z aZ hw [] (2 : Int32) h4 n0 Zs4 ) (by decide) (argsL := [(.int 2), (.int 2)]) (rest := [(.int 0), (.ref b4), (.int 1), (.ref a0)]) rfl rfl rfl (lenOf pd_161 rfl) (W := 4) rfl (by decide) (by decide) (by decide : 1 + 0 ≤ _) (by decide : 2 + 0 ≤ _)
  obtain ⟨rfl, N10q, e10⟩ := hQ10
  have N10 := Fr.app N2 N10q
  obtain ⟨T11, _, L11, X11, rfl, N11q, K11q, AR11, st11⟩ := cpA X10 hx hZ hown (hw _ (mi 117 rfl)) (hw _ (mi 120 rfl)) (hw _ (mi 118 rfl)) (hw _ (mi 119 rfl)) e10 (V_a0.keep K4 nin0) F7 (us := [(.int y1), (.int y2)]) (Or.inl ⟨rfl, rfl⟩) (by decide) (by decide) (by decide) (by decide) (by decide) rfl (Nat.le_of_ble_eq_true rfl) N10 low4 (g := (mkF m 27 (Lcb3_0_0 a0 b4) [(.int 2), (.int 0), (.ref b4), (.int 1), (.ref a0)])) rfl (by rw [hml]; rfl) rfl (hb hby d25_27) (by decide) (W := 0) (by show 2 * 0 + _ ≤ _; exact Nat.le_of_eq rfl) (by decide)
  have K11 : Keep h0 T11.heap [] := K4.trans K11q (allS (Or.inr fsh4) all0)
  have go12 := gap st10 st11
  have Zs11 : n0 ≤ T11.heap.size := Nat.le_trans Zs4 K11q.1
  have F13 : Arv Z T11.heap b4 k4 .byte (2 : Int32) [(.int y1), (.int y2)] (.int 0) := AR11
  have go14 : Go p.tables e below T11 (mkF m 32 (Lcb3_0_0 a0 b4) [(.ref b4)]) En := by
    intro t k
    refine go12 _ ?_
    refine XS.aload X11.here hx rfl (hb hby d25_30) rfl rfl ?_
    exact k
  refine own_out (w := (.ref b4)) X11 hx hlk go14 hrt rfl (Or.inr (Or.inr (Or.inr (Or.inr ⟨rfl, rfl, rfl⟩)))) (hb hby d25_32) rfl (by decide) (by decide) ?_
  exact ⟨b4, k4, rfl, N11q, K11, fsh4, F13⟩
def Qcr3_0 (Z : State) (n0 : Nat) (a0 : Addr) (k_a0 : ClassId) (y0 : Int32) (y1 : Int32) (y2 : Int32) (h0 : Heap) (v : Option Value) (h : Heap) (L : List Loc) : Prop := ∃ (b : Addr) (kb : ClassId), v = some (.ref b) ∧ Fr n0 L ∧ Keep h0 h [] ∧ h0.size ≤ b ∧ Arv Z h b kb .byte (2 : Int32) [(.int y1), (.int y2)] (.int (0 : Int32))
theorem efcr3_0 (m : MethodId) (a0 : Addr) : entryFrame m #[(.ref a0), (.int (1 : Int32)), (.int (3 : Int32))] 3 = mkF m 0 #[rv a0, iv (1 : Int32), iv (3 : Int32)] [] := by first | (simp [entryFrame, mkF, argsToLocals, Value.category]; done) | rfl
set_option maxRecDepth 65536 in
set_option maxHeartbeats 40000000 in
theorem rmcr3_0 (l : Launch) (Z : State) (aZ : Array Value) (hw : HW aZ Z) (ws : List Jvm.Cond) (a0 : Addr) (k_a0 : ClassId) (y0 : Int32) (y1 : Int32) (y2 : Int32) (h0 : Heap) (n0 : Nat) (Z0 : n0 ≤ h0.size) (V_a0 : Arv Z h0 a0 k_a0 .byte (3 : Int32) [(.int y0), (.int y1), (.int y2)] (.int 0)) :
    MFn l (⟨"java/util/Arrays", "copyOfRange", "([BII)[B"⟩ : MethodName) jdk_65_method_132_code 3 (some (.array .byte)) ws (Rm 2 1 2 34) #[(.ref a0), (.int 1), (.int 3)] Z h0 (Qcr3_0 Z n0 a0 k_a0 y0 y1 y2 h0) := by
  refine own_mf (C := "java/util/Arrays") rfl (plainFor_of_name pn_257) (fun m => efcr3_0 m a0) ?_
  intro p e s m below meth cd0 s₁ En hx hby hml hown hnm hZ X0 e0 hlk hrt go0
  have N0 := Fr.nil n0
  have K0 : Keep h0 h0 [] := Keep.refl _ _
  have go1 : Go p.tables e below s₁ (mkF m 13 #[rv a0, iv 1, iv 3] [(.int 3), (.int 1), (.ref a0)]) En := by
    intro t k
    refine go0 _ ?_
    refine XS.iloadN X0.here hx rfl (hb hby d24_0) rfl ?_
    refine XS.ifYes X0.here hx rfl (pc0 := 1) (pc' := 10) rfl (hb hby d24_1) rfl (XT.i0_ne_t (by decide : ¬ ((1 : Int32) = (0 : Int32)))) (by decide) (by decide) ?_
    refine XS.aloadN X0.here hx rfl (hb hby d24_10) rfl rfl ?_
    refine XS.iloadN X0.here hx rfl (hb hby d24_11) rfl ?_
    refine XS.iloadN X0.here hx rfl (hb hby d24_12) rfl ?_
    show Steps _ _ _ (s₁.setTop (mkF m 13 #[rv a0, iv 1, iv 3] [(.int 3), (.int 1), (.ref a0)])) _
    exact k
  obtain ⟨_, T2, Lc2, X2, hQ2, st2⟩ := own_cs X0 hx hZ hown hml go1 (hb hby d24_13) e0 (hw _ (mi 110 rfl)) (own_site345 hw) (rmcb3_0 l Z aZ hw [] a0 _ y0 y1 y2 h0 n0 Z0 V_a0) (by decide) (argsL := [(.ref a0), (.int 1), (.int 3)]) (rest := []) rfl rfl rfl (lenOf pd_346 rfl) (W := 0) rfl (by decide) (by decide) (by decide : 0 + 1 ≤ _) (by decide : 0 + 2 ≤ _)
  obtain ⟨b2, kb2, rfl, N2q, K2q, fr2, G2_0⟩ := hQ2
  have N2 := Fr.app N0 N2q
  have K2 : Keep h0 T2.heap [] := K0.trans K2q all0
  have low2 : n0 ≤ b2 := Nat.le_trans Z0 fr2
  have fsh2 : h0.size ≤ b2 := Nat.le_trans K0.1 fr2
  have ne3 : a0 ≠ b2 := Nat.ne_of_lt (Nat.lt_of_lt_of_le V_a0.lt fr2)
  have Zs2 : n0 ≤ T2.heap.size := Nat.le_trans Z0 K2q.1
  refine own_out (w := (.ref b2)) X2 hx hlk st2 hrt rfl (Or.inr (Or.inr (Or.inr (Or.inr ⟨rfl, rfl, rfl⟩)))) (hb hby d24_16) rfl (by decide) (by decide) ?_
  exact ⟨b2, kb2, rfl, N2, K2, fsh2, G2_0⟩
def Qns3_0 (Z : State) (n0 : Nat) (a0 : Addr) (k_a0 : ClassId) (y0 : Int32) (y1 : Int32) (y2 : Int32) (h0 : Heap) (v : Option Value) (h : Heap) (L : List Loc) : Prop := ∃ (b bx : Addr) (kx : ClassId), v = some (.ref b) ∧ Fr n0 L ∧ Keep h0 h [] ∧ Est Z h b ∧ Fcd Z h b (.int (0 : Int32)) ∧ Fvl Z h b (.ref bx) ∧ Arv Z h bx kx .byte (2 : Int32) [(.int y1), (.int y2)] (.int (0 : Int32))
theorem efns3_0 (m : MethodId) (a0 : Addr) : entryFrame m #[(.ref a0), (.int (1 : Int32)), (.int (2 : Int32))] 3 = mkF m 0 #[rv a0, iv (1 : Int32), iv (2 : Int32)] [] := by first | (simp [entryFrame, mkF, argsToLocals, Value.category]; done) | rfl
set_option maxRecDepth 65536 in
set_option maxHeartbeats 40000000 in
theorem rmns3_0 (l : Launch) (Z : State) (aZ : Array Value) (hw : HW aZ Z) (ws : List Jvm.Cond) (a0 : Addr) (k_a0 : ClassId) (y0 : Int32) (y1 : Int32) (y2 : Int32) (h0 : Heap) (n0 : Nat) (Z0 : n0 ≤ h0.size) (V_a0 : Arv Z h0 a0 k_a0 .byte (3 : Int32) [(.int y0), (.int y1), (.int y2)] (.int 0)) :
    MFn l (⟨"java/lang/StringLatin1", "newString", "([BII)Ljava/lang/String;"⟩ : MethodName) jdk_43_method_47_code 3 (some (.object "java/lang/String")) ws (Rm 3 2 6 50) #[(.ref a0), (.int 1), (.int 2)] Z h0 (Qns3_0 Z n0 a0 k_a0 y0 y1 y2 h0) := by
  refine own_mf (C := "java/lang/StringLatin1") rfl (plainFor_of_name pn_128) (fun m => efns3_0 m a0) ?_
  intro p e s m below meth cd0 s₁ En hx hby hml hown hnm hZ X0 e0 hlk hrt go0
  have N0 := Fr.nil n0
  have K0 : Keep h0 h0 [] := Keep.refl _ _
  have go1 : Go p.tables e below s₁ (mkF m 7 #[rv a0, iv 1, iv 2] []) En := by
    intro t k
    refine go0 _ ?_
    refine XS.iloadN X0.here hx rfl (hb hby d23_0) rfl ?_
    refine XS.ifYes X0.here hx rfl (pc0 := 1) (pc' := 7) rfl (hb hby d23_1) rfl (XT.i0_ne_t (by decide : ¬ ((2 : Int32) = (0 : Int32)))) (by decide) (by decide) ?_
    exact k
  obtain ⟨T2, h2, X2, e2, E2, A2, D2, -, st2⟩ := newO X0 hx hZ hown (hw _ (mi 105 rfl)) (hw _ (mi 7 rfl)) (hw _ (mi 8 rfl)) e0 (g := (mkF m 7 #[rv a0, iv 1, iv 2] [])) rfl (hb hby d23_7) (by decide) (by decide)
  obtain ⟨b2, g2⟩ : ∃ z, z = h0.size := ⟨_, rfl⟩
  rw [← g2] at A2 D2 st2
  have ne3 : a0 ≠ b2 := Nat.ne_of_lt (Nat.lt_of_lt_of_le V_a0.lt (Nat.le_of_eq g2.symm))
  have low2 : n0 ≤ b2 := Nat.le_trans Z0 (Nat.le_of_eq g2.symm)
  have fsh2 : h0.size ≤ b2 := Nat.le_trans K0.1 (Nat.le_of_eq g2.symm)
  have K2 : Keep h0 h2 [] := K0.ext E2
  have Zs2 : n0 ≤ h2.size := Nat.le_trans Z0 E2.1
  have go4 := gap go1 st2
  have F5 : Fvl Z h2 b2 .null := D2 (Or.inr (hw _ (mi 21 rfl))) (ty := (.array .byte)) (by decide)
  have F6 : Fcd Z h2 b2 (.int 0) := D2 (Or.inr (hw _ (mi 22 rfl))) (ty := .byte) (by decide)
  have go7 : Go p.tables e below T2 (mkF m 16 #[rv a0, iv 1, iv 2] [(.int 3), (.int 1), (.ref a0), (.ref b2), (.ref b2)]) En := by
    intro t k
    refine go4 _ ?_
    refine XS.dup X2.here hx rfl (hb hby d23_10) rfl rfl ?_
    refine XS.aloadN X2.here hx rfl (hb hby d23_11) rfl rfl ?_
    refine XS.iloadN X2.here hx rfl (hb hby d23_12) rfl ?_
    refine XS.iloadN X2.here hx rfl (hb hby d23_13) rfl ?_
    refine XS.iloadN X2.here hx rfl (hb hby d23_14) rfl ?_
    show Steps _ _ _ (T2.setTop (mkF m 15 #[rv a0, iv 1, iv 2] [(.int 2), (.int 1), (.int 1), (.ref a0), (.ref b2), (.ref b2)])) _
    refine XS.iadd X2.here hx rfl (hb hby d23_15) rfl ?_
    exact k
  obtain ⟨_, T8, Lc8, X8, hQ8, st8⟩ := own_cs X2 hx hZ hown hml go7 (hb hby d23_16) e2 (hw _ (mi 106 rfl)) (own_site356 hw) (rmcr3_0 l Z aZ hw [] a0 _ y0 y1 y2 h2 n0 Zs2 (V_a0.keep K2 nin0)) (by decide) (argsL := [(.ref a0), (.int 1), (.int 3)]) (rest := [(.ref b2), (.ref b2)]) rfl rfl rfl (lenOf pd_346 rfl) (W := 2) rfl (by decide) (by decide) (by decide : 1 + 1 ≤ _) (by decide : 4 + 2 ≤ _)
  obtain ⟨b8, kb8, rfl, N8q, K8q, fr8, G8_0⟩ := hQ8
  have N8 := Fr.app N0 N8q
  have K8 : Keep h0 T8.heap [] := K2.trans K8q all0
  have low8 : n0 ≤ b8 := Nat.le_trans Zs2 fr8
  have fsh8 : h0.size ≤ b8 := Nat.le_trans K2.1 fr8
  have ne9 : a0 ≠ b8 := Nat.ne_of_lt (Nat.lt_of_lt_of_le (V_a0.keep K2 nin0).lt fr8)
  have ne10 : b2 ≠ b8 := Nat.ne_of_lt (Nat.lt_of_lt_of_le A2.lt fr8)
  have Zs8 : n0 ≤ T8.heap.size := Nat.le_trans Zs2 K8q.1
  have F11 := A2.keep K8q
  have F12 := F5.keep K8q nin0
  have F13 := F6.keep K8q nin0
  have go14 : Go p.tables e below T8 (mkF m 20 #[rv a0, iv 1, iv 2] [(.int 0), (.ref b8), (.ref b2), (.ref b2)]) En := by
    intro t k
    refine st8 _ ?_
    refine XS.iconst X8.here hx rfl (hb hby d23_19) ?_
    exact k
  obtain ⟨_, T15, Lc15, X15, hQ15, st15⟩ := own_ci X8 hx hZ hown hml go14 (hb hby d23_20) rfl (hw _ (mi 121 rfl)) (own_site359 hw) rfl (rmsi l Z aZ hw [] b2 b8 T8.heap n0 Zs8 F11 F12 F13 low2) (by decide) (argsL := [(.ref b8), (.int 0)]) (rest := [(.ref b2)]) rfl rfl rfl (lenOf pd_360 rfl) (W := 1) rfl (by decide) (by decide) (by decide : 2 + 0 ≤ _) (by decide : 6 + 0 ≤ _)
  obtain ⟨rfl, N15q, K15q, G15_0, G15_1, G15_2⟩ := hQ15
  have N15 := Fr.app N8 N15q
  have K15 : Keep h0 T15.heap [] := K8.trans K15q (allS (Or.inr fsh2) all0)
  have Zs15 : n0 ≤ T15.heap.size := Nat.le_trans Zs8 K15q.1
  have F16 := F11.keep K15q
  have F17 := G8_0.keep K15q (ninS (Ne.symm ne10) nin0)
  refine own_out (w := (.ref b2)) X15 hx hlk st15 hrt rfl (Or.inr (Or.inr (Or.inr (Or.inr ⟨rfl, rfl, rfl⟩)))) (hb hby d23_23) rfl (by decide) (by decide) ?_
  exact ⟨b2, b8, kb8, rfl, N15, K15, G15_0, G15_2, G15_1, F17⟩
def Qss3_0 (Z : State) (n0 : Nat) (a0 : Addr) (w_a0_value : Addr) (k_w_a0_value : ClassId) (y0 : Int32) (y1 : Int32) (y2 : Int32) (s_COMPACT_STRINGS : Int32) (s_SIOOBE_FORMATTER : Value) (h0 : Heap) (v : Option Value) (h : Heap) (L : List Loc) : Prop := ∃ (b bx : Addr) (kx : ClassId), v = some (.ref b) ∧ Fr n0 L ∧ Keep h0 h [] ∧ Est Z h b ∧ Fcd Z h b (.int (0 : Int32)) ∧ Fvl Z h b (.ref bx) ∧ Arv Z h bx kx .byte (2 : Int32) [(.int y1), (.int y2)] (.int (0 : Int32))
theorem efss3_0 (m : MethodId) (a0 : Addr) : entryFrame m #[(.ref a0), (.int (1 : Int32)), (.int (3 : Int32))] 5 = mkF m 0 #[rv a0, iv (1 : Int32), iv (3 : Int32), .unset, .unset] [] := by first | (simp [entryFrame, mkF, argsToLocals, Value.category]; done) | rfl
abbrev Lss3_0_0 (a0 : Addr) : Array Slot := #[rv a0, iv 1, iv 3, iv 3, iv 2]
set_option maxRecDepth 65536 in
set_option maxHeartbeats 40000000 in
theorem rmss3_0 (l : Launch) (Z : State) (aZ : Array Value) (hw : HW aZ Z) (ws : List Jvm.Cond) (a0 : Addr) (w_a0_value : Addr) (k_w_a0_value : ClassId) (y0 : Int32) (y1 : Int32) (y2 : Int32) (s_COMPACT_STRINGS : Int32) (s_SIOOBE_FORMATTER : Value) (h0 : Heap) (n0 : Nat) (Z0 : n0 ≤ h0.size) (E_a0 : Est Z h0 a0) (F_a0_coder : Fcd Z h0 a0 (.int 0)) (F_a0_value : Fvl Z h0 a0 (.ref w_a0_value)) (V_w_a0_value : Arv Z h0 w_a0_value k_w_a0_value .byte (3 : Int32) [(.int y0), (.int y1), (.int y2)] (.int 0)) (S_COMPACT_STRINGS : SfC Z h0 (.int s_COMPACT_STRINGS)) (hcs : ¬ s_COMPACT_STRINGS = (0 : Int32)) (S_SIOOBE_FORMATTER : SfF Z h0 s_SIOOBE_FORMATTER) (rS_SIOOBE_FORMATTER : s_SIOOBE_FORMATTER.isRef = true) :
    MFn l (⟨"java/lang/String", "substring", "(II)Ljava/lang/String;"⟩ : MethodName) jdk_42_method_92_code 5 (some (.object "java/lang/String")) ws (Rm 4 2 6 64) #[(.ref a0), (.int 1), (.int 3)] Z h0 (Qss3_0 Z n0 a0 w_a0_value k_w_a0_value y0 y1 y2 s_COMPACT_STRINGS s_SIOOBE_FORMATTER h0) := by
  refine own_mf (C := "java/lang/String") rfl (plainFor_of_name pn_15) (fun m => efss3_0 m a0) ?_
  intro p e s m below meth cd0 s₁ En hx hby hml hown hnm hZ X0 e0 hlk hrt go0
  have N0 := Fr.nil n0
  have K0 : Keep h0 h0 [] := Keep.refl _ _
  have go1 : Go p.tables e below s₁ (mkF m 1 #[rv a0, iv 1, iv 3, .unset, .unset] [(.ref a0)]) En := by
    intro t k
    refine go0 _ ?_
    refine XS.aloadN X0.here hx rfl (hb hby d20_0) rfl rfl ?_
    exact k
  obtain ⟨_, T2, Lc2, X2, hQ2, st2⟩ := own_cv X0 hx hZ hown hml go1 (hb hby d20_1) e0 (hw _ (mi 47 rfl)) (own_site185 hw) E_a0 (rmln l Z aZ hw [] a0 _ _ _ _ _ h0 n0 Z0 E_a0 F_a0_coder F_a0_value V_w_a0_value S_COMPACT_STRINGS hcs) (by decide) (argsL := []) (rest := []) rfl rfl rfl (lenOf pd_186 rfl) (W := 0) rfl (by decide) (by decide) (by decide : 0 + 0 ≤ _) (by decide : 0 + 0 ≤ _)
  obtain ⟨rfl, N2q, e2⟩ := hQ2
  have N2 := Fr.app N0 N2q
  have go3 : Go p.tables e below T2 (mkF m 8 #[rv a0, iv 1, iv 3, iv 3, .unset] [(.int 3), (.int 3), (.int 1)]) En := by
    intro t k
    refine st2 _ ?_
    refine XS.istoreN X2.here hx rfl (hb hby d20_4) rfl (l' := #[rv a0, iv 1, iv 3, iv 3, .unset]) rfl ?_
    refine XS.iloadN X2.here hx rfl (hb hby d20_5) rfl ?_
    refine XS.iloadN X2.here hx rfl (hb hby d20_6) rfl ?_
    refine XS.iloadN X2.here hx rfl (hb hby d20_7) rfl ?_
    exact k
  obtain ⟨_, T4, Lc4, X4, hQ4, st4⟩ := own_cs X2 hx hZ hown hml go3 (hb hby d20_8) e2 (hw _ (mi 94 rfl)) (own_site282 hw) (rmcbb l Z aZ hw [] (1 : Int32) (3 : Int32) (3 : Int32) _ h0 n0 Z0 S_SIOOBE_FORMATTER rS_SIOOBE_FORMATTER (by decide) (by decide) (by decide)) (by decide) (argsL := [(.int 1), (.int 3), (.int 3)]) (rest := []) rfl rfl rfl (lenOf pd_283 rfl) (W := 0) rfl (by decide) (by decide) (by decide : 0 + 0 ≤ _) (by decide : 0 + 0 ≤ _)
  obtain ⟨rfl, N4q, e4⟩ := hQ4
  have N4 := Fr.app N2 N4q
  have go5 : Go p.tables e below T4 (mkF m 28 (Lss3_0_0 a0) [(.ref a0)]) En := by
    intro t k
    refine st4 _ ?_
    refine XS.iloadN X4.here hx rfl (hb hby d20_11) rfl ?_
    refine XS.ifYes X4.here hx rfl (pc0 := 12) (pc' := 22) rfl (hb hby d20_12) rfl (XT.i0_ne_t (by decide : ¬ ((1 : Int32) = (0 : Int32)))) (by decide) (by decide) ?_
    refine XS.iloadN X4.here hx rfl (hb hby d20_22) rfl ?_
    refine XS.iloadN X4.here hx rfl (hb hby d20_23) rfl ?_
    refine XS.isub X4.here hx rfl (hb hby d20_24) rfl ?_
    show Steps _ _ _ (T4.setTop (mkF m 25 #[rv a0, iv 1, iv 3, iv 3, .unset] [(.int 2)])) _
    refine XS.istore X4.here hx rfl (hb hby d20_25) rfl (l' := (Lss3_0_0 a0)) rfl ?_
    refine XS.aloadN X4.here hx rfl (hb hby d20_27) rfl rfl ?_
    exact k
  obtain ⟨_, T6, Lc6, X6, hQ6, st6⟩ := own_cv X4 hx hZ hown hml go5 (hb hby d20_28) e4 (hw _ (mi 41 rfl)) (own_site176 hw) E_a0 (rmil l Z aZ hw [] a0 _ h0 n0 Z0 S_COMPACT_STRINGS hcs F_a0_coder) (by decide) (argsL := []) (rest := []) rfl rfl rfl (lenOf pd_177 rfl) (W := 0) rfl (by decide) (by decide) (by decide : 0 + 0 ≤ _) (by decide : 0 + 0 ≤ _)
  obtain ⟨rfl, N6q, e6⟩ := hQ6
  have N6 := Fr.app N4 N6q
  have go7 : Go p.tables e below T6 (mkF m 35 (Lss3_0_0 a0) [(.ref a0)]) En := by
    intro t k
    refine st6 _ ?_
    refine XS.ifNo X6.here hx rfl (hb hby d20_31) rfl (XT.i0_eq_f (by decide : ¬ ((1 : Int32) = (0 : Int32)))) ?_
    refine XS.aloadN X6.here hx rfl (hb hby d20_34) rfl rfl ?_
    exact k
  obtain ⟨T8, X8, e8, st8⟩ := getF X6 hx hZ hown (host := "") (Or.inl (hw _ (mi 25 rfl))) Via.refl e6 F_a0_value (g := (mkF m 35 (Lss3_0_0 a0) [(.ref a0)])) rfl rfl (hb hby d20_35)
  have go9 := gap go7 st8
  have go10 : Go p.tables e below T8 (mkF m 41 (Lss3_0_0 a0) [(.int 2), (.int 1), (.ref w_a0_value)]) En := by
    intro t k
    refine go9 _ ?_
    refine XS.iloadN X8.here hx rfl (hb hby d20_38) rfl ?_
    refine XS.iload X8.here hx rfl (hb hby d20_39) rfl ?_
    exact k
  obtain ⟨_, T11, Lc11, X11, hQ11, st11⟩ := own_cs X8 hx hZ hown hml go10 (hb hby d20_41) e8 (hw _ (mi 102 rfl)) (own_site362 hw) (rmns3_0 l Z aZ hw [] _ _ y0 y1 y2 h0 n0 Z0 V_w_a0_value) (by decide) (argsL := [(.ref w_a0_value), (.int 1), (.int 2)]) (rest := []) rfl rfl rfl (lenOf pd_298 rfl) (W := 0) rfl (by decide) (by decide) (by decide : 0 + 2 ≤ _) (by decide : 0 + 6 ≤ _)
  obtain ⟨b11, bx11, kx11, rfl, N11q, K11q, GE11, GC11, GX11, GV11⟩ := hQ11
  have N11 := Fr.app N6 N11q
  have K11 : Keep h0 T11.heap [] := K0.trans K11q all0
  have Zs11 : n0 ≤ T11.heap.size := Nat.le_trans Z0 K11q.1
  have go12 : Go p.tables e below T11 (mkF m 57 (Lss3_0_0 a0) [(.ref b11)]) En := by
    intro t k
    refine st11 _ ?_
    refine XS.goto X11.here hx rfl (pc0 := 44) (pc' := 57) rfl (hb hby d20_44) (by decide) (by decide) ?_
    exact k
  refine own_out (w := (.ref b11)) X11 hx hlk go12 hrt rfl (Or.inr (Or.inr (Or.inr (Or.inr ⟨rfl, rfl, rfl⟩)))) (hb hby d20_57) rfl (by decide) (by decide) ?_
  exact ⟨b11, bx11, kx11, rfl, N11, K11, GE11, GC11, GX11, GV11⟩
def Qst3_0 (Z : State) (n0 : Nat) (a0 : Addr) (w_a0_value : Addr) (k_w_a0_value : ClassId) (y0 : Int32) (y1 : Int32) (y2 : Int32) (s_COMPACT_STRINGS : Int32) (s_SIOOBE_FORMATTER : Value) (h0 : Heap) (v : Option Value) (h : Heap) (L : List Loc) : Prop := ∃ (b bx : Addr) (kx : ClassId), v = some (.ref b) ∧ Fr n0 L ∧ Keep h0 h [] ∧ Est Z h b ∧ Fcd Z h b (.int (0 : Int32)) ∧ Fvl Z h b (.ref bx) ∧ Arv Z h bx kx .byte (2 : Int32) [(.int y1), (.int y2)] (.int (0 : Int32))
theorem efst3_0 (m : MethodId) (a0 : Addr) : entryFrame m #[(.ref a0), (.int (1 : Int32))] 2 = mkF m 0 #[rv a0, iv (1 : Int32)] [] := by first | (simp [entryFrame, mkF, argsToLocals, Value.category]; done) | rfl
set_option maxRecDepth 65536 in
set_option maxHeartbeats 40000000 in
theorem rmst3_0 (l : Launch) (Z : State) (aZ : Array Value) (hw : HW aZ Z) (ws : List Jvm.Cond) (a0 : Addr) (w_a0_value : Addr) (k_w_a0_value : ClassId) (y0 : Int32) (y1 : Int32) (y2 : Int32) (s_COMPACT_STRINGS : Int32) (s_SIOOBE_FORMATTER : Value) (h0 : Heap) (n0 : Nat) (Z0 : n0 ≤ h0.size) (E_a0 : Est Z h0 a0) (F_a0_coder : Fcd Z h0 a0 (.int 0)) (F_a0_value : Fvl Z h0 a0 (.ref w_a0_value)) (V_w_a0_value : Arv Z h0 w_a0_value k_w_a0_value .byte (3 : Int32) [(.int y0), (.int y1), (.int y2)] (.int 0)) (S_COMPACT_STRINGS : SfC Z h0 (.int s_COMPACT_STRINGS)) (hcs : ¬ s_COMPACT_STRINGS = (0 : Int32)) (S_SIOOBE_FORMATTER : SfF Z h0 s_SIOOBE_FORMATTER) (rS_SIOOBE_FORMATTER : s_SIOOBE_FORMATTER.isRef = true) :
    MFn l (⟨"java/lang/String", "substring", "(I)Ljava/lang/String;"⟩ : MethodName) jdk_42_method_91_code 2 (some (.object "java/lang/String")) ws (Rm 5 2 6 80) #[(.ref a0), (.int 1)] Z h0 (Qst3_0 Z n0 a0 w_a0_value k_w_a0_value y0 y1 y2 s_COMPACT_STRINGS s_SIOOBE_FORMATTER h0) := by
  refine own_mf (C := "java/lang/String") rfl (plainFor_of_name pn_15) (fun m => efst3_0 m a0) ?_
  intro p e s m below meth cd0 s₁ En hx hby hml hown hnm hZ X0 e0 hlk hrt go0
  have N0 := Fr.nil n0
  have K0 : Keep h0 h0 [] := Keep.refl _ _
  have go1 : Go p.tables e below s₁ (mkF m 3 #[rv a0, iv 1] [(.ref a0), (.int 1), (.ref a0)]) En := by
    intro t k
    refine go0 _ ?_
    refine XS.aloadN X0.here hx rfl (hb hby d19_0) rfl rfl ?_
    refine XS.iloadN X0.here hx rfl (hb hby d19_1) rfl ?_
    refine XS.aloadN X0.here hx rfl (hb hby d19_2) rfl rfl ?_
    exact k
  obtain ⟨_, T2, Lc2, X2, hQ2, st2⟩ := own_cv X0 hx hZ hown hml go1 (hb hby d19_3) e0 (hw _ (mi 47 rfl)) (own_site185 hw) E_a0 (rmln l Z aZ hw [] a0 _ _ _ _ _ h0 n0 Z0 E_a0 F_a0_coder F_a0_value V_w_a0_value S_COMPACT_STRINGS hcs) (by decide) (argsL := []) (rest := [(.int 1), (.ref a0)]) rfl rfl rfl (lenOf pd_186 rfl) (W := 2) rfl (by decide) (by decide) (by decide : 0 + 0 ≤ _) (by decide : 0 + 0 ≤ _)
  obtain ⟨rfl, N2q, e2⟩ := hQ2
  have N2 := Fr.app N0 N2q
  obtain ⟨_, T3, Lc3, X3, hQ3, st3⟩ := own_cv X2 hx hZ hown hml st2 (hb hby d19_6) e2 (hw _ (mi 89 rfl)) (own_site363 hw) E_a0 (rmss3_0 l Z aZ hw [] a0 _ _ y0 y1 y2 _ _ h0 n0 Z0 E_a0 F_a0_coder F_a0_value V_w_a0_value S_COMPACT_STRINGS hcs S_SIOOBE_FORMATTER rS_SIOOBE_FORMATTER) (by decide) (argsL := [(.int 1), (.int 3)]) (rest := []) rfl rfl rfl (lenOf pd_306 rfl) (W := 0) rfl (by decide) (by decide) (by decide : 0 + 2 ≤ _) (by decide : 0 + 6 ≤ _)
  obtain ⟨b3, bx3, kx3, rfl, N3q, K3q, GE3, GC3, GX3, GV3⟩ := hQ3
  have N3 := Fr.app N2 N3q
  have K3 : Keep h0 T3.heap [] := K0.trans K3q all0
  have Zs3 : n0 ≤ T3.heap.size := Nat.le_trans Z0 K3q.1
  refine own_out (w := (.ref b3)) X3 hx hlk st3 hrt rfl (Or.inr (Or.inr (Or.inr (Or.inr ⟨rfl, rfl, rfl⟩)))) (hb hby d19_9) rfl (by decide) (by decide) ?_
  exact ⟨b3, bx3, kx3, rfl, N3, K3, GE3, GC3, GX3, GV3⟩
def Qqs3_0 (Z : State) (n0 : Nat) (a0 : Addr) (w_a0_value : Addr) (k_w_a0_value : ClassId) (y0 : Int32) (y1 : Int32) (y2 : Int32) (s_COMPACT_STRINGS : Int32) (s_SIOOBE_FORMATTER : Value) (h0 : Heap) (v : Option Value) (h : Heap) (L : List Loc) : Prop := ∃ (b bx : Addr) (kx : ClassId), v = some (.ref b) ∧ Fr n0 L ∧ Keep h0 h [] ∧ Est Z h b ∧ Fcd Z h b (.int (0 : Int32)) ∧ Fvl Z h b (.ref bx) ∧ Arv Z h bx kx .byte (2 : Int32) [(.int y1), (.int y2)] (.int (0 : Int32))
theorem efqs3_0 (m : MethodId) (a0 : Addr) : entryFrame m #[(.ref a0)] 2 = mkF m 0 #[rv a0, .unset] [] := by first | (simp [entryFrame, mkF, argsToLocals, Value.category]; done) | rfl
set_option maxRecDepth 65536 in
set_option maxHeartbeats 40000000 in
theorem rmqs3_0 (l : Launch) (Z : State) (aZ : Array Value) (hw : HW aZ Z) (ws : List Jvm.Cond) (a0 : Addr) (w_a0_value : Addr) (k_w_a0_value : ClassId) (y0 : Int32) (y1 : Int32) (y2 : Int32) (s_COMPACT_STRINGS : Int32) (s_SIOOBE_FORMATTER : Value) (h0 : Heap) (n0 : Nat) (Z0 : n0 ≤ h0.size) (E_a0 : Est Z h0 a0) (F_a0_coder : Fcd Z h0 a0 (.int 0)) (F_a0_value : Fvl Z h0 a0 (.ref w_a0_value)) (V_w_a0_value : Arv Z h0 w_a0_value k_w_a0_value .byte (3 : Int32) [(.int y0), (.int y1), (.int y2)] (.int 0)) (S_COMPACT_STRINGS : SfC Z h0 (.int s_COMPACT_STRINGS)) (hcs : ¬ s_COMPACT_STRINGS = (0 : Int32)) (hk : (fiz3 y0 y1 y2) = (0 : Int32)) (S_SIOOBE_FORMATTER : SfF Z h0 s_SIOOBE_FORMATTER) (rS_SIOOBE_FORMATTER : s_SIOOBE_FORMATTER.isRef = true) :
    MFn l (⟨"com/example/nephele/nephele/web/internal/RequestPath", "queryString", "(Ljava/lang/String;)Ljava/lang/String;"⟩ : MethodName) prog_24_method_3_code 2 (some (.object "java/lang/String")) ws (Rm 6 2 6 93) #[(.ref a0)] Z h0 (Qqs3_0 Z n0 a0 w_a0_value k_w_a0_value y0 y1 y2 s_COMPACT_STRINGS s_SIOOBE_FORMATTER h0) := by
  refine own_mf (C := "com/example/nephele/nephele/web/internal/RequestPath") rfl (plainFor_of_name pn_274) (fun m => efqs3_0 m a0) ?_
  intro p e s m below meth cd0 s₁ En hx hby hml hown hnm hZ X0 e0 hlk hrt go0
  have N0 := Fr.nil n0
  have K0 : Keep h0 h0 [] := Keep.refl _ _
  have go1 : Go p.tables e below s₁ (mkF m 3 #[rv a0, .unset] [(.int 63), (.ref a0)]) En := by
    intro t k
    refine go0 _ ?_
    refine XS.aloadN X0.here hx rfl (hb hby d5_0) rfl rfl ?_
    refine XS.bipush X0.here hx rfl (hb hby d5_1) ?_
    exact k
  obtain ⟨_, T2, Lc2, X2, hQ2, st2⟩ := own_cv X0 hx hZ hown hml go1 (hb hby d5_3) e0 (hw _ (mi 31 rfl)) (own_site266 hw) E_a0 (rmiz3 l Z aZ hw [] a0 _ _ y0 y1 y2 _ h0 n0 Z0 E_a0 F_a0_coder F_a0_value V_w_a0_value S_COMPACT_STRINGS hcs) (by decide) (argsL := [(.int 63)]) (rest := []) rfl rfl rfl (lenOf pd_267 rfl) (W := 0) rfl (by decide) (by decide) (by decide : 0 + 0 ≤ _) (by decide : 0 + 0 ≤ _)
  obtain ⟨rfl, N2q, e2⟩ := hQ2
  have N2 := Fr.app N0 N2q
  have go3 : Go p.tables e below T2 (mkF m 6 #[rv a0, .unset] [(.int 0)]) En := by
    have q := st2
    rw [hk] at q
    exact q
  have go4 : Go p.tables e below T2 (mkF m 19 #[rv a0, iv 0] [(.int 1), (.ref a0)]) En := by
    intro t k
    refine go3 _ ?_
    refine XS.istoreN X2.here hx rfl (hb hby d5_6) rfl (l' := #[rv a0, iv 0]) rfl ?_
    refine XS.iloadN X2.here hx rfl (hb hby d5_7) rfl ?_
    refine XS.ifYes X2.here hx rfl (pc0 := 8) (pc' := 15) rfl (hb hby d5_8) rfl (XT.i0_ge_t (by decide : ¬ ((0 : Int32) < (0 : Int32)))) (by decide) (by decide) ?_
    refine XS.aloadN X2.here hx rfl (hb hby d5_15) rfl rfl ?_
    refine XS.iloadN X2.here hx rfl (hb hby d5_16) rfl ?_
    show Steps _ _ _ (T2.setTop (mkF m 17 #[rv a0, iv 0] [(.int 0), (.ref a0)])) _
    refine XS.iconst X2.here hx rfl (hb hby d5_17) ?_
    refine XS.iadd X2.here hx rfl (hb hby d5_18) rfl ?_
    exact k
  obtain ⟨_, T5, Lc5, X5, hQ5, st5⟩ := own_cv X2 hx hZ hown hml go4 (hb hby d5_19) e2 (hw _ (mi 84 rfl)) (own_site364 hw) E_a0 (rmst3_0 l Z aZ hw [] a0 _ _ y0 y1 y2 _ _ h0 n0 Z0 E_a0 F_a0_coder F_a0_value V_w_a0_value S_COMPACT_STRINGS hcs S_SIOOBE_FORMATTER rS_SIOOBE_FORMATTER) (by decide) (argsL := [(.int 1)]) (rest := []) rfl rfl rfl (lenOf pd_313 rfl) (W := 0) rfl (by decide) (by decide) (by decide : 0 + 2 ≤ _) (by decide : 0 + 6 ≤ _)
  obtain ⟨b5, bx5, kx5, rfl, N5q, K5q, GE5, GC5, GX5, GV5⟩ := hQ5
  have N5 := Fr.app N2 N5q
  have K5 : Keep h0 T5.heap [] := K0.trans K5q all0
  have Zs5 : n0 ≤ T5.heap.size := Nat.le_trans Z0 K5q.1
  refine own_out (w := (.ref b5)) X5 hx hlk st5 hrt rfl (Or.inr (Or.inr (Or.inr (Or.inr ⟨rfl, rfl, rfl⟩)))) (hb hby d5_22) rfl (by decide) (by decide) ?_
  exact ⟨b5, bx5, kx5, rfl, N5, K5, GE5, GC5, GX5, GV5⟩
def Qcb3_1 (Z : State) (n0 : Nat) (a0 : Addr) (k_a0 : ClassId) (y0 : Int32) (y1 : Int32) (y2 : Int32) (h0 : Heap) (v : Option Value) (h : Heap) (L : List Loc) : Prop := ∃ (b : Addr) (kb : ClassId), v = some (.ref b) ∧ Fr n0 L ∧ Keep h0 h [] ∧ h0.size ≤ b ∧ Arv Z h b kb .byte (1 : Int32) [(.int y2)] (.int (0 : Int32))
theorem efcb3_1 (m : MethodId) (a0 : Addr) : entryFrame m #[(.ref a0), (.int (2 : Int32)), (.int (3 : Int32))] 5 = mkF m 0 #[rv a0, iv (2 : Int32), iv (3 : Int32), .unset, .unset] [] := by first | (simp [entryFrame, mkF, argsToLocals, Value.category]; done) | rfl
abbrev Lcb3_1_0 (a0 : Addr) (b4 : Addr) : Array Slot := #[rv a0, iv 2, iv 3, iv 1, rv b4]
set_option maxRecDepth 65536 in
set_option maxHeartbeats 40000000 in
theorem rmcb3_1 (l : Launch) (Z : State) (aZ : Array Value) (hw : HW aZ Z) (ws : List Jvm.Cond) (a0 : Addr) (k_a0 : ClassId) (y0 : Int32) (y1 : Int32) (y2 : Int32) (h0 : Heap) (n0 : Nat) (Z0 : n0 ≤ h0.size) (V_a0 : Arv Z h0 a0 k_a0 .byte (3 : Int32) [(.int y0), (.int y1), (.int y2)] (.int 0)) :
    MFn l (⟨"java/util/Arrays", "copyOfRangeByte", "([BII)[B"⟩ : MethodName) jdk_65_method_133_code 5 (some (.array .byte)) ws (Rm 1 1 1 18) #[(.ref a0), (.int 2), (.int 3)] Z h0 (Qcb3_1 Z n0 a0 k_a0 y0 y1 y2 h0) := by
  refine own_mf (C := "java/util/Arrays") rfl (plainFor_of_name pn_257) (fun m => efcb3_1 m a0) ?_
  intro p e s m below meth cd0 s₁ En hx hby hml hown hnm hZ X0 e0 hlk hrt go0
  have N0 := Fr.nil n0
  have K0 : Keep h0 h0 [] := Keep.refl _ _
  have go1 : Go p.tables e below s₁ (mkF m 2 #[rv a0, iv 2, iv 3, .unset, .unset] [(.int 3), (.int 2)]) En := by
    intro t k
    refine go0 _ ?_
    refine XS.iloadN X0.here hx rfl (hb hby d25_0) rfl ?_
    refine XS.iloadN X0.here hx rfl (hb hby d25_1) rfl ?_
    exact k
  obtain ⟨_, T2, Lc2, X2, hQ2, st2⟩ := own_cs X0 hx hZ hown hml go1 (hb hby d25_2) e0 (hw _ (mi 113 rfl)) (own_site317 hw) (rmcl l Z aZ hw [] (2 : Int32) (3 : Int32) h0 n0 Z0 (by decide)) (by decide) (argsL := [(.int 2), (.int 3)]) (rest := []) rfl rfl rfl (lenOf pd_318 rfl) (W := 0) rfl (by decide) (by decide) (by decide : 0 + 0 ≤ _) (by decide : 0 + 0 ≤ _)
  obtain ⟨rfl, N2q, e2⟩ := hQ2
  have N2 := Fr.app N0 N2q
  have go3 : Go p.tables e below T2 (mkF m 10 #[rv a0, iv 2, iv 3, iv 1, .unset] [(.int 1)]) En := by
    intro t k
    refine st2 _ ?_
    refine XS.iloadN X2.here hx rfl (hb hby d25_5) rfl ?_
    refine XS.iloadN X2.here hx rfl (hb hby d25_6) rfl ?_
    refine XS.isub X2.here hx rfl (hb hby d25_7) rfl ?_
    refine XS.istoreN X2.here hx rfl (hb hby d25_8) rfl (l' := #[rv a0, iv 2, iv 3, iv 1, .unset]) rfl ?_
    refine XS.iloadN X2.here hx rfl (hb hby d25_9) rfl ?_
    show Steps _ _ _ (T2.setTop (mkF m 10 #[rv a0, iv 2, iv 3, iv 1, .unset] [(.int 1)])) _
    exact k
  obtain ⟨T4, h4, k4, X4, e4, E4, A4, st4⟩ := newP X2 hx hZ (hw _ (mi 20 rfl)) e2 (g := (mkF m 10 #[rv a0, iv 2, iv 3, iv 1, .unset] [(.int 1)])) rfl (hb hby d25_10) rfl (by decide) (cap := 1) (by decide) (by decide) (by decide) (by decide)
  obtain ⟨b4, g4⟩ : ∃ z, z = h0.size := ⟨_, rfl⟩
  rw [← g4] at A4 st4
  have ne5 : a0 ≠ b4 := Nat.ne_of_lt (Nat.lt_of_lt_of_le V_a0.lt (Nat.le_of_eq g4.symm))
  have low4 : n0 ≤ b4 := Nat.le_trans Z0 (Nat.le_of_eq g4.symm)
  have fsh4 : h0.size ≤ b4 := Nat.le_trans K0.1 (Nat.le_of_eq g4.symm)
  have K4 : Keep h0 h4 [] := K0.ext E4
  have Zs4 : n0 ≤ h4.size := Nat.le_trans Z0 E4.1
  have go6 := gap go3 st4
  have F7 : Arv Z h4 b4 k4 .byte (1 : Int32) [(.int 0)] (.int 0) := (Arv.new A4 (by decide)).pad (pad_rep [] (.int 0) 1)
  obtain ⟨cl8, Ar8, q8, S8, N8, H8, G8⟩ := id (V_a0.keep K4 nin0)
  have go9 : Go p.tables e below T4 (mkF m 24 (Lcb3_1_0 a0 b4) [(.int 1), (.int 1), (.int 0), (.ref b4), (.int 2), (.ref a0)]) En := by
    intro t k
    refine go6 _ ?_
    refine XS.astore X4.here hx rfl (hb hby d25_12) rfl rfl (l' := (Lcb3_1_0 a0 b4)) rfl ?_
    refine XS.aloadN X4.here hx rfl (hb hby d25_14) rfl rfl ?_
    refine XS.iloadN X4.here hx rfl (hb hby d25_15) rfl ?_
    refine XS.aload X4.here hx rfl (hb hby d25_16) rfl rfl ?_
    refine XS.iconst X4.here hx rfl (hb hby d25_18) ?_
    show Steps _ _ _ (T4.setTop (mkF m 19 (Lcb3_1_0 a0 b4) [(.int 0), (.ref b4), (.int 2), (.ref a0)])) _
    refine XS.aloadN X4.here hx rfl (hb hby d25_19) rfl rfl ?_
    refine X4.arraylength hx (by rw [e4]; exact Ar8.1) (State.isArrayOf_alike hZ.alike Ar8.2.1) (g := (mkF m 20 (Lcb3_1_0 a0 b4) [(.ref a0), (.int 0), (.ref b4), (.int 2), (.ref a0)])) rfl rfl (hb hby d25_20) _ ?_
    rw [len_of S8 N8]
    refine XS.iloadN X4.here hx rfl (hb hby d25_21) rfl ?_
    refine XS.isub X4.here hx rfl (hb hby d25_22) rfl ?_
    show Steps _ _ _ (T4.setTop (mkF m 23 (Lcb3_1_0 a0 b4) [(.int 1), (.int 0), (.ref b4), (.int 2), (.ref a0)])) _
    refine XS.iloadN X4.here hx rfl (hb hby d25_23) rfl ?_
    exact k
  obtain ⟨_, T10, Lc10, X10, hQ10, st10⟩ := own_cs X4 hx hZ hown hml go9 (hb hby d25_24) e4 (hw _ (mi 116 rfl)) (own_site167 hw) (rmmn l Z aZ hw [] (1 : Int32) h4 n0 Zs4 ) (by decide) (argsL := [(.int 1), (.int 1)]) (rest := [(.int 0), (.ref b4), (.int 2), (.ref a0)]) rfl rfl rfl (lenOf pd_161 rfl) (W := 4) rfl (by decide) (by decide) (by decide : 1 + 0 ≤ _) (by decide : 1 + 0 ≤ _)
  obtain ⟨rfl, N10q, e10⟩ := hQ10
  have N10 := Fr.app N2 N10q
  obtain ⟨T11, _, L11, X11, rfl, N11q, K11q, AR11, st11⟩ := cpA X10 hx hZ hown (hw _ (mi 117 rfl)) (hw _ (mi 120 rfl)) (hw _ (mi 118 rfl)) (hw _ (mi 119 rfl)) e10 (V_a0.keep K4 nin0) F7 (us := [(.int y2)]) (Or.inl ⟨rfl, rfl⟩) (by decide) (by decide) (by decide) (by decide) (by decide) rfl (Nat.le_of_ble_eq_true rfl) N10 low4 (g := (mkF m 27 (Lcb3_1_0 a0 b4) [(.int 1), (.int 0), (.ref b4), (.int 2), (.ref a0)])) rfl (by rw [hml]; rfl) rfl (hb hby d25_27) (by decide) (W := 0) (by show 2 * 0 + _ ≤ _; exact Nat.le_of_eq rfl) (by decide)
  have K11 : Keep h0 T11.heap [] := K4.trans K11q (allS (Or.inr fsh4) all0)
  have go12 := gap st10 st11
  have Zs11 : n0 ≤ T11.heap.size := Nat.le_trans Zs4 K11q.1
  have F13 : Arv Z T11.heap b4 k4 .byte (1 : Int32) [(.int y2)] (.int 0) := AR11
  have go14 : Go p.tables e below T11 (mkF m 32 (Lcb3_1_0 a0 b4) [(.ref b4)]) En := by
    intro t k
    refine go12 _ ?_
    refine XS.aload X11.here hx rfl (hb hby d25_30) rfl rfl ?_
    exact k
  refine own_out (w := (.ref b4)) X11 hx hlk go14 hrt rfl (Or.inr (Or.inr (Or.inr (Or.inr ⟨rfl, rfl, rfl⟩)))) (hb hby d25_32) rfl (by decide) (by decide) ?_
  exact ⟨b4, k4, rfl, N11q, K11, fsh4, F13⟩
def Qcr3_1 (Z : State) (n0 : Nat) (a0 : Addr) (k_a0 : ClassId) (y0 : Int32) (y1 : Int32) (y2 : Int32) (h0 : Heap) (v : Option Value) (h : Heap) (L : List Loc) : Prop := ∃ (b : Addr) (kb : ClassId), v = some (.ref b) ∧ Fr n0 L ∧ Keep h0 h [] ∧ h0.size ≤ b ∧ Arv Z h b kb .byte (1 : Int32) [(.int y2)] (.int (0 : Int32))
theorem efcr3_1 (m : MethodId) (a0 : Addr) : entryFrame m #[(.ref a0), (.int (2 : Int32)), (.int (3 : Int32))] 3 = mkF m 0 #[rv a0, iv (2 : Int32), iv (3 : Int32)] [] := by first | (simp [entryFrame, mkF, argsToLocals, Value.category]; done) | rfl
set_option maxRecDepth 65536 in
set_option maxHeartbeats 40000000 in
theorem rmcr3_1 (l : Launch) (Z : State) (aZ : Array Value) (hw : HW aZ Z) (ws : List Jvm.Cond) (a0 : Addr) (k_a0 : ClassId) (y0 : Int32) (y1 : Int32) (y2 : Int32) (h0 : Heap) (n0 : Nat) (Z0 : n0 ≤ h0.size) (V_a0 : Arv Z h0 a0 k_a0 .byte (3 : Int32) [(.int y0), (.int y1), (.int y2)] (.int 0)) :
    MFn l (⟨"java/util/Arrays", "copyOfRange", "([BII)[B"⟩ : MethodName) jdk_65_method_132_code 3 (some (.array .byte)) ws (Rm 2 1 1 34) #[(.ref a0), (.int 2), (.int 3)] Z h0 (Qcr3_1 Z n0 a0 k_a0 y0 y1 y2 h0) := by
  refine own_mf (C := "java/util/Arrays") rfl (plainFor_of_name pn_257) (fun m => efcr3_1 m a0) ?_
  intro p e s m below meth cd0 s₁ En hx hby hml hown hnm hZ X0 e0 hlk hrt go0
  have N0 := Fr.nil n0
  have K0 : Keep h0 h0 [] := Keep.refl _ _
  have go1 : Go p.tables e below s₁ (mkF m 13 #[rv a0, iv 2, iv 3] [(.int 3), (.int 2), (.ref a0)]) En := by
    intro t k
    refine go0 _ ?_
    refine XS.iloadN X0.here hx rfl (hb hby d24_0) rfl ?_
    refine XS.ifYes X0.here hx rfl (pc0 := 1) (pc' := 10) rfl (hb hby d24_1) rfl (XT.i0_ne_t (by decide : ¬ ((2 : Int32) = (0 : Int32)))) (by decide) (by decide) ?_
    refine XS.aloadN X0.here hx rfl (hb hby d24_10) rfl rfl ?_
    refine XS.iloadN X0.here hx rfl (hb hby d24_11) rfl ?_
    refine XS.iloadN X0.here hx rfl (hb hby d24_12) rfl ?_
    show Steps _ _ _ (s₁.setTop (mkF m 13 #[rv a0, iv 2, iv 3] [(.int 3), (.int 2), (.ref a0)])) _
    exact k
  obtain ⟨_, T2, Lc2, X2, hQ2, st2⟩ := own_cs X0 hx hZ hown hml go1 (hb hby d24_13) e0 (hw _ (mi 110 rfl)) (own_site345 hw) (rmcb3_1 l Z aZ hw [] a0 _ y0 y1 y2 h0 n0 Z0 V_a0) (by decide) (argsL := [(.ref a0), (.int 2), (.int 3)]) (rest := []) rfl rfl rfl (lenOf pd_346 rfl) (W := 0) rfl (by decide) (by decide) (by decide : 0 + 1 ≤ _) (by decide : 0 + 1 ≤ _)
  obtain ⟨b2, kb2, rfl, N2q, K2q, fr2, G2_0⟩ := hQ2
  have N2 := Fr.app N0 N2q
  have K2 : Keep h0 T2.heap [] := K0.trans K2q all0
  have low2 : n0 ≤ b2 := Nat.le_trans Z0 fr2
  have fsh2 : h0.size ≤ b2 := Nat.le_trans K0.1 fr2
  have ne3 : a0 ≠ b2 := Nat.ne_of_lt (Nat.lt_of_lt_of_le V_a0.lt fr2)
  have Zs2 : n0 ≤ T2.heap.size := Nat.le_trans Z0 K2q.1
  refine own_out (w := (.ref b2)) X2 hx hlk st2 hrt rfl (Or.inr (Or.inr (Or.inr (Or.inr ⟨rfl, rfl, rfl⟩)))) (hb hby d24_16) rfl (by decide) (by decide) ?_
  exact ⟨b2, kb2, rfl, N2, K2, fsh2, G2_0⟩
def Qns3_1 (Z : State) (n0 : Nat) (a0 : Addr) (k_a0 : ClassId) (y0 : Int32) (y1 : Int32) (y2 : Int32) (h0 : Heap) (v : Option Value) (h : Heap) (L : List Loc) : Prop := ∃ (b bx : Addr) (kx : ClassId), v = some (.ref b) ∧ Fr n0 L ∧ Keep h0 h [] ∧ Est Z h b ∧ Fcd Z h b (.int (0 : Int32)) ∧ Fvl Z h b (.ref bx) ∧ Arv Z h bx kx .byte (1 : Int32) [(.int y2)] (.int (0 : Int32))
theorem efns3_1 (m : MethodId) (a0 : Addr) : entryFrame m #[(.ref a0), (.int (2 : Int32)), (.int (1 : Int32))] 3 = mkF m 0 #[rv a0, iv (2 : Int32), iv (1 : Int32)] [] := by first | (simp [entryFrame, mkF, argsToLocals, Value.category]; done) | rfl
set_option maxRecDepth 65536 in
set_option maxHeartbeats 40000000 in
theorem rmns3_1 (l : Launch) (Z : State) (aZ : Array Value) (hw : HW aZ Z) (ws : List Jvm.Cond) (a0 : Addr) (k_a0 : ClassId) (y0 : Int32) (y1 : Int32) (y2 : Int32) (h0 : Heap) (n0 : Nat) (Z0 : n0 ≤ h0.size) (V_a0 : Arv Z h0 a0 k_a0 .byte (3 : Int32) [(.int y0), (.int y1), (.int y2)] (.int 0)) :
    MFn l (⟨"java/lang/StringLatin1", "newString", "([BII)Ljava/lang/String;"⟩ : MethodName) jdk_43_method_47_code 3 (some (.object "java/lang/String")) ws (Rm 3 2 5 50) #[(.ref a0), (.int 2), (.int 1)] Z h0 (Qns3_1 Z n0 a0 k_a0 y0 y1 y2 h0) := by
  refine own_mf (C := "java/lang/StringLatin1") rfl (plainFor_of_name pn_128) (fun m => efns3_1 m a0) ?_
  intro p e s m below meth cd0 s₁ En hx hby hml hown hnm hZ X0 e0 hlk hrt go0
  have N0 := Fr.nil n0
  have K0 : Keep h0 h0 [] := Keep.refl _ _
  have go1 : Go p.tables e below s₁ (mkF m 7 #[rv a0, iv 2, iv 1] []) En := by
    intro t k
    refine go0 _ ?_
    refine XS.iloadN X0.here hx rfl (hb hby d23_0) rfl ?_
    refine XS.ifYes X0.here hx rfl (pc0 := 1) (pc' := 7) rfl (hb hby d23_1) rfl (XT.i0_ne_t (by decide : ¬ ((1 : Int32) = (0 : Int32)))) (by decide) (by decide) ?_
    exact k
  obtain ⟨T2, h2, X2, e2, E2, A2, D2, -, st2⟩ := newO X0 hx hZ hown (hw _ (mi 105 rfl)) (hw _ (mi 7 rfl)) (hw _ (mi 8 rfl)) e0 (g := (mkF m 7 #[rv a0, iv 2, iv 1] [])) rfl (hb hby d23_7) (by decide) (by decide)
  obtain ⟨b2, g2⟩ : ∃ z, z = h0.size := ⟨_, rfl⟩
  rw [← g2] at A2 D2 st2
  have ne3 : a0 ≠ b2 := Nat.ne_of_lt (Nat.lt_of_lt_of_le V_a0.lt (Nat.le_of_eq g2.symm))
  have low2 : n0 ≤ b2 := Nat.le_trans Z0 (Nat.le_of_eq g2.symm)
  have fsh2 : h0.size ≤ b2 := Nat.le_trans K0.1 (Nat.le_of_eq g2.symm)
  have K2 : Keep h0 h2 [] := K0.ext E2
  have Zs2 : n0 ≤ h2.size := Nat.le_trans Z0 E2.1
  have go4 := gap go1 st2
  have F5 : Fvl Z h2 b2 .null := D2 (Or.inr (hw _ (mi 21 rfl))) (ty := (.array .byte)) (by decide)
  have F6 : Fcd Z h2 b2 (.int 0) := D2 (Or.inr (hw _ (mi 22 rfl))) (ty := .byte) (by decide)
  have go7 : Go p.tables e below T2 (mkF m 16 #[rv a0, iv 2, iv 1] [(.int 3), (.int 2), (.ref a0), (.ref b2), (.ref b2)]) En := by
    intro t k
    refine go4 _ ?_
    refine XS.dup X2.here hx rfl (hb hby d23_10) rfl rfl ?_
    refine XS.aloadN X2.here hx rfl (hb hby d23_11) rfl rfl ?_
    refine XS.iloadN X2.here hx rfl (hb hby d23_12) rfl ?_
    refine XS.iloadN X2.here hx rfl (hb hby d23_13) rfl ?_
    refine XS.iloadN X2.here hx rfl (hb hby d23_14) rfl ?_
    show Steps _ _ _ (T2.setTop (mkF m 15 #[rv a0, iv 2, iv 1] [(.int 1), (.int 2), (.int 2), (.ref a0), (.ref b2), (.ref b2)])) _
    refine XS.iadd X2.here hx rfl (hb hby d23_15) rfl ?_
    exact k
  obtain ⟨_, T8, Lc8, X8, hQ8, st8⟩ := own_cs X2 hx hZ hown hml go7 (hb hby d23_16) e2 (hw _ (mi 106 rfl)) (own_site356 hw) (rmcr3_1 l Z aZ hw [] a0 _ y0 y1 y2 h2 n0 Zs2 (V_a0.keep K2 nin0)) (by decide) (argsL := [(.ref a0), (.int 2), (.int 3)]) (rest := [(.ref b2), (.ref b2)]) rfl rfl rfl (lenOf pd_346 rfl) (W := 2) rfl (by decide) (by decide) (by decide : 1 + 1 ≤ _) (by decide : 4 + 1 ≤ _)
  obtain ⟨b8, kb8, rfl, N8q, K8q, fr8, G8_0⟩ := hQ8
  have N8 := Fr.app N0 N8q
  have K8 : Keep h0 T8.heap [] := K2.trans K8q all0
  have low8 : n0 ≤ b8 := Nat.le_trans Zs2 fr8
  have fsh8 : h0.size ≤ b8 := Nat.le_trans K2.1 fr8
  have ne9 : a0 ≠ b8 := Nat.ne_of_lt (Nat.lt_of_lt_of_le (V_a0.keep K2 nin0).lt fr8)
  have ne10 : b2 ≠ b8 := Nat.ne_of_lt (Nat.lt_of_lt_of_le A2.lt fr8)
  have Zs8 : n0 ≤ T8.heap.size := Nat.le_trans Zs2 K8q.1
  have F11 := A2.keep K8q
  have F12 := F5.keep K8q nin0
  have F13 := F6.keep K8q nin0
  have go14 : Go p.tables e below T8 (mkF m 20 #[rv a0, iv 2, iv 1] [(.int 0), (.ref b8), (.ref b2), (.ref b2)]) En := by
    intro t k
    refine st8 _ ?_
    refine XS.iconst X8.here hx rfl (hb hby d23_19) ?_
    exact k
  obtain ⟨_, T15, Lc15, X15, hQ15, st15⟩ := own_ci X8 hx hZ hown hml go14 (hb hby d23_20) rfl (hw _ (mi 121 rfl)) (own_site359 hw) rfl (rmsi l Z aZ hw [] b2 b8 T8.heap n0 Zs8 F11 F12 F13 low2) (by decide) (argsL := [(.ref b8), (.int 0)]) (rest := [(.ref b2)]) rfl rfl rfl (lenOf pd_360 rfl) (W := 1) rfl (by decide) (by decide) (by decide : 2 + 0 ≤ _) (by decide : 5 + 0 ≤ _)
  obtain ⟨rfl, N15q, K15q, G15_0, G15_1, G15_2⟩ := hQ15
  have N15 := Fr.app N8 N15q
  have K15 : Keep h0 T15.heap [] := K8.trans K15q (allS (Or.inr fsh2) all0)
  have Zs15 : n0 ≤ T15.heap.size := Nat.le_trans Zs8 K15q.1
  have F16 := F11.keep K15q
  have F17 := G8_0.keep K15q (ninS (Ne.symm ne10) nin0)
  refine own_out (w := (.ref b2)) X15 hx hlk st15 hrt rfl (Or.inr (Or.inr (Or.inr (Or.inr ⟨rfl, rfl, rfl⟩)))) (hb hby d23_23) rfl (by decide) (by decide) ?_
  exact ⟨b2, b8, kb8, rfl, N15, K15, G15_0, G15_2, G15_1, F17⟩
def Qss3_1 (Z : State) (n0 : Nat) (a0 : Addr) (w_a0_value : Addr) (k_w_a0_value : ClassId) (y0 : Int32) (y1 : Int32) (y2 : Int32) (s_COMPACT_STRINGS : Int32) (s_SIOOBE_FORMATTER : Value) (h0 : Heap) (v : Option Value) (h : Heap) (L : List Loc) : Prop := ∃ (b bx : Addr) (kx : ClassId), v = some (.ref b) ∧ Fr n0 L ∧ Keep h0 h [] ∧ Est Z h b ∧ Fcd Z h b (.int (0 : Int32)) ∧ Fvl Z h b (.ref bx) ∧ Arv Z h bx kx .byte (1 : Int32) [(.int y2)] (.int (0 : Int32))
theorem efss3_1 (m : MethodId) (a0 : Addr) : entryFrame m #[(.ref a0), (.int (2 : Int32)), (.int (3 : Int32))] 5 = mkF m 0 #[rv a0, iv (2 : Int32), iv (3 : Int32), .unset, .unset] [] := by first | (simp [entryFrame, mkF, argsToLocals, Value.category]; done) | rfl
abbrev Lss3_1_0 (a0 : Addr) : Array Slot := #[rv a0, iv 2, iv 3, iv 3, iv 1]
set_option maxRecDepth 65536 in
set_option maxHeartbeats 40000000 in
theorem rmss3_1 (l : Launch) (Z : State) (aZ : Array Value) (hw : HW aZ Z) (ws : List Jvm.Cond) (a0 : Addr) (w_a0_value : Addr) (k_w_a0_value : ClassId) (y0 : Int32) (y1 : Int32) (y2 : Int32) (s_COMPACT_STRINGS : Int32) (s_SIOOBE_FORMATTER : Value) (h0 : Heap) (n0 : Nat) (Z0 : n0 ≤ h0.size) (E_a0 : Est Z h0 a0) (F_a0_coder : Fcd Z h0 a0 (.int 0)) (F_a0_value : Fvl Z h0 a0 (.ref w_a0_value)) (V_w_a0_value : Arv Z h0 w_a0_value k_w_a0_value .byte (3 : Int32) [(.int y0), (.int y1), (.int y2)] (.int 0)) (S_COMPACT_STRINGS : SfC Z h0 (.int s_COMPACT_STRINGS)) (hcs : ¬ s_COMPACT_STRINGS = (0 : Int32)) (S_SIOOBE_FORMATTER : SfF Z h0 s_SIOOBE_FORMATTER) (rS_SIOOBE_FORMATTER : s_SIOOBE_FORMATTER.isRef = true) :
    MFn l (⟨"java/lang/String", "substring", "(II)Ljava/lang/String;"⟩ : MethodName) jdk_42_method_92_code 5 (some (.object "java/lang/String")) ws (Rm 4 2 5 64) #[(.ref a0), (.int 2), (.int 3)] Z h0 (Qss3_1 Z n0 a0 w_a0_value k_w_a0_value y0 y1 y2 s_COMPACT_STRINGS s_SIOOBE_FORMATTER h0) := by
  refine own_mf (C := "java/lang/String") rfl (plainFor_of_name pn_15) (fun m => efss3_1 m a0) ?_
  intro p e s m below meth cd0 s₁ En hx hby hml hown hnm hZ X0 e0 hlk hrt go0
  have N0 := Fr.nil n0
  have K0 : Keep h0 h0 [] := Keep.refl _ _
  have go1 : Go p.tables e below s₁ (mkF m 1 #[rv a0, iv 2, iv 3, .unset, .unset] [(.ref a0)]) En := by
    intro t k
    refine go0 _ ?_
    refine XS.aloadN X0.here hx rfl (hb hby d20_0) rfl rfl ?_
    exact k
  obtain ⟨_, T2, Lc2, X2, hQ2, st2⟩ := own_cv X0 hx hZ hown hml go1 (hb hby d20_1) e0 (hw _ (mi 47 rfl)) (own_site185 hw) E_a0 (rmln l Z aZ hw [] a0 _ _ _ _ _ h0 n0 Z0 E_a0 F_a0_coder F_a0_value V_w_a0_value S_COMPACT_STRINGS hcs) (by decide) (argsL := []) (rest := []) rfl rfl rfl (lenOf pd_186 rfl) (W := 0) rfl (by decide) (by decide) (by decide : 0 + 0 ≤ _) (by decide : 0 + 0 ≤ _)
  obtain ⟨rfl, N2q, e2⟩ := hQ2
  have N2 := Fr.app N0 N2q
  have go3 : Go p.tables e below T2 (mkF m 8 #[rv a0, iv 2, iv 3, iv 3, .unset] [(.int 3), (.int 3), (.int 2)]) En := by
    intro t k
    refine st2 _ ?_
    refine XS.istoreN X2.here hx rfl (hb hby d20_4) rfl (l' := #[rv a0, iv 2, iv 3, iv 3, .unset]) rfl ?_
    refine XS.iloadN X2.here hx rfl (hb hby d20_5) rfl ?_
    refine XS.iloadN X2.here hx rfl (hb hby d20_6) rfl ?_
    refine XS.iloadN X2.here hx rfl (hb hby d20_7) rfl ?_
    exact k
  obtain ⟨_, T4, Lc4, X4, hQ4, st4⟩ := own_cs X2 hx hZ hown hml go3 (hb hby d20_8) e2 (hw _ (mi 94 rfl)) (own_site282 hw) (rmcbb l Z aZ hw [] (2 : Int32) (3 : Int32) (3 : Int32) _ h0 n0 Z0 S_SIOOBE_FORMATTER rS_SIOOBE_FORMATTER (by decide) (by decide) (by decide)) (by decide) (argsL := [(.int 2), (.int 3), (.int 3)]) (rest := []) rfl rfl rfl (lenOf pd_283 rfl) (W := 0) rfl (by decide) (by decide) (by decide : 0 + 0 ≤ _) (by decide : 0 + 0 ≤ _)
  obtain ⟨rfl, N4q, e4⟩ := hQ4
  have N4 := Fr.app N2 N4q
  have go5 : Go p.tables e below T4 (mkF m 28 (Lss3_1_0 a0) [(.ref a0)]) En := by
    intro t k
    refine st4 _ ?_
    refine XS.iloadN X4.here hx rfl (hb hby d20_11) rfl ?_
    refine XS.ifYes X4.here hx rfl (pc0 := 12) (pc' := 22) rfl (hb hby d20_12) rfl (XT.i0_ne_t (by decide : ¬ ((2 : Int32) = (0 : Int32)))) (by decide) (by decide) ?_
    refine XS.iloadN X4.here hx rfl (hb hby d20_22) rfl ?_
    refine XS.iloadN X4.here hx rfl (hb hby d20_23) rfl ?_
    refine XS.isub X4.here hx rfl (hb hby d20_24) rfl ?_
    show Steps _ _ _ (T4.setTop (mkF m 25 #[rv a0, iv 2, iv 3, iv 3, .unset] [(.int 1)])) _
    refine XS.istore X4.here hx rfl (hb hby d20_25) rfl (l' := (Lss3_1_0 a0)) rfl ?_
    refine XS.aloadN X4.here hx rfl (hb hby d20_27) rfl rfl ?_
    exact k
  obtain ⟨_, T6, Lc6, X6, hQ6, st6⟩ := own_cv X4 hx hZ hown hml go5 (hb hby d20_28) e4 (hw _ (mi 41 rfl)) (own_site176 hw) E_a0 (rmil l Z aZ hw [] a0 _ h0 n0 Z0 S_COMPACT_STRINGS hcs F_a0_coder) (by decide) (argsL := []) (rest := []) rfl rfl rfl (lenOf pd_177 rfl) (W := 0) rfl (by decide) (by decide) (by decide : 0 + 0 ≤ _) (by decide : 0 + 0 ≤ _)
  obtain ⟨rfl, N6q, e6⟩ := hQ6
  have N6 := Fr.app N4 N6q
  have go7 : Go p.tables e below T6 (mkF m 35 (Lss3_1_0 a0) [(.ref a0)]) En := by
    intro t k
    refine st6 _ ?_
    refine XS.ifNo X6.here hx rfl (hb hby d20_31) rfl (XT.i0_eq_f (by decide : ¬ ((1 : Int32) = (0 : Int32)))) ?_
    refine XS.aloadN X6.here hx rfl (hb hby d20_34) rfl rfl ?_
    exact k
  obtain ⟨T8, X8, e8, st8⟩ := getF X6 hx hZ hown (host := "") (Or.inl (hw _ (mi 25 rfl))) Via.refl e6 F_a0_value (g := (mkF m 35 (Lss3_1_0 a0) [(.ref a0)])) rfl rfl (hb hby d20_35)
  have go9 := gap go7 st8
  have go10 : Go p.tables e below T8 (mkF m 41 (Lss3_1_0 a0) [(.int 1), (.int 2), (.ref w_a0_value)]) En := by
    intro t k
    refine go9 _ ?_
    refine XS.iloadN X8.here hx rfl (hb hby d20_38) rfl ?_
    refine XS.iload X8.here hx rfl (hb hby d20_39) rfl ?_
    exact k
  obtain ⟨_, T11, Lc11, X11, hQ11, st11⟩ := own_cs X8 hx hZ hown hml go10 (hb hby d20_41) e8 (hw _ (mi 102 rfl)) (own_site362 hw) (rmns3_1 l Z aZ hw [] _ _ y0 y1 y2 h0 n0 Z0 V_w_a0_value) (by decide) (argsL := [(.ref w_a0_value), (.int 2), (.int 1)]) (rest := []) rfl rfl rfl (lenOf pd_298 rfl) (W := 0) rfl (by decide) (by decide) (by decide : 0 + 2 ≤ _) (by decide : 0 + 5 ≤ _)
  obtain ⟨b11, bx11, kx11, rfl, N11q, K11q, GE11, GC11, GX11, GV11⟩ := hQ11
  have N11 := Fr.app N6 N11q
  have K11 : Keep h0 T11.heap [] := K0.trans K11q all0
  have Zs11 : n0 ≤ T11.heap.size := Nat.le_trans Z0 K11q.1
  have go12 : Go p.tables e below T11 (mkF m 57 (Lss3_1_0 a0) [(.ref b11)]) En := by
    intro t k
    refine st11 _ ?_
    refine XS.goto X11.here hx rfl (pc0 := 44) (pc' := 57) rfl (hb hby d20_44) (by decide) (by decide) ?_
    exact k
  refine own_out (w := (.ref b11)) X11 hx hlk go12 hrt rfl (Or.inr (Or.inr (Or.inr (Or.inr ⟨rfl, rfl, rfl⟩)))) (hb hby d20_57) rfl (by decide) (by decide) ?_
  exact ⟨b11, bx11, kx11, rfl, N11, K11, GE11, GC11, GX11, GV11⟩
def Qst3_1 (Z : State) (n0 : Nat) (a0 : Addr) (w_a0_value : Addr) (k_w_a0_value : ClassId) (y0 : Int32) (y1 : Int32) (y2 : Int32) (s_COMPACT_STRINGS : Int32) (s_SIOOBE_FORMATTER : Value) (h0 : Heap) (v : Option Value) (h : Heap) (L : List Loc) : Prop := ∃ (b bx : Addr) (kx : ClassId), v = some (.ref b) ∧ Fr n0 L ∧ Keep h0 h [] ∧ Est Z h b ∧ Fcd Z h b (.int (0 : Int32)) ∧ Fvl Z h b (.ref bx) ∧ Arv Z h bx kx .byte (1 : Int32) [(.int y2)] (.int (0 : Int32))
theorem efst3_1 (m : MethodId) (a0 : Addr) : entryFrame m #[(.ref a0), (.int (2 : Int32))] 2 = mkF m 0 #[rv a0, iv (2 : Int32)] [] := by first | (simp [entryFrame, mkF, argsToLocals, Value.category]; done) | rfl
set_option maxRecDepth 65536 in
set_option maxHeartbeats 40000000 in
theorem rmst3_1 (l : Launch) (Z : State) (aZ : Array Value) (hw : HW aZ Z) (ws : List Jvm.Cond) (a0 : Addr) (w_a0_value : Addr) (k_w_a0_value : ClassId) (y0 : Int32) (y1 : Int32) (y2 : Int32) (s_COMPACT_STRINGS : Int32) (s_SIOOBE_FORMATTER : Value) (h0 : Heap) (n0 : Nat) (Z0 : n0 ≤ h0.size) (E_a0 : Est Z h0 a0) (F_a0_coder : Fcd Z h0 a0 (.int 0)) (F_a0_value : Fvl Z h0 a0 (.ref w_a0_value)) (V_w_a0_value : Arv Z h0 w_a0_value k_w_a0_value .byte (3 : Int32) [(.int y0), (.int y1), (.int y2)] (.int 0)) (S_COMPACT_STRINGS : SfC Z h0 (.int s_COMPACT_STRINGS)) (hcs : ¬ s_COMPACT_STRINGS = (0 : Int32)) (S_SIOOBE_FORMATTER : SfF Z h0 s_SIOOBE_FORMATTER) (rS_SIOOBE_FORMATTER : s_SIOOBE_FORMATTER.isRef = true) :
    MFn l (⟨"java/lang/String", "substring", "(I)Ljava/lang/String;"⟩ : MethodName) jdk_42_method_91_code 2 (some (.object "java/lang/String")) ws (Rm 5 2 5 80) #[(.ref a0), (.int 2)] Z h0 (Qst3_1 Z n0 a0 w_a0_value k_w_a0_value y0 y1 y2 s_COMPACT_STRINGS s_SIOOBE_FORMATTER h0) := by
  refine own_mf (C := "java/lang/String") rfl (plainFor_of_name pn_15) (fun m => efst3_1 m a0) ?_
  intro p e s m below meth cd0 s₁ En hx hby hml hown hnm hZ X0 e0 hlk hrt go0
  have N0 := Fr.nil n0
  have K0 : Keep h0 h0 [] := Keep.refl _ _
  have go1 : Go p.tables e below s₁ (mkF m 3 #[rv a0, iv 2] [(.ref a0), (.int 2), (.ref a0)]) En := by
    intro t k
    refine go0 _ ?_
    refine XS.aloadN X0.here hx rfl (hb hby d19_0) rfl rfl ?_
    refine XS.iloadN X0.here hx rfl (hb hby d19_1) rfl ?_
    refine XS.aloadN X0.here hx rfl (hb hby d19_2) rfl rfl ?_
    exact k
  obtain ⟨_, T2, Lc2, X2, hQ2, st2⟩ := own_cv X0 hx hZ hown hml go1 (hb hby d19_3) e0 (hw _ (mi 47 rfl)) (own_site185 hw) E_a0 (rmln l Z aZ hw [] a0 _ _ _ _ _ h0 n0 Z0 E_a0 F_a0_coder F_a0_value V_w_a0_value S_COMPACT_STRINGS hcs) (by decide) (argsL := []) (rest := [(.int 2), (.ref a0)]) rfl rfl rfl (lenOf pd_186 rfl) (W := 2) rfl (by decide) (by decide) (by decide : 0 + 0 ≤ _) (by decide : 0 + 0 ≤ _)
  obtain ⟨rfl, N2q, e2⟩ := hQ2
  have N2 := Fr.app N0 N2q
  obtain ⟨_, T3, Lc3, X3, hQ3, st3⟩ := own_cv X2 hx hZ hown hml st2 (hb hby d19_6) e2 (hw _ (mi 89 rfl)) (own_site363 hw) E_a0 (rmss3_1 l Z aZ hw [] a0 _ _ y0 y1 y2 _ _ h0 n0 Z0 E_a0 F_a0_coder F_a0_value V_w_a0_value S_COMPACT_STRINGS hcs S_SIOOBE_FORMATTER rS_SIOOBE_FORMATTER) (by decide) (argsL := [(.int 2), (.int 3)]) (rest := []) rfl rfl rfl (lenOf pd_306 rfl) (W := 0) rfl (by decide) (by decide) (by decide : 0 + 2 ≤ _) (by decide : 0 + 5 ≤ _)
  obtain ⟨b3, bx3, kx3, rfl, N3q, K3q, GE3, GC3, GX3, GV3⟩ := hQ3
  have N3 := Fr.app N2 N3q
  have K3 : Keep h0 T3.heap [] := K0.trans K3q all0
  have Zs3 : n0 ≤ T3.heap.size := Nat.le_trans Z0 K3q.1
  refine own_out (w := (.ref b3)) X3 hx hlk st3 hrt rfl (Or.inr (Or.inr (Or.inr (Or.inr ⟨rfl, rfl, rfl⟩)))) (hb hby d19_9) rfl (by decide) (by decide) ?_
  exact ⟨b3, bx3, kx3, rfl, N3, K3, GE3, GC3, GX3, GV3⟩
def Qqs3_1 (Z : State) (n0 : Nat) (a0 : Addr) (w_a0_value : Addr) (k_w_a0_value : ClassId) (y0 : Int32) (y1 : Int32) (y2 : Int32) (s_COMPACT_STRINGS : Int32) (s_SIOOBE_FORMATTER : Value) (h0 : Heap) (v : Option Value) (h : Heap) (L : List Loc) : Prop := ∃ (b bx : Addr) (kx : ClassId), v = some (.ref b) ∧ Fr n0 L ∧ Keep h0 h [] ∧ Est Z h b ∧ Fcd Z h b (.int (0 : Int32)) ∧ Fvl Z h b (.ref bx) ∧ Arv Z h bx kx .byte (1 : Int32) [(.int y2)] (.int (0 : Int32))
theorem efqs3_1 (m : MethodId) (a0 : Addr) : entryFrame m #[(.ref a0)] 2 = mkF m 0 #[rv a0, .unset] [] := by first | (simp [entryFrame, mkF, argsToLocals, Value.category]; done) | rfl
set_option maxRecDepth 65536 in
set_option maxHeartbeats 40000000 in
theorem rmqs3_1 (l : Launch) (Z : State) (aZ : Array Value) (hw : HW aZ Z) (ws : List Jvm.Cond) (a0 : Addr) (w_a0_value : Addr) (k_w_a0_value : ClassId) (y0 : Int32) (y1 : Int32) (y2 : Int32) (s_COMPACT_STRINGS : Int32) (s_SIOOBE_FORMATTER : Value) (h0 : Heap) (n0 : Nat) (Z0 : n0 ≤ h0.size) (E_a0 : Est Z h0 a0) (F_a0_coder : Fcd Z h0 a0 (.int 0)) (F_a0_value : Fvl Z h0 a0 (.ref w_a0_value)) (V_w_a0_value : Arv Z h0 w_a0_value k_w_a0_value .byte (3 : Int32) [(.int y0), (.int y1), (.int y2)] (.int 0)) (S_COMPACT_STRINGS : SfC Z h0 (.int s_COMPACT_STRINGS)) (hcs : ¬ s_COMPACT_STRINGS = (0 : Int32)) (hk : (fiz3 y0 y1 y2) = (1 : Int32)) (S_SIOOBE_FORMATTER : SfF Z h0 s_SIOOBE_FORMATTER) (rS_SIOOBE_FORMATTER : s_SIOOBE_FORMATTER.isRef = true) :
    MFn l (⟨"com/example/nephele/nephele/web/internal/RequestPath", "queryString", "(Ljava/lang/String;)Ljava/lang/String;"⟩ : MethodName) prog_24_method_3_code 2 (some (.object "java/lang/String")) ws (Rm 6 2 5 93) #[(.ref a0)] Z h0 (Qqs3_1 Z n0 a0 w_a0_value k_w_a0_value y0 y1 y2 s_COMPACT_STRINGS s_SIOOBE_FORMATTER h0) := by
  refine own_mf (C := "com/example/nephele/nephele/web/internal/RequestPath") rfl (plainFor_of_name pn_274) (fun m => efqs3_1 m a0) ?_
  intro p e s m below meth cd0 s₁ En hx hby hml hown hnm hZ X0 e0 hlk hrt go0
  have N0 := Fr.nil n0
  have K0 : Keep h0 h0 [] := Keep.refl _ _
  have go1 : Go p.tables e below s₁ (mkF m 3 #[rv a0, .unset] [(.int 63), (.ref a0)]) En := by
    intro t k
    refine go0 _ ?_
    refine XS.aloadN X0.here hx rfl (hb hby d5_0) rfl rfl ?_
    refine XS.bipush X0.here hx rfl (hb hby d5_1) ?_
    exact k
  obtain ⟨_, T2, Lc2, X2, hQ2, st2⟩ := own_cv X0 hx hZ hown hml go1 (hb hby d5_3) e0 (hw _ (mi 31 rfl)) (own_site266 hw) E_a0 (rmiz3 l Z aZ hw [] a0 _ _ y0 y1 y2 _ h0 n0 Z0 E_a0 F_a0_coder F_a0_value V_w_a0_value S_COMPACT_STRINGS hcs) (by decide) (argsL := [(.int 63)]) (rest := []) rfl rfl rfl (lenOf pd_267 rfl) (W := 0) rfl (by decide) (by decide) (by decide : 0 + 0 ≤ _) (by decide : 0 + 0 ≤ _)
  obtain ⟨rfl, N2q, e2⟩ := hQ2
  have N2 := Fr.app N0 N2q
  have go3 : Go p.tables e below T2 (mkF m 6 #[rv a0, .unset] [(.int 1)]) En := by
    have q := st2
    rw [hk] at q
    exact q
  have go4 : Go p.tables e below T2 (mkF m 19 #[rv a0, iv 1] [(.int 2), (.ref a0)]) En := by
    intro t k
    refine go3 _ ?_
    refine XS.istoreN X2.here hx rfl (hb hby d5_6) rfl (l' := #[rv a0, iv 1]) rfl ?_
    refine XS.iloadN X2.here hx rfl (hb hby d5_7) rfl ?_
    refine XS.ifYes X2.here hx rfl (pc0 := 8) (pc' := 15) rfl (hb hby d5_8) rfl (XT.i0_ge_t (by decide : ¬ ((1 : Int32) < (0 : Int32)))) (by decide) (by decide) ?_
    refine XS.aloadN X2.here hx rfl (hb hby d5_15) rfl rfl ?_
    refine XS.iloadN X2.here hx rfl (hb hby d5_16) rfl ?_
    show Steps _ _ _ (T2.setTop (mkF m 17 #[rv a0, iv 1] [(.int 1), (.ref a0)])) _
    refine XS.iconst X2.here hx rfl (hb hby d5_17) ?_
    refine XS.iadd X2.here hx rfl (hb hby d5_18) rfl ?_
    exact k
  obtain ⟨_, T5, Lc5, X5, hQ5, st5⟩ := own_cv X2 hx hZ hown hml go4 (hb hby d5_19) e2 (hw _ (mi 84 rfl)) (own_site364 hw) E_a0 (rmst3_1 l Z aZ hw [] a0 _ _ y0 y1 y2 _ _ h0 n0 Z0 E_a0 F_a0_coder F_a0_value V_w_a0_value S_COMPACT_STRINGS hcs S_SIOOBE_FORMATTER rS_SIOOBE_FORMATTER) (by decide) (argsL := [(.int 2)]) (rest := []) rfl rfl rfl (lenOf pd_313 rfl) (W := 0) rfl (by decide) (by decide) (by decide : 0 + 2 ≤ _) (by decide : 0 + 5 ≤ _)
  obtain ⟨b5, bx5, kx5, rfl, N5q, K5q, GE5, GC5, GX5, GV5⟩ := hQ5
  have N5 := Fr.app N2 N5q
  have K5 : Keep h0 T5.heap [] := K0.trans K5q all0
  have Zs5 : n0 ≤ T5.heap.size := Nat.le_trans Z0 K5q.1
  refine own_out (w := (.ref b5)) X5 hx hlk st5 hrt rfl (Or.inr (Or.inr (Or.inr (Or.inr ⟨rfl, rfl, rfl⟩)))) (hb hby d5_22) rfl (by decide) (by decide) ?_
  exact ⟨b5, bx5, kx5, rfl, N5, K5, GE5, GC5, GX5, GV5⟩
def Qss3_2 (Z : State) (n0 : Nat) (a0 : Addr) (w_a0_value : Addr) (k_w_a0_value : ClassId) (y0 : Int32) (y1 : Int32) (y2 : Int32) (s_COMPACT_STRINGS : Int32) (s_SIOOBE_FORMATTER : Value) (h0 : Heap) (v : Option Value) (h : Heap) (L : List Loc) : Prop := ∃ (b bx : Addr) (kx : ClassId), v = some (.ref b) ∧ Fr n0 L ∧ Keep h0 h [] ∧ Est Z h b ∧ Fcd Z h b (.int (0 : Int32)) ∧ Fvl Z h b (.ref bx) ∧ Arv Z h bx kx .byte (0 : Int32) [] (.int (0 : Int32))
theorem efss3_2 (m : MethodId) (a0 : Addr) : entryFrame m #[(.ref a0), (.int (3 : Int32)), (.int (3 : Int32))] 5 = mkF m 0 #[rv a0, iv (3 : Int32), iv (3 : Int32), .unset, .unset] [] := by first | (simp [entryFrame, mkF, argsToLocals, Value.category]; done) | rfl
abbrev Lss3_2_0 (a0 : Addr) : Array Slot := #[rv a0, iv 3, iv 3, iv 3, iv 0]
set_option maxRecDepth 65536 in
set_option maxHeartbeats 40000000 in
theorem rmss3_2 (l : Launch) (Z : State) (aZ : Array Value) (hw : HW aZ Z) (ws : List Jvm.Cond) (a0 : Addr) (w_a0_value : Addr) (k_w_a0_value : ClassId) (y0 : Int32) (y1 : Int32) (y2 : Int32) (s_COMPACT_STRINGS : Int32) (s_SIOOBE_FORMATTER : Value) (h0 : Heap) (n0 : Nat) (Z0 : n0 ≤ h0.size) (E_a0 : Est Z h0 a0) (F_a0_coder : Fcd Z h0 a0 (.int 0)) (F_a0_value : Fvl Z h0 a0 (.ref w_a0_value)) (V_w_a0_value : Arv Z h0 w_a0_value k_w_a0_value .byte (3 : Int32) [(.int y0), (.int y1), (.int y2)] (.int 0)) (S_COMPACT_STRINGS : SfC Z h0 (.int s_COMPACT_STRINGS)) (hcs : ¬ s_COMPACT_STRINGS = (0 : Int32)) (S_SIOOBE_FORMATTER : SfF Z h0 s_SIOOBE_FORMATTER) (rS_SIOOBE_FORMATTER : s_SIOOBE_FORMATTER.isRef = true) (hkp : ∀ (b : Addr) (cl : Cell), Z.heap[b]? = some cl → h0[b]? = some cl) (hcn151 : Jvm.Lit.constHeld Z "java/lang/StringLatin1" 151) (hcw : Jvm.Lit.compactW.before aZ Z = true) :
    MetFree l (⟨"java/lang/String", "substring", "(II)Ljava/lang/String;"⟩ : MethodName) (head1 (Jvm.Cond.code (⟨"java/lang/String", "substring", "(II)Ljava/lang/String;"⟩ : MethodName) jdk_42_method_92_code 5 (some (.object "java/lang/String")) :: ws) ({ frames := 2, cells := 2, slots := 4, locals := 29 } : Room)) (fun a U => a = #[(.ref a0), (.int 3), (.int 3)] ∧ Z.Warmed39 U.vm ∧ U.heap = h0 ∧ IB Z U.vm []) (fun _ _ _ _ _ => True) (fun _ U o U' => ∃ v L, o = .returned v ∧ Qss3_2 Z n0 a0 w_a0_value k_w_a0_value y0 y1 y2 s_COMPACT_STRINGS s_SIOOBE_FORMATTER h0 v U'.heap L ∧ ReturnedEndW U o U' L ({ frames := 2, cells := 2, slots := 4, locals := 29 } : Room).cells ({ frames := 2, cells := 2, slots := 4, locals := 29 } : Room).slots) := by
  refine MetFree.of_bodySF (plainFor_of_name pn_15) hisR ?_
  intro p e s m args below meth c s₁ Bd hml0 hP hK
  obtain ⟨rfl, hZ, hh, IB0⟩ := hP
  have hx := Bd.exec
  have hby := Bd.bytes
  have hml : c.maxLocals = 5 := hml0
  have hown : s.vm.findClass "java/lang/String" = some m.cls := findClass_of_methodNamed Bd.named
  have hnm := (name_of_methodNamed Bd.named Bd.method).1
  have X0 : Stand p l e ({ frames := 2, cells := 2, slots := 4, locals := 29 } : Room) (s.setVm s.vm) m #[(.ref a0), (.int 3), (.int 3)] below meth c s₁ [] 0 0 := Stand.of_body Bd
  have e0 : s₁.heap = h0 := by rw [← hh, Bd.state]; rfl
  have N0 := Fr.nil n0
  have K0 : Keep h0 h0 [] := Keep.refl _ _
  obtain ⟨En, hEn⟩ : ∃ z, z = (s₁.setTop (entryFrame m #[(.ref a0), (.int 3), (.int 3)] 5)) := ⟨_, rfl⟩
  have go0 : Go p.tables e below s₁ (mkF m 0 #[rv a0, iv 3, iv 3, .unset, .unset] []) En := fun t k => by subst hEn; exact castTop (efss3_2 m a0) k
  have hS0 : s.Since s.vm s.heap.size := (State.WarmedH.refl s).since _
  have hk0 : s.heap.size ≤ h0.size := by rw [← hh]; exact Nat.le_refl _
  have hkS : ∀ (b : Addr) (cl : Cell), Z.heap[b]? = some cl → s.heap[b]? = some cl := fun b cl q => by rw [hh]; exact hkp b cl q
  have go1 : Go p.tables e below s₁ (mkF m 1 #[rv a0, iv 3, iv 3, .unset, .unset] [(.ref a0)]) En := by
    intro t k
    refine go0 _ ?_
    refine XS.aloadN X0.here hx rfl (hb hby d20_0) rfl rfl ?_
    exact k
  obtain ⟨_, T2, Lc2, X2, hQ2, st2⟩ := own_cv X0 hx hZ hown hml go1 (hb hby d20_1) e0 (hw _ (mi 47 rfl)) (own_site185 hw) E_a0 (rmln l Z aZ hw [] a0 _ _ _ _ _ h0 n0 Z0 E_a0 F_a0_coder F_a0_value V_w_a0_value S_COMPACT_STRINGS hcs) (by decide) (argsL := []) (rest := []) rfl rfl rfl (lenOf pd_186 rfl) (W := 0) rfl (by decide) (by decide) (by decide : 0 + 0 ≤ _) (by decide : 0 + 0 ≤ _)
  obtain ⟨rfl, N2q, e2⟩ := hQ2
  have N2 := Fr.app N0 N2q
  have go3 : Go p.tables e below T2 (mkF m 8 #[rv a0, iv 3, iv 3, iv 3, .unset] [(.int 3), (.int 3), (.int 3)]) En := by
    intro t k
    refine st2 _ ?_
    refine XS.istoreN X2.here hx rfl (hb hby d20_4) rfl (l' := #[rv a0, iv 3, iv 3, iv 3, .unset]) rfl ?_
    refine XS.iloadN X2.here hx rfl (hb hby d20_5) rfl ?_
    refine XS.iloadN X2.here hx rfl (hb hby d20_6) rfl ?_
    refine XS.iloadN X2.here hx rfl (hb hby d20_7) rfl ?_
    exact k
  obtain ⟨_, T4, Lc4, X4, hQ4, st4⟩ := own_cs X2 hx hZ hown hml go3 (hb hby d20_8) e2 (hw _ (mi 94 rfl)) (own_site282 hw) (rmcbb l Z aZ hw [] (3 : Int32) (3 : Int32) (3 : Int32) _ h0 n0 Z0 S_SIOOBE_FORMATTER rS_SIOOBE_FORMATTER (by decide) (by decide) (by decide)) (by decide) (argsL := [(.int 3), (.int 3), (.int 3)]) (rest := []) rfl rfl rfl (lenOf pd_283 rfl) (W := 0) rfl (by decide) (by decide) (by decide : 0 + 0 ≤ _) (by decide : 0 + 0 ≤ _)
  obtain ⟨rfl, N4q, e4⟩ := hQ4
  have N4 := Fr.app N2 N4q
  have go5 : Go p.tables e below T4 (mkF m 28 (Lss3_2_0 a0) [(.ref a0)]) En := by
    intro t k
    refine st4 _ ?_
    refine XS.iloadN X4.here hx rfl (hb hby d20_11) rfl ?_
    refine XS.ifYes X4.here hx rfl (pc0 := 12) (pc' := 22) rfl (hb hby d20_12) rfl (XT.i0_ne_t (by decide : ¬ ((3 : Int32) = (0 : Int32)))) (by decide) (by decide) ?_
    refine XS.iloadN X4.here hx rfl (hb hby d20_22) rfl ?_
    refine XS.iloadN X4.here hx rfl (hb hby d20_23) rfl ?_
    refine XS.isub X4.here hx rfl (hb hby d20_24) rfl ?_
    show Steps _ _ _ (T4.setTop (mkF m 25 #[rv a0, iv 3, iv 3, iv 3, .unset] [(.int 0)])) _
    refine XS.istore X4.here hx rfl (hb hby d20_25) rfl (l' := (Lss3_2_0 a0)) rfl ?_
    refine XS.aloadN X4.here hx rfl (hb hby d20_27) rfl rfl ?_
    exact k
  obtain ⟨_, T6, Lc6, X6, hQ6, st6⟩ := own_cv X4 hx hZ hown hml go5 (hb hby d20_28) e4 (hw _ (mi 41 rfl)) (own_site176 hw) E_a0 (rmil l Z aZ hw [] a0 _ h0 n0 Z0 S_COMPACT_STRINGS hcs F_a0_coder) (by decide) (argsL := []) (rest := []) rfl rfl rfl (lenOf pd_177 rfl) (W := 0) rfl (by decide) (by decide) (by decide : 0 + 0 ≤ _) (by decide : 0 + 0 ≤ _)
  obtain ⟨rfl, N6q, e6⟩ := hQ6
  have N6 := Fr.app N4 N6q
  have go7 : Go p.tables e below T6 (mkF m 35 (Lss3_2_0 a0) [(.ref a0)]) En := by
    intro t k
    refine st6 _ ?_
    refine XS.ifNo X6.here hx rfl (hb hby d20_31) rfl (XT.i0_eq_f (by decide : ¬ ((1 : Int32) = (0 : Int32)))) ?_
    refine XS.aloadN X6.here hx rfl (hb hby d20_34) rfl rfl ?_
    exact k
  obtain ⟨T8, X8, e8, st8⟩ := getF X6 hx hZ hown (host := "") (Or.inl (hw _ (mi 25 rfl))) Via.refl e6 F_a0_value (g := (mkF m 35 (Lss3_2_0 a0) [(.ref a0)])) rfl rfl (hb hby d20_35)
  have go9 := gap go7 st8
  have go10 : Go p.tables e below T8 (mkF m 41 (Lss3_2_0 a0) [(.int 0), (.int 3), (.ref w_a0_value)]) En := by
    intro t k
    refine go9 _ ?_
    refine XS.iloadN X8.here hx rfl (hb hby d20_38) rfl ?_
    refine XS.iload X8.here hx rfl (hb hby d20_39) rfl ?_
    exact k
  obtain ⟨_, _, ⟨T11, L11, k11, n11⟩, -, X11q, hS11q, hg11, ⟨Lc11, hQ11, l11, y11, z11⟩, st11⟩ := callSS X8 hx (y := (⟨"java/lang/StringLatin1", "newString", "([BII)Ljava/lang/String;"⟩ : MethodName)) hown (mvT hZ (hw _ (mi 102 rfl))) (mvT hZ (hw _ (mi 103 rfl))) (mvT hZ (hw _ (mi 59 rfl))) (mvT hZ (hw _ (mi 104 rfl))) (by decide) (own_backOfSI (W := 0) (rmns0 l Z aZ hw [] w_a0_value (3 : Int32) h0 n0 Z0 hkp hcn151 hcw) hZ (hw _ (mi 104 rfl)) (hw _ (mi 59 rfl)) (by decide) (by decide) IB0) (g := (mkF m 41 (Lss3_2_0 a0) [(.int 0), (.int 3), (.ref w_a0_value)])) rfl (by rw [hml]; rfl) (argsL := [(.ref w_a0_value), (.int 3), (.int 0)]) (rest := []) (lenOf pd_298 rfl) rfl (by show 2 * 0 + _ ≤ _; exact Nat.le_of_eq rfl) (hb hby d20_41) (fun _ _ => ⟨rfl, e8, (by decide : 0 + 2 ≤ _), (by decide : 0 + 4 ≤ _)⟩)
  dsimp only [Pt.U, Pt.locs, Pt.cells, Pt.slots] at X11q hS11q hg11 l11 y11 z11 st11 hQ11
  subst l11 y11 z11
  have hk11q : s.heap.size ≤ T8.heap.size := by rw [e8]; exact hk0
  obtain ⟨X11, hS11, hZ11, hown11⟩ := rebS hS0 hk11q X11q hS11q hg11 hZ hown
  have hk11r : T11.heap.size ≤ T11.heap.size := Nat.le_refl _
  obtain ⟨b11, bx11, kx11, rfl, N11q, K11q, GE11, GC11, GX11, GV11⟩ := hQ11
  have N11 := Fr.app N6 N11q
  have K11 : Keep h0 T11.heap [] := K0.trans K11q all0
  have Zs11 : n0 ≤ T11.heap.size := Nat.le_trans Z0 K11q.1
  have hk11 : s.heap.size ≤ T11.heap.size := Nat.le_trans hk0 K11q.1
  have go12 := gapT go10 st11
  have go13 : Go p.tables e below T11 (mkF m 57 (Lss3_2_0 a0) [(.ref b11)]) En := by
    intro t k
    refine go12 _ ?_
    refine XS.goto X11.here hx rfl (pc0 := 44) (pc' := 57) rfl (hb hby d20_44) (by decide) (by decide) ?_
    exact k
  obtain ⟨fs, hr, hrun, hended, hRW⟩ := X11.leaveW hS11 (hk11r) (v := some (.ref b11)) (fun h => by rw [Bd.returns] at h; cases h) Bd.notSynchronized
  subst hEn
  refine ⟨_, _, go13 _ (Jvm.RoadKit.retOut X11 hx Bd.returns rfl (Or.inr (Or.inr (Or.inr (Or.inr ⟨rfl, rfl, rfl⟩)))) (hb hby d20_57) hr), hrun, hended, _, _, rfl, ?_, hRW.1, hRW.2.1, hRW.2.2.1, hRW.2.2.2.mono (by decide) (by decide)⟩
  show Qss3_2 _ _ a0 w_a0_value k_w_a0_value y0 y1 y2 s_COMPACT_STRINGS s_SIOOBE_FORMATTER h0 _ (T11.setFrames fs).heap _
  have hE : (T11.setFrames fs).heap = T11.heap := rfl
  rw [hE]
  exact ⟨b11, bx11, kx11, rfl, N11, K11, GE11, GC11, GX11, GV11⟩
def Qst3_2 (Z : State) (n0 : Nat) (a0 : Addr) (w_a0_value : Addr) (k_w_a0_value : ClassId) (y0 : Int32) (y1 : Int32) (y2 : Int32) (s_COMPACT_STRINGS : Int32) (s_SIOOBE_FORMATTER : Value) (h0 : Heap) (v : Option Value) (h : Heap) (L : List Loc) : Prop := ∃ (b bx : Addr) (kx : ClassId), v = some (.ref b) ∧ Fr n0 L ∧ Keep h0 h [] ∧ Est Z h b ∧ Fcd Z h b (.int (0 : Int32)) ∧ Fvl Z h b (.ref bx) ∧ Arv Z h bx kx .byte (0 : Int32) [] (.int (0 : Int32))
theorem efst3_2 (m : MethodId) (a0 : Addr) : entryFrame m #[(.ref a0), (.int (3 : Int32))] 2 = mkF m 0 #[rv a0, iv (3 : Int32)] [] := by first | (simp [entryFrame, mkF, argsToLocals, Value.category]; done) | rfl
set_option maxRecDepth 65536 in
set_option maxHeartbeats 40000000 in
theorem rmst3_2 (l : Launch) (Z : State) (aZ : Array Value) (hw : HW aZ Z) (ws : List Jvm.Cond) (a0 : Addr) (w_a0_value : Addr) (k_w_a0_value : ClassId) (y0 : Int32) (y1 : Int32) (y2 : Int32) (s_COMPACT_STRINGS : Int32) (s_SIOOBE_FORMATTER : Value) (h0 : Heap) (n0 : Nat) (Z0 : n0 ≤ h0.size) (E_a0 : Est Z h0 a0) (F_a0_coder : Fcd Z h0 a0 (.int 0)) (F_a0_value : Fvl Z h0 a0 (.ref w_a0_value)) (V_w_a0_value : Arv Z h0 w_a0_value k_w_a0_value .byte (3 : Int32) [(.int y0), (.int y1), (.int y2)] (.int 0)) (S_COMPACT_STRINGS : SfC Z h0 (.int s_COMPACT_STRINGS)) (hcs : ¬ s_COMPACT_STRINGS = (0 : Int32)) (S_SIOOBE_FORMATTER : SfF Z h0 s_SIOOBE_FORMATTER) (rS_SIOOBE_FORMATTER : s_SIOOBE_FORMATTER.isRef = true) (hkp : ∀ (b : Addr) (cl : Cell), Z.heap[b]? = some cl → h0[b]? = some cl) (hcn151 : Jvm.Lit.constHeld Z "java/lang/StringLatin1" 151) (hcw : Jvm.Lit.compactW.before aZ Z = true) :
    MetFree l (⟨"java/lang/String", "substring", "(I)Ljava/lang/String;"⟩ : MethodName) (head1 (Jvm.Cond.code (⟨"java/lang/String", "substring", "(I)Ljava/lang/String;"⟩ : MethodName) jdk_42_method_91_code 2 (some (.object "java/lang/String")) :: ws) ({ frames := 3, cells := 2, slots := 4, locals := 45 } : Room)) (fun a U => a = #[(.ref a0), (.int 3)] ∧ Z.Warmed39 U.vm ∧ U.heap = h0 ∧ IB Z U.vm []) (fun _ _ _ _ _ => True) (fun _ U o U' => ∃ v L, o = .returned v ∧ Qst3_2 Z n0 a0 w_a0_value k_w_a0_value y0 y1 y2 s_COMPACT_STRINGS s_SIOOBE_FORMATTER h0 v U'.heap L ∧ ReturnedEndW U o U' L ({ frames := 3, cells := 2, slots := 4, locals := 45 } : Room).cells ({ frames := 3, cells := 2, slots := 4, locals := 45 } : Room).slots) := by
  refine MetFree.of_bodySF (plainFor_of_name pn_15) hisR ?_
  intro p e s m args below meth c s₁ Bd hml0 hP hK
  obtain ⟨rfl, hZ, hh, IB0⟩ := hP
  have hx := Bd.exec
  have hby := Bd.bytes
  have hml : c.maxLocals = 2 := hml0
  have hown : s.vm.findClass "java/lang/String" = some m.cls := findClass_of_methodNamed Bd.named
  have hnm := (name_of_methodNamed Bd.named Bd.method).1
  have X0 : Stand p l e ({ frames := 3, cells := 2, slots := 4, locals := 45 } : Room) (s.setVm s.vm) m #[(.ref a0), (.int 3)] below meth c s₁ [] 0 0 := Stand.of_body Bd
  have e0 : s₁.heap = h0 := by rw [← hh, Bd.state]; rfl
  have N0 := Fr.nil n0
  have K0 : Keep h0 h0 [] := Keep.refl _ _
  obtain ⟨En, hEn⟩ : ∃ z, z = (s₁.setTop (entryFrame m #[(.ref a0), (.int 3)] 2)) := ⟨_, rfl⟩
  have go0 : Go p.tables e below s₁ (mkF m 0 #[rv a0, iv 3] []) En := fun t k => by subst hEn; exact castTop (efst3_2 m a0) k
  have hS0 : s.Since s.vm s.heap.size := (State.WarmedH.refl s).since _
  have hk0 : s.heap.size ≤ h0.size := by rw [← hh]; exact Nat.le_refl _
  have hkS : ∀ (b : Addr) (cl : Cell), Z.heap[b]? = some cl → s.heap[b]? = some cl := fun b cl q => by rw [hh]; exact hkp b cl q
  have go1 : Go p.tables e below s₁ (mkF m 3 #[rv a0, iv 3] [(.ref a0), (.int 3), (.ref a0)]) En := by
    intro t k
    refine go0 _ ?_
    refine XS.aloadN X0.here hx rfl (hb hby d19_0) rfl rfl ?_
    refine XS.iloadN X0.here hx rfl (hb hby d19_1) rfl ?_
    refine XS.aloadN X0.here hx rfl (hb hby d19_2) rfl rfl ?_
    exact k
  obtain ⟨_, T2, Lc2, X2, hQ2, st2⟩ := own_cv X0 hx hZ hown hml go1 (hb hby d19_3) e0 (hw _ (mi 47 rfl)) (own_site185 hw) E_a0 (rmln l Z aZ hw [] a0 _ _ _ _ _ h0 n0 Z0 E_a0 F_a0_coder F_a0_value V_w_a0_value S_COMPACT_STRINGS hcs) (by decide) (argsL := []) (rest := [(.int 3), (.ref a0)]) rfl rfl rfl (lenOf pd_186 rfl) (W := 2) rfl (by decide) (by decide) (by decide : 0 + 0 ≤ _) (by decide : 0 + 0 ≤ _)
  obtain ⟨rfl, N2q, e2⟩ := hQ2
  have N2 := Fr.app N0 N2q
  obtain ⟨cq3, kq3, q3a, q3b, q3c⟩ := isOf hZ e2 E_a0
  obtain ⟨_, _, ⟨T3, L3, k3, n3⟩, -, X3q, hS3q, hg3, ⟨Lc3, hQ3, l3, y3, z3⟩, st3⟩ := X2.virtualBackS hx (y := (⟨"java/lang/String", "substring", "(II)Ljava/lang/String;"⟩ : MethodName)) (z := (⟨"java/lang/String", "substring", "(II)Ljava/lang/String;"⟩ : MethodName)) hown (mvT hZ (hw _ (mi 89 rfl))) (mvT hZ (hw _ (mi 90 rfl))) (notFace_of_selects (args := #[]) (mvT hZ (hw _ (mi 92 rfl)))) (mvT hZ (hw _ (mi 92 rfl))) (mvT hZ (hw _ (mi 91 rfl))) (by decide) (own_backOfSI (W := 0) (rmss3_2 l Z aZ hw [] a0 _ _ y0 y1 y2 _ _ h0 n0 Z0 E_a0 F_a0_coder F_a0_value V_w_a0_value S_COMPACT_STRINGS hcs S_SIOOBE_FORMATTER rS_SIOOBE_FORMATTER hkp hcn151 hcw) hZ (hw _ (mi 93 rfl)) (hw _ (mi 8 rfl)) (by decide) (by decide) IB0) q3a q3c (g := (mkF m 6 #[rv a0, iv 3] [(.int 3), (.int 3), (.ref a0)])) rfl (by rw [hml]; rfl) (Steps.refl _) (argsL := [(.int 3), (.int 3)]) (rest := []) (lenOf pd_306 rfl) rfl (by show 2 * 0 + _ ≤ _; exact Nat.le_of_eq rfl) (hb hby d19_6) (fun _ _ => ⟨rfl, e2, (by decide : 0 + 2 ≤ _), (by decide : 0 + 4 ≤ _)⟩)
  dsimp only [Pt.U, Pt.locs, Pt.cells, Pt.slots] at X3q hS3q hg3 l3 y3 z3 st3 hQ3
  subst l3 y3 z3
  have hk3q : s.heap.size ≤ T2.heap.size := by rw [e2]; exact hk0
  obtain ⟨X3, hS3, hZ3, hown3⟩ := rebS hS0 hk3q X3q hS3q hg3 hZ hown
  have hk3r : T3.heap.size ≤ T3.heap.size := Nat.le_refl _
  obtain ⟨b3, bx3, kx3, rfl, N3q, K3q, GE3, GC3, GX3, GV3⟩ := hQ3
  have N3 := Fr.app N2 N3q
  have K3 : Keep h0 T3.heap [] := K0.trans K3q all0
  have Zs3 : n0 ≤ T3.heap.size := Nat.le_trans Z0 K3q.1
  have hk3 : s.heap.size ≤ T3.heap.size := Nat.le_trans hk0 K3q.1
  have go4 := gapT st2 st3
  obtain ⟨fs, hr, hrun, hended, hRW⟩ := X3.leaveW hS3 (hk3r) (v := some (.ref b3)) (fun h => by rw [Bd.returns] at h; cases h) Bd.notSynchronized
  subst hEn
  refine ⟨_, _, go4 _ (Jvm.RoadKit.retOut X3 hx Bd.returns rfl (Or.inr (Or.inr (Or.inr (Or.inr ⟨rfl, rfl, rfl⟩)))) (hb hby d19_9) hr), hrun, hended, _, _, rfl, ?_, hRW.1, hRW.2.1, hRW.2.2.1, hRW.2.2.2.mono (by decide) (by decide)⟩
  show Qst3_2 _ _ a0 w_a0_value k_w_a0_value y0 y1 y2 s_COMPACT_STRINGS s_SIOOBE_FORMATTER h0 _ (T3.setFrames fs).heap _
  have hE : (T3.setFrames fs).heap = T3.heap := rfl
  rw [hE]
  exact ⟨b3, bx3, kx3, rfl, N3, K3, GE3, GC3, GX3, GV3⟩
def Qqs3_2 (Z : State) (n0 : Nat) (a0 : Addr) (w_a0_value : Addr) (k_w_a0_value : ClassId) (y0 : Int32) (y1 : Int32) (y2 : Int32) (s_COMPACT_STRINGS : Int32) (s_SIOOBE_FORMATTER : Value) (h0 : Heap) (v : Option Value) (h : Heap) (L : List Loc) : Prop := ∃ (b bx : Addr) (kx : ClassId), v = some (.ref b) ∧ Fr n0 L ∧ Keep h0 h [] ∧ Est Z h b ∧ Fcd Z h b (.int (0 : Int32)) ∧ Fvl Z h b (.ref bx) ∧ Arv Z h bx kx .byte (0 : Int32) [] (.int (0 : Int32))
theorem efqs3_2 (m : MethodId) (a0 : Addr) : entryFrame m #[(.ref a0)] 2 = mkF m 0 #[rv a0, .unset] [] := by first | (simp [entryFrame, mkF, argsToLocals, Value.category]; done) | rfl
set_option maxRecDepth 65536 in
set_option maxHeartbeats 40000000 in
theorem rmqs3_2 (l : Launch) (Z : State) (aZ : Array Value) (hw : HW aZ Z) (ws : List Jvm.Cond) (a0 : Addr) (w_a0_value : Addr) (k_w_a0_value : ClassId) (y0 : Int32) (y1 : Int32) (y2 : Int32) (s_COMPACT_STRINGS : Int32) (s_SIOOBE_FORMATTER : Value) (h0 : Heap) (n0 : Nat) (Z0 : n0 ≤ h0.size) (E_a0 : Est Z h0 a0) (F_a0_coder : Fcd Z h0 a0 (.int 0)) (F_a0_value : Fvl Z h0 a0 (.ref w_a0_value)) (V_w_a0_value : Arv Z h0 w_a0_value k_w_a0_value .byte (3 : Int32) [(.int y0), (.int y1), (.int y2)] (.int 0)) (S_COMPACT_STRINGS : SfC Z h0 (.int s_COMPACT_STRINGS)) (hcs : ¬ s_COMPACT_STRINGS = (0 : Int32)) (hk : (fiz3 y0 y1 y2) = (2 : Int32)) (S_SIOOBE_FORMATTER : SfF Z h0 s_SIOOBE_FORMATTER) (rS_SIOOBE_FORMATTER : s_SIOOBE_FORMATTER.isRef = true) (hkp : ∀ (b : Addr) (cl : Cell), Z.heap[b]? = some cl → h0[b]? = some cl) (hcn151 : Jvm.Lit.constHeld Z "java/lang/StringLatin1" 151) (hcw : Jvm.Lit.compactW.before aZ Z = true) :
    MetFree l (⟨"com/example/nephele/nephele/web/internal/RequestPath", "queryString", "(Ljava/lang/String;)Ljava/lang/String;"⟩ : MethodName) (head1 (Jvm.Cond.code (⟨"com/example/nephele/nephele/web/internal/RequestPath", "queryString", "(Ljava/lang/String;)Ljava/lang/String;"⟩ : MethodName) prog_24_method_3_code 2 (some (.object "java/lang/String")) :: ws) ({ frames := 4, cells := 2, slots := 4, locals := 59 } : Room)) (fun a U => a = #[(.ref a0)] ∧ Z.Warmed39 U.vm ∧ U.heap = h0 ∧ IB Z U.vm []) (fun _ _ _ _ _ => True) (fun _ U o U' => ∃ v L, o = .returned v ∧ Qqs3_2 Z n0 a0 w_a0_value k_w_a0_value y0 y1 y2 s_COMPACT_STRINGS s_SIOOBE_FORMATTER h0 v U'.heap L ∧ ReturnedEndW U o U' L ({ frames := 4, cells := 2, slots := 4, locals := 59 } : Room).cells ({ frames := 4, cells := 2, slots := 4, locals := 59 } : Room).slots) := by
  refine MetFree.of_bodySF (plainFor_of_name pn_274) hisR ?_
  intro p e s m args below meth c s₁ Bd hml0 hP hK
  obtain ⟨rfl, hZ, hh, IB0⟩ := hP
  have hx := Bd.exec
  have hby := Bd.bytes
  have hml : c.maxLocals = 2 := hml0
  have hown : s.vm.findClass "com/example/nephele/nephele/web/internal/RequestPath" = some m.cls := findClass_of_methodNamed Bd.named
  have hnm := (name_of_methodNamed Bd.named Bd.method).1
  have X0 : Stand p l e ({ frames := 4, cells := 2, slots := 4, locals := 59 } : Room) (s.setVm s.vm) m #[(.ref a0)] below meth c s₁ [] 0 0 := Stand.of_body Bd
  have e0 : s₁.heap = h0 := by rw [← hh, Bd.state]; rfl
  have N0 := Fr.nil n0
  have K0 : Keep h0 h0 [] := Keep.refl _ _
  obtain ⟨En, hEn⟩ : ∃ z, z = (s₁.setTop (entryFrame m #[(.ref a0)] 2)) := ⟨_, rfl⟩
  have go0 : Go p.tables e below s₁ (mkF m 0 #[rv a0, .unset] []) En := fun t k => by subst hEn; exact castTop (efqs3_2 m a0) k
  have hS0 : s.Since s.vm s.heap.size := (State.WarmedH.refl s).since _
  have hk0 : s.heap.size ≤ h0.size := by rw [← hh]; exact Nat.le_refl _
  have hkS : ∀ (b : Addr) (cl : Cell), Z.heap[b]? = some cl → s.heap[b]? = some cl := fun b cl q => by rw [hh]; exact hkp b cl q
  have go1 : Go p.tables e below s₁ (mkF m 3 #[rv a0, .unset] [(.int 63), (.ref a0)]) En := by
    intro t k
    refine go0 _ ?_
    refine XS.aloadN X0.here hx rfl (hb hby d5_0) rfl rfl ?_
    refine XS.bipush X0.here hx rfl (hb hby d5_1) ?_
    exact k
  obtain ⟨_, T2, Lc2, X2, hQ2, st2⟩ := own_cv X0 hx hZ hown hml go1 (hb hby d5_3) e0 (hw _ (mi 31 rfl)) (own_site266 hw) E_a0 (rmiz3 l Z aZ hw [] a0 _ _ y0 y1 y2 _ h0 n0 Z0 E_a0 F_a0_coder F_a0_value V_w_a0_value S_COMPACT_STRINGS hcs) (by decide) (argsL := [(.int 63)]) (rest := []) rfl rfl rfl (lenOf pd_267 rfl) (W := 0) rfl (by decide) (by decide) (by decide : 0 + 0 ≤ _) (by decide : 0 + 0 ≤ _)
  obtain ⟨rfl, N2q, e2⟩ := hQ2
  have N2 := Fr.app N0 N2q
  have go3 : Go p.tables e below T2 (mkF m 6 #[rv a0, .unset] [(.int 2)]) En := by
    have q := st2
    rw [hk] at q
    exact q
  have go4 : Go p.tables e below T2 (mkF m 19 #[rv a0, iv 2] [(.int 3), (.ref a0)]) En := by
    intro t k
    refine go3 _ ?_
    refine XS.istoreN X2.here hx rfl (hb hby d5_6) rfl (l' := #[rv a0, iv 2]) rfl ?_
    refine XS.iloadN X2.here hx rfl (hb hby d5_7) rfl ?_
    refine XS.ifYes X2.here hx rfl (pc0 := 8) (pc' := 15) rfl (hb hby d5_8) rfl (XT.i0_ge_t (by decide : ¬ ((2 : Int32) < (0 : Int32)))) (by decide) (by decide) ?_
    refine XS.aloadN X2.here hx rfl (hb hby d5_15) rfl rfl ?_
    refine XS.iloadN X2.here hx rfl (hb hby d5_16) rfl ?_
    show Steps _ _ _ (T2.setTop (mkF m 17 #[rv a0, iv 2] [(.int 2), (.ref a0)])) _
    refine XS.iconst X2.here hx rfl (hb hby d5_17) ?_
    refine XS.iadd X2.here hx rfl (hb hby d5_18) rfl ?_
    exact k
  obtain ⟨cq5, kq5, q5a, q5b, q5c⟩ := isOf hZ e2 E_a0
  obtain ⟨_, _, ⟨T5, L5, k5, n5⟩, -, X5q, hS5q, hg5, ⟨Lc5, hQ5, l5, y5, z5⟩, st5⟩ := X2.virtualBackS hx (y := (⟨"java/lang/String", "substring", "(I)Ljava/lang/String;"⟩ : MethodName)) (z := (⟨"java/lang/String", "substring", "(I)Ljava/lang/String;"⟩ : MethodName)) hown (mvT hZ (hw _ (mi 84 rfl))) (mvT hZ (hw _ (mi 85 rfl))) (notFace_of_selects (args := #[]) (mvT hZ (hw _ (mi 87 rfl)))) (mvT hZ (hw _ (mi 87 rfl))) (mvT hZ (hw _ (mi 86 rfl))) (by decide) (own_backOfSI (W := 0) (rmst3_2 l Z aZ hw [] a0 _ _ y0 y1 y2 _ _ h0 n0 Z0 E_a0 F_a0_coder F_a0_value V_w_a0_value S_COMPACT_STRINGS hcs S_SIOOBE_FORMATTER rS_SIOOBE_FORMATTER hkp hcn151 hcw) hZ (hw _ (mi 88 rfl)) (hw _ (mi 8 rfl)) (by decide) (by decide) IB0) q5a q5c (g := (mkF m 19 #[rv a0, iv 2] [(.int 3), (.ref a0)])) rfl (by rw [hml]; rfl) (Steps.refl _) (argsL := [(.int 3)]) (rest := []) (lenOf pd_313 rfl) rfl (by show 2 * 0 + _ ≤ _; exact Nat.le_of_eq rfl) (hb hby d5_19) (fun _ _ => ⟨rfl, e2, (by decide : 0 + 2 ≤ _), (by decide : 0 + 4 ≤ _)⟩)
  dsimp only [Pt.U, Pt.locs, Pt.cells, Pt.slots] at X5q hS5q hg5 l5 y5 z5 st5 hQ5
  subst l5 y5 z5
  have hk5q : s.heap.size ≤ T2.heap.size := by rw [e2]; exact hk0
  obtain ⟨X5, hS5, hZ5, hown5⟩ := rebS hS0 hk5q X5q hS5q hg5 hZ hown
  have hk5r : T5.heap.size ≤ T5.heap.size := Nat.le_refl _
  obtain ⟨b5, bx5, kx5, rfl, N5q, K5q, GE5, GC5, GX5, GV5⟩ := hQ5
  have N5 := Fr.app N2 N5q
  have K5 : Keep h0 T5.heap [] := K0.trans K5q all0
  have Zs5 : n0 ≤ T5.heap.size := Nat.le_trans Z0 K5q.1
  have hk5 : s.heap.size ≤ T5.heap.size := Nat.le_trans hk0 K5q.1
  have go6 := gapT go4 st5
  obtain ⟨fs, hr, hrun, hended, hRW⟩ := X5.leaveW hS5 (hk5r) (v := some (.ref b5)) (fun h => by rw [Bd.returns] at h; cases h) Bd.notSynchronized
  subst hEn
  refine ⟨_, _, go6 _ (Jvm.RoadKit.retOut X5 hx Bd.returns rfl (Or.inr (Or.inr (Or.inr (Or.inr ⟨rfl, rfl, rfl⟩)))) (hb hby d5_22) hr), hrun, hended, _, _, rfl, ?_, hRW.1, hRW.2.1, hRW.2.2.1, hRW.2.2.2.mono (by decide) (by decide)⟩
  show Qqs3_2 _ _ a0 w_a0_value k_w_a0_value y0 y1 y2 s_COMPACT_STRINGS s_SIOOBE_FORMATTER h0 _ (T5.setFrames fs).heap _
  have hE : (T5.setFrames fs).heap = T5.heap := rfl
  rw [hE]
  exact ⟨b5, bx5, kx5, rfl, N5, K5, GE5, GC5, GX5, GV5⟩
def fqs4_m : Value := (.null : Value)
theorem efqs4_m (m : MethodId) (a0 : Addr) : entryFrame m #[(.ref a0)] 2 = mkF m 0 #[rv a0, .unset] [] := by first | (simp [entryFrame, mkF, argsToLocals, Value.category]; done) | rfl
set_option maxRecDepth 65536 in
set_option maxHeartbeats 40000000 in
theorem rmqs4_m (l : Launch) (Z : State) (aZ : Array Value) (hw : HW aZ Z) (ws : List Jvm.Cond) (a0 : Addr) (w_a0_value : Addr) (k_w_a0_value : ClassId) (y0 : Int32) (y1 : Int32) (y2 : Int32) (y3 : Int32) (s_COMPACT_STRINGS : Int32) (h0 : Heap) (n0 : Nat) (Z0 : n0 ≤ h0.size) (E_a0 : Est Z h0 a0) (F_a0_coder : Fcd Z h0 a0 (.int 0)) (F_a0_value : Fvl Z h0 a0 (.ref w_a0_value)) (V_w_a0_value : Arv Z h0 w_a0_value k_w_a0_value .byte (4 : Int32) [(.int y0), (.int y1), (.int y2), (.int y3)] (.int 0)) (S_COMPACT_STRINGS : SfC Z h0 (.int s_COMPACT_STRINGS)) (hcs : ¬ s_COMPACT_STRINGS = (0 : Int32)) (hk : (fiz4 y0 y1 y2 y3) = (-1 : Int32)) :
    MFn l (⟨"com/example/nephele/nephele/web/internal/RequestPath", "queryString", "(Ljava/lang/String;)Ljava/lang/String;"⟩ : MethodName) prog_24_method_3_code 2 (some (.object "java/lang/String")) ws (Rm 4 0 0 59) #[(.ref a0)] Z h0 (QP n0 h0 (some fqs4_m)) := by
  refine own_mf (C := "com/example/nephele/nephele/web/internal/RequestPath") rfl (plainFor_of_name pn_274) (fun m => efqs4_m m a0) ?_
  intro p e s m below meth cd0 s₁ En hx hby hml hown hnm hZ X0 e0 hlk hrt go0
  have N0 := Fr.nil n0
  have K0 : Keep h0 h0 [] := Keep.refl _ _
  have go1 : Go p.tables e below s₁ (mkF m 3 #[rv a0, .unset] [(.int 63), (.ref a0)]) En := by
    intro t k
    refine go0 _ ?_
    refine XS.aloadN X0.here hx rfl (hb hby d5_0) rfl rfl ?_
    refine XS.bipush X0.here hx rfl (hb hby d5_1) ?_
    exact k
  obtain ⟨_, T2, Lc2, X2, hQ2, st2⟩ := own_cv X0 hx hZ hown hml go1 (hb hby d5_3) e0 (hw _ (mi 31 rfl)) (own_site266 hw) E_a0 (rmiz4 l Z aZ hw [] a0 _ _ y0 y1 y2 y3 _ h0 n0 Z0 E_a0 F_a0_coder F_a0_value V_w_a0_value S_COMPACT_STRINGS hcs) (by decide) (argsL := [(.int 63)]) (rest := []) rfl rfl rfl (lenOf pd_267 rfl) (W := 0) rfl (by decide) (by decide) (by decide : 0 + 0 ≤ _) (by decide : 0 + 0 ≤ _)
  obtain ⟨rfl, N2q, e2⟩ := hQ2
  have N2 := Fr.app N0 N2q
  have go3 : Go p.tables e below T2 (mkF m 6 #[rv a0, .unset] [(.int (-1))]) En := by
    have q := st2
    rw [hk] at q
    exact q
  have go4 : Go p.tables e below T2 (mkF m 22 #[rv a0, iv (-1)] [.null]) En := by
    intro t k
    refine go3 _ ?_
    refine XS.istoreN X2.here hx rfl (hb hby d5_6) rfl (l' := #[rv a0, iv (-1)]) rfl ?_
    refine XS.iloadN X2.here hx rfl (hb hby d5_7) rfl ?_
    refine XS.ifNo X2.here hx rfl (hb hby d5_8) rfl (XT.i0_ge_f (by decide : ((-1 : Int32) < (0 : Int32)))) ?_
    refine XS.aconstNull X2.here hx rfl (hb hby d5_11) ?_
    refine XS.goto X2.here hx rfl (pc0 := 12) (pc' := 22) rfl (hb hby d5_12) (by decide) (by decide) ?_
    show Steps _ _ _ (T2.setTop (mkF m 22 #[rv a0, iv (-1)] [.null])) _
    exact k
  refine own_out (w := .null) X2 hx hlk go4 hrt rfl (Or.inr (Or.inr (Or.inr (Or.inr ⟨rfl, rfl, rfl⟩)))) (hb hby d5_22) e2 (by decide) (by decide) ?_
  exact ⟨by rw [fqs4_m], N2, rfl⟩
theorem fqs4_m_ref : (fqs4_m).isRef = true := by unfold fqs4_m; (repeat' split) <;> rfl
def Qcb4_0 (Z : State) (n0 : Nat) (a0 : Addr) (k_a0 : ClassId) (y0 : Int32) (y1 : Int32) (y2 : Int32) (y3 : Int32) (h0 : Heap) (v : Option Value) (h : Heap) (L : List Loc) : Prop := ∃ (b : Addr) (kb : ClassId), v = some (.ref b) ∧ Fr n0 L ∧ Keep h0 h [] ∧ h0.size ≤ b ∧ Arv Z h b kb .byte (3 : Int32) [(.int y1), (.int y2), (.int y3)] (.int (0 : Int32))
theorem efcb4_0 (m : MethodId) (a0 : Addr) : entryFrame m #[(.ref a0), (.int (1 : Int32)), (.int (4 : Int32))] 5 = mkF m 0 #[rv a0, iv (1 : Int32), iv (4 : Int32), .unset, .unset] [] := by first | (simp [entryFrame, mkF, argsToLocals, Value.category]; done) | rfl
abbrev Lcb4_0_0 (a0 : Addr) (b4 : Addr) : Array Slot := #[rv a0, iv 1, iv 4, iv 3, rv b4]
set_option maxRecDepth 65536 in
set_option maxHeartbeats 40000000 in
theorem rmcb4_0 (l : Launch) (Z : State) (aZ : Array Value) (hw : HW aZ Z) (ws : List Jvm.Cond) (a0 : Addr) (k_a0 : ClassId) (y0 : Int32) (y1 : Int32) (y2 : Int32) (y3 : Int32) (h0 : Heap) (n0 : Nat) (Z0 : n0 ≤ h0.size) (V_a0 : Arv Z h0 a0 k_a0 .byte (4 : Int32) [(.int y0), (.int y1), (.int y2), (.int y3)] (.int 0)) :
    MFn l (⟨"java/util/Arrays", "copyOfRangeByte", "([BII)[B"⟩ : MethodName) jdk_65_method_133_code 5 (some (.array .byte)) ws (Rm 1 1 3 18) #[(.ref a0), (.int 1), (.int 4)] Z h0 (Qcb4_0 Z n0 a0 k_a0 y0 y1 y2 y3 h0) := by
  refine own_mf (C := "java/util/Arrays") rfl (plainFor_of_name pn_257) (fun m => efcb4_0 m a0) ?_
  intro p e s m below meth cd0 s₁ En hx hby hml hown hnm hZ X0 e0 hlk hrt go0
  have N0 := Fr.nil n0
  have K0 : Keep h0 h0 [] := Keep.refl _ _
  have go1 : Go p.tables e below s₁ (mkF m 2 #[rv a0, iv 1, iv 4, .unset, .unset] [(.int 4), (.int 1)]) En := by
    intro t k
    refine go0 _ ?_
    refine XS.iloadN X0.here hx rfl (hb hby d25_0) rfl ?_
    refine XS.iloadN X0.here hx rfl (hb hby d25_1) rfl ?_
    exact k
  obtain ⟨_, T2, Lc2, X2, hQ2, st2⟩ := own_cs X0 hx hZ hown hml go1 (hb hby d25_2) e0 (hw _ (mi 113 rfl)) (own_site317 hw) (rmcl l Z aZ hw [] (1 : Int32) (4 : Int32) h0 n0 Z0 (by decide)) (by decide) (argsL := [(.int 1), (.int 4)]) (rest := []) rfl rfl rfl (lenOf pd_318 rfl) (W := 0) rfl (by decide) (by decide) (by decide : 0 + 0 ≤ _) (by decide : 0 + 0 ≤ _)
  obtain ⟨rfl, N2q, e2⟩ := hQ2
  have N2 := Fr.app N0 N2q
  have go3 : Go p.tables e below T2 (mkF m 10 #[rv a0, iv 1, iv 4, iv 3, .unset] [(.int 3)]) En := by
    intro t k
    refine st2 _ ?_
    refine XS.iloadN X2.here hx rfl (hb hby d25_5) rfl ?_
    refine XS.iloadN X2.here hx rfl (hb hby d25_6) rfl ?_
    refine XS.isub X2.here hx rfl (hb hby d25_7) rfl ?_
    refine XS.istoreN X2.here hx rfl (hb hby d25_8) rfl (l' := #[rv a0, iv 1, iv 4, iv 3, .unset]) rfl ?_
    refine XS.iloadN X2.here hx rfl (hb hby d25_9) rfl ?_
    show Steps _ _ _ (T2.setTop (mkF m 10 #[rv a0, iv 1, iv 4, iv 3, .unset] [(.int 3)])) _
    exact k
  obtain ⟨T4, h4, k4, X4, e4, E4, A4, st4⟩ := newP X2 hx hZ (hw _ (mi 20 rfl)) e2 (g := (mkF m 10 #[rv a0, iv 1, iv 4, iv 3, .unset] [(.int 3)])) rfl (hb hby d25_10) rfl (by decide) (cap := 3) (by decide) (by decide) (by decide) (by decide)
  obtain ⟨b4, g4⟩ : ∃ z, z = h0.size := ⟨_, rfl⟩
  rw [← g4] at A4 st4
  have ne5 : a0 ≠ b4 := Nat.ne_of_lt (Nat.lt_of_lt_of_le V_a0.lt (Nat.le_of_eq g4.symm))
  have low4 : n0 ≤ b4 := Nat.le_trans Z0 (Nat.le_of_eq g4.symm)
  have fsh4 : h0.size ≤ b4 := Nat.le_trans K0.1 (Nat.le_of_eq g4.symm)
  have K4 : Keep h0 h4 [] := K0.ext E4
  have Zs4 : n0 ≤ h4.size := Nat.le_trans Z0 E4.1
  have go6 := gap go3 st4
  have F7 : Arv Z h4 b4 k4 .byte (3 : Int32) [(.int 0), (.int 0), (.int 0)] (.int 0) := (Arv.new A4 (by decide)).pad (pad_rep [] (.int 0) 3)
  obtain ⟨cl8, Ar8, q8, S8, N8, H8, G8⟩ := id (V_a0.keep K4 nin0)
  have go9 : Go p.tables e below T4 (mkF m 24 (Lcb4_0_0 a0 b4) [(.int 3), (.int 3), (.int 0), (.ref b4), (.int 1), (.ref a0)]) En := by
    intro t k
    refine go6 _ ?_
    refine XS.astore X4.here hx rfl (hb hby d25_12) rfl rfl (l' := (Lcb4_0_0 a0 b4)) rfl ?_
    refine XS.aloadN X4.here hx rfl (hb hby d25_14) rfl rfl ?_
    refine XS.iloadN X4.here hx rfl (hb hby d25_15) rfl ?_
    refine XS.aload X4.here hx rfl (hb hby d25_16) rfl rfl ?_
    refine XS.iconst X4.here hx rfl (hb hby d25_18) ?_
    show Steps _ _ _ (T4.setTop (mkF m 19 (Lcb4_0_0 a0 b4) [(.int 0), (.ref b4), (.int 1), (.ref a0)])) _
    refine XS.aloadN X4.here hx rfl (hb hby d25_19) rfl rfl ?_
    refine X4.arraylength hx (by rw [e4]; exact Ar8.1) (State.isArrayOf_alike hZ.alike Ar8.2.1) (g := (mkF m 20 (Lcb4_0_0 a0 b4) [(.ref a0), (.int 0), (.ref b4), (.int 1), (.ref a0)])) rfl rfl (hb hby d25_20) _ ?_
    rw [len_of S8 N8]
    refine XS.iloadN X4.here hx rfl (hb hby d25_21) rfl ?_
    refine XS.isub X4.here hx rfl (hb hby d25_22) rfl ?_
    show Steps _ _ _ (T4.setTop (mkF m 23 (Lcb4_0_0 a0 b4) [(.int 3), (.int 0), (.ref b4), (.int 1), (.ref a0)])) _
    refine XS.iloadN X4.here hx rfl (hb hby d25_23) rfl ?_
    exact k
  obtain ⟨_, T10, Lc10, X10, hQ10, st10⟩ := own_cs X4 hx hZ hown hml go9 (hb hby d25_24) e4 (hw _ (mi 116 rfl)) (own_site167 hw) (rmmn l Z aZ hw [] (3 : Int32) h4 n0 Zs4 ) (by decide) (argsL := [(.int 3), (.int 3)]) (rest := [(.int 0), (.ref b4), (.int 1), (.ref a0)]) rfl rfl rfl (lenOf pd_161 rfl) (W := 4) rfl (by decide) (by decide) (by decide : 1 + 0 ≤ _) (by decide : 3 + 0 ≤ _)
  obtain ⟨rfl, N10q, e10⟩ := hQ10
  have N10 := Fr.app N2 N10q
  obtain ⟨T11, _, L11, X11, rfl, N11q, K11q, AR11, st11⟩ := cpA X10 hx hZ hown (hw _ (mi 117 rfl)) (hw _ (mi 120 rfl)) (hw _ (mi 118 rfl)) (hw _ (mi 119 rfl)) e10 (V_a0.keep K4 nin0) F7 (us := [(.int y1), (.int y2), (.int y3)]) (Or.inl ⟨rfl, rfl⟩) (by decide) (by decide) (by decide) (by decide) (by decide) rfl (Nat.le_of_ble_eq_true rfl) N10 low4 (g := (mkF m 27 (Lcb4_0_0 a0 b4) [(.int 3), (.int 0), (.ref b4), (.int 1), (.ref a0)])) rfl (by rw [hml]; rfl) rfl (hb hby d25_27) (by decide) (W := 0) (by show 2 * 0 + _ ≤ _; exact Nat.le_of_eq rfl) (by decide)
  have K11 : Keep h0 T11.heap [] := K4.trans K11q (allS (Or.inr fsh4) all0)
  have go12 := gap st10 st11
  have Zs11 : n0 ≤ T11.heap.size := Nat.le_trans Zs4 K11q.1
  have F13 : Arv Z T11.heap b4 k4 .byte (3 : Int32) [(.int y1), (.int y2), (.int y3)] (.int 0) := AR11
  have go14 : Go p.tables e below T11 (mkF m 32 (Lcb4_0_0 a0 b4) [(.ref b4)]) En := by
    intro t k
    refine go12 _ ?_
    refine XS.aload X11.here hx rfl (hb hby d25_30) rfl rfl ?_
    exact k
  refine own_out (w := (.ref b4)) X11 hx hlk go14 hrt rfl (Or.inr (Or.inr (Or.inr (Or.inr ⟨rfl, rfl, rfl⟩)))) (hb hby d25_32) rfl (by decide) (by decide) ?_
  exact ⟨b4, k4, rfl, N11q, K11, fsh4, F13⟩
def Qcr4_0 (Z : State) (n0 : Nat) (a0 : Addr) (k_a0 : ClassId) (y0 : Int32) (y1 : Int32) (y2 : Int32) (y3 : Int32) (h0 : Heap) (v : Option Value) (h : Heap) (L : List Loc) : Prop := ∃ (b : Addr) (kb : ClassId), v = some (.ref b) ∧ Fr n0 L ∧ Keep h0 h [] ∧ h0.size ≤ b ∧ Arv Z h b kb .byte (3 : Int32) [(.int y1), (.int y2), (.int y3)] (.int (0 : Int32))
theorem efcr4_0 (m : MethodId) (a0 : Addr) : entryFrame m #[(.ref a0), (.int (1 : Int32)), (.int (4 : Int32))] 3 = mkF m 0 #[rv a0, iv (1 : Int32), iv (4 : Int32)] [] := by first | (simp [entryFrame, mkF, argsToLocals, Value.category]; done) | rfl
set_option maxRecDepth 65536 in
set_option maxHeartbeats 40000000 in
theorem rmcr4_0 (l : Launch) (Z : State) (aZ : Array Value) (hw : HW aZ Z) (ws : List Jvm.Cond) (a0 : Addr) (k_a0 : ClassId) (y0 : Int32) (y1 : Int32) (y2 : Int32) (y3 : Int32) (h0 : Heap) (n0 : Nat) (Z0 : n0 ≤ h0.size) (V_a0 : Arv Z h0 a0 k_a0 .byte (4 : Int32) [(.int y0), (.int y1), (.int y2), (.int y3)] (.int 0)) :
    MFn l (⟨"java/util/Arrays", "copyOfRange", "([BII)[B"⟩ : MethodName) jdk_65_method_132_code 3 (some (.array .byte)) ws (Rm 2 1 3 34) #[(.ref a0), (.int 1), (.int 4)] Z h0 (Qcr4_0 Z n0 a0 k_a0 y0 y1 y2 y3 h0) := by
  refine own_mf (C := "java/util/Arrays") rfl (plainFor_of_name pn_257) (fun m => efcr4_0 m a0) ?_
  intro p e s m below meth cd0 s₁ En hx hby hml hown hnm hZ X0 e0 hlk hrt go0
  have N0 := Fr.nil n0
  have K0 : Keep h0 h0 [] := Keep.refl _ _
  have go1 : Go p.tables e below s₁ (mkF m 13 #[rv a0, iv 1, iv 4] [(.int 4), (.int 1), (.ref a0)]) En := by
    intro t k
    refine go0 _ ?_
    refine XS.iloadN X0.here hx rfl (hb hby d24_0) rfl ?_
    refine XS.ifYes X0.here hx rfl (pc0 := 1) (pc' := 10) rfl (hb hby d24_1) rfl (XT.i0_ne_t (by decide : ¬ ((1 : Int32) = (0 : Int32)))) (by decide) (by decide) ?_
    refine XS.aloadN X0.here hx rfl (hb hby d24_10) rfl rfl ?_
    refine XS.iloadN X0.here hx rfl (hb hby d24_11) rfl ?_
    refine XS.iloadN X0.here hx rfl (hb hby d24_12) rfl ?_
    show Steps _ _ _ (s₁.setTop (mkF m 13 #[rv a0, iv 1, iv 4] [(.int 4), (.int 1), (.ref a0)])) _
    exact k
  obtain ⟨_, T2, Lc2, X2, hQ2, st2⟩ := own_cs X0 hx hZ hown hml go1 (hb hby d24_13) e0 (hw _ (mi 110 rfl)) (own_site345 hw) (rmcb4_0 l Z aZ hw [] a0 _ y0 y1 y2 y3 h0 n0 Z0 V_a0) (by decide) (argsL := [(.ref a0), (.int 1), (.int 4)]) (rest := []) rfl rfl rfl (lenOf pd_346 rfl) (W := 0) rfl (by decide) (by decide) (by decide : 0 + 1 ≤ _) (by decide : 0 + 3 ≤ _)
  obtain ⟨b2, kb2, rfl, N2q, K2q, fr2, G2_0⟩ := hQ2
  have N2 := Fr.app N0 N2q
  have K2 : Keep h0 T2.heap [] := K0.trans K2q all0
  have low2 : n0 ≤ b2 := Nat.le_trans Z0 fr2
  have fsh2 : h0.size ≤ b2 := Nat.le_trans K0.1 fr2
  have ne3 : a0 ≠ b2 := Nat.ne_of_lt (Nat.lt_of_lt_of_le V_a0.lt fr2)
  have Zs2 : n0 ≤ T2.heap.size := Nat.le_trans Z0 K2q.1
  refine own_out (w := (.ref b2)) X2 hx hlk st2 hrt rfl (Or.inr (Or.inr (Or.inr (Or.inr ⟨rfl, rfl, rfl⟩)))) (hb hby d24_16) rfl (by decide) (by decide) ?_
  exact ⟨b2, kb2, rfl, N2, K2, fsh2, G2_0⟩
def Qns4_0 (Z : State) (n0 : Nat) (a0 : Addr) (k_a0 : ClassId) (y0 : Int32) (y1 : Int32) (y2 : Int32) (y3 : Int32) (h0 : Heap) (v : Option Value) (h : Heap) (L : List Loc) : Prop := ∃ (b bx : Addr) (kx : ClassId), v = some (.ref b) ∧ Fr n0 L ∧ Keep h0 h [] ∧ Est Z h b ∧ Fcd Z h b (.int (0 : Int32)) ∧ Fvl Z h b (.ref bx) ∧ Arv Z h bx kx .byte (3 : Int32) [(.int y1), (.int y2), (.int y3)] (.int (0 : Int32))
theorem efns4_0 (m : MethodId) (a0 : Addr) : entryFrame m #[(.ref a0), (.int (1 : Int32)), (.int (3 : Int32))] 3 = mkF m 0 #[rv a0, iv (1 : Int32), iv (3 : Int32)] [] := by first | (simp [entryFrame, mkF, argsToLocals, Value.category]; done) | rfl
set_option maxRecDepth 65536 in
set_option maxHeartbeats 40000000 in
theorem rmns4_0 (l : Launch) (Z : State) (aZ : Array Value) (hw : HW aZ Z) (ws : List Jvm.Cond) (a0 : Addr) (k_a0 : ClassId) (y0 : Int32) (y1 : Int32) (y2 : Int32) (y3 : Int32) (h0 : Heap) (n0 : Nat) (Z0 : n0 ≤ h0.size) (V_a0 : Arv Z h0 a0 k_a0 .byte (4 : Int32) [(.int y0), (.int y1), (.int y2), (.int y3)] (.int 0)) :
    MFn l (⟨"java/lang/StringLatin1", "newString", "([BII)Ljava/lang/String;"⟩ : MethodName) jdk_43_method_47_code 3 (some (.object "java/lang/String")) ws (Rm 3 2 7 50) #[(.ref a0), (.int 1), (.int 3)] Z h0 (Qns4_0 Z n0 a0 k_a0 y0 y1 y2 y3 h0) := by
  refine own_mf (C := "java/lang/StringLatin1") rfl (plainFor_of_name pn_128) (fun m => efns4_0 m a0) ?_
  intro p e s m below meth cd0 s₁ En hx hby hml hown hnm hZ X0 e0 hlk hrt go0
  have N0 := Fr.nil n0
  have K0 : Keep h0 h0 [] := Keep.refl _ _
  have go1 : Go p.tables e below s₁ (mkF m 7 #[rv a0, iv 1, iv 3] []) En := by
    intro t k
    refine go0 _ ?_
    refine XS.iloadN X0.here hx rfl (hb hby d23_0) rfl ?_
    refine XS.ifYes X0.here hx rfl (pc0 := 1) (pc' := 7) rfl (hb hby d23_1) rfl (XT.i0_ne_t (by decide : ¬ ((3 : Int32) = (0 : Int32)))) (by decide) (by decide) ?_
    exact k
  obtain ⟨T2, h2, X2, e2, E2, A2, D2, -, st2⟩ := newO X0 hx hZ hown (hw _ (mi 105 rfl)) (hw _ (mi 7 rfl)) (hw _ (mi 8 rfl)) e0 (g := (mkF m 7 #[rv a0, iv 1, iv 3] [])) rfl (hb hby d23_7) (by decide) (by decide)
  obtain ⟨b2, g2⟩ : ∃ z, z = h0.size := ⟨_, rfl⟩
  rw [← g2] at A2 D2 st2
  have ne3 : a0 ≠ b2 := Nat.ne_of_lt (Nat.lt_of_lt_of_le V_a0.lt (Nat.le_of_eq g2.symm))
  have low2 : n0 ≤ b2 := Nat.le_trans Z0 (Nat.le_of_eq g2.symm)
  have fsh2 : h0.size ≤ b2 := Nat.le_trans K0.1 (Nat.le_of_eq g2.symm)
  have K2 : Keep h0 h2 [] := K0.ext E2
  have Zs2 : n0 ≤ h2.size := Nat.le_trans Z0 E2.1
  have go4 := gap go1 st2
  have F5 : Fvl Z h2 b2 .null := D2 (Or.inr (hw _ (mi 21 rfl))) (ty := (.array .byte)) (by decide)
  have F6 : Fcd Z h2 b2 (.int 0) := D2 (Or.inr (hw _ (mi 22 rfl))) (ty := .byte) (by decide)
  have go7 : Go p.tables e below T2 (mkF m 16 #[rv a0, iv 1, iv 3] [(.int 4), (.int 1), (.ref a0), (.ref b2), (.ref b2)]) En := by
    intro t k
    refine go4 _ ?_
    refine XS.dup X2.here hx rfl (hb hby d23_10) rfl rfl ?_
    refine XS.aloadN X2.here hx rfl (hb hby d23_11) rfl rfl ?_
    refine XS.iloadN X2.here hx rfl (hb hby d23_12) rfl ?_
    refine XS.iloadN X2.here hx rfl (hb hby d23_13) rfl ?_
    refine XS.iloadN X2.here hx rfl (hb hby d23_14) rfl ?_
    show Steps _ _ _ (T2.setTop (mkF m 15 #[rv a0, iv 1, iv 3] [(.int 3), (.int 1), (.int 1), (.ref a0), (.ref b2), (.ref b2)])) _
    refine XS.iadd X2.here hx rfl (hb hby d23_15) rfl ?_
    exact k
  obtain ⟨_, T8, Lc8, X8, hQ8, st8⟩ := own_cs X2 hx hZ hown hml go7 (hb hby d23_16) e2 (hw _ (mi 106 rfl)) (own_site356 hw) (rmcr4_0 l Z aZ hw [] a0 _ y0 y1 y2 y3 h2 n0 Zs2 (V_a0.keep K2 nin0)) (by decide) (argsL := [(.ref a0), (.int 1), (.int 4)]) (rest := [(.ref b2), (.ref b2)]) rfl rfl rfl (lenOf pd_346 rfl) (W := 2) rfl (by decide) (by decide) (by decide : 1 + 1 ≤ _) (by decide : 4 + 3 ≤ _)
  obtain ⟨b8, kb8, rfl, N8q, K8q, fr8, G8_0⟩ := hQ8
  have N8 := Fr.app N0 N8q
  have K8 : Keep h0 T8.heap [] := K2.trans K8q all0
  have low8 : n0 ≤ b8 := Nat.le_trans Zs2 fr8
  have fsh8 : h0.size ≤ b8 := Nat.le_trans K2.1 fr8
  have ne9 : a0 ≠ b8 := Nat.ne_of_lt (Nat.lt_of_lt_of_le (V_a0.keep K2 nin0).lt fr8)
  have ne10 : b2 ≠ b8 := Nat.ne_of_lt (Nat.lt_of_lt_of_le A2.lt fr8)
  have Zs8 : n0 ≤ T8.heap.size := Nat.le_trans Zs2 K8q.1
  have F11 := A2.keep K8q
  have F12 := F5.keep K8q nin0
  have F13 := F6.keep K8q nin0
  have go14 : Go p.tables e below T8 (mkF m 20 #[rv a0, iv 1, iv 3] [(.int 0), (.ref b8), (.ref b2), (.ref b2)]) En := by
    intro t k
    refine st8 _ ?_
    refine XS.iconst X8.here hx rfl (hb hby d23_19) ?_
    exact k
  obtain ⟨_, T15, Lc15, X15, hQ15, st15⟩ := own_ci X8 hx hZ hown hml go14 (hb hby d23_20) rfl (hw _ (mi 121 rfl)) (own_site359 hw) rfl (rmsi l Z aZ hw [] b2 b8 T8.heap n0 Zs8 F11 F12 F13 low2) (by decide) (argsL := [(.ref b8), (.int 0)]) (rest := [(.ref b2)]) rfl rfl rfl (lenOf pd_360 rfl) (W := 1) rfl (by decide) (by decide) (by decide : 2 + 0 ≤ _) (by decide : 7 + 0 ≤ _)
  obtain ⟨rfl, N15q, K15q, G15_0, G15_1, G15_2⟩ := hQ15
  have N15 := Fr.app N8 N15q
  have K15 : Keep h0 T15.heap [] := K8.trans K15q (allS (Or.inr fsh2) all0)
  have Zs15 : n0 ≤ T15.heap.size := Nat.le_trans Zs8 K15q.1
  have F16 := F11.keep K15q
  have F17 := G8_0.keep K15q (ninS (Ne.symm ne10) nin0)
  refine own_out (w := (.ref b2)) X15 hx hlk st15 hrt rfl (Or.inr (Or.inr (Or.inr (Or.inr ⟨rfl, rfl, rfl⟩)))) (hb hby d23_23) rfl (by decide) (by decide) ?_
  exact ⟨b2, b8, kb8, rfl, N15, K15, G15_0, G15_2, G15_1, F17⟩
def Qss4_0 (Z : State) (n0 : Nat) (a0 : Addr) (w_a0_value : Addr) (k_w_a0_value : ClassId) (y0 : Int32) (y1 : Int32) (y2 : Int32) (y3 : Int32) (s_COMPACT_STRINGS : Int32) (s_SIOOBE_FORMATTER : Value) (h0 : Heap) (v : Option Value) (h : Heap) (L : List Loc) : Prop := ∃ (b bx : Addr) (kx : ClassId), v = some (.ref b) ∧ Fr n0 L ∧ Keep h0 h [] ∧ Est Z h b ∧ Fcd Z h b (.int (0 : Int32)) ∧ Fvl Z h b (.ref bx) ∧ Arv Z h bx kx .byte (3 : Int32) [(.int y1), (.int y2), (.int y3)] (.int (0 : Int32))
theorem efss4_0 (m : MethodId) (a0 : Addr) : entryFrame m #[(.ref a0), (.int (1 : Int32)), (.int (4 : Int32))] 5 = mkF m 0 #[rv a0, iv (1 : Int32), iv (4 : Int32), .unset, .unset] [] := by first | (simp [entryFrame, mkF, argsToLocals, Value.category]; done) | rfl
abbrev Lss4_0_0 (a0 : Addr) : Array Slot := #[rv a0, iv 1, iv 4, iv 4, iv 3]
set_option maxRecDepth 65536 in
set_option maxHeartbeats 40000000 in
theorem rmss4_0 (l : Launch) (Z : State) (aZ : Array Value) (hw : HW aZ Z) (ws : List Jvm.Cond) (a0 : Addr) (w_a0_value : Addr) (k_w_a0_value : ClassId) (y0 : Int32) (y1 : Int32) (y2 : Int32) (y3 : Int32) (s_COMPACT_STRINGS : Int32) (s_SIOOBE_FORMATTER : Value) (h0 : Heap) (n0 : Nat) (Z0 : n0 ≤ h0.size) (E_a0 : Est Z h0 a0) (F_a0_coder : Fcd Z h0 a0 (.int 0)) (F_a0_value : Fvl Z h0 a0 (.ref w_a0_value)) (V_w_a0_value : Arv Z h0 w_a0_value k_w_a0_value .byte (4 : Int32) [(.int y0), (.int y1), (.int y2), (.int y3)] (.int 0)) (S_COMPACT_STRINGS : SfC Z h0 (.int s_COMPACT_STRINGS)) (hcs : ¬ s_COMPACT_STRINGS = (0 : Int32)) (S_SIOOBE_FORMATTER : SfF Z h0 s_SIOOBE_FORMATTER) (rS_SIOOBE_FORMATTER : s_SIOOBE_FORMATTER.isRef = true) :
    MFn l (⟨"java/lang/String", "substring", "(II)Ljava/lang/String;"⟩ : MethodName) jdk_42_method_92_code 5 (some (.object "java/lang/String")) ws (Rm 4 2 7 64) #[(.ref a0), (.int 1), (.int 4)] Z h0 (Qss4_0 Z n0 a0 w_a0_value k_w_a0_value y0 y1 y2 y3 s_COMPACT_STRINGS s_SIOOBE_FORMATTER h0) := by
  refine own_mf (C := "java/lang/String") rfl (plainFor_of_name pn_15) (fun m => efss4_0 m a0) ?_
  intro p e s m below meth cd0 s₁ En hx hby hml hown hnm hZ X0 e0 hlk hrt go0
  have N0 := Fr.nil n0
  have K0 : Keep h0 h0 [] := Keep.refl _ _
  have go1 : Go p.tables e below s₁ (mkF m 1 #[rv a0, iv 1, iv 4, .unset, .unset] [(.ref a0)]) En := by
    intro t k
    refine go0 _ ?_
    refine XS.aloadN X0.here hx rfl (hb hby d20_0) rfl rfl ?_
    exact k
  obtain ⟨_, T2, Lc2, X2, hQ2, st2⟩ := own_cv X0 hx hZ hown hml go1 (hb hby d20_1) e0 (hw _ (mi 47 rfl)) (own_site185 hw) E_a0 (rmln l Z aZ hw [] a0 _ _ _ _ _ h0 n0 Z0 E_a0 F_a0_coder F_a0_value V_w_a0_value S_COMPACT_STRINGS hcs) (by decide) (argsL := []) (rest := []) rfl rfl rfl (lenOf pd_186 rfl) (W := 0) rfl (by decide) (by decide) (by decide : 0 + 0 ≤ _) (by decide : 0 + 0 ≤ _)
  obtain ⟨rfl, N2q, e2⟩ := hQ2
  have N2 := Fr.app N0 N2q
  have go3 : Go p.tables e below T2 (mkF m 8 #[rv a0, iv 1, iv 4, iv 4, .unset] [(.int 4), (.int 4), (.int 1)]) En := by
    intro t k
    refine st2 _ ?_
    refine XS.istoreN X2.here hx rfl (hb hby d20_4) rfl (l' := #[rv a0, iv 1, iv 4, iv 4, .unset]) rfl ?_
    refine XS.iloadN X2.here hx rfl (hb hby d20_5) rfl ?_
    refine XS.iloadN X2.here hx rfl (hb hby d20_6) rfl ?_
    refine XS.iloadN X2.here hx rfl (hb hby d20_7) rfl ?_
    exact k
  obtain ⟨_, T4, Lc4, X4, hQ4, st4⟩ := own_cs X2 hx hZ hown hml go3 (hb hby d20_8) e2 (hw _ (mi 94 rfl)) (own_site282 hw) (rmcbb l Z aZ hw [] (1 : Int32) (4 : Int32) (4 : Int32) _ h0 n0 Z0 S_SIOOBE_FORMATTER rS_SIOOBE_FORMATTER (by decide) (by decide) (by decide)) (by decide) (argsL := [(.int 1), (.int 4), (.int 4)]) (rest := []) rfl rfl rfl (lenOf pd_283 rfl) (W := 0) rfl (by decide) (by decide) (by decide : 0 + 0 ≤ _) (by decide : 0 + 0 ≤ _)
  obtain ⟨rfl, N4q, e4⟩ := hQ4
  have N4 := Fr.app N2 N4q
  have go5 : Go p.tables e below T4 (mkF m 28 (Lss4_0_0 a0) [(.ref a0)]) En := by
    intro t k
    refine st4 _ ?_
    refine XS.iloadN X4.here hx rfl (hb hby d20_11) rfl ?_
    refine XS.ifYes X4.here hx rfl (pc0 := 12) (pc' := 22) rfl (hb hby d20_12) rfl (XT.i0_ne_t (by decide : ¬ ((1 : Int32) = (0 : Int32)))) (by decide) (by decide) ?_
    refine XS.iloadN X4.here hx rfl (hb hby d20_22) rfl ?_
    refine XS.iloadN X4.here hx rfl (hb hby d20_23) rfl ?_
    refine XS.isub X4.here hx rfl (hb hby d20_24) rfl ?_
    show Steps _ _ _ (T4.setTop (mkF m 25 #[rv a0, iv 1, iv 4, iv 4, .unset] [(.int 3)])) _
    refine XS.istore X4.here hx rfl (hb hby d20_25) rfl (l' := (Lss4_0_0 a0)) rfl ?_
    refine XS.aloadN X4.here hx rfl (hb hby d20_27) rfl rfl ?_
    exact k
  obtain ⟨_, T6, Lc6, X6, hQ6, st6⟩ := own_cv X4 hx hZ hown hml go5 (hb hby d20_28) e4 (hw _ (mi 41 rfl)) (own_site176 hw) E_a0 (rmil l Z aZ hw [] a0 _ h0 n0 Z0 S_COMPACT_STRINGS hcs F_a0_coder) (by decide) (argsL := []) (rest := []) rfl rfl rfl (lenOf pd_177 rfl) (W := 0) rfl (by decide) (by decide) (by decide : 0 + 0 ≤ _) (by decide : 0 + 0 ≤ _)
  obtain ⟨rfl, N6q, e6⟩ := hQ6
  have N6 := Fr.app N4 N6q
  have go7 : Go p.tables e below T6 (mkF m 35 (Lss4_0_0 a0) [(.ref a0)]) En := by
    intro t k
    refine st6 _ ?_
    refine XS.ifNo X6.here hx rfl (hb hby d20_31) rfl (XT.i0_eq_f (by decide : ¬ ((1 : Int32) = (0 : Int32)))) ?_
    refine XS.aloadN X6.here hx rfl (hb hby d20_34) rfl rfl ?_
    exact k
  obtain ⟨T8, X8, e8, st8⟩ := getF X6 hx hZ hown (host := "") (Or.inl (hw _ (mi 25 rfl))) Via.refl e6 F_a0_value (g := (mkF m 35 (Lss4_0_0 a0) [(.ref a0)])) rfl rfl (hb hby d20_35)
  have go9 := gap go7 st8
  have go10 : Go p.tables e below T8 (mkF m 41 (Lss4_0_0 a0) [(.int 3), (.int 1), (.ref w_a0_value)]) En := by
    intro t k
    refine go9 _ ?_
    refine XS.iloadN X8.here hx rfl (hb hby d20_38) rfl ?_
    refine XS.iload X8.here hx rfl (hb hby d20_39) rfl ?_
    exact k
  obtain ⟨_, T11, Lc11, X11, hQ11, st11⟩ := own_cs X8 hx hZ hown hml go10 (hb hby d20_41) e8 (hw _ (mi 102 rfl)) (own_site362 hw) (rmns4_0 l Z aZ hw [] _ _ y0 y1 y2 y3 h0 n0 Z0 V_w_a0_value) (by decide) (argsL := [(.ref w_a0_value), (.int 1), (.int 3)]) (rest := []) rfl rfl rfl (lenOf pd_298 rfl) (W := 0) rfl (by decide) (by decide) (by decide : 0 + 2 ≤ _) (by decide : 0 + 7 ≤ _)
  obtain ⟨b11, bx11, kx11, rfl, N11q, K11q, GE11, GC11, GX11, GV11⟩ := hQ11
  have N11 := Fr.app N6 N11q
  have K11 : Keep h0 T11.heap [] := K0.trans K11q all0
  have Zs11 : n0 ≤ T11.heap.size := Nat.le_trans Z0 K11q.1
  have go12 : Go p.tables e below T11 (mkF m 57 (Lss4_0_0 a0) [(.ref b11)]) En := by
    intro t k
    refine st11 _ ?_
    refine XS.goto X11.here hx rfl (pc0 := 44) (pc' := 57) rfl (hb hby d20_44) (by decide) (by decide) ?_
    exact k
  refine own_out (w := (.ref b11)) X11 hx hlk go12 hrt rfl (Or.inr (Or.inr (Or.inr (Or.inr ⟨rfl, rfl, rfl⟩)))) (hb hby d20_57) rfl (by decide) (by decide) ?_
  exact ⟨b11, bx11, kx11, rfl, N11, K11, GE11, GC11, GX11, GV11⟩
def Qst4_0 (Z : State) (n0 : Nat) (a0 : Addr) (w_a0_value : Addr) (k_w_a0_value : ClassId) (y0 : Int32) (y1 : Int32) (y2 : Int32) (y3 : Int32) (s_COMPACT_STRINGS : Int32) (s_SIOOBE_FORMATTER : Value) (h0 : Heap) (v : Option Value) (h : Heap) (L : List Loc) : Prop := ∃ (b bx : Addr) (kx : ClassId), v = some (.ref b) ∧ Fr n0 L ∧ Keep h0 h [] ∧ Est Z h b ∧ Fcd Z h b (.int (0 : Int32)) ∧ Fvl Z h b (.ref bx) ∧ Arv Z h bx kx .byte (3 : Int32) [(.int y1), (.int y2), (.int y3)] (.int (0 : Int32))
theorem efst4_0 (m : MethodId) (a0 : Addr) : entryFrame m #[(.ref a0), (.int (1 : Int32))] 2 = mkF m 0 #[rv a0, iv (1 : Int32)] [] := by first | (simp [entryFrame, mkF, argsToLocals, Value.category]; done) | rfl
set_option maxRecDepth 65536 in
set_option maxHeartbeats 40000000 in
theorem rmst4_0 (l : Launch) (Z : State) (aZ : Array Value) (hw : HW aZ Z) (ws : List Jvm.Cond) (a0 : Addr) (w_a0_value : Addr) (k_w_a0_value : ClassId) (y0 : Int32) (y1 : Int32) (y2 : Int32) (y3 : Int32) (s_COMPACT_STRINGS : Int32) (s_SIOOBE_FORMATTER : Value) (h0 : Heap) (n0 : Nat) (Z0 : n0 ≤ h0.size) (E_a0 : Est Z h0 a0) (F_a0_coder : Fcd Z h0 a0 (.int 0)) (F_a0_value : Fvl Z h0 a0 (.ref w_a0_value)) (V_w_a0_value : Arv Z h0 w_a0_value k_w_a0_value .byte (4 : Int32) [(.int y0), (.int y1), (.int y2), (.int y3)] (.int 0)) (S_COMPACT_STRINGS : SfC Z h0 (.int s_COMPACT_STRINGS)) (hcs : ¬ s_COMPACT_STRINGS = (0 : Int32)) (S_SIOOBE_FORMATTER : SfF Z h0 s_SIOOBE_FORMATTER) (rS_SIOOBE_FORMATTER : s_SIOOBE_FORMATTER.isRef = true) :
    MFn l (⟨"java/lang/String", "substring", "(I)Ljava/lang/String;"⟩ : MethodName) jdk_42_method_91_code 2 (some (.object "java/lang/String")) ws (Rm 5 2 7 80) #[(.ref a0), (.int 1)] Z h0 (Qst4_0 Z n0 a0 w_a0_value k_w_a0_value y0 y1 y2 y3 s_COMPACT_STRINGS s_SIOOBE_FORMATTER h0) := by
  refine own_mf (C := "java/lang/String") rfl (plainFor_of_name pn_15) (fun m => efst4_0 m a0) ?_
  intro p e s m below meth cd0 s₁ En hx hby hml hown hnm hZ X0 e0 hlk hrt go0
  have N0 := Fr.nil n0
  have K0 : Keep h0 h0 [] := Keep.refl _ _
  have go1 : Go p.tables e below s₁ (mkF m 3 #[rv a0, iv 1] [(.ref a0), (.int 1), (.ref a0)]) En := by
    intro t k
    refine go0 _ ?_
    refine XS.aloadN X0.here hx rfl (hb hby d19_0) rfl rfl ?_
    refine XS.iloadN X0.here hx rfl (hb hby d19_1) rfl ?_
    refine XS.aloadN X0.here hx rfl (hb hby d19_2) rfl rfl ?_
    exact k
  obtain ⟨_, T2, Lc2, X2, hQ2, st2⟩ := own_cv X0 hx hZ hown hml go1 (hb hby d19_3) e0 (hw _ (mi 47 rfl)) (own_site185 hw) E_a0 (rmln l Z aZ hw [] a0 _ _ _ _ _ h0 n0 Z0 E_a0 F_a0_coder F_a0_value V_w_a0_value S_COMPACT_STRINGS hcs) (by decide) (argsL := []) (rest := [(.int 1), (.ref a0)]) rfl rfl rfl (lenOf pd_186 rfl) (W := 2) rfl (by decide) (by decide) (by decide : 0 + 0 ≤ _) (by decide : 0 + 0 ≤ _)
  obtain ⟨rfl, N2q, e2⟩ := hQ2
  have N2 := Fr.app N0 N2q
  obtain ⟨_, T3, Lc3, X3, hQ3, st3⟩ := own_cv X2 hx hZ hown hml st2 (hb hby d19_6) e2 (hw _ (mi 89 rfl)) (own_site363 hw) E_a0 (rmss4_0 l Z aZ hw [] a0 _ _ y0 y1 y2 y3 _ _ h0 n0 Z0 E_a0 F_a0_coder F_a0_value V_w_a0_value S_COMPACT_STRINGS hcs S_SIOOBE_FORMATTER rS_SIOOBE_FORMATTER) (by decide) (argsL := [(.int 1), (.int 4)]) (rest := []) rfl rfl rfl (lenOf pd_306 rfl) (W := 0) rfl (by decide) (by decide) (by decide : 0 + 2 ≤ _) (by decide : 0 + 7 ≤ _)
  obtain ⟨b3, bx3, kx3, rfl, N3q, K3q, GE3, GC3, GX3, GV3⟩ := hQ3
  have N3 := Fr.app N2 N3q
  have K3 : Keep h0 T3.heap [] := K0.trans K3q all0
  have Zs3 : n0 ≤ T3.heap.size := Nat.le_trans Z0 K3q.1
  refine own_out (w := (.ref b3)) X3 hx hlk st3 hrt rfl (Or.inr (Or.inr (Or.inr (Or.inr ⟨rfl, rfl, rfl⟩)))) (hb hby d19_9) rfl (by decide) (by decide) ?_
  exact ⟨b3, bx3, kx3, rfl, N3, K3, GE3, GC3, GX3, GV3⟩
def Qqs4_0 (Z : State) (n0 : Nat) (a0 : Addr) (w_a0_value : Addr) (k_w_a0_value : ClassId) (y0 : Int32) (y1 : Int32) (y2 : Int32) (y3 : Int32) (s_COMPACT_STRINGS : Int32) (s_SIOOBE_FORMATTER : Value) (h0 : Heap) (v : Option Value) (h : Heap) (L : List Loc) : Prop := ∃ (b bx : Addr) (kx : ClassId), v = some (.ref b) ∧ Fr n0 L ∧ Keep h0 h [] ∧ Est Z h b ∧ Fcd Z h b (.int (0 : Int32)) ∧ Fvl Z h b (.ref bx) ∧ Arv Z h bx kx .byte (3 : Int32) [(.int y1), (.int y2), (.int y3)] (.int (0 : Int32))
theorem efqs4_0 (m : MethodId) (a0 : Addr) : entryFrame m #[(.ref a0)] 2 = mkF m 0 #[rv a0, .unset] [] := by first | (simp [entryFrame, mkF, argsToLocals, Value.category]; done) | rfl
set_option maxRecDepth 65536 in
set_option maxHeartbeats 40000000 in
theorem rmqs4_0 (l : Launch) (Z : State) (aZ : Array Value) (hw : HW aZ Z) (ws : List Jvm.Cond) (a0 : Addr) (w_a0_value : Addr) (k_w_a0_value : ClassId) (y0 : Int32) (y1 : Int32) (y2 : Int32) (y3 : Int32) (s_COMPACT_STRINGS : Int32) (s_SIOOBE_FORMATTER : Value) (h0 : Heap) (n0 : Nat) (Z0 : n0 ≤ h0.size) (E_a0 : Est Z h0 a0) (F_a0_coder : Fcd Z h0 a0 (.int 0)) (F_a0_value : Fvl Z h0 a0 (.ref w_a0_value)) (V_w_a0_value : Arv Z h0 w_a0_value k_w_a0_value .byte (4 : Int32) [(.int y0), (.int y1), (.int y2), (.int y3)] (.int 0)) (S_COMPACT_STRINGS : SfC Z h0 (.int s_COMPACT_STRINGS)) (hcs : ¬ s_COMPACT_STRINGS = (0 : Int32)) (hk : (fiz4 y0 y1 y2 y3) = (0 : Int32)) (S_SIOOBE_FORMATTER : SfF Z h0 s_SIOOBE_FORMATTER) (rS_SIOOBE_FORMATTER : s_SIOOBE_FORMATTER.isRef = true) :
    MFn l (⟨"com/example/nephele/nephele/web/internal/RequestPath", "queryString", "(Ljava/lang/String;)Ljava/lang/String;"⟩ : MethodName) prog_24_method_3_code 2 (some (.object "java/lang/String")) ws (Rm 6 2 7 93) #[(.ref a0)] Z h0 (Qqs4_0 Z n0 a0 w_a0_value k_w_a0_value y0 y1 y2 y3 s_COMPACT_STRINGS s_SIOOBE_FORMATTER h0) := by
  refine own_mf (C := "com/example/nephele/nephele/web/internal/RequestPath") rfl (plainFor_of_name pn_274) (fun m => efqs4_0 m a0) ?_
  intro p e s m below meth cd0 s₁ En hx hby hml hown hnm hZ X0 e0 hlk hrt go0
  have N0 := Fr.nil n0
  have K0 : Keep h0 h0 [] := Keep.refl _ _
  have go1 : Go p.tables e below s₁ (mkF m 3 #[rv a0, .unset] [(.int 63), (.ref a0)]) En := by
    intro t k
    refine go0 _ ?_
    refine XS.aloadN X0.here hx rfl (hb hby d5_0) rfl rfl ?_
    refine XS.bipush X0.here hx rfl (hb hby d5_1) ?_
    exact k
  obtain ⟨_, T2, Lc2, X2, hQ2, st2⟩ := own_cv X0 hx hZ hown hml go1 (hb hby d5_3) e0 (hw _ (mi 31 rfl)) (own_site266 hw) E_a0 (rmiz4 l Z aZ hw [] a0 _ _ y0 y1 y2 y3 _ h0 n0 Z0 E_a0 F_a0_coder F_a0_value V_w_a0_value S_COMPACT_STRINGS hcs) (by decide) (argsL := [(.int 63)]) (rest := []) rfl rfl rfl (lenOf pd_267 rfl) (W := 0) rfl (by decide) (by decide) (by decide : 0 + 0 ≤ _) (by decide : 0 + 0 ≤ _)
  obtain ⟨rfl, N2q, e2⟩ := hQ2
  have N2 := Fr.app N0 N2q
  have go3 : Go p.tables e below T2 (mkF m 6 #[rv a0, .unset] [(.int 0)]) En := by
    have q := st2
    rw [hk] at q
    exact q
  have go4 : Go p.tables e below T2 (mkF m 19 #[rv a0, iv 0] [(.int 1), (.ref a0)]) En := by
    intro t k
    refine go3 _ ?_
    refine XS.istoreN X2.here hx rfl (hb hby d5_6) rfl (l' := #[rv a0, iv 0]) rfl ?_
    refine XS.iloadN X2.here hx rfl (hb hby d5_7) rfl ?_
    refine XS.ifYes X2.here hx rfl (pc0 := 8) (pc' := 15) rfl (hb hby d5_8) rfl (XT.i0_ge_t (by decide : ¬ ((0 : Int32) < (0 : Int32)))) (by decide) (by decide) ?_
    refine XS.aloadN X2.here hx rfl (hb hby d5_15) rfl rfl ?_
    refine XS.iloadN X2.here hx rfl (hb hby d5_16) rfl ?_
    show Steps _ _ _ (T2.setTop (mkF m 17 #[rv a0, iv 0] [(.int 0), (.ref a0)])) _
    refine XS.iconst X2.here hx rfl (hb hby d5_17) ?_
    refine XS.iadd X2.here hx rfl (hb hby d5_18) rfl ?_
    exact k
  obtain ⟨_, T5, Lc5, X5, hQ5, st5⟩ := own_cv X2 hx hZ hown hml go4 (hb hby d5_19) e2 (hw _ (mi 84 rfl)) (own_site364 hw) E_a0 (rmst4_0 l Z aZ hw [] a0 _ _ y0 y1 y2 y3 _ _ h0 n0 Z0 E_a0 F_a0_coder F_a0_value V_w_a0_value S_COMPACT_STRINGS hcs S_SIOOBE_FORMATTER rS_SIOOBE_FORMATTER) (by decide) (argsL := [(.int 1)]) (rest := []) rfl rfl rfl (lenOf pd_313 rfl) (W := 0) rfl (by decide) (by decide) (by decide : 0 + 2 ≤ _) (by decide : 0 + 7 ≤ _)
  obtain ⟨b5, bx5, kx5, rfl, N5q, K5q, GE5, GC5, GX5, GV5⟩ := hQ5
  have N5 := Fr.app N2 N5q
  have K5 : Keep h0 T5.heap [] := K0.trans K5q all0
  have Zs5 : n0 ≤ T5.heap.size := Nat.le_trans Z0 K5q.1
  refine own_out (w := (.ref b5)) X5 hx hlk st5 hrt rfl (Or.inr (Or.inr (Or.inr (Or.inr ⟨rfl, rfl, rfl⟩)))) (hb hby d5_22) rfl (by decide) (by decide) ?_
  exact ⟨b5, bx5, kx5, rfl, N5, K5, GE5, GC5, GX5, GV5⟩
def Qcb4_1 (Z : State) (n0 : Nat) (a0 : Addr) (k_a0 : ClassId) (y0 : Int32) (y1 : Int32) (y2 : Int32) (y3 : Int32) (h0 : Heap) (v : Option Value) (h : Heap) (L : List Loc) : Prop := ∃ (b : Addr) (kb : ClassId), v = some (.ref b) ∧ Fr n0 L ∧ Keep h0 h [] ∧ h0.size ≤ b ∧ Arv Z h b kb .byte (2 : Int32) [(.int y2), (.int y3)] (.int (0 : Int32))
theorem efcb4_1 (m : MethodId) (a0 : Addr) : entryFrame m #[(.ref a0), (.int (2 : Int32)), (.int (4 : Int32))] 5 = mkF m 0 #[rv a0, iv (2 : Int32), iv (4 : Int32), .unset, .unset] [] := by first | (simp [entryFrame, mkF, argsToLocals, Value.category]; done) | rfl
abbrev Lcb4_1_0 (a0 : Addr) (b4 : Addr) : Array Slot := #[rv a0, iv 2, iv 4, iv 2, rv b4]
set_option maxRecDepth 65536 in
set_option maxHeartbeats 40000000 in
theorem rmcb4_1 (l : Launch) (Z : State) (aZ : Array Value) (hw : HW aZ Z) (ws : List Jvm.Cond) (a0 : Addr) (k_a0 : ClassId) (y0 : Int32) (y1 : Int32) (y2 : Int32) (y3 : Int32) (h0 : Heap) (n0 : Nat) (Z0 : n0 ≤ h0.size) (V_a0 : Arv Z h0 a0 k_a0 .byte (4 : Int32) [(.int y0), (.int y1), (.int y2), (.int y3)] (.int 0)) :
    MFn l (⟨"java/util/Arrays", "copyOfRangeByte", "([BII)[B"⟩ : MethodName) jdk_65_method_133_code 5 (some (.array .byte)) ws (Rm 1 1 2 18) #[(.ref a0), (.int 2), (.int 4)] Z h0 (Qcb4_1 Z n0 a0 k_a0 y0 y1 y2 y3 h0) := by
  refine own_mf (C := "java/util/Arrays") rfl (plainFor_of_name pn_257) (fun m => efcb4_1 m a0) ?_
  intro p e s m below meth cd0 s₁ En hx hby hml hown hnm hZ X0 e0 hlk hrt go0
  have N0 := Fr.nil n0
  have K0 : Keep h0 h0 [] := Keep.refl _ _
  have go1 : Go p.tables e below s₁ (mkF m 2 #[rv a0, iv 2, iv 4, .unset, .unset] [(.int 4), (.int 2)]) En := by
    intro t k
    refine go0 _ ?_
    refine XS.iloadN X0.here hx rfl (hb hby d25_0) rfl ?_
    refine XS.iloadN X0.here hx rfl (hb hby d25_1) rfl ?_
    exact k
  obtain ⟨_, T2, Lc2, X2, hQ2, st2⟩ := own_cs X0 hx hZ hown hml go1 (hb hby d25_2) e0 (hw _ (mi 113 rfl)) (own_site317 hw) (rmcl l Z aZ hw [] (2 : Int32) (4 : Int32) h0 n0 Z0 (by decide)) (by decide) (argsL := [(.int 2), (.int 4)]) (rest := []) rfl rfl rfl (lenOf pd_318 rfl) (W := 0) rfl (by decide) (by decide) (by decide : 0 + 0 ≤ _) (by decide : 0 + 0 ≤ _)
  obtain ⟨rfl, N2q, e2⟩ := hQ2
  have N2 := Fr.app N0 N2q
  have go3 : Go p.tables e below T2 (mkF m 10 #[rv a0, iv 2, iv 4, iv 2, .unset] [(.int 2)]) En := by
    intro t k
    refine st2 _ ?_
    refine XS.iloadN X2.here hx rfl (hb hby d25_5) rfl ?_
    refine XS.iloadN X2.here hx rfl (hb hby d25_6) rfl ?_
    refine XS.isub X2.here hx rfl (hb hby d25_7) rfl ?_
    refine XS.istoreN X2.here hx rfl (hb hby d25_8) rfl (l' := #[rv a0, iv 2, iv 4, iv 2, .unset]) rfl ?_
    refine XS.iloadN X2.here hx rfl (hb hby d25_9) rfl ?_
    show Steps _ _ _ (T2.setTop (mkF m 10 #[rv a0, iv 2, iv 4, iv 2, .unset] [(.int 2)])) _
    exact k
  obtain ⟨T4, h4, k4, X4, e4, E4, A4, st4⟩ := newP X2 hx hZ (hw _ (mi 20 rfl)) e2 (g := (mkF m 10 #[rv a0, iv 2, iv 4, iv 2, .unset] [(.int 2)])) rfl (hb hby d25_10) rfl (by decide) (cap := 2) (by decide) (by decide) (by decide) (by decide)
  obtain ⟨b4, g4⟩ : ∃ z, z = h0.size := ⟨_, rfl⟩
  rw [← g4] at A4 st4
  have ne5 : a0 ≠ b4 := Nat.ne_of_lt (Nat.lt_of_lt_of_le V_a0.lt (Nat.le_of_eq g4.symm))
  have low4 : n0 ≤ b4 := Nat.le_trans Z0 (Nat.le_of_eq g4.symm)
  have fsh4 : h0.size ≤ b4 := Nat.le_trans K0.1 (Nat.le_of_eq g4.symm)
  have K4 : Keep h0 h4 [] := K0.ext E4
  have Zs4 : n0 ≤ h4.size := Nat.le_trans Z0 E4.1
  have go6 := gap go3 st4
  have F7 : Arv Z h4 b4 k4 .byte (2 : Int32) [(.int 0), (.int 0)] (.int 0) := (Arv.new A4 (by decide)).pad (pad_rep [] (.int 0) 2)
  obtain ⟨cl8, Ar8, q8, S8, N8, H8, G8⟩ := id (V_a0.keep K4 nin0)
  have go9 : Go p.tables e below T4 (mkF m 24 (Lcb4_1_0 a0 b4) [(.int 2), (.int 2), (.int 0), (.ref b4), (.int 2), (.ref a0)]) En := by
    intro t k
    refine go6 _ ?_
    refine XS.astore X4.here hx rfl (hb hby d25_12) rfl rfl (l' := (Lcb4_1_0 a0 b4)) rfl ?_
    refine XS.aloadN X4.here hx rfl (hb hby d25_14) rfl rfl ?_
    refine XS.iloadN X4.here hx rfl (hb hby d25_15) rfl ?_
    refine XS.aload X4.here hx rfl (hb hby d25_16) rfl rfl ?_
    refine XS.iconst X4.here hx rfl (hb hby d25_18) ?_
    show Steps _ _ _ (T4.setTop (mkF m 19 (Lcb4_1_0 a0 b4) [(.int 0), (.ref b4), (.int 2), (.ref a0)])) _
    refine XS.aloadN X4.here hx rfl (hb hby d25_19) rfl rfl ?_
    refine X4.arraylength hx (by rw [e4]; exact Ar8.1) (State.isArrayOf_alike hZ.alike Ar8.2.1) (g := (mkF m 20 (Lcb4_1_0 a0 b4) [(.ref a0), (.int 0), (.ref b4), (.int 2), (.ref a0)])) rfl rfl (hb hby d25_20) _ ?_
    rw [len_of S8 N8]
    refine XS.iloadN X4.here hx rfl (hb hby d25_21) rfl ?_
    refine XS.isub X4.here hx rfl (hb hby d25_22) rfl ?_
    show Steps _ _ _ (T4.setTop (mkF m 23 (Lcb4_1_0 a0 b4) [(.int 2), (.int 0), (.ref b4), (.int 2), (.ref a0)])) _
    refine XS.iloadN X4.here hx rfl (hb hby d25_23) rfl ?_
    exact k
  obtain ⟨_, T10, Lc10, X10, hQ10, st10⟩ := own_cs X4 hx hZ hown hml go9 (hb hby d25_24) e4 (hw _ (mi 116 rfl)) (own_site167 hw) (rmmn l Z aZ hw [] (2 : Int32) h4 n0 Zs4 ) (by decide) (argsL := [(.int 2), (.int 2)]) (rest := [(.int 0), (.ref b4), (.int 2), (.ref a0)]) rfl rfl rfl (lenOf pd_161 rfl) (W := 4) rfl (by decide) (by decide) (by decide : 1 + 0 ≤ _) (by decide : 2 + 0 ≤ _)
  obtain ⟨rfl, N10q, e10⟩ := hQ10
  have N10 := Fr.app N2 N10q
  obtain ⟨T11, _, L11, X11, rfl, N11q, K11q, AR11, st11⟩ := cpA X10 hx hZ hown (hw _ (mi 117 rfl)) (hw _ (mi 120 rfl)) (hw _ (mi 118 rfl)) (hw _ (mi 119 rfl)) e10 (V_a0.keep K4 nin0) F7 (us := [(.int y2), (.int y3)]) (Or.inl ⟨rfl, rfl⟩) (by decide) (by decide) (by decide) (by decide) (by decide) rfl (Nat.le_of_ble_eq_true rfl) N10 low4 (g := (mkF m 27 (Lcb4_1_0 a0 b4) [(.int 2), (.int 0), (.ref b4), (.int 2), (.ref a0)])) rfl (by rw [hml]; rfl) rfl (hb hby d25_27) (by decide) (W := 0) (by show 2 * 0 + _ ≤ _; exact Nat.le_of_eq rfl) (by decide)
  have K11 : Keep h0 T11.heap [] := K4.trans K11q (allS (Or.inr fsh4) all0)
  have go12 := gap st10 st11
  have Zs11 : n0 ≤ T11.heap.size := Nat.le_trans Zs4 K11q.1
  have F13 : Arv Z T11.heap b4 k4 .byte (2 : Int32) [(.int y2), (.int y3)] (.int 0) := AR11
  have go14 : Go p.tables e below T11 (mkF m 32 (Lcb4_1_0 a0 b4) [(.ref b4)]) En := by
    intro t k
    refine go12 _ ?_
    refine XS.aload X11.here hx rfl (hb hby d25_30) rfl rfl ?_
    exact k
  refine own_out (w := (.ref b4)) X11 hx hlk go14 hrt rfl (Or.inr (Or.inr (Or.inr (Or.inr ⟨rfl, rfl, rfl⟩)))) (hb hby d25_32) rfl (by decide) (by decide) ?_
  exact ⟨b4, k4, rfl, N11q, K11, fsh4, F13⟩
def Qcr4_1 (Z : State) (n0 : Nat) (a0 : Addr) (k_a0 : ClassId) (y0 : Int32) (y1 : Int32) (y2 : Int32) (y3 : Int32) (h0 : Heap) (v : Option Value) (h : Heap) (L : List Loc) : Prop := ∃ (b : Addr) (kb : ClassId), v = some (.ref b) ∧ Fr n0 L ∧ Keep h0 h [] ∧ h0.size ≤ b ∧ Arv Z h b kb .byte (2 : Int32) [(.int y2), (.int y3)] (.int (0 : Int32))
theorem efcr4_1 (m : MethodId) (a0 : Addr) : entryFrame m #[(.ref a0), (.int (2 : Int32)), (.int (4 : Int32))] 3 = mkF m 0 #[rv a0, iv (2 : Int32), iv (4 : Int32)] [] := by first | (simp [entryFrame, mkF, argsToLocals, Value.category]; done) | rfl
set_option maxRecDepth 65536 in
set_option maxHeartbeats 40000000 in
theorem rmcr4_1 (l : Launch) (Z : State) (aZ : Array Value) (hw : HW aZ Z) (ws : List Jvm.Cond) (a0 : Addr) (k_a0 : ClassId) (y0 : Int32) (y1 : Int32) (y2 : Int32) (y3 : Int32) (h0 : Heap) (n0 : Nat) (Z0 : n0 ≤ h0.size) (V_a0 : Arv Z h0 a0 k_a0 .byte (4 : Int32) [(.int y0), (.int y1), (.int y2), (.int y3)] (.int 0)) :
    MFn l (⟨"java/util/Arrays", "copyOfRange", "([BII)[B"⟩ : MethodName) jdk_65_method_132_code 3 (some (.array .byte)) ws (Rm 2 1 2 34) #[(.ref a0), (.int 2), (.int 4)] Z h0 (Qcr4_1 Z n0 a0 k_a0 y0 y1 y2 y3 h0) := by
  refine own_mf (C := "java/util/Arrays") rfl (plainFor_of_name pn_257) (fun m => efcr4_1 m a0) ?_
  intro p e s m below meth cd0 s₁ En hx hby hml hown hnm hZ X0 e0 hlk hrt go0
  have N0 := Fr.nil n0
  have K0 : Keep h0 h0 [] := Keep.refl _ _
  have go1 : Go p.tables e below s₁ (mkF m 13 #[rv a0, iv 2, iv 4] [(.int 4), (.int 2), (.ref a0)]) En := by
    intro t k
    refine go0 _ ?_
    refine XS.iloadN X0.here hx rfl (hb hby d24_0) rfl ?_
    refine XS.ifYes X0.here hx rfl (pc0 := 1) (pc' := 10) rfl (hb hby d24_1) rfl (XT.i0_ne_t (by decide : ¬ ((2 : Int32) = (0 : Int32)))) (by decide) (by decide) ?_
    refine XS.aloadN X0.here hx rfl (hb hby d24_10) rfl rfl ?_
    refine XS.iloadN X0.here hx rfl (hb hby d24_11) rfl ?_
    refine XS.iloadN X0.here hx rfl (hb hby d24_12) rfl ?_
    show Steps _ _ _ (s₁.setTop (mkF m 13 #[rv a0, iv 2, iv 4] [(.int 4), (.int 2), (.ref a0)])) _
    exact k
  obtain ⟨_, T2, Lc2, X2, hQ2, st2⟩ := own_cs X0 hx hZ hown hml go1 (hb hby d24_13) e0 (hw _ (mi 110 rfl)) (own_site345 hw) (rmcb4_1 l Z aZ hw [] a0 _ y0 y1 y2 y3 h0 n0 Z0 V_a0) (by decide) (argsL := [(.ref a0), (.int 2), (.int 4)]) (rest := []) rfl rfl rfl (lenOf pd_346 rfl) (W := 0) rfl (by decide) (by decide) (by decide : 0 + 1 ≤ _) (by decide : 0 + 2 ≤ _)
  obtain ⟨b2, kb2, rfl, N2q, K2q, fr2, G2_0⟩ := hQ2
  have N2 := Fr.app N0 N2q
  have K2 : Keep h0 T2.heap [] := K0.trans K2q all0
  have low2 : n0 ≤ b2 := Nat.le_trans Z0 fr2
  have fsh2 : h0.size ≤ b2 := Nat.le_trans K0.1 fr2
  have ne3 : a0 ≠ b2 := Nat.ne_of_lt (Nat.lt_of_lt_of_le V_a0.lt fr2)
  have Zs2 : n0 ≤ T2.heap.size := Nat.le_trans Z0 K2q.1
  refine own_out (w := (.ref b2)) X2 hx hlk st2 hrt rfl (Or.inr (Or.inr (Or.inr (Or.inr ⟨rfl, rfl, rfl⟩)))) (hb hby d24_16) rfl (by decide) (by decide) ?_
  exact ⟨b2, kb2, rfl, N2, K2, fsh2, G2_0⟩
def Qns4_1 (Z : State) (n0 : Nat) (a0 : Addr) (k_a0 : ClassId) (y0 : Int32) (y1 : Int32) (y2 : Int32) (y3 : Int32) (h0 : Heap) (v : Option Value) (h : Heap) (L : List Loc) : Prop := ∃ (b bx : Addr) (kx : ClassId), v = some (.ref b) ∧ Fr n0 L ∧ Keep h0 h [] ∧ Est Z h b ∧ Fcd Z h b (.int (0 : Int32)) ∧ Fvl Z h b (.ref bx) ∧ Arv Z h bx kx .byte (2 : Int32) [(.int y2), (.int y3)] (.int (0 : Int32))
theorem efns4_1 (m : MethodId) (a0 : Addr) : entryFrame m #[(.ref a0), (.int (2 : Int32)), (.int (2 : Int32))] 3 = mkF m 0 #[rv a0, iv (2 : Int32), iv (2 : Int32)] [] := by first | (simp [entryFrame, mkF, argsToLocals, Value.category]; done) | rfl
set_option maxRecDepth 65536 in
set_option maxHeartbeats 40000000 in
theorem rmns4_1 (l : Launch) (Z : State) (aZ : Array Value) (hw : HW aZ Z) (ws : List Jvm.Cond) (a0 : Addr) (k_a0 : ClassId) (y0 : Int32) (y1 : Int32) (y2 : Int32) (y3 : Int32) (h0 : Heap) (n0 : Nat) (Z0 : n0 ≤ h0.size) (V_a0 : Arv Z h0 a0 k_a0 .byte (4 : Int32) [(.int y0), (.int y1), (.int y2), (.int y3)] (.int 0)) :
    MFn l (⟨"java/lang/StringLatin1", "newString", "([BII)Ljava/lang/String;"⟩ : MethodName) jdk_43_method_47_code 3 (some (.object "java/lang/String")) ws (Rm 3 2 6 50) #[(.ref a0), (.int 2), (.int 2)] Z h0 (Qns4_1 Z n0 a0 k_a0 y0 y1 y2 y3 h0) := by
  refine own_mf (C := "java/lang/StringLatin1") rfl (plainFor_of_name pn_128) (fun m => efns4_1 m a0) ?_
  intro p e s m below meth cd0 s₁ En hx hby hml hown hnm hZ X0 e0 hlk hrt go0
  have N0 := Fr.nil n0
  have K0 : Keep h0 h0 [] := Keep.refl _ _
  have go1 : Go p.tables e below s₁ (mkF m 7 #[rv a0, iv 2, iv 2] []) En := by
    intro t k
    refine go0 _ ?_
    refine XS.iloadN X0.here hx rfl (hb hby d23_0) rfl ?_
    refine XS.ifYes X0.here hx rfl (pc0 := 1) (pc' := 7) rfl (hb hby d23_1) rfl (XT.i0_ne_t (by decide : ¬ ((2 : Int32) = (0 : Int32)))) (by decide) (by decide) ?_
    exact k
  obtain ⟨T2, h2, X2, e2, E2, A2, D2, -, st2⟩ := newO X0 hx hZ hown (hw _ (mi 105 rfl)) (hw _ (mi 7 rfl)) (hw _ (mi 8 rfl)) e0 (g := (mkF m 7 #[rv a0, iv 2, iv 2] [])) rfl (hb hby d23_7) (by decide) (by decide)
  obtain ⟨b2, g2⟩ : ∃ z, z = h0.size := ⟨_, rfl⟩
  rw [← g2] at A2 D2 st2
  have ne3 : a0 ≠ b2 := Nat.ne_of_lt (Nat.lt_of_lt_of_le V_a0.lt (Nat.le_of_eq g2.symm))
  have low2 : n0 ≤ b2 := Nat.le_trans Z0 (Nat.le_of_eq g2.symm)
  have fsh2 : h0.size ≤ b2 := Nat.le_trans K0.1 (Nat.le_of_eq g2.symm)
  have K2 : Keep h0 h2 [] := K0.ext E2
  have Zs2 : n0 ≤ h2.size := Nat.le_trans Z0 E2.1
  have go4 := gap go1 st2
  have F5 : Fvl Z h2 b2 .null := D2 (Or.inr (hw _ (mi 21 rfl))) (ty := (.array .byte)) (by decide)
  have F6 : Fcd Z h2 b2 (.int 0) := D2 (Or.inr (hw _ (mi 22 rfl))) (ty := .byte) (by decide)
  have go7 : Go p.tables e below T2 (mkF m 16 #[rv a0, iv 2, iv 2] [(.int 4), (.int 2), (.ref a0), (.ref b2), (.ref b2)]) En := by
    intro t k
    refine go4 _ ?_
    refine XS.dup X2.here hx rfl (hb hby d23_10) rfl rfl ?_
    refine XS.aloadN X2.here hx rfl (hb hby d23_11) rfl rfl ?_
    refine XS.iloadN X2.here hx rfl (hb hby d23_12) rfl ?_
    refine XS.iloadN X2.here hx rfl (hb hby d23_13) rfl ?_
    refine XS.iloadN X2.here hx rfl (hb hby d23_14) rfl ?_
    show Steps _ _ _ (T2.setTop (mkF m 15 #[rv a0, iv 2, iv 2] [(.int 2), (.int 2), (.int 2), (.ref a0), (.ref b2), (.ref b2)])) _
    refine XS.iadd X2.here hx rfl (hb hby d23_15) rfl ?_
    exact k
  obtain ⟨_, T8, Lc8, X8, hQ8, st8⟩ := own_cs X2 hx hZ hown hml go7 (hb hby d23_16) e2 (hw _ (mi 106 rfl)) (own_site356 hw) (rmcr4_1 l Z aZ hw [] a0 _ y0 y1 y2 y3 h2 n0 Zs2 (V_a0.keep K2 nin0)) (by decide) (argsL := [(.ref a0), (.int 2), (.int 4)]) (rest := [(.ref b2), (.ref b2)]) rfl rfl rfl (lenOf pd_346 rfl) (W := 2) rfl (by decide) (by decide) (by decide : 1 + 1 ≤ _) (by decide : 4 + 2 ≤ _)
  obtain ⟨b8, kb8, rfl, N8q, K8q, fr8, G8_0⟩ := hQ8
  have N8 := Fr.app N0 N8q
  have K8 : Keep h0 T8.heap [] := K2.trans K8q all0
  have low8 : n0 ≤ b8 := Nat.le_trans Zs2 fr8
  have fsh8 : h0.size ≤ b8 := Nat.le_trans K2.1 fr8
  have ne9 : a0 ≠ b8 := Nat.ne_of_lt (Nat.lt_of_lt_of_le (V_a0.keep K2 nin0).lt fr8)
  have ne10 : b2 ≠ b8 := Nat.ne_of_lt (Nat.lt_of_lt_of_le A2.lt fr8)
  have Zs8 : n0 ≤ T8.heap.size := Nat.le_trans Zs2 K8q.1
  have F11 := A2.keep K8q
  have F12 := F5.keep K8q nin0
  have F13 := F6.keep K8q nin0
  have go14 : Go p.tables e below T8 (mkF m 20 #[rv a0, iv 2, iv 2] [(.int 0), (.ref b8), (.ref b2), (.ref b2)]) En := by
    intro t k
    refine st8 _ ?_
    refine XS.iconst X8.here hx rfl (hb hby d23_19) ?_
    exact k
  obtain ⟨_, T15, Lc15, X15, hQ15, st15⟩ := own_ci X8 hx hZ hown hml go14 (hb hby d23_20) rfl (hw _ (mi 121 rfl)) (own_site359 hw) rfl (rmsi l Z aZ hw [] b2 b8 T8.heap n0 Zs8 F11 F12 F13 low2) (by decide) (argsL := [(.ref b8), (.int 0)]) (rest := [(.ref b2)]) rfl rfl rfl (lenOf pd_360 rfl) (W := 1) rfl (by decide) (by decide) (by decide : 2 + 0 ≤ _) (by decide : 6 + 0 ≤ _)
  obtain ⟨rfl, N15q, K15q, G15_0, G15_1, G15_2⟩ := hQ15
  have N15 := Fr.app N8 N15q
  have K15 : Keep h0 T15.heap [] := K8.trans K15q (allS (Or.inr fsh2) all0)
  have Zs15 : n0 ≤ T15.heap.size := Nat.le_trans Zs8 K15q.1
  have F16 := F11.keep K15q
  have F17 := G8_0.keep K15q (ninS (Ne.symm ne10) nin0)
  refine own_out (w := (.ref b2)) X15 hx hlk st15 hrt rfl (Or.inr (Or.inr (Or.inr (Or.inr ⟨rfl, rfl, rfl⟩)))) (hb hby d23_23) rfl (by decide) (by decide) ?_
  exact ⟨b2, b8, kb8, rfl, N15, K15, G15_0, G15_2, G15_1, F17⟩
def Qss4_1 (Z : State) (n0 : Nat) (a0 : Addr) (w_a0_value : Addr) (k_w_a0_value : ClassId) (y0 : Int32) (y1 : Int32) (y2 : Int32) (y3 : Int32) (s_COMPACT_STRINGS : Int32) (s_SIOOBE_FORMATTER : Value) (h0 : Heap) (v : Option Value) (h : Heap) (L : List Loc) : Prop := ∃ (b bx : Addr) (kx : ClassId), v = some (.ref b) ∧ Fr n0 L ∧ Keep h0 h [] ∧ Est Z h b ∧ Fcd Z h b (.int (0 : Int32)) ∧ Fvl Z h b (.ref bx) ∧ Arv Z h bx kx .byte (2 : Int32) [(.int y2), (.int y3)] (.int (0 : Int32))
theorem efss4_1 (m : MethodId) (a0 : Addr) : entryFrame m #[(.ref a0), (.int (2 : Int32)), (.int (4 : Int32))] 5 = mkF m 0 #[rv a0, iv (2 : Int32), iv (4 : Int32), .unset, .unset] [] := by first | (simp [entryFrame, mkF, argsToLocals, Value.category]; done) | rfl
abbrev Lss4_1_0 (a0 : Addr) : Array Slot := #[rv a0, iv 2, iv 4, iv 4, iv 2]
set_option maxRecDepth 65536 in
set_option maxHeartbeats 40000000 in
theorem rmss4_1 (l : Launch) (Z : State) (aZ : Array Value) (hw : HW aZ Z) (ws : List Jvm.Cond) (a0 : Addr) (w_a0_value : Addr) (k_w_a0_value : ClassId) (y0 : Int32) (y1 : Int32) (y2 : Int32) (y3 : Int32) (s_COMPACT_STRINGS : Int32) (s_SIOOBE_FORMATTER : Value) (h0 : Heap) (n0 : Nat) (Z0 : n0 ≤ h0.size) (E_a0 : Est Z h0 a0) (F_a0_coder : Fcd Z h0 a0 (.int 0)) (F_a0_value : Fvl Z h0 a0 (.ref w_a0_value)) (V_w_a0_value : Arv Z h0 w_a0_value k_w_a0_value .byte (4 : Int32) [(.int y0), (.int y1), (.int y2), (.int y3)] (.int 0)) (S_COMPACT_STRINGS : SfC Z h0 (.int s_COMPACT_STRINGS)) (hcs : ¬ s_COMPACT_STRINGS = (0 : Int32)) (S_SIOOBE_FORMATTER : SfF Z h0 s_SIOOBE_FORMATTER) (rS_SIOOBE_FORMATTER : s_SIOOBE_FORMATTER.isRef = true) :
    MFn l (⟨"java/lang/String", "substring", "(II)Ljava/lang/String;"⟩ : MethodName) jdk_42_method_92_code 5 (some (.object "java/lang/String")) ws (Rm 4 2 6 64) #[(.ref a0), (.int 2), (.int 4)] Z h0 (Qss4_1 Z n0 a0 w_a0_value k_w_a0_value y0 y1 y2 y3 s_COMPACT_STRINGS s_SIOOBE_FORMATTER h0) := by
  refine own_mf (C := "java/lang/String") rfl (plainFor_of_name pn_15) (fun m => efss4_1 m a0) ?_
  intro p e s m below meth cd0 s₁ En hx hby hml hown hnm hZ X0 e0 hlk hrt go0
  have N0 := Fr.nil n0
  have K0 : Keep h0 h0 [] := Keep.refl _ _
  have go1 : Go p.tables e below s₁ (mkF m 1 #[rv a0, iv 2, iv 4, .unset, .unset] [(.ref a0)]) En := by
    intro t k
    refine go0 _ ?_
    refine XS.aloadN X0.here hx rfl (hb hby d20_0) rfl rfl ?_
    exact k
  obtain ⟨_, T2, Lc2, X2, hQ2, st2⟩ := own_cv X0 hx hZ hown hml go1 (hb hby d20_1) e0 (hw _ (mi 47 rfl)) (own_site185 hw) E_a0 (rmln l Z aZ hw [] a0 _ _ _ _ _ h0 n0 Z0 E_a0 F_a0_coder F_a0_value V_w_a0_value S_COMPACT_STRINGS hcs) (by decide) (argsL := []) (rest := []) rfl rfl rfl (lenOf pd_186 rfl) (W := 0) rfl (by decide) (by decide) (by decide : 0 + 0 ≤ _) (by decide : 0 + 0 ≤ _)
  obtain ⟨rfl, N2q, e2⟩ := hQ2
  have N2 := Fr.app N0 N2q
  have go3 : Go p.tables e below T2 (mkF m 8 #[rv a0, iv 2, iv 4, iv 4, .unset] [(.int 4), (.int 4), (.int 2)]) En := by
    intro t k
    refine st2 _ ?_
    refine XS.istoreN X2.here hx rfl (hb hby d20_4) rfl (l' := #[rv a0, iv 2, iv 4, iv 4, .unset]) rfl ?_
    refine XS.iloadN X2.here hx rfl (hb hby d20_5) rfl ?_
    refine XS.iloadN X2.here hx rfl (hb hby d20_6) rfl ?_
    refine XS.iloadN X2.here hx rfl (hb hby d20_7) rfl ?_
    exact k
  obtain ⟨_, T4, Lc4, X4, hQ4, st4⟩ := own_cs X2 hx hZ hown hml go3 (hb hby d20_8) e2 (hw _ (mi 94 rfl)) (own_site282 hw) (rmcbb l Z aZ hw [] (2 : Int32) (4 : Int32) (4 : Int32) _ h0 n0 Z0 S_SIOOBE_FORMATTER rS_SIOOBE_FORMATTER (by decide) (by decide) (by decide)) (by decide) (argsL := [(.int 2), (.int 4), (.int 4)]) (rest := []) rfl rfl rfl (lenOf pd_283 rfl) (W := 0) rfl (by decide) (by decide) (by decide : 0 + 0 ≤ _) (by decide : 0 + 0 ≤ _)
  obtain ⟨rfl, N4q, e4⟩ := hQ4
  have N4 := Fr.app N2 N4q
  have go5 : Go p.tables e below T4 (mkF m 28 (Lss4_1_0 a0) [(.ref a0)]) En := by
    intro t k
    refine st4 _ ?_
    refine XS.iloadN X4.here hx rfl (hb hby d20_11) rfl ?_
    refine XS.ifYes X4.here hx rfl (pc0 := 12) (pc' := 22) rfl (hb hby d20_12) rfl (XT.i0_ne_t (by decide : ¬ ((2 : Int32) = (0 : Int32)))) (by decide) (by decide) ?_
    refine XS.iloadN X4.here hx rfl (hb hby d20_22) rfl ?_
    refine XS.iloadN X4.here hx rfl (hb hby d20_23) rfl ?_
    refine XS.isub X4.here hx rfl (hb hby d20_24) rfl ?_
    show Steps _ _ _ (T4.setTop (mkF m 25 #[rv a0, iv 2, iv 4, iv 4, .unset] [(.int 2)])) _
    refine XS.istore X4.here hx rfl (hb hby d20_25) rfl (l' := (Lss4_1_0 a0)) rfl ?_
    refine XS.aloadN X4.here hx rfl (hb hby d20_27) rfl rfl ?_
    exact k
  obtain ⟨_, T6, Lc6, X6, hQ6, st6⟩ := own_cv X4 hx hZ hown hml go5 (hb hby d20_28) e4 (hw _ (mi 41 rfl)) (own_site176 hw) E_a0 (rmil l Z aZ hw [] a0 _ h0 n0 Z0 S_COMPACT_STRINGS hcs F_a0_coder) (by decide) (argsL := []) (rest := []) rfl rfl rfl (lenOf pd_177 rfl) (W := 0) rfl (by decide) (by decide) (by decide : 0 + 0 ≤ _) (by decide : 0 + 0 ≤ _)
  obtain ⟨rfl, N6q, e6⟩ := hQ6
  have N6 := Fr.app N4 N6q
  have go7 : Go p.tables e below T6 (mkF m 35 (Lss4_1_0 a0) [(.ref a0)]) En := by
    intro t k
    refine st6 _ ?_
    refine XS.ifNo X6.here hx rfl (hb hby d20_31) rfl (XT.i0_eq_f (by decide : ¬ ((1 : Int32) = (0 : Int32)))) ?_
    refine XS.aloadN X6.here hx rfl (hb hby d20_34) rfl rfl ?_
    exact k
  obtain ⟨T8, X8, e8, st8⟩ := getF X6 hx hZ hown (host := "") (Or.inl (hw _ (mi 25 rfl))) Via.refl e6 F_a0_value (g := (mkF m 35 (Lss4_1_0 a0) [(.ref a0)])) rfl rfl (hb hby d20_35)
  have go9 := gap go7 st8
  have go10 : Go p.tables e below T8 (mkF m 41 (Lss4_1_0 a0) [(.int 2), (.int 2), (.ref w_a0_value)]) En := by
    intro t k
    refine go9 _ ?_
    refine XS.iloadN X8.here hx rfl (hb hby d20_38) rfl ?_
    refine XS.iload X8.here hx rfl (hb hby d20_39) rfl ?_
    exact k
  obtain ⟨_, T11, Lc11, X11, hQ11, st11⟩ := own_cs X8 hx hZ hown hml go10 (hb hby d20_41) e8 (hw _ (mi 102 rfl)) (own_site362 hw) (rmns4_1 l Z aZ hw [] _ _ y0 y1 y2 y3 h0 n0 Z0 V_w_a0_value) (by decide) (argsL := [(.ref w_a0_value), (.int 2), (.int 2)]) (rest := []) rfl rfl rfl (lenOf pd_298 rfl) (W := 0) rfl (by decide) (by decide) (by decide : 0 + 2 ≤ _) (by decide : 0 + 6 ≤ _)
  obtain ⟨b11, bx11, kx11, rfl, N11q, K11q, GE11, GC11, GX11, GV11⟩ := hQ11
  have N11 := Fr.app N6 N11q
  have K11 : Keep h0 T11.heap [] := K0.trans K11q all0
  have Zs11 : n0 ≤ T11.heap.size := Nat.le_trans Z0 K11q.1
  have go12 : Go p.tables e below T11 (mkF m 57 (Lss4_1_0 a0) [(.ref b11)]) En := by
    intro t k
    refine st11 _ ?_
    refine XS.goto X11.here hx rfl (pc0 := 44) (pc' := 57) rfl (hb hby d20_44) (by decide) (by decide) ?_
    exact k
  refine own_out (w := (.ref b11)) X11 hx hlk go12 hrt rfl (Or.inr (Or.inr (Or.inr (Or.inr ⟨rfl, rfl, rfl⟩)))) (hb hby d20_57) rfl (by decide) (by decide) ?_
  exact ⟨b11, bx11, kx11, rfl, N11, K11, GE11, GC11, GX11, GV11⟩
def Qst4_1 (Z : State) (n0 : Nat) (a0 : Addr) (w_a0_value : Addr) (k_w_a0_value : ClassId) (y0 : Int32) (y1 : Int32) (y2 : Int32) (y3 : Int32) (s_COMPACT_STRINGS : Int32) (s_SIOOBE_FORMATTER : Value) (h0 : Heap) (v : Option Value) (h : Heap) (L : List Loc) : Prop := ∃ (b bx : Addr) (kx : ClassId), v = some (.ref b) ∧ Fr n0 L ∧ Keep h0 h [] ∧ Est Z h b ∧ Fcd Z h b (.int (0 : Int32)) ∧ Fvl Z h b (.ref bx) ∧ Arv Z h bx kx .byte (2 : Int32) [(.int y2), (.int y3)] (.int (0 : Int32))
theorem efst4_1 (m : MethodId) (a0 : Addr) : entryFrame m #[(.ref a0), (.int (2 : Int32))] 2 = mkF m 0 #[rv a0, iv (2 : Int32)] [] := by first | (simp [entryFrame, mkF, argsToLocals, Value.category]; done) | rfl
set_option maxRecDepth 65536 in
set_option maxHeartbeats 40000000 in
theorem rmst4_1 (l : Launch) (Z : State) (aZ : Array Value) (hw : HW aZ Z) (ws : List Jvm.Cond) (a0 : Addr) (w_a0_value : Addr) (k_w_a0_value : ClassId) (y0 : Int32) (y1 : Int32) (y2 : Int32) (y3 : Int32) (s_COMPACT_STRINGS : Int32) (s_SIOOBE_FORMATTER : Value) (h0 : Heap) (n0 : Nat) (Z0 : n0 ≤ h0.size) (E_a0 : Est Z h0 a0) (F_a0_coder : Fcd Z h0 a0 (.int 0)) (F_a0_value : Fvl Z h0 a0 (.ref w_a0_value)) (V_w_a0_value : Arv Z h0 w_a0_value k_w_a0_value .byte (4 : Int32) [(.int y0), (.int y1), (.int y2), (.int y3)] (.int 0)) (S_COMPACT_STRINGS : SfC Z h0 (.int s_COMPACT_STRINGS)) (hcs : ¬ s_COMPACT_STRINGS = (0 : Int32)) (S_SIOOBE_FORMATTER : SfF Z h0 s_SIOOBE_FORMATTER) (rS_SIOOBE_FORMATTER : s_SIOOBE_FORMATTER.isRef = true) :
    MFn l (⟨"java/lang/String", "substring", "(I)Ljava/lang/String;"⟩ : MethodName) jdk_42_method_91_code 2 (some (.object "java/lang/String")) ws (Rm 5 2 6 80) #[(.ref a0), (.int 2)] Z h0 (Qst4_1 Z n0 a0 w_a0_value k_w_a0_value y0 y1 y2 y3 s_COMPACT_STRINGS s_SIOOBE_FORMATTER h0) := by
  refine own_mf (C := "java/lang/String") rfl (plainFor_of_name pn_15) (fun m => efst4_1 m a0) ?_
  intro p e s m below meth cd0 s₁ En hx hby hml hown hnm hZ X0 e0 hlk hrt go0
  have N0 := Fr.nil n0
  have K0 : Keep h0 h0 [] := Keep.refl _ _
  have go1 : Go p.tables e below s₁ (mkF m 3 #[rv a0, iv 2] [(.ref a0), (.int 2), (.ref a0)]) En := by
    intro t k
    refine go0 _ ?_
    refine XS.aloadN X0.here hx rfl (hb hby d19_0) rfl rfl ?_
    refine XS.iloadN X0.here hx rfl (hb hby d19_1) rfl ?_
    refine XS.aloadN X0.here hx rfl (hb hby d19_2) rfl rfl ?_
    exact k
  obtain ⟨_, T2, Lc2, X2, hQ2, st2⟩ := own_cv X0 hx hZ hown hml go1 (hb hby d19_3) e0 (hw _ (mi 47 rfl)) (own_site185 hw) E_a0 (rmln l Z aZ hw [] a0 _ _ _ _ _ h0 n0 Z0 E_a0 F_a0_coder F_a0_value V_w_a0_value S_COMPACT_STRINGS hcs) (by decide) (argsL := []) (rest := [(.int 2), (.ref a0)]) rfl rfl rfl (lenOf pd_186 rfl) (W := 2) rfl (by decide) (by decide) (by decide : 0 + 0 ≤ _) (by decide : 0 + 0 ≤ _)
  obtain ⟨rfl, N2q, e2⟩ := hQ2
  have N2 := Fr.app N0 N2q
  obtain ⟨_, T3, Lc3, X3, hQ3, st3⟩ := own_cv X2 hx hZ hown hml st2 (hb hby d19_6) e2 (hw _ (mi 89 rfl)) (own_site363 hw) E_a0 (rmss4_1 l Z aZ hw [] a0 _ _ y0 y1 y2 y3 _ _ h0 n0 Z0 E_a0 F_a0_coder F_a0_value V_w_a0_value S_COMPACT_STRINGS hcs S_SIOOBE_FORMATTER rS_SIOOBE_FORMATTER) (by decide) (argsL := [(.int 2), (.int 4)]) (rest := []) rfl rfl rfl (lenOf pd_306 rfl) (W := 0) rfl (by decide) (by decide) (by decide : 0 + 2 ≤ _) (by decide : 0 + 6 ≤ _)
  obtain ⟨b3, bx3, kx3, rfl, N3q, K3q, GE3, GC3, GX3, GV3⟩ := hQ3
  have N3 := Fr.app N2 N3q
  have K3 : Keep h0 T3.heap [] := K0.trans K3q all0
  have Zs3 : n0 ≤ T3.heap.size := Nat.le_trans Z0 K3q.1
  refine own_out (w := (.ref b3)) X3 hx hlk st3 hrt rfl (Or.inr (Or.inr (Or.inr (Or.inr ⟨rfl, rfl, rfl⟩)))) (hb hby d19_9) rfl (by decide) (by decide) ?_
  exact ⟨b3, bx3, kx3, rfl, N3, K3, GE3, GC3, GX3, GV3⟩
def Qqs4_1 (Z : State) (n0 : Nat) (a0 : Addr) (w_a0_value : Addr) (k_w_a0_value : ClassId) (y0 : Int32) (y1 : Int32) (y2 : Int32) (y3 : Int32) (s_COMPACT_STRINGS : Int32) (s_SIOOBE_FORMATTER : Value) (h0 : Heap) (v : Option Value) (h : Heap) (L : List Loc) : Prop := ∃ (b bx : Addr) (kx : ClassId), v = some (.ref b) ∧ Fr n0 L ∧ Keep h0 h [] ∧ Est Z h b ∧ Fcd Z h b (.int (0 : Int32)) ∧ Fvl Z h b (.ref bx) ∧ Arv Z h bx kx .byte (2 : Int32) [(.int y2), (.int y3)] (.int (0 : Int32))
theorem efqs4_1 (m : MethodId) (a0 : Addr) : entryFrame m #[(.ref a0)] 2 = mkF m 0 #[rv a0, .unset] [] := by first | (simp [entryFrame, mkF, argsToLocals, Value.category]; done) | rfl
set_option maxRecDepth 65536 in
set_option maxHeartbeats 40000000 in
theorem rmqs4_1 (l : Launch) (Z : State) (aZ : Array Value) (hw : HW aZ Z) (ws : List Jvm.Cond) (a0 : Addr) (w_a0_value : Addr) (k_w_a0_value : ClassId) (y0 : Int32) (y1 : Int32) (y2 : Int32) (y3 : Int32) (s_COMPACT_STRINGS : Int32) (s_SIOOBE_FORMATTER : Value) (h0 : Heap) (n0 : Nat) (Z0 : n0 ≤ h0.size) (E_a0 : Est Z h0 a0) (F_a0_coder : Fcd Z h0 a0 (.int 0)) (F_a0_value : Fvl Z h0 a0 (.ref w_a0_value)) (V_w_a0_value : Arv Z h0 w_a0_value k_w_a0_value .byte (4 : Int32) [(.int y0), (.int y1), (.int y2), (.int y3)] (.int 0)) (S_COMPACT_STRINGS : SfC Z h0 (.int s_COMPACT_STRINGS)) (hcs : ¬ s_COMPACT_STRINGS = (0 : Int32)) (hk : (fiz4 y0 y1 y2 y3) = (1 : Int32)) (S_SIOOBE_FORMATTER : SfF Z h0 s_SIOOBE_FORMATTER) (rS_SIOOBE_FORMATTER : s_SIOOBE_FORMATTER.isRef = true) :
    MFn l (⟨"com/example/nephele/nephele/web/internal/RequestPath", "queryString", "(Ljava/lang/String;)Ljava/lang/String;"⟩ : MethodName) prog_24_method_3_code 2 (some (.object "java/lang/String")) ws (Rm 6 2 6 93) #[(.ref a0)] Z h0 (Qqs4_1 Z n0 a0 w_a0_value k_w_a0_value y0 y1 y2 y3 s_COMPACT_STRINGS s_SIOOBE_FORMATTER h0) := by
  refine own_mf (C := "com/example/nephele/nephele/web/internal/RequestPath") rfl (plainFor_of_name pn_274) (fun m => efqs4_1 m a0) ?_
  intro p e s m below meth cd0 s₁ En hx hby hml hown hnm hZ X0 e0 hlk hrt go0
  have N0 := Fr.nil n0
  have K0 : Keep h0 h0 [] := Keep.refl _ _
  have go1 : Go p.tables e below s₁ (mkF m 3 #[rv a0, .unset] [(.int 63), (.ref a0)]) En := by
    intro t k
    refine go0 _ ?_
    refine XS.aloadN X0.here hx rfl (hb hby d5_0) rfl rfl ?_
    refine XS.bipush X0.here hx rfl (hb hby d5_1) ?_
    exact k
  obtain ⟨_, T2, Lc2, X2, hQ2, st2⟩ := own_cv X0 hx hZ hown hml go1 (hb hby d5_3) e0 (hw _ (mi 31 rfl)) (own_site266 hw) E_a0 (rmiz4 l Z aZ hw [] a0 _ _ y0 y1 y2 y3 _ h0 n0 Z0 E_a0 F_a0_coder F_a0_value V_w_a0_value S_COMPACT_STRINGS hcs) (by decide) (argsL := [(.int 63)]) (rest := []) rfl rfl rfl (lenOf pd_267 rfl) (W := 0) rfl (by decide) (by decide) (by decide : 0 + 0 ≤ _) (by decide : 0 + 0 ≤ _)
  obtain ⟨rfl, N2q, e2⟩ := hQ2
  have N2 := Fr.app N0 N2q
  have go3 : Go p.tables e below T2 (mkF m 6 #[rv a0, .unset] [(.int 1)]) En := by
    have q := st2
    rw [hk] at q
    exact q
  have go4 : Go p.tables e below T2 (mkF m 19 #[rv a0, iv 1] [(.int 2), (.ref a0)]) En := by
    intro t k
    refine go3 _ ?_
    refine XS.istoreN X2.here hx rfl (hb hby d5_6) rfl (l' := #[rv a0, iv 1]) rfl ?_
    refine XS.iloadN X2.here hx rfl (hb hby d5_7) rfl ?_
    refine XS.ifYes X2.here hx rfl (pc0 := 8) (pc' := 15) rfl (hb hby d5_8) rfl (XT.i0_ge_t (by decide : ¬ ((1 : Int32) < (0 : Int32)))) (by decide) (by decide) ?_
    refine XS.aloadN X2.here hx rfl (hb hby d5_15) rfl rfl ?_
    refine XS.iloadN X2.here hx rfl (hb hby d5_16) rfl ?_
    show Steps _ _ _ (T2.setTop (mkF m 17 #[rv a0, iv 1] [(.int 1), (.ref a0)])) _
    refine XS.iconst X2.here hx rfl (hb hby d5_17) ?_
    refine XS.iadd X2.here hx rfl (hb hby d5_18) rfl ?_
    exact k
  obtain ⟨_, T5, Lc5, X5, hQ5, st5⟩ := own_cv X2 hx hZ hown hml go4 (hb hby d5_19) e2 (hw _ (mi 84 rfl)) (own_site364 hw) E_a0 (rmst4_1 l Z aZ hw [] a0 _ _ y0 y1 y2 y3 _ _ h0 n0 Z0 E_a0 F_a0_coder F_a0_value V_w_a0_value S_COMPACT_STRINGS hcs S_SIOOBE_FORMATTER rS_SIOOBE_FORMATTER) (by decide) (argsL := [(.int 2)]) (rest := []) rfl rfl rfl (lenOf pd_313 rfl) (W := 0) rfl (by decide) (by decide) (by decide : 0 + 2 ≤ _) (by decide : 0 + 6 ≤ _)
  obtain ⟨b5, bx5, kx5, rfl, N5q, K5q, GE5, GC5, GX5, GV5⟩ := hQ5
  have N5 := Fr.app N2 N5q
  have K5 : Keep h0 T5.heap [] := K0.trans K5q all0
  have Zs5 : n0 ≤ T5.heap.size := Nat.le_trans Z0 K5q.1
  refine own_out (w := (.ref b5)) X5 hx hlk st5 hrt rfl (Or.inr (Or.inr (Or.inr (Or.inr ⟨rfl, rfl, rfl⟩)))) (hb hby d5_22) rfl (by decide) (by decide) ?_
  exact ⟨b5, bx5, kx5, rfl, N5, K5, GE5, GC5, GX5, GV5⟩
def Qcb4_2 (Z : State) (n0 : Nat) (a0 : Addr) (k_a0 : ClassId) (y0 : Int32) (y1 : Int32) (y2 : Int32) (y3 : Int32) (h0 : Heap) (v : Option Value) (h : Heap) (L : List Loc) : Prop := ∃ (b : Addr) (kb : ClassId), v = some (.ref b) ∧ Fr n0 L ∧ Keep h0 h [] ∧ h0.size ≤ b ∧ Arv Z h b kb .byte (1 : Int32) [(.int y3)] (.int (0 : Int32))
theorem efcb4_2 (m : MethodId) (a0 : Addr) : entryFrame m #[(.ref a0), (.int (3 : Int32)), (.int (4 : Int32))] 5 = mkF m 0 #[rv a0, iv (3 : Int32), iv (4 : Int32), .unset, .unset] [] := by first | (simp [entryFrame, mkF, argsToLocals, Value.category]; done) | rfl
abbrev Lcb4_2_0 (a0 : Addr) (b4 : Addr) : Array Slot := #[rv a0, iv 3, iv 4, iv 1, rv b4]
set_option maxRecDepth 65536 in
set_option maxHeartbeats 40000000 in
theorem rmcb4_2 (l : Launch) (Z : State) (aZ : Array Value) (hw : HW aZ Z) (ws : List Jvm.Cond) (a0 : Addr) (k_a0 : ClassId) (y0 : Int32) (y1 : Int32) (y2 : Int32) (y3 : Int32) (h0 : Heap) (n0 : Nat) (Z0 : n0 ≤ h0.size) (V_a0 : Arv Z h0 a0 k_a0 .byte (4 : Int32) [(.int y0), (.int y1), (.int y2), (.int y3)] (.int 0)) :
    MFn l (⟨"java/util/Arrays", "copyOfRangeByte", "([BII)[B"⟩ : MethodName) jdk_65_method_133_code 5 (some (.array .byte)) ws (Rm 1 1 1 18) #[(.ref a0), (.int 3), (.int 4)] Z h0 (Qcb4_2 Z n0 a0 k_a0 y0 y1 y2 y3 h0) := by
  refine own_mf (C := "java/util/Arrays") rfl (plainFor_of_name pn_257) (fun m => efcb4_2 m a0) ?_
  intro p e s m below meth cd0 s₁ En hx hby hml hown hnm hZ X0 e0 hlk hrt go0
  have N0 := Fr.nil n0
  have K0 : Keep h0 h0 [] := Keep.refl _ _
  have go1 : Go p.tables e below s₁ (mkF m 2 #[rv a0, iv 3, iv 4, .unset, .unset] [(.int 4), (.int 3)]) En := by
    intro t k
    refine go0 _ ?_
    refine XS.iloadN X0.here hx rfl (hb hby d25_0) rfl ?_
    refine XS.iloadN X0.here hx rfl (hb hby d25_1) rfl ?_
    exact k
  obtain ⟨_, T2, Lc2, X2, hQ2, st2⟩ := own_cs X0 hx hZ hown hml go1 (hb hby d25_2) e0 (hw _ (mi 113 rfl)) (own_site317 hw) (rmcl l Z aZ hw [] (3 : Int32) (4 : Int32) h0 n0 Z0 (by decide)) (by decide) (argsL := [(.int 3), (.int 4)]) (rest := []) rfl rfl rfl (lenOf pd_318 rfl) (W := 0) rfl (by decide) (by decide) (by decide : 0 + 0 ≤ _) (by decide : 0 + 0 ≤ _)
  obtain ⟨rfl, N2q, e2⟩ := hQ2
  have N2 := Fr.app N0 N2q
  have go3 : Go p.tables e below T2 (mkF m 10 #[rv a0, iv 3, iv 4, iv 1, .unset] [(.int 1)]) En := by
    intro t k
    refine st2 _ ?_
    refine XS.iloadN X2.here hx rfl (hb hby d25_5) rfl ?_
    refine XS.iloadN X2.here hx rfl (hb hby d25_6) rfl ?_
    refine XS.isub X2.here hx rfl (hb hby d25_7) rfl ?_
    refine XS.istoreN X2.here hx rfl (hb hby d25_8) rfl (l' := #[rv a0, iv 3, iv 4, iv 1, .unset]) rfl ?_
    refine XS.iloadN X2.here hx rfl (hb hby d25_9) rfl ?_
    show Steps _ _ _ (T2.setTop (mkF m 10 #[rv a0, iv 3, iv 4, iv 1, .unset] [(.int 1)])) _
    exact k
  obtain ⟨T4, h4, k4, X4, e4, E4, A4, st4⟩ := newP X2 hx hZ (hw _ (mi 20 rfl)) e2 (g := (mkF m 10 #[rv a0, iv 3, iv 4, iv 1, .unset] [(.int 1)])) rfl (hb hby d25_10) rfl (by decide) (cap := 1) (by decide) (by decide) (by decide) (by decide)
  obtain ⟨b4, g4⟩ : ∃ z, z = h0.size := ⟨_, rfl⟩
  rw [← g4] at A4 st4
  have ne5 : a0 ≠ b4 := Nat.ne_of_lt (Nat.lt_of_lt_of_le V_a0.lt (Nat.le_of_eq g4.symm))
  have low4 : n0 ≤ b4 := Nat.le_trans Z0 (Nat.le_of_eq g4.symm)
  have fsh4 : h0.size ≤ b4 := Nat.le_trans K0.1 (Nat.le_of_eq g4.symm)
  have K4 : Keep h0 h4 [] := K0.ext E4
  have Zs4 : n0 ≤ h4.size := Nat.le_trans Z0 E4.1
  have go6 := gap go3 st4
  have F7 : Arv Z h4 b4 k4 .byte (1 : Int32) [(.int 0)] (.int 0) := (Arv.new A4 (by decide)).pad (pad_rep [] (.int 0) 1)
  obtain ⟨cl8, Ar8, q8, S8, N8, H8, G8⟩ := id (V_a0.keep K4 nin0)
  have go9 : Go p.tables e below T4 (mkF m 24 (Lcb4_2_0 a0 b4) [(.int 1), (.int 1), (.int 0), (.ref b4), (.int 3), (.ref a0)]) En := by
    intro t k
    refine go6 _ ?_
    refine XS.astore X4.here hx rfl (hb hby d25_12) rfl rfl (l' := (Lcb4_2_0 a0 b4)) rfl ?_
    refine XS.aloadN X4.here hx rfl (hb hby d25_14) rfl rfl ?_
    refine XS.iloadN X4.here hx rfl (hb hby d25_15) rfl ?_
    refine XS.aload X4.here hx rfl (hb hby d25_16) rfl rfl ?_
    refine XS.iconst X4.here hx rfl (hb hby d25_18) ?_
    show Steps _ _ _ (T4.setTop (mkF m 19 (Lcb4_2_0 a0 b4) [(.int 0), (.ref b4), (.int 3), (.ref a0)])) _
    refine XS.aloadN X4.here hx rfl (hb hby d25_19) rfl rfl ?_
    refine X4.arraylength hx (by rw [e4]; exact Ar8.1) (State.isArrayOf_alike hZ.alike Ar8.2.1) (g := (mkF m 20 (Lcb4_2_0 a0 b4) [(.ref a0), (.int 0), (.ref b4), (.int 3), (.ref a0)])) rfl rfl (hb hby d25_20) _ ?_
    rw [len_of S8 N8]
    refine XS.iloadN X4.here hx rfl (hb hby d25_21) rfl ?_
    refine XS.isub X4.here hx rfl (hb hby d25_22) rfl ?_
    show Steps _ _ _ (T4.setTop (mkF m 23 (Lcb4_2_0 a0 b4) [(.int 1), (.int 0), (.ref b4), (.int 3), (.ref a0)])) _
    refine XS.iloadN X4.here hx rfl (hb hby d25_23) rfl ?_
    exact k
  obtain ⟨_, T10, Lc10, X10, hQ10, st10⟩ := own_cs X4 hx hZ hown hml go9 (hb hby d25_24) e4 (hw _ (mi 116 rfl)) (own_site167 hw) (rmmn l Z aZ hw [] (1 : Int32) h4 n0 Zs4 ) (by decide) (argsL := [(.int 1), (.int 1)]) (rest := [(.int 0), (.ref b4), (.int 3), (.ref a0)]) rfl rfl rfl (lenOf pd_161 rfl) (W := 4) rfl (by decide) (by decide) (by decide : 1 + 0 ≤ _) (by decide : 1 + 0 ≤ _)
  obtain ⟨rfl, N10q, e10⟩ := hQ10
  have N10 := Fr.app N2 N10q
  obtain ⟨T11, _, L11, X11, rfl, N11q, K11q, AR11, st11⟩ := cpA X10 hx hZ hown (hw _ (mi 117 rfl)) (hw _ (mi 120 rfl)) (hw _ (mi 118 rfl)) (hw _ (mi 119 rfl)) e10 (V_a0.keep K4 nin0) F7 (us := [(.int y3)]) (Or.inl ⟨rfl, rfl⟩) (by decide) (by decide) (by decide) (by decide) (by decide) rfl (Nat.le_of_ble_eq_true rfl) N10 low4 (g := (mkF m 27 (Lcb4_2_0 a0 b4) [(.int 1), (.int 0), (.ref b4), (.int 3), (.ref a0)])) rfl (by rw [hml]; rfl) rfl (hb hby d25_27) (by decide) (W := 0) (by show 2 * 0 + _ ≤ _; exact Nat.le_of_eq rfl) (by decide)
  have K11 : Keep h0 T11.heap [] := K4.trans K11q (allS (Or.inr fsh4) all0)
  have go12 := gap st10 st11
  have Zs11 : n0 ≤ T11.heap.size := Nat.le_trans Zs4 K11q.1
  have F13 : Arv Z T11.heap b4 k4 .byte (1 : Int32) [(.int y3)] (.int 0) := AR11
  have go14 : Go p.tables e below T11 (mkF m 32 (Lcb4_2_0 a0 b4) [(.ref b4)]) En := by
    intro t k
    refine go12 _ ?_
    refine XS.aload X11.here hx rfl (hb hby d25_30) rfl rfl ?_
    exact k
  refine own_out (w := (.ref b4)) X11 hx hlk go14 hrt rfl (Or.inr (Or.inr (Or.inr (Or.inr ⟨rfl, rfl, rfl⟩)))) (hb hby d25_32) rfl (by decide) (by decide) ?_
  exact ⟨b4, k4, rfl, N11q, K11, fsh4, F13⟩
def Qcr4_2 (Z : State) (n0 : Nat) (a0 : Addr) (k_a0 : ClassId) (y0 : Int32) (y1 : Int32) (y2 : Int32) (y3 : Int32) (h0 : Heap) (v : Option Value) (h : Heap) (L : List Loc) : Prop := ∃ (b : Addr) (kb : ClassId), v = some (.ref b) ∧ Fr n0 L ∧ Keep h0 h [] ∧ h0.size ≤ b ∧ Arv Z h b kb .byte (1 : Int32) [(.int y3)] (.int (0 : Int32))
theorem efcr4_2 (m : MethodId) (a0 : Addr) : entryFrame m #[(.ref a0), (.int (3 : Int32)), (.int (4 : Int32))] 3 = mkF m 0 #[rv a0, iv (3 : Int32), iv (4 : Int32)] [] := by first | (simp [entryFrame, mkF, argsToLocals, Value.category]; done) | rfl
set_option maxRecDepth 65536 in
set_option maxHeartbeats 40000000 in
theorem rmcr4_2 (l : Launch) (Z : State) (aZ : Array Value) (hw : HW aZ Z) (ws : List Jvm.Cond) (a0 : Addr) (k_a0 : ClassId) (y0 : Int32) (y1 : Int32) (y2 : Int32) (y3 : Int32) (h0 : Heap) (n0 : Nat) (Z0 : n0 ≤ h0.size) (V_a0 : Arv Z h0 a0 k_a0 .byte (4 : Int32) [(.int y0), (.int y1), (.int y2), (.int y3)] (.int 0)) :
    MFn l (⟨"java/util/Arrays", "copyOfRange", "([BII)[B"⟩ : MethodName) jdk_65_method_132_code 3 (some (.array .byte)) ws (Rm 2 1 1 34) #[(.ref a0), (.int 3), (.int 4)] Z h0 (Qcr4_2 Z n0 a0 k_a0 y0 y1 y2 y3 h0) := by
  refine own_mf (C := "java/util/Arrays") rfl (plainFor_of_name pn_257) (fun m => efcr4_2 m a0) ?_
  intro p e s m below meth cd0 s₁ En hx hby hml hown hnm hZ X0 e0 hlk hrt go0
  have N0 := Fr.nil n0
  have K0 : Keep h0 h0 [] := Keep.refl _ _
  have go1 : Go p.tables e below s₁ (mkF m 13 #[rv a0, iv 3, iv 4] [(.int 4), (.int 3), (.ref a0)]) En := by
    intro t k
    refine go0 _ ?_
    refine XS.iloadN X0.here hx rfl (hb hby d24_0) rfl ?_
    refine XS.ifYes X0.here hx rfl (pc0 := 1) (pc' := 10) rfl (hb hby d24_1) rfl (XT.i0_ne_t (by decide : ¬ ((3 : Int32) = (0 : Int32)))) (by decide) (by decide) ?_
    refine XS.aloadN X0.here hx rfl (hb hby d24_10) rfl rfl ?_
    refine XS.iloadN X0.here hx rfl (hb hby d24_11) rfl ?_
    refine XS.iloadN X0.here hx rfl (hb hby d24_12) rfl ?_
    show Steps _ _ _ (s₁.setTop (mkF m 13 #[rv a0, iv 3, iv 4] [(.int 4), (.int 3), (.ref a0)])) _
    exact k
  obtain ⟨_, T2, Lc2, X2, hQ2, st2⟩ := own_cs X0 hx hZ hown hml go1 (hb hby d24_13) e0 (hw _ (mi 110 rfl)) (own_site345 hw) (rmcb4_2 l Z aZ hw [] a0 _ y0 y1 y2 y3 h0 n0 Z0 V_a0) (by decide) (argsL := [(.ref a0), (.int 3), (.int 4)]) (rest := []) rfl rfl rfl (lenOf pd_346 rfl) (W := 0) rfl (by decide) (by decide) (by decide : 0 + 1 ≤ _) (by decide : 0 + 1 ≤ _)
  obtain ⟨b2, kb2, rfl, N2q, K2q, fr2, G2_0⟩ := hQ2
  have N2 := Fr.app N0 N2q
  have K2 : Keep h0 T2.heap [] := K0.trans K2q all0
  have low2 : n0 ≤ b2 := Nat.le_trans Z0 fr2
  have fsh2 : h0.size ≤ b2 := Nat.le_trans K0.1 fr2
  have ne3 : a0 ≠ b2 := Nat.ne_of_lt (Nat.lt_of_lt_of_le V_a0.lt fr2)
  have Zs2 : n0 ≤ T2.heap.size := Nat.le_trans Z0 K2q.1
  refine own_out (w := (.ref b2)) X2 hx hlk st2 hrt rfl (Or.inr (Or.inr (Or.inr (Or.inr ⟨rfl, rfl, rfl⟩)))) (hb hby d24_16) rfl (by decide) (by decide) ?_
  exact ⟨b2, kb2, rfl, N2, K2, fsh2, G2_0⟩
def Qns4_2 (Z : State) (n0 : Nat) (a0 : Addr) (k_a0 : ClassId) (y0 : Int32) (y1 : Int32) (y2 : Int32) (y3 : Int32) (h0 : Heap) (v : Option Value) (h : Heap) (L : List Loc) : Prop := ∃ (b bx : Addr) (kx : ClassId), v = some (.ref b) ∧ Fr n0 L ∧ Keep h0 h [] ∧ Est Z h b ∧ Fcd Z h b (.int (0 : Int32)) ∧ Fvl Z h b (.ref bx) ∧ Arv Z h bx kx .byte (1 : Int32) [(.int y3)] (.int (0 : Int32))
theorem efns4_2 (m : MethodId) (a0 : Addr) : entryFrame m #[(.ref a0), (.int (3 : Int32)), (.int (1 : Int32))] 3 = mkF m 0 #[rv a0, iv (3 : Int32), iv (1 : Int32)] [] := by first | (simp [entryFrame, mkF, argsToLocals, Value.category]; done) | rfl
set_option maxRecDepth 65536 in
set_option maxHeartbeats 40000000 in
theorem rmns4_2 (l : Launch) (Z : State) (aZ : Array Value) (hw : HW aZ Z) (ws : List Jvm.Cond) (a0 : Addr) (k_a0 : ClassId) (y0 : Int32) (y1 : Int32) (y2 : Int32) (y3 : Int32) (h0 : Heap) (n0 : Nat) (Z0 : n0 ≤ h0.size) (V_a0 : Arv Z h0 a0 k_a0 .byte (4 : Int32) [(.int y0), (.int y1), (.int y2), (.int y3)] (.int 0)) :
    MFn l (⟨"java/lang/StringLatin1", "newString", "([BII)Ljava/lang/String;"⟩ : MethodName) jdk_43_method_47_code 3 (some (.object "java/lang/String")) ws (Rm 3 2 5 50) #[(.ref a0), (.int 3), (.int 1)] Z h0 (Qns4_2 Z n0 a0 k_a0 y0 y1 y2 y3 h0) := by
  refine own_mf (C := "java/lang/StringLatin1") rfl (plainFor_of_name pn_128) (fun m => efns4_2 m a0) ?_
  intro p e s m below meth cd0 s₁ En hx hby hml hown hnm hZ X0 e0 hlk hrt go0
  have N0 := Fr.nil n0
  have K0 : Keep h0 h0 [] := Keep.refl _ _
  have go1 : Go p.tables e below s₁ (mkF m 7 #[rv a0, iv 3, iv 1] []) En := by
    intro t k
    refine go0 _ ?_
    refine XS.iloadN X0.here hx rfl (hb hby d23_0) rfl ?_
    refine XS.ifYes X0.here hx rfl (pc0 := 1) (pc' := 7) rfl (hb hby d23_1) rfl (XT.i0_ne_t (by decide : ¬ ((1 : Int32) = (0 : Int32)))) (by decide) (by decide) ?_
    exact k
  obtain ⟨T2, h2, X2, e2, E2, A2, D2, -, st2⟩ := newO X0 hx hZ hown (hw _ (mi 105 rfl)) (hw _ (mi 7 rfl)) (hw _ (mi 8 rfl)) e0 (g := (mkF m 7 #[rv a0, iv 3, iv 1] [])) rfl (hb hby d23_7) (by decide) (by decide)
  obtain ⟨b2, g2⟩ : ∃ z, z = h0.size := ⟨_, rfl⟩
  rw [← g2] at A2 D2 st2
  have ne3 : a0 ≠ b2 := Nat.ne_of_lt (Nat.lt_of_lt_of_le V_a0.lt (Nat.le_of_eq g2.symm))
  have low2 : n0 ≤ b2 := Nat.le_trans Z0 (Nat.le_of_eq g2.symm)
  have fsh2 : h0.size ≤ b2 := Nat.le_trans K0.1 (Nat.le_of_eq g2.symm)
  have K2 : Keep h0 h2 [] := K0.ext E2
  have Zs2 : n0 ≤ h2.size := Nat.le_trans Z0 E2.1
  have go4 := gap go1 st2
  have F5 : Fvl Z h2 b2 .null := D2 (Or.inr (hw _ (mi 21 rfl))) (ty := (.array .byte)) (by decide)
  have F6 : Fcd Z h2 b2 (.int 0) := D2 (Or.inr (hw _ (mi 22 rfl))) (ty := .byte) (by decide)
  have go7 : Go p.tables e below T2 (mkF m 16 #[rv a0, iv 3, iv 1] [(.int 4), (.int 3), (.ref a0), (.ref b2), (.ref b2)]) En := by
    intro t k
    refine go4 _ ?_
    refine XS.dup X2.here hx rfl (hb hby d23_10) rfl rfl ?_
    refine XS.aloadN X2.here hx rfl (hb hby d23_11) rfl rfl ?_
    refine XS.iloadN X2.here hx rfl (hb hby d23_12) rfl ?_
    refine XS.iloadN X2.here hx rfl (hb hby d23_13) rfl ?_
    refine XS.iloadN X2.here hx rfl (hb hby d23_14) rfl ?_
    show Steps _ _ _ (T2.setTop (mkF m 15 #[rv a0, iv 3, iv 1] [(.int 1), (.int 3), (.int 3), (.ref a0), (.ref b2), (.ref b2)])) _
    refine XS.iadd X2.here hx rfl (hb hby d23_15) rfl ?_
    exact k
  obtain ⟨_, T8, Lc8, X8, hQ8, st8⟩ := own_cs X2 hx hZ hown hml go7 (hb hby d23_16) e2 (hw _ (mi 106 rfl)) (own_site356 hw) (rmcr4_2 l Z aZ hw [] a0 _ y0 y1 y2 y3 h2 n0 Zs2 (V_a0.keep K2 nin0)) (by decide) (argsL := [(.ref a0), (.int 3), (.int 4)]) (rest := [(.ref b2), (.ref b2)]) rfl rfl rfl (lenOf pd_346 rfl) (W := 2) rfl (by decide) (by decide) (by decide : 1 + 1 ≤ _) (by decide : 4 + 1 ≤ _)
  obtain ⟨b8, kb8, rfl, N8q, K8q, fr8, G8_0⟩ := hQ8
  have N8 := Fr.app N0 N8q
  have K8 : Keep h0 T8.heap [] := K2.trans K8q all0
  have low8 : n0 ≤ b8 := Nat.le_trans Zs2 fr8
  have fsh8 : h0.size ≤ b8 := Nat.le_trans K2.1 fr8
  have ne9 : a0 ≠ b8 := Nat.ne_of_lt (Nat.lt_of_lt_of_le (V_a0.keep K2 nin0).lt fr8)
  have ne10 : b2 ≠ b8 := Nat.ne_of_lt (Nat.lt_of_lt_of_le A2.lt fr8)
  have Zs8 : n0 ≤ T8.heap.size := Nat.le_trans Zs2 K8q.1
  have F11 := A2.keep K8q
  have F12 := F5.keep K8q nin0
  have F13 := F6.keep K8q nin0
  have go14 : Go p.tables e below T8 (mkF m 20 #[rv a0, iv 3, iv 1] [(.int 0), (.ref b8), (.ref b2), (.ref b2)]) En := by
    intro t k
    refine st8 _ ?_
    refine XS.iconst X8.here hx rfl (hb hby d23_19) ?_
    exact k
  obtain ⟨_, T15, Lc15, X15, hQ15, st15⟩ := own_ci X8 hx hZ hown hml go14 (hb hby d23_20) rfl (hw _ (mi 121 rfl)) (own_site359 hw) rfl (rmsi l Z aZ hw [] b2 b8 T8.heap n0 Zs8 F11 F12 F13 low2) (by decide) (argsL := [(.ref b8), (.int 0)]) (rest := [(.ref b2)]) rfl rfl rfl (lenOf pd_360 rfl) (W := 1) rfl (by decide) (by decide) (by decide : 2 + 0 ≤ _) (by decide : 5 + 0 ≤ _)
  obtain ⟨rfl, N15q, K15q, G15_0, G15_1, G15_2⟩ := hQ15
  have N15 := Fr.app N8 N15q
  have K15 : Keep h0 T15.heap [] := K8.trans K15q (allS (Or.inr fsh2) all0)
  have Zs15 : n0 ≤ T15.heap.size := Nat.le_trans Zs8 K15q.1
  have F16 := F11.keep K15q
  have F17 := G8_0.keep K15q (ninS (Ne.symm ne10) nin0)
  refine own_out (w := (.ref b2)) X15 hx hlk st15 hrt rfl (Or.inr (Or.inr (Or.inr (Or.inr ⟨rfl, rfl, rfl⟩)))) (hb hby d23_23) rfl (by decide) (by decide) ?_
  exact ⟨b2, b8, kb8, rfl, N15, K15, G15_0, G15_2, G15_1, F17⟩
def Qss4_2 (Z : State) (n0 : Nat) (a0 : Addr) (w_a0_value : Addr) (k_w_a0_value : ClassId) (y0 : Int32) (y1 : Int32) (y2 : Int32) (y3 : Int32) (s_COMPACT_STRINGS : Int32) (s_SIOOBE_FORMATTER : Value) (h0 : Heap) (v : Option Value) (h : Heap) (L : List Loc) : Prop := ∃ (b bx : Addr) (kx : ClassId), v = some (.ref b) ∧ Fr n0 L ∧ Keep h0 h [] ∧ Est Z h b ∧ Fcd Z h b (.int (0 : Int32)) ∧ Fvl Z h b (.ref bx) ∧ Arv Z h bx kx .byte (1 : Int32) [(.int y3)] (.int (0 : Int32))
theorem efss4_2 (m : MethodId) (a0 : Addr) : entryFrame m #[(.ref a0), (.int (3 : Int32)), (.int (4 : Int32))] 5 = mkF m 0 #[rv a0, iv (3 : Int32), iv (4 : Int32), .unset, .unset] [] := by first | (simp [entryFrame, mkF, argsToLocals, Value.category]; done) | rfl
abbrev Lss4_2_0 (a0 : Addr) : Array Slot := #[rv a0, iv 3, iv 4, iv 4, iv 1]
set_option maxRecDepth 65536 in
set_option maxHeartbeats 40000000 in
theorem rmss4_2 (l : Launch) (Z : State) (aZ : Array Value) (hw : HW aZ Z) (ws : List Jvm.Cond) (a0 : Addr) (w_a0_value : Addr) (k_w_a0_value : ClassId) (y0 : Int32) (y1 : Int32) (y2 : Int32) (y3 : Int32) (s_COMPACT_STRINGS : Int32) (s_SIOOBE_FORMATTER : Value) (h0 : Heap) (n0 : Nat) (Z0 : n0 ≤ h0.size) (E_a0 : Est Z h0 a0) (F_a0_coder : Fcd Z h0 a0 (.int 0)) (F_a0_value : Fvl Z h0 a0 (.ref w_a0_value)) (V_w_a0_value : Arv Z h0 w_a0_value k_w_a0_value .byte (4 : Int32) [(.int y0), (.int y1), (.int y2), (.int y3)] (.int 0)) (S_COMPACT_STRINGS : SfC Z h0 (.int s_COMPACT_STRINGS)) (hcs : ¬ s_COMPACT_STRINGS = (0 : Int32)) (S_SIOOBE_FORMATTER : SfF Z h0 s_SIOOBE_FORMATTER) (rS_SIOOBE_FORMATTER : s_SIOOBE_FORMATTER.isRef = true) :
    MFn l (⟨"java/lang/String", "substring", "(II)Ljava/lang/String;"⟩ : MethodName) jdk_42_method_92_code 5 (some (.object "java/lang/String")) ws (Rm 4 2 5 64) #[(.ref a0), (.int 3), (.int 4)] Z h0 (Qss4_2 Z n0 a0 w_a0_value k_w_a0_value y0 y1 y2 y3 s_COMPACT_STRINGS s_SIOOBE_FORMATTER h0) := by
  refine own_mf (C := "java/lang/String") rfl (plainFor_of_name pn_15) (fun m => efss4_2 m a0) ?_
  intro p e s m below meth cd0 s₁ En hx hby hml hown hnm hZ X0 e0 hlk hrt go0
  have N0 := Fr.nil n0
  have K0 : Keep h0 h0 [] := Keep.refl _ _
  have go1 : Go p.tables e below s₁ (mkF m 1 #[rv a0, iv 3, iv 4, .unset, .unset] [(.ref a0)]) En := by
    intro t k
    refine go0 _ ?_
    refine XS.aloadN X0.here hx rfl (hb hby d20_0) rfl rfl ?_
    exact k
  obtain ⟨_, T2, Lc2, X2, hQ2, st2⟩ := own_cv X0 hx hZ hown hml go1 (hb hby d20_1) e0 (hw _ (mi 47 rfl)) (own_site185 hw) E_a0 (rmln l Z aZ hw [] a0 _ _ _ _ _ h0 n0 Z0 E_a0 F_a0_coder F_a0_value V_w_a0_value S_COMPACT_STRINGS hcs) (by decide) (argsL := []) (rest := []) rfl rfl rfl (lenOf pd_186 rfl) (W := 0) rfl (by decide) (by decide) (by decide : 0 + 0 ≤ _) (by decide : 0 + 0 ≤ _)
  obtain ⟨rfl, N2q, e2⟩ := hQ2
  have N2 := Fr.app N0 N2q
  have go3 : Go p.tables e below T2 (mkF m 8 #[rv a0, iv 3, iv 4, iv 4, .unset] [(.int 4), (.int 4), (.int 3)]) En := by
    intro t k
    refine st2 _ ?_
    refine XS.istoreN X2.here hx rfl (hb hby d20_4) rfl (l' := #[rv a0, iv 3, iv 4, iv 4, .unset]) rfl ?_
    refine XS.iloadN X2.here hx rfl (hb hby d20_5) rfl ?_
    refine XS.iloadN X2.here hx rfl (hb hby d20_6) rfl ?_
    refine XS.iloadN X2.here hx rfl (hb hby d20_7) rfl ?_
    exact k
  obtain ⟨_, T4, Lc4, X4, hQ4, st4⟩ := own_cs X2 hx hZ hown hml go3 (hb hby d20_8) e2 (hw _ (mi 94 rfl)) (own_site282 hw) (rmcbb l Z aZ hw [] (3 : Int32) (4 : Int32) (4 : Int32) _ h0 n0 Z0 S_SIOOBE_FORMATTER rS_SIOOBE_FORMATTER (by decide) (by decide) (by decide)) (by decide) (argsL := [(.int 3), (.int 4), (.int 4)]) (rest := []) rfl rfl rfl (lenOf pd_283 rfl) (W := 0) rfl (by decide) (by decide) (by decide : 0 + 0 ≤ _) (by decide : 0 + 0 ≤ _)
  obtain ⟨rfl, N4q, e4⟩ := hQ4
  have N4 := Fr.app N2 N4q
  have go5 : Go p.tables e below T4 (mkF m 28 (Lss4_2_0 a0) [(.ref a0)]) En := by
    intro t k
    refine st4 _ ?_
    refine XS.iloadN X4.here hx rfl (hb hby d20_11) rfl ?_
    refine XS.ifYes X4.here hx rfl (pc0 := 12) (pc' := 22) rfl (hb hby d20_12) rfl (XT.i0_ne_t (by decide : ¬ ((3 : Int32) = (0 : Int32)))) (by decide) (by decide) ?_
    refine XS.iloadN X4.here hx rfl (hb hby d20_22) rfl ?_
    refine XS.iloadN X4.here hx rfl (hb hby d20_23) rfl ?_
    refine XS.isub X4.here hx rfl (hb hby d20_24) rfl ?_
    show Steps _ _ _ (T4.setTop (mkF m 25 #[rv a0, iv 3, iv 4, iv 4, .unset] [(.int 1)])) _
    refine XS.istore X4.here hx rfl (hb hby d20_25) rfl (l' := (Lss4_2_0 a0)) rfl ?_
    refine XS.aloadN X4.here hx rfl (hb hby d20_27) rfl rfl ?_
    exact k
  obtain ⟨_, T6, Lc6, X6, hQ6, st6⟩ := own_cv X4 hx hZ hown hml go5 (hb hby d20_28) e4 (hw _ (mi 41 rfl)) (own_site176 hw) E_a0 (rmil l Z aZ hw [] a0 _ h0 n0 Z0 S_COMPACT_STRINGS hcs F_a0_coder) (by decide) (argsL := []) (rest := []) rfl rfl rfl (lenOf pd_177 rfl) (W := 0) rfl (by decide) (by decide) (by decide : 0 + 0 ≤ _) (by decide : 0 + 0 ≤ _)
  obtain ⟨rfl, N6q, e6⟩ := hQ6
  have N6 := Fr.app N4 N6q
  have go7 : Go p.tables e below T6 (mkF m 35 (Lss4_2_0 a0) [(.ref a0)]) En := by
    intro t k
    refine st6 _ ?_
    refine XS.ifNo X6.here hx rfl (hb hby d20_31) rfl (XT.i0_eq_f (by decide : ¬ ((1 : Int32) = (0 : Int32)))) ?_
    refine XS.aloadN X6.here hx rfl (hb hby d20_34) rfl rfl ?_
    exact k
  obtain ⟨T8, X8, e8, st8⟩ := getF X6 hx hZ hown (host := "") (Or.inl (hw _ (mi 25 rfl))) Via.refl e6 F_a0_value (g := (mkF m 35 (Lss4_2_0 a0) [(.ref a0)])) rfl rfl (hb hby d20_35)
  have go9 := gap go7 st8
  have go10 : Go p.tables e below T8 (mkF m 41 (Lss4_2_0 a0) [(.int 1), (.int 3), (.ref w_a0_value)]) En := by
    intro t k
    refine go9 _ ?_
    refine XS.iloadN X8.here hx rfl (hb hby d20_38) rfl ?_
    refine XS.iload X8.here hx rfl (hb hby d20_39) rfl ?_
    exact k
  obtain ⟨_, T11, Lc11, X11, hQ11, st11⟩ := own_cs X8 hx hZ hown hml go10 (hb hby d20_41) e8 (hw _ (mi 102 rfl)) (own_site362 hw) (rmns4_2 l Z aZ hw [] _ _ y0 y1 y2 y3 h0 n0 Z0 V_w_a0_value) (by decide) (argsL := [(.ref w_a0_value), (.int 3), (.int 1)]) (rest := []) rfl rfl rfl (lenOf pd_298 rfl) (W := 0) rfl (by decide) (by decide) (by decide : 0 + 2 ≤ _) (by decide : 0 + 5 ≤ _)
  obtain ⟨b11, bx11, kx11, rfl, N11q, K11q, GE11, GC11, GX11, GV11⟩ := hQ11
  have N11 := Fr.app N6 N11q
  have K11 : Keep h0 T11.heap [] := K0.trans K11q all0
  have Zs11 : n0 ≤ T11.heap.size := Nat.le_trans Z0 K11q.1
  have go12 : Go p.tables e below T11 (mkF m 57 (Lss4_2_0 a0) [(.ref b11)]) En := by
    intro t k
    refine st11 _ ?_
    refine XS.goto X11.here hx rfl (pc0 := 44) (pc' := 57) rfl (hb hby d20_44) (by decide) (by decide) ?_
    exact k
  refine own_out (w := (.ref b11)) X11 hx hlk go12 hrt rfl (Or.inr (Or.inr (Or.inr (Or.inr ⟨rfl, rfl, rfl⟩)))) (hb hby d20_57) rfl (by decide) (by decide) ?_
  exact ⟨b11, bx11, kx11, rfl, N11, K11, GE11, GC11, GX11, GV11⟩
def Qst4_2 (Z : State) (n0 : Nat) (a0 : Addr) (w_a0_value : Addr) (k_w_a0_value : ClassId) (y0 : Int32) (y1 : Int32) (y2 : Int32) (y3 : Int32) (s_COMPACT_STRINGS : Int32) (s_SIOOBE_FORMATTER : Value) (h0 : Heap) (v : Option Value) (h : Heap) (L : List Loc) : Prop := ∃ (b bx : Addr) (kx : ClassId), v = some (.ref b) ∧ Fr n0 L ∧ Keep h0 h [] ∧ Est Z h b ∧ Fcd Z h b (.int (0 : Int32)) ∧ Fvl Z h b (.ref bx) ∧ Arv Z h bx kx .byte (1 : Int32) [(.int y3)] (.int (0 : Int32))
theorem efst4_2 (m : MethodId) (a0 : Addr) : entryFrame m #[(.ref a0), (.int (3 : Int32))] 2 = mkF m 0 #[rv a0, iv (3 : Int32)] [] := by first | (simp [entryFrame, mkF, argsToLocals, Value.category]; done) | rfl
set_option maxRecDepth 65536 in
set_option maxHeartbeats 40000000 in
theorem rmst4_2 (l : Launch) (Z : State) (aZ : Array Value) (hw : HW aZ Z) (ws : List Jvm.Cond) (a0 : Addr) (w_a0_value : Addr) (k_w_a0_value : ClassId) (y0 : Int32) (y1 : Int32) (y2 : Int32) (y3 : Int32) (s_COMPACT_STRINGS : Int32) (s_SIOOBE_FORMATTER : Value) (h0 : Heap) (n0 : Nat) (Z0 : n0 ≤ h0.size) (E_a0 : Est Z h0 a0) (F_a0_coder : Fcd Z h0 a0 (.int 0)) (F_a0_value : Fvl Z h0 a0 (.ref w_a0_value)) (V_w_a0_value : Arv Z h0 w_a0_value k_w_a0_value .byte (4 : Int32) [(.int y0), (.int y1), (.int y2), (.int y3)] (.int 0)) (S_COMPACT_STRINGS : SfC Z h0 (.int s_COMPACT_STRINGS)) (hcs : ¬ s_COMPACT_STRINGS = (0 : Int32)) (S_SIOOBE_FORMATTER : SfF Z h0 s_SIOOBE_FORMATTER) (rS_SIOOBE_FORMATTER : s_SIOOBE_FORMATTER.isRef = true) :
    MFn l (⟨"java/lang/String", "substring", "(I)Ljava/lang/String;"⟩ : MethodName) jdk_42_method_91_code 2 (some (.object "java/lang/String")) ws (Rm 5 2 5 80) #[(.ref a0), (.int 3)] Z h0 (Qst4_2 Z n0 a0 w_a0_value k_w_a0_value y0 y1 y2 y3 s_COMPACT_STRINGS s_SIOOBE_FORMATTER h0) := by
  refine own_mf (C := "java/lang/String") rfl (plainFor_of_name pn_15) (fun m => efst4_2 m a0) ?_
  intro p e s m below meth cd0 s₁ En hx hby hml hown hnm hZ X0 e0 hlk hrt go0
  have N0 := Fr.nil n0
  have K0 : Keep h0 h0 [] := Keep.refl _ _
  have go1 : Go p.tables e below s₁ (mkF m 3 #[rv a0, iv 3] [(.ref a0), (.int 3), (.ref a0)]) En := by
    intro t k
    refine go0 _ ?_
    refine XS.aloadN X0.here hx rfl (hb hby d19_0) rfl rfl ?_
    refine XS.iloadN X0.here hx rfl (hb hby d19_1) rfl ?_
    refine XS.aloadN X0.here hx rfl (hb hby d19_2) rfl rfl ?_
    exact k
  obtain ⟨_, T2, Lc2, X2, hQ2, st2⟩ := own_cv X0 hx hZ hown hml go1 (hb hby d19_3) e0 (hw _ (mi 47 rfl)) (own_site185 hw) E_a0 (rmln l Z aZ hw [] a0 _ _ _ _ _ h0 n0 Z0 E_a0 F_a0_coder F_a0_value V_w_a0_value S_COMPACT_STRINGS hcs) (by decide) (argsL := []) (rest := [(.int 3), (.ref a0)]) rfl rfl rfl (lenOf pd_186 rfl) (W := 2) rfl (by decide) (by decide) (by decide : 0 + 0 ≤ _) (by decide : 0 + 0 ≤ _)
  obtain ⟨rfl, N2q, e2⟩ := hQ2
  have N2 := Fr.app N0 N2q
  obtain ⟨_, T3, Lc3, X3, hQ3, st3⟩ := own_cv X2 hx hZ hown hml st2 (hb hby d19_6) e2 (hw _ (mi 89 rfl)) (own_site363 hw) E_a0 (rmss4_2 l Z aZ hw [] a0 _ _ y0 y1 y2 y3 _ _ h0 n0 Z0 E_a0 F_a0_coder F_a0_value V_w_a0_value S_COMPACT_STRINGS hcs S_SIOOBE_FORMATTER rS_SIOOBE_FORMATTER) (by decide) (argsL := [(.int 3), (.int 4)]) (rest := []) rfl rfl rfl (lenOf pd_306 rfl) (W := 0) rfl (by decide) (by decide) (by decide : 0 + 2 ≤ _) (by decide : 0 + 5 ≤ _)
  obtain ⟨b3, bx3, kx3, rfl, N3q, K3q, GE3, GC3, GX3, GV3⟩ := hQ3
  have N3 := Fr.app N2 N3q
  have K3 : Keep h0 T3.heap [] := K0.trans K3q all0
  have Zs3 : n0 ≤ T3.heap.size := Nat.le_trans Z0 K3q.1
  refine own_out (w := (.ref b3)) X3 hx hlk st3 hrt rfl (Or.inr (Or.inr (Or.inr (Or.inr ⟨rfl, rfl, rfl⟩)))) (hb hby d19_9) rfl (by decide) (by decide) ?_
  exact ⟨b3, bx3, kx3, rfl, N3, K3, GE3, GC3, GX3, GV3⟩
def Qqs4_2 (Z : State) (n0 : Nat) (a0 : Addr) (w_a0_value : Addr) (k_w_a0_value : ClassId) (y0 : Int32) (y1 : Int32) (y2 : Int32) (y3 : Int32) (s_COMPACT_STRINGS : Int32) (s_SIOOBE_FORMATTER : Value) (h0 : Heap) (v : Option Value) (h : Heap) (L : List Loc) : Prop := ∃ (b bx : Addr) (kx : ClassId), v = some (.ref b) ∧ Fr n0 L ∧ Keep h0 h [] ∧ Est Z h b ∧ Fcd Z h b (.int (0 : Int32)) ∧ Fvl Z h b (.ref bx) ∧ Arv Z h bx kx .byte (1 : Int32) [(.int y3)] (.int (0 : Int32))
theorem efqs4_2 (m : MethodId) (a0 : Addr) : entryFrame m #[(.ref a0)] 2 = mkF m 0 #[rv a0, .unset] [] := by first | (simp [entryFrame, mkF, argsToLocals, Value.category]; done) | rfl
set_option maxRecDepth 65536 in
set_option maxHeartbeats 40000000 in
theorem rmqs4_2 (l : Launch) (Z : State) (aZ : Array Value) (hw : HW aZ Z) (ws : List Jvm.Cond) (a0 : Addr) (w_a0_value : Addr) (k_w_a0_value : ClassId) (y0 : Int32) (y1 : Int32) (y2 : Int32) (y3 : Int32) (s_COMPACT_STRINGS : Int32) (s_SIOOBE_FORMATTER : Value) (h0 : Heap) (n0 : Nat) (Z0 : n0 ≤ h0.size) (E_a0 : Est Z h0 a0) (F_a0_coder : Fcd Z h0 a0 (.int 0)) (F_a0_value : Fvl Z h0 a0 (.ref w_a0_value)) (V_w_a0_value : Arv Z h0 w_a0_value k_w_a0_value .byte (4 : Int32) [(.int y0), (.int y1), (.int y2), (.int y3)] (.int 0)) (S_COMPACT_STRINGS : SfC Z h0 (.int s_COMPACT_STRINGS)) (hcs : ¬ s_COMPACT_STRINGS = (0 : Int32)) (hk : (fiz4 y0 y1 y2 y3) = (2 : Int32)) (S_SIOOBE_FORMATTER : SfF Z h0 s_SIOOBE_FORMATTER) (rS_SIOOBE_FORMATTER : s_SIOOBE_FORMATTER.isRef = true) :
    MFn l (⟨"com/example/nephele/nephele/web/internal/RequestPath", "queryString", "(Ljava/lang/String;)Ljava/lang/String;"⟩ : MethodName) prog_24_method_3_code 2 (some (.object "java/lang/String")) ws (Rm 6 2 5 93) #[(.ref a0)] Z h0 (Qqs4_2 Z n0 a0 w_a0_value k_w_a0_value y0 y1 y2 y3 s_COMPACT_STRINGS s_SIOOBE_FORMATTER h0) := by
  refine own_mf (C := "com/example/nephele/nephele/web/internal/RequestPath") rfl (plainFor_of_name pn_274) (fun m => efqs4_2 m a0) ?_
  intro p e s m below meth cd0 s₁ En hx hby hml hown hnm hZ X0 e0 hlk hrt go0
  have N0 := Fr.nil n0
  have K0 : Keep h0 h0 [] := Keep.refl _ _
  have go1 : Go p.tables e below s₁ (mkF m 3 #[rv a0, .unset] [(.int 63), (.ref a0)]) En := by
    intro t k
    refine go0 _ ?_
    refine XS.aloadN X0.here hx rfl (hb hby d5_0) rfl rfl ?_
    refine XS.bipush X0.here hx rfl (hb hby d5_1) ?_
    exact k
  obtain ⟨_, T2, Lc2, X2, hQ2, st2⟩ := own_cv X0 hx hZ hown hml go1 (hb hby d5_3) e0 (hw _ (mi 31 rfl)) (own_site266 hw) E_a0 (rmiz4 l Z aZ hw [] a0 _ _ y0 y1 y2 y3 _ h0 n0 Z0 E_a0 F_a0_coder F_a0_value V_w_a0_value S_COMPACT_STRINGS hcs) (by decide) (argsL := [(.int 63)]) (rest := []) rfl rfl rfl (lenOf pd_267 rfl) (W := 0) rfl (by decide) (by decide) (by decide : 0 + 0 ≤ _) (by decide : 0 + 0 ≤ _)
  obtain ⟨rfl, N2q, e2⟩ := hQ2
  have N2 := Fr.app N0 N2q
  have go3 : Go p.tables e below T2 (mkF m 6 #[rv a0, .unset] [(.int 2)]) En := by
    have q := st2
    rw [hk] at q
    exact q
  have go4 : Go p.tables e below T2 (mkF m 19 #[rv a0, iv 2] [(.int 3), (.ref a0)]) En := by
    intro t k
    refine go3 _ ?_
    refine XS.istoreN X2.here hx rfl (hb hby d5_6) rfl (l' := #[rv a0, iv 2]) rfl ?_
    refine XS.iloadN X2.here hx rfl (hb hby d5_7) rfl ?_
    refine XS.ifYes X2.here hx rfl (pc0 := 8) (pc' := 15) rfl (hb hby d5_8) rfl (XT.i0_ge_t (by decide : ¬ ((2 : Int32) < (0 : Int32)))) (by decide) (by decide) ?_
    refine XS.aloadN X2.here hx rfl (hb hby d5_15) rfl rfl ?_
    refine XS.iloadN X2.here hx rfl (hb hby d5_16) rfl ?_
    show Steps _ _ _ (T2.setTop (mkF m 17 #[rv a0, iv 2] [(.int 2), (.ref a0)])) _
    refine XS.iconst X2.here hx rfl (hb hby d5_17) ?_
    refine XS.iadd X2.here hx rfl (hb hby d5_18) rfl ?_
    exact k
  obtain ⟨_, T5, Lc5, X5, hQ5, st5⟩ := own_cv X2 hx hZ hown hml go4 (hb hby d5_19) e2 (hw _ (mi 84 rfl)) (own_site364 hw) E_a0 (rmst4_2 l Z aZ hw [] a0 _ _ y0 y1 y2 y3 _ _ h0 n0 Z0 E_a0 F_a0_coder F_a0_value V_w_a0_value S_COMPACT_STRINGS hcs S_SIOOBE_FORMATTER rS_SIOOBE_FORMATTER) (by decide) (argsL := [(.int 3)]) (rest := []) rfl rfl rfl (lenOf pd_313 rfl) (W := 0) rfl (by decide) (by decide) (by decide : 0 + 2 ≤ _) (by decide : 0 + 5 ≤ _)
  obtain ⟨b5, bx5, kx5, rfl, N5q, K5q, GE5, GC5, GX5, GV5⟩ := hQ5
  have N5 := Fr.app N2 N5q
  have K5 : Keep h0 T5.heap [] := K0.trans K5q all0
  have Zs5 : n0 ≤ T5.heap.size := Nat.le_trans Z0 K5q.1
  refine own_out (w := (.ref b5)) X5 hx hlk st5 hrt rfl (Or.inr (Or.inr (Or.inr (Or.inr ⟨rfl, rfl, rfl⟩)))) (hb hby d5_22) rfl (by decide) (by decide) ?_
  exact ⟨b5, bx5, kx5, rfl, N5, K5, GE5, GC5, GX5, GV5⟩
def Qss4_3 (Z : State) (n0 : Nat) (a0 : Addr) (w_a0_value : Addr) (k_w_a0_value : ClassId) (y0 : Int32) (y1 : Int32) (y2 : Int32) (y3 : Int32) (s_COMPACT_STRINGS : Int32) (s_SIOOBE_FORMATTER : Value) (h0 : Heap) (v : Option Value) (h : Heap) (L : List Loc) : Prop := ∃ (b bx : Addr) (kx : ClassId), v = some (.ref b) ∧ Fr n0 L ∧ Keep h0 h [] ∧ Est Z h b ∧ Fcd Z h b (.int (0 : Int32)) ∧ Fvl Z h b (.ref bx) ∧ Arv Z h bx kx .byte (0 : Int32) [] (.int (0 : Int32))
theorem efss4_3 (m : MethodId) (a0 : Addr) : entryFrame m #[(.ref a0), (.int (4 : Int32)), (.int (4 : Int32))] 5 = mkF m 0 #[rv a0, iv (4 : Int32), iv (4 : Int32), .unset, .unset] [] := by first | (simp [entryFrame, mkF, argsToLocals, Value.category]; done) | rfl
abbrev Lss4_3_0 (a0 : Addr) : Array Slot := #[rv a0, iv 4, iv 4, iv 4, iv 0]
set_option maxRecDepth 65536 in
set_option maxHeartbeats 40000000 in
theorem rmss4_3 (l : Launch) (Z : State) (aZ : Array Value) (hw : HW aZ Z) (ws : List Jvm.Cond) (a0 : Addr) (w_a0_value : Addr) (k_w_a0_value : ClassId) (y0 : Int32) (y1 : Int32) (y2 : Int32) (y3 : Int32) (s_COMPACT_STRINGS : Int32) (s_SIOOBE_FORMATTER : Value) (h0 : Heap) (n0 : Nat) (Z0 : n0 ≤ h0.size) (E_a0 : Est Z h0 a0) (F_a0_coder : Fcd Z h0 a0 (.int 0)) (F_a0_value : Fvl Z h0 a0 (.ref w_a0_value)) (V_w_a0_value : Arv Z h0 w_a0_value k_w_a0_value .byte (4 : Int32) [(.int y0), (.int y1), (.int y2), (.int y3)] (.int 0)) (S_COMPACT_STRINGS : SfC Z h0 (.int s_COMPACT_STRINGS)) (hcs : ¬ s_COMPACT_STRINGS = (0 : Int32)) (S_SIOOBE_FORMATTER : SfF Z h0 s_SIOOBE_FORMATTER) (rS_SIOOBE_FORMATTER : s_SIOOBE_FORMATTER.isRef = true) (hkp : ∀ (b : Addr) (cl : Cell), Z.heap[b]? = some cl → h0[b]? = some cl) (hcn151 : Jvm.Lit.constHeld Z "java/lang/StringLatin1" 151) (hcw : Jvm.Lit.compactW.before aZ Z = true) :
    MetFree l (⟨"java/lang/String", "substring", "(II)Ljava/lang/String;"⟩ : MethodName) (head1 (Jvm.Cond.code (⟨"java/lang/String", "substring", "(II)Ljava/lang/String;"⟩ : MethodName) jdk_42_method_92_code 5 (some (.object "java/lang/String")) :: ws) ({ frames := 2, cells := 2, slots := 4, locals := 29 } : Room)) (fun a U => a = #[(.ref a0), (.int 4), (.int 4)] ∧ Z.Warmed39 U.vm ∧ U.heap = h0 ∧ IB Z U.vm []) (fun _ _ _ _ _ => True) (fun _ U o U' => ∃ v L, o = .returned v ∧ Qss4_3 Z n0 a0 w_a0_value k_w_a0_value y0 y1 y2 y3 s_COMPACT_STRINGS s_SIOOBE_FORMATTER h0 v U'.heap L ∧ ReturnedEndW U o U' L ({ frames := 2, cells := 2, slots := 4, locals := 29 } : Room).cells ({ frames := 2, cells := 2, slots := 4, locals := 29 } : Room).slots) := by
  refine MetFree.of_bodySF (plainFor_of_name pn_15) hisR ?_
  intro p e s m args below meth c s₁ Bd hml0 hP hK
  obtain ⟨rfl, hZ, hh, IB0⟩ := hP
  have hx := Bd.exec
  have hby := Bd.bytes
  have hml : c.maxLocals = 5 := hml0
  have hown : s.vm.findClass "java/lang/String" = some m.cls := findClass_of_methodNamed Bd.named
  have hnm := (name_of_methodNamed Bd.named Bd.method).1
  have X0 : Stand p l e ({ frames := 2, cells := 2, slots := 4, locals := 29 } : Room) (s.setVm s.vm) m #[(.ref a0), (.int 4), (.int 4)] below meth c s₁ [] 0 0 := Stand.of_body Bd
  have e0 : s₁.heap = h0 := by rw [← hh, Bd.state]; rfl
  have N0 := Fr.nil n0
  have K0 : Keep h0 h0 [] := Keep.refl _ _
  obtain ⟨En, hEn⟩ : ∃ z, z = (s₁.setTop (entryFrame m #[(.ref a0), (.int 4), (.int 4)] 5)) := ⟨_, rfl⟩
  have go0 : Go p.tables e below s₁ (mkF m 0 #[rv a0, iv 4, iv 4, .unset, .unset] []) En := fun t k => by subst hEn; exact castTop (efss4_3 m a0) k
  have hS0 : s.Since s.vm s.heap.size := (State.WarmedH.refl s).since _
  have hk0 : s.heap.size ≤ h0.size := by rw [← hh]; exact Nat.le_refl _
  have hkS : ∀ (b : Addr) (cl : Cell), Z.heap[b]? = some cl → s.heap[b]? = some cl := fun b cl q => by rw [hh]; exact hkp b cl q
  have go1 : Go p.tables e below s₁ (mkF m 1 #[rv a0, iv 4, iv 4, .unset, .unset] [(.ref a0)]) En := by
    intro t k
    refine go0 _ ?_
    refine XS.aloadN X0.here hx rfl (hb hby d20_0) rfl rfl ?_
    exact k
  obtain ⟨_, T2, Lc2, X2, hQ2, st2⟩ := own_cv X0 hx hZ hown hml go1 (hb hby d20_1) e0 (hw _ (mi 47 rfl)) (own_site185 hw) E_a0 (rmln l Z aZ hw [] a0 _ _ _ _ _ h0 n0 Z0 E_a0 F_a0_coder F_a0_value V_w_a0_value S_COMPACT_STRINGS hcs) (by decide) (argsL := []) (rest := []) rfl rfl rfl (lenOf pd_186 rfl) (W := 0) rfl (by decide) (by decide) (by decide : 0 + 0 ≤ _) (by decide : 0 + 0 ≤ _)
  obtain ⟨rfl, N2q, e2⟩ := hQ2
  have N2 := Fr.app N0 N2q
  have go3 : Go p.tables e below T2 (mkF m 8 #[rv a0, iv 4, iv 4, iv 4, .unset] [(.int 4), (.int 4), (.int 4)]) En := by
    intro t k
    refine st2 _ ?_
    refine XS.istoreN X2.here hx rfl (hb hby d20_4) rfl (l' := #[rv a0, iv 4, iv 4, iv 4, .unset]) rfl ?_
    refine XS.iloadN X2.here hx rfl (hb hby d20_5) rfl ?_
    refine XS.iloadN X2.here hx rfl (hb hby d20_6) rfl ?_
    refine XS.iloadN X2.here hx rfl (hb hby d20_7) rfl ?_
    exact k
  obtain ⟨_, T4, Lc4, X4, hQ4, st4⟩ := own_cs X2 hx hZ hown hml go3 (hb hby d20_8) e2 (hw _ (mi 94 rfl)) (own_site282 hw) (rmcbb l Z aZ hw [] (4 : Int32) (4 : Int32) (4 : Int32) _ h0 n0 Z0 S_SIOOBE_FORMATTER rS_SIOOBE_FORMATTER (by decide) (by decide) (by decide)) (by decide) (argsL := [(.int 4), (.int 4), (.int 4)]) (rest := []) rfl rfl rfl (lenOf pd_283 rfl) (W := 0) rfl (by decide) (by decide) (by decide : 0 + 0 ≤ _) (by decide : 0 + 0 ≤ _)
  obtain ⟨rfl, N4q, e4⟩ := hQ4
  have N4 := Fr.app N2 N4q
  have go5 : Go p.tables e below T4 (mkF m 28 (Lss4_3_0 a0) [(.ref a0)]) En := by
    intro t k
    refine st4 _ ?_
    refine XS.iloadN X4.here hx rfl (hb hby d20_11) rfl ?_
    refine XS.ifYes X4.here hx rfl (pc0 := 12) (pc' := 22) rfl (hb hby d20_12) rfl (XT.i0_ne_t (by decide : ¬ ((4 : Int32) = (0 : Int32)))) (by decide) (by decide) ?_
    refine XS.iloadN X4.here hx rfl (hb hby d20_22) rfl ?_
    refine XS.iloadN X4.here hx rfl (hb hby d20_23) rfl ?_
    refine XS.isub X4.here hx rfl (hb hby d20_24) rfl ?_
    show Steps _ _ _ (T4.setTop (mkF m 25 #[rv a0, iv 4, iv 4, iv 4, .unset] [(.int 0)])) _
    refine XS.istore X4.here hx rfl (hb hby d20_25) rfl (l' := (Lss4_3_0 a0)) rfl ?_
    refine XS.aloadN X4.here hx rfl (hb hby d20_27) rfl rfl ?_
    exact k
  obtain ⟨_, T6, Lc6, X6, hQ6, st6⟩ := own_cv X4 hx hZ hown hml go5 (hb hby d20_28) e4 (hw _ (mi 41 rfl)) (own_site176 hw) E_a0 (rmil l Z aZ hw [] a0 _ h0 n0 Z0 S_COMPACT_STRINGS hcs F_a0_coder) (by decide) (argsL := []) (rest := []) rfl rfl rfl (lenOf pd_177 rfl) (W := 0) rfl (by decide) (by decide) (by decide : 0 + 0 ≤ _) (by decide : 0 + 0 ≤ _)
  obtain ⟨rfl, N6q, e6⟩ := hQ6
  have N6 := Fr.app N4 N6q
  have go7 : Go p.tables e below T6 (mkF m 35 (Lss4_3_0 a0) [(.ref a0)]) En := by
    intro t k
    refine st6 _ ?_
    refine XS.ifNo X6.here hx rfl (hb hby d20_31) rfl (XT.i0_eq_f (by decide : ¬ ((1 : Int32) = (0 : Int32)))) ?_
    refine XS.aloadN X6.here hx rfl (hb hby d20_34) rfl rfl ?_
    exact k
  obtain ⟨T8, X8, e8, st8⟩ := getF X6 hx hZ hown (host := "") (Or.inl (hw _ (mi 25 rfl))) Via.refl e6 F_a0_value (g := (mkF m 35 (Lss4_3_0 a0) [(.ref a0)])) rfl rfl (hb hby d20_35)
  have go9 := gap go7 st8
  have go10 : Go p.tables e below T8 (mkF m 41 (Lss4_3_0 a0) [(.int 0), (.int 4), (.ref w_a0_value)]) En := by
    intro t k
    refine go9 _ ?_
    refine XS.iloadN X8.here hx rfl (hb hby d20_38) rfl ?_
    refine XS.iload X8.here hx rfl (hb hby d20_39) rfl ?_
    exact k
  obtain ⟨_, _, ⟨T11, L11, k11, n11⟩, -, X11q, hS11q, hg11, ⟨Lc11, hQ11, l11, y11, z11⟩, st11⟩ := callSS X8 hx (y := (⟨"java/lang/StringLatin1", "newString", "([BII)Ljava/lang/String;"⟩ : MethodName)) hown (mvT hZ (hw _ (mi 102 rfl))) (mvT hZ (hw _ (mi 103 rfl))) (mvT hZ (hw _ (mi 59 rfl))) (mvT hZ (hw _ (mi 104 rfl))) (by decide) (own_backOfSI (W := 0) (rmns0 l Z aZ hw [] w_a0_value (4 : Int32) h0 n0 Z0 hkp hcn151 hcw) hZ (hw _ (mi 104 rfl)) (hw _ (mi 59 rfl)) (by decide) (by decide) IB0) (g := (mkF m 41 (Lss4_3_0 a0) [(.int 0), (.int 4), (.ref w_a0_value)])) rfl (by rw [hml]; rfl) (argsL := [(.ref w_a0_value), (.int 4), (.int 0)]) (rest := []) (lenOf pd_298 rfl) rfl (by show 2 * 0 + _ ≤ _; exact Nat.le_of_eq rfl) (hb hby d20_41) (fun _ _ => ⟨rfl, e8, (by decide : 0 + 2 ≤ _), (by decide : 0 + 4 ≤ _)⟩)
  dsimp only [Pt.U, Pt.locs, Pt.cells, Pt.slots] at X11q hS11q hg11 l11 y11 z11 st11 hQ11
  subst l11 y11 z11
  have hk11q : s.heap.size ≤ T8.heap.size := by rw [e8]; exact hk0
  obtain ⟨X11, hS11, hZ11, hown11⟩ := rebS hS0 hk11q X11q hS11q hg11 hZ hown
  have hk11r : T11.heap.size ≤ T11.heap.size := Nat.le_refl _
  obtain ⟨b11, bx11, kx11, rfl, N11q, K11q, GE11, GC11, GX11, GV11⟩ := hQ11
  have N11 := Fr.app N6 N11q
  have K11 : Keep h0 T11.heap [] := K0.trans K11q all0
  have Zs11 : n0 ≤ T11.heap.size := Nat.le_trans Z0 K11q.1
  have hk11 : s.heap.size ≤ T11.heap.size := Nat.le_trans hk0 K11q.1
  have go12 := gapT go10 st11
  have go13 : Go p.tables e below T11 (mkF m 57 (Lss4_3_0 a0) [(.ref b11)]) En := by
    intro t k
    refine go12 _ ?_
    refine XS.goto X11.here hx rfl (pc0 := 44) (pc' := 57) rfl (hb hby d20_44) (by decide) (by decide) ?_
    exact k
  obtain ⟨fs, hr, hrun, hended, hRW⟩ := X11.leaveW hS11 (hk11r) (v := some (.ref b11)) (fun h => by rw [Bd.returns] at h; cases h) Bd.notSynchronized
  subst hEn
  refine ⟨_, _, go13 _ (Jvm.RoadKit.retOut X11 hx Bd.returns rfl (Or.inr (Or.inr (Or.inr (Or.inr ⟨rfl, rfl, rfl⟩)))) (hb hby d20_57) hr), hrun, hended, _, _, rfl, ?_, hRW.1, hRW.2.1, hRW.2.2.1, hRW.2.2.2.mono (by decide) (by decide)⟩
  show Qss4_3 _ _ a0 w_a0_value k_w_a0_value y0 y1 y2 y3 s_COMPACT_STRINGS s_SIOOBE_FORMATTER h0 _ (T11.setFrames fs).heap _
  have hE : (T11.setFrames fs).heap = T11.heap := rfl
  rw [hE]
  exact ⟨b11, bx11, kx11, rfl, N11, K11, GE11, GC11, GX11, GV11⟩
def Qst4_3 (Z : State) (n0 : Nat) (a0 : Addr) (w_a0_value : Addr) (k_w_a0_value : ClassId) (y0 : Int32) (y1 : Int32) (y2 : Int32) (y3 : Int32) (s_COMPACT_STRINGS : Int32) (s_SIOOBE_FORMATTER : Value) (h0 : Heap) (v : Option Value) (h : Heap) (L : List Loc) : Prop := ∃ (b bx : Addr) (kx : ClassId), v = some (.ref b) ∧ Fr n0 L ∧ Keep h0 h [] ∧ Est Z h b ∧ Fcd Z h b (.int (0 : Int32)) ∧ Fvl Z h b (.ref bx) ∧ Arv Z h bx kx .byte (0 : Int32) [] (.int (0 : Int32))
theorem efst4_3 (m : MethodId) (a0 : Addr) : entryFrame m #[(.ref a0), (.int (4 : Int32))] 2 = mkF m 0 #[rv a0, iv (4 : Int32)] [] := by first | (simp [entryFrame, mkF, argsToLocals, Value.category]; done) | rfl
set_option maxRecDepth 65536 in
set_option maxHeartbeats 40000000 in
theorem rmst4_3 (l : Launch) (Z : State) (aZ : Array Value) (hw : HW aZ Z) (ws : List Jvm.Cond) (a0 : Addr) (w_a0_value : Addr) (k_w_a0_value : ClassId) (y0 : Int32) (y1 : Int32) (y2 : Int32) (y3 : Int32) (s_COMPACT_STRINGS : Int32) (s_SIOOBE_FORMATTER : Value) (h0 : Heap) (n0 : Nat) (Z0 : n0 ≤ h0.size) (E_a0 : Est Z h0 a0) (F_a0_coder : Fcd Z h0 a0 (.int 0)) (F_a0_value : Fvl Z h0 a0 (.ref w_a0_value)) (V_w_a0_value : Arv Z h0 w_a0_value k_w_a0_value .byte (4 : Int32) [(.int y0), (.int y1), (.int y2), (.int y3)] (.int 0)) (S_COMPACT_STRINGS : SfC Z h0 (.int s_COMPACT_STRINGS)) (hcs : ¬ s_COMPACT_STRINGS = (0 : Int32)) (S_SIOOBE_FORMATTER : SfF Z h0 s_SIOOBE_FORMATTER) (rS_SIOOBE_FORMATTER : s_SIOOBE_FORMATTER.isRef = true) (hkp : ∀ (b : Addr) (cl : Cell), Z.heap[b]? = some cl → h0[b]? = some cl) (hcn151 : Jvm.Lit.constHeld Z "java/lang/StringLatin1" 151) (hcw : Jvm.Lit.compactW.before aZ Z = true) :
    MetFree l (⟨"java/lang/String", "substring", "(I)Ljava/lang/String;"⟩ : MethodName) (head1 (Jvm.Cond.code (⟨"java/lang/String", "substring", "(I)Ljava/lang/String;"⟩ : MethodName) jdk_42_method_91_code 2 (some (.object "java/lang/String")) :: ws) ({ frames := 3, cells := 2, slots := 4, locals := 45 } : Room)) (fun a U => a = #[(.ref a0), (.int 4)] ∧ Z.Warmed39 U.vm ∧ U.heap = h0 ∧ IB Z U.vm []) (fun _ _ _ _ _ => True) (fun _ U o U' => ∃ v L, o = .returned v ∧ Qst4_3 Z n0 a0 w_a0_value k_w_a0_value y0 y1 y2 y3 s_COMPACT_STRINGS s_SIOOBE_FORMATTER h0 v U'.heap L ∧ ReturnedEndW U o U' L ({ frames := 3, cells := 2, slots := 4, locals := 45 } : Room).cells ({ frames := 3, cells := 2, slots := 4, locals := 45 } : Room).slots) := by
  refine MetFree.of_bodySF (plainFor_of_name pn_15) hisR ?_
  intro p e s m args below meth c s₁ Bd hml0 hP hK
  obtain ⟨rfl, hZ, hh, IB0⟩ := hP
  have hx := Bd.exec
  have hby := Bd.bytes
  have hml : c.maxLocals = 2 := hml0
  have hown : s.vm.findClass "java/lang/String" = some m.cls := findClass_of_methodNamed Bd.named
  have hnm := (name_of_methodNamed Bd.named Bd.method).1
  have X0 : Stand p l e ({ frames := 3, cells := 2, slots := 4, locals := 45 } : Room) (s.setVm s.vm) m #[(.ref a0), (.int 4)] below meth c s₁ [] 0 0 := Stand.of_body Bd
  have e0 : s₁.heap = h0 := by rw [← hh, Bd.state]; rfl
  have N0 := Fr.nil n0
  have K0 : Keep h0 h0 [] := Keep.refl _ _
  obtain ⟨En, hEn⟩ : ∃ z, z = (s₁.setTop (entryFrame m #[(.ref a0), (.int 4)] 2)) := ⟨_, rfl⟩
  have go0 : Go p.tables e below s₁ (mkF m 0 #[rv a0, iv 4] []) En := fun t k => by subst hEn; exact castTop (efst4_3 m a0) k
  have hS0 : s.Since s.vm s.heap.size := (State.WarmedH.refl s).since _
  have hk0 : s.heap.size ≤ h0.size := by rw [← hh]; exact Nat.le_refl _
  have hkS : ∀ (b : Addr) (cl : Cell), Z.heap[b]? = some cl → s.heap[b]? = some cl := fun b cl q => by rw [hh]; exact hkp b cl q
  have go1 : Go p.tables e below s₁ (mkF m 3 #[rv a0, iv 4] [(.ref a0), (.int 4), (.ref a0)]) En := by
    intro t k
    refine go0 _ ?_
    refine XS.aloadN X0.here hx rfl (hb hby d19_0) rfl rfl ?_
    refine XS.iloadN X0.here hx rfl (hb hby d19_1) rfl ?_
    refine XS.aloadN X0.here hx rfl (hb hby d19_2) rfl rfl ?_
    exact k
  obtain ⟨_, T2, Lc2, X2, hQ2, st2⟩ := own_cv X0 hx hZ hown hml go1 (hb hby d19_3) e0 (hw _ (mi 47 rfl)) (own_site185 hw) E_a0 (rmln l Z aZ hw [] a0 _ _ _ _ _ h0 n0 Z0 E_a0 F_a0_coder F_a0_value V_w_a0_value S_COMPACT_STRINGS hcs) (by decide) (argsL := []) (rest := [(.int 4), (.ref a0)]) rfl rfl rfl (lenOf pd_186 rfl) (W := 2) rfl (by decide) (by decide) (by decide : 0 + 0 ≤ _) (by decide : 0 + 0 ≤ _)
  obtain ⟨rfl, N2q, e2⟩ := hQ2
  have N2 := Fr.app N0 N2q
  obtain ⟨cq3, kq3, q3a, q3b, q3c⟩ := isOf hZ e2 E_a0
  obtain ⟨_, _, ⟨T3, L3, k3, n3⟩, -, X3q, hS3q, hg3, ⟨Lc3, hQ3, l3, y3, z3⟩, st3⟩ := X2.virtualBackS hx (y := (⟨"java/lang/String", "substring", "(II)Ljava/lang/String;"⟩ : MethodName)) (z := (⟨"java/lang/String", "substring", "(II)Ljava/lang/String;"⟩ : MethodName)) hown (mvT hZ (hw _ (mi 89 rfl))) (mvT hZ (hw _ (mi 90 rfl))) (notFace_of_selects (args := #[]) (mvT hZ (hw _ (mi 92 rfl)))) (mvT hZ (hw _ (mi 92 rfl))) (mvT hZ (hw _ (mi 91 rfl))) (by decide) (own_backOfSI (W := 0) (rmss4_3 l Z aZ hw [] a0 _ _ y0 y1 y2 y3 _ _ h0 n0 Z0 E_a0 F_a0_coder F_a0_value V_w_a0_value S_COMPACT_STRINGS hcs S_SIOOBE_FORMATTER rS_SIOOBE_FORMATTER hkp hcn151 hcw) hZ (hw _ (mi 93 rfl)) (hw _ (mi 8 rfl)) (by decide) (by decide) IB0) q3a q3c (g := (mkF m 6 #[rv a0, iv 4] [(.int 4), (.int 4), (.ref a0)])) rfl (by rw [hml]; rfl) (Steps.refl _) (argsL := [(.int 4), (.int 4)]) (rest := []) (lenOf pd_306 rfl) rfl (by show 2 * 0 + _ ≤ _; exact Nat.le_of_eq rfl) (hb hby d19_6) (fun _ _ => ⟨rfl, e2, (by decide : 0 + 2 ≤ _), (by decide : 0 + 4 ≤ _)⟩)
  dsimp only [Pt.U, Pt.locs, Pt.cells, Pt.slots] at X3q hS3q hg3 l3 y3 z3 st3 hQ3
  subst l3 y3 z3
  have hk3q : s.heap.size ≤ T2.heap.size := by rw [e2]; exact hk0
  obtain ⟨X3, hS3, hZ3, hown3⟩ := rebS hS0 hk3q X3q hS3q hg3 hZ hown
  have hk3r : T3.heap.size ≤ T3.heap.size := Nat.le_refl _
  obtain ⟨b3, bx3, kx3, rfl, N3q, K3q, GE3, GC3, GX3, GV3⟩ := hQ3
  have N3 := Fr.app N2 N3q
  have K3 : Keep h0 T3.heap [] := K0.trans K3q all0
  have Zs3 : n0 ≤ T3.heap.size := Nat.le_trans Z0 K3q.1
  have hk3 : s.heap.size ≤ T3.heap.size := Nat.le_trans hk0 K3q.1
  have go4 := gapT st2 st3
  obtain ⟨fs, hr, hrun, hended, hRW⟩ := X3.leaveW hS3 (hk3r) (v := some (.ref b3)) (fun h => by rw [Bd.returns] at h; cases h) Bd.notSynchronized
  subst hEn
  refine ⟨_, _, go4 _ (Jvm.RoadKit.retOut X3 hx Bd.returns rfl (Or.inr (Or.inr (Or.inr (Or.inr ⟨rfl, rfl, rfl⟩)))) (hb hby d19_9) hr), hrun, hended, _, _, rfl, ?_, hRW.1, hRW.2.1, hRW.2.2.1, hRW.2.2.2.mono (by decide) (by decide)⟩
  show Qst4_3 _ _ a0 w_a0_value k_w_a0_value y0 y1 y2 y3 s_COMPACT_STRINGS s_SIOOBE_FORMATTER h0 _ (T3.setFrames fs).heap _
  have hE : (T3.setFrames fs).heap = T3.heap := rfl
  rw [hE]
  exact ⟨b3, bx3, kx3, rfl, N3, K3, GE3, GC3, GX3, GV3⟩
def Qqs4_3 (Z : State) (n0 : Nat) (a0 : Addr) (w_a0_value : Addr) (k_w_a0_value : ClassId) (y0 : Int32) (y1 : Int32) (y2 : Int32) (y3 : Int32) (s_COMPACT_STRINGS : Int32) (s_SIOOBE_FORMATTER : Value) (h0 : Heap) (v : Option Value) (h : Heap) (L : List Loc) : Prop := ∃ (b bx : Addr) (kx : ClassId), v = some (.ref b) ∧ Fr n0 L ∧ Keep h0 h [] ∧ Est Z h b ∧ Fcd Z h b (.int (0 : Int32)) ∧ Fvl Z h b (.ref bx) ∧ Arv Z h bx kx .byte (0 : Int32) [] (.int (0 : Int32))
theorem efqs4_3 (m : MethodId) (a0 : Addr) : entryFrame m #[(.ref a0)] 2 = mkF m 0 #[rv a0, .unset] [] := by first | (simp [entryFrame, mkF, argsToLocals, Value.category]; done) | rfl
set_option maxRecDepth 65536 in
set_option maxHeartbeats 40000000 in
theorem rmqs4_3 (l : Launch) (Z : State) (aZ : Array Value) (hw : HW aZ Z) (ws : List Jvm.Cond) (a0 : Addr) (w_a0_value : Addr) (k_w_a0_value : ClassId) (y0 : Int32) (y1 : Int32) (y2 : Int32) (y3 : Int32) (s_COMPACT_STRINGS : Int32) (s_SIOOBE_FORMATTER : Value) (h0 : Heap) (n0 : Nat) (Z0 : n0 ≤ h0.size) (E_a0 : Est Z h0 a0) (F_a0_coder : Fcd Z h0 a0 (.int 0)) (F_a0_value : Fvl Z h0 a0 (.ref w_a0_value)) (V_w_a0_value : Arv Z h0 w_a0_value k_w_a0_value .byte (4 : Int32) [(.int y0), (.int y1), (.int y2), (.int y3)] (.int 0)) (S_COMPACT_STRINGS : SfC Z h0 (.int s_COMPACT_STRINGS)) (hcs : ¬ s_COMPACT_STRINGS = (0 : Int32)) (hk : (fiz4 y0 y1 y2 y3) = (3 : Int32)) (S_SIOOBE_FORMATTER : SfF Z h0 s_SIOOBE_FORMATTER) (rS_SIOOBE_FORMATTER : s_SIOOBE_FORMATTER.isRef = true) (hkp : ∀ (b : Addr) (cl : Cell), Z.heap[b]? = some cl → h0[b]? = some cl) (hcn151 : Jvm.Lit.constHeld Z "java/lang/StringLatin1" 151) (hcw : Jvm.Lit.compactW.before aZ Z = true) :
    MetFree l (⟨"com/example/nephele/nephele/web/internal/RequestPath", "queryString", "(Ljava/lang/String;)Ljava/lang/String;"⟩ : MethodName) (head1 (Jvm.Cond.code (⟨"com/example/nephele/nephele/web/internal/RequestPath", "queryString", "(Ljava/lang/String;)Ljava/lang/String;"⟩ : MethodName) prog_24_method_3_code 2 (some (.object "java/lang/String")) :: ws) ({ frames := 4, cells := 2, slots := 4, locals := 59 } : Room)) (fun a U => a = #[(.ref a0)] ∧ Z.Warmed39 U.vm ∧ U.heap = h0 ∧ IB Z U.vm []) (fun _ _ _ _ _ => True) (fun _ U o U' => ∃ v L, o = .returned v ∧ Qqs4_3 Z n0 a0 w_a0_value k_w_a0_value y0 y1 y2 y3 s_COMPACT_STRINGS s_SIOOBE_FORMATTER h0 v U'.heap L ∧ ReturnedEndW U o U' L ({ frames := 4, cells := 2, slots := 4, locals := 59 } : Room).cells ({ frames := 4, cells := 2, slots := 4, locals := 59 } : Room).slots) := by
  refine MetFree.of_bodySF (plainFor_of_name pn_274) hisR ?_
  intro p e s m args below meth c s₁ Bd hml0 hP hK
  obtain ⟨rfl, hZ, hh, IB0⟩ := hP
  have hx := Bd.exec
  have hby := Bd.bytes
  have hml : c.maxLocals = 2 := hml0
  have hown : s.vm.findClass "com/example/nephele/nephele/web/internal/RequestPath" = some m.cls := findClass_of_methodNamed Bd.named
  have hnm := (name_of_methodNamed Bd.named Bd.method).1
  have X0 : Stand p l e ({ frames := 4, cells := 2, slots := 4, locals := 59 } : Room) (s.setVm s.vm) m #[(.ref a0)] below meth c s₁ [] 0 0 := Stand.of_body Bd
  have e0 : s₁.heap = h0 := by rw [← hh, Bd.state]; rfl
  have N0 := Fr.nil n0
  have K0 : Keep h0 h0 [] := Keep.refl _ _
  obtain ⟨En, hEn⟩ : ∃ z, z = (s₁.setTop (entryFrame m #[(.ref a0)] 2)) := ⟨_, rfl⟩
  have go0 : Go p.tables e below s₁ (mkF m 0 #[rv a0, .unset] []) En := fun t k => by subst hEn; exact castTop (efqs4_3 m a0) k
  have hS0 : s.Since s.vm s.heap.size := (State.WarmedH.refl s).since _
  have hk0 : s.heap.size ≤ h0.size := by rw [← hh]; exact Nat.le_refl _
  have hkS : ∀ (b : Addr) (cl : Cell), Z.heap[b]? = some cl → s.heap[b]? = some cl := fun b cl q => by rw [hh]; exact hkp b cl q
  have go1 : Go p.tables e below s₁ (mkF m 3 #[rv a0, .unset] [(.int 63), (.ref a0)]) En := by
    intro t k
    refine go0 _ ?_
    refine XS.aloadN X0.here hx rfl (hb hby d5_0) rfl rfl ?_
    refine XS.bipush X0.here hx rfl (hb hby d5_1) ?_
    exact k
  obtain ⟨_, T2, Lc2, X2, hQ2, st2⟩ := own_cv X0 hx hZ hown hml go1 (hb hby d5_3) e0 (hw _ (mi 31 rfl)) (own_site266 hw) E_a0 (rmiz4 l Z aZ hw [] a0 _ _ y0 y1 y2 y3 _ h0 n0 Z0 E_a0 F_a0_coder F_a0_value V_w_a0_value S_COMPACT_STRINGS hcs) (by decide) (argsL := [(.int 63)]) (rest := []) rfl rfl rfl (lenOf pd_267 rfl) (W := 0) rfl (by decide) (by decide) (by decide : 0 + 0 ≤ _) (by decide : 0 + 0 ≤ _)
  obtain ⟨rfl, N2q, e2⟩ := hQ2
  have N2 := Fr.app N0 N2q
  have go3 : Go p.tables e below T2 (mkF m 6 #[rv a0, .unset] [(.int 3)]) En := by
    have q := st2
    rw [hk] at q
    exact q
  have go4 : Go p.tables e below T2 (mkF m 19 #[rv a0, iv 3] [(.int 4), (.ref a0)]) En := by
    intro t k
    refine go3 _ ?_
    refine XS.istoreN X2.here hx rfl (hb hby d5_6) rfl (l' := #[rv a0, iv 3]) rfl ?_
    refine XS.iloadN X2.here hx rfl (hb hby d5_7) rfl ?_
    refine XS.ifYes X2.here hx rfl (pc0 := 8) (pc' := 15) rfl (hb hby d5_8) rfl (XT.i0_ge_t (by decide : ¬ ((3 : Int32) < (0 : Int32)))) (by decide) (by decide) ?_
    refine XS.aloadN X2.here hx rfl (hb hby d5_15) rfl rfl ?_
    refine XS.iloadN X2.here hx rfl (hb hby d5_16) rfl ?_
    show Steps _ _ _ (T2.setTop (mkF m 17 #[rv a0, iv 3] [(.int 3), (.ref a0)])) _
    refine XS.iconst X2.here hx rfl (hb hby d5_17) ?_
    refine XS.iadd X2.here hx rfl (hb hby d5_18) rfl ?_
    exact k
  obtain ⟨cq5, kq5, q5a, q5b, q5c⟩ := isOf hZ e2 E_a0
  obtain ⟨_, _, ⟨T5, L5, k5, n5⟩, -, X5q, hS5q, hg5, ⟨Lc5, hQ5, l5, y5, z5⟩, st5⟩ := X2.virtualBackS hx (y := (⟨"java/lang/String", "substring", "(I)Ljava/lang/String;"⟩ : MethodName)) (z := (⟨"java/lang/String", "substring", "(I)Ljava/lang/String;"⟩ : MethodName)) hown (mvT hZ (hw _ (mi 84 rfl))) (mvT hZ (hw _ (mi 85 rfl))) (notFace_of_selects (args := #[]) (mvT hZ (hw _ (mi 87 rfl)))) (mvT hZ (hw _ (mi 87 rfl))) (mvT hZ (hw _ (mi 86 rfl))) (by decide) (own_backOfSI (W := 0) (rmst4_3 l Z aZ hw [] a0 _ _ y0 y1 y2 y3 _ _ h0 n0 Z0 E_a0 F_a0_coder F_a0_value V_w_a0_value S_COMPACT_STRINGS hcs S_SIOOBE_FORMATTER rS_SIOOBE_FORMATTER hkp hcn151 hcw) hZ (hw _ (mi 88 rfl)) (hw _ (mi 8 rfl)) (by decide) (by decide) IB0) q5a q5c (g := (mkF m 19 #[rv a0, iv 3] [(.int 4), (.ref a0)])) rfl (by rw [hml]; rfl) (Steps.refl _) (argsL := [(.int 4)]) (rest := []) (lenOf pd_313 rfl) rfl (by show 2 * 0 + _ ≤ _; exact Nat.le_of_eq rfl) (hb hby d5_19) (fun _ _ => ⟨rfl, e2, (by decide : 0 + 2 ≤ _), (by decide : 0 + 4 ≤ _)⟩)
  dsimp only [Pt.U, Pt.locs, Pt.cells, Pt.slots] at X5q hS5q hg5 l5 y5 z5 st5 hQ5
  subst l5 y5 z5
  have hk5q : s.heap.size ≤ T2.heap.size := by rw [e2]; exact hk0
  obtain ⟨X5, hS5, hZ5, hown5⟩ := rebS hS0 hk5q X5q hS5q hg5 hZ hown
  have hk5r : T5.heap.size ≤ T5.heap.size := Nat.le_refl _
  obtain ⟨b5, bx5, kx5, rfl, N5q, K5q, GE5, GC5, GX5, GV5⟩ := hQ5
  have N5 := Fr.app N2 N5q
  have K5 : Keep h0 T5.heap [] := K0.trans K5q all0
  have Zs5 : n0 ≤ T5.heap.size := Nat.le_trans Z0 K5q.1
  have hk5 : s.heap.size ≤ T5.heap.size := Nat.le_trans hk0 K5q.1
  have go6 := gapT go4 st5
  obtain ⟨fs, hr, hrun, hended, hRW⟩ := X5.leaveW hS5 (hk5r) (v := some (.ref b5)) (fun h => by rw [Bd.returns] at h; cases h) Bd.notSynchronized
  subst hEn
  refine ⟨_, _, go6 _ (Jvm.RoadKit.retOut X5 hx Bd.returns rfl (Or.inr (Or.inr (Or.inr (Or.inr ⟨rfl, rfl, rfl⟩)))) (hb hby d5_22) hr), hrun, hended, _, _, rfl, ?_, hRW.1, hRW.2.1, hRW.2.2.1, hRW.2.2.2.mono (by decide) (by decide)⟩
  show Qqs4_3 _ _ a0 w_a0_value k_w_a0_value y0 y1 y2 y3 s_COMPACT_STRINGS s_SIOOBE_FORMATTER h0 _ (T5.setFrames fs).heap _
  have hE : (T5.setFrames fs).heap = T5.heap := rfl
  rw [hE]
  exact ⟨b5, bx5, kx5, rfl, N5, K5, GE5, GC5, GX5, GV5⟩
theorem d31_0 : decode jdk_41_method_11_code 0 = .ok (.iload_n 0, 1) := by decide +kernel
theorem d31_1 : decode jdk_41_method_11_code 1 = .ok (.ifCond .lt 8, 3) := by decide +kernel
theorem d31_4 : decode jdk_41_method_11_code 4 = .ok (.iload_n 0, 1) := by decide +kernel
theorem d31_5 : decode jdk_41_method_11_code 5 = .ok (.iload_n 1, 1) := by decide +kernel
theorem d31_6 : decode jdk_41_method_11_code 6 = .ok (.if_icmp .lt 10, 3) := by decide +kernel
theorem d31_16 : decode jdk_41_method_11_code 16 = .ok (.iload_n 0, 1) := by decide +kernel
theorem d31_17 : decode jdk_41_method_11_code 17 = .ok (.ireturn, 1) := by decide +kernel
theorem efpci (m : MethodId) (p0 : Int32) (p1 : Int32) (u2 : Value) (h0 : u2.isRef = true) : entryFrame m #[(.int p0), (.int p1), u2] 3 = mkF m 0 #[iv p0, iv p1, .val u2] [] := by rcases XT.refc h0 with rfl | ⟨_, rfl⟩ <;> first | (simp [entryFrame, mkF, argsToLocals, Value.category]; done) | rfl
set_option maxRecDepth 65536 in
set_option maxHeartbeats 40000000 in
theorem rmpci (l : Launch) (Z : State) (aZ : Array Value) (hw : HW aZ Z) (ws : List Jvm.Cond) (p0 : Int32) (p1 : Int32) (u2 : Value) (h0 : Heap) (n0 : Nat) (Z0 : n0 ≤ h0.size) (hn : ¬ p0 < (0 : Int32)) (hl : p0 < p1) (hu : u2.isRef = true) :
    MFn l (⟨"jdk/internal/util/Preconditions", "checkIndex", "(IILjava/util/function/BiFunction;)I"⟩ : MethodName) jdk_41_method_11_code 3 (some .int) ws (Rm 0 0 0 0) #[(.int p0), (.int p1), u2] Z h0 (QP n0 h0 (some (.int p0))) := by
  refine own_mf (C := "jdk/internal/util/Preconditions") rfl (plainFor_of_name pn_243) (fun m => efpci m p0 p1 u2 hu) ?_
  intro p e s m below meth cd0 s₁ En hx hby hml hown hnm hZ X0 e0 hlk hrt go0
  have N0 := Fr.nil n0
  have K0 : Keep h0 h0 [] := Keep.refl _ _
  have go1 : Go p.tables e below s₁ (mkF m 17 #[iv p0, iv p1, .val u2] [(.int p0)]) En := by
    intro t k
    refine go0 _ ?_
    refine XS.iloadN X0.here hx rfl (hb hby d31_0) rfl ?_
    refine XS.ifNo X0.here hx rfl (hb hby d31_1) rfl (XT.i0_lt_f hn) ?_
    refine XS.iloadN X0.here hx rfl (hb hby d31_4) rfl ?_
    refine XS.iloadN X0.here hx rfl (hb hby d31_5) rfl ?_
    refine XS.icmpYes X0.here hx rfl (pc0 := 6) (pc' := 16) rfl (hb hby d31_6) rfl (XT.ii_lt_t hl) (by decide) (by decide) ?_
    show Steps _ _ _ (s₁.setTop (mkF m 16 #[iv p0, iv p1, .val u2] [])) _
    refine XS.iloadN X0.here hx rfl (hb hby d31_16) rfl ?_
    exact k
  refine own_out (w := (.int p0)) X0 hx hlk go1 hrt rfl (Or.inl ⟨rfl, Or.inl rfl, _, rfl⟩) (hb hby d31_17) e0 (by decide) (by decide) ?_
  exact ⟨rfl, N0, rfl⟩
theorem d30_0 : decode jdk_42_method_155_code 0 = .ok (.iload_n 0, 1) := by decide +kernel
theorem d30_1 : decode jdk_42_method_155_code 1 = .ok (.iload_n 1, 1) := by decide +kernel
theorem d30_2 : decode jdk_42_method_155_code 2 = .ok (.getstatic 1053, 3) := by decide +kernel
theorem d30_5 : decode jdk_42_method_155_code 5 = .ok (.invokestatic 1059, 3) := by decide +kernel
theorem own_site376 {Z : State} {aZ : Array Value} (hw : HW aZ Z) : SSt aZ Z (⟨"jdk/internal/util/Preconditions", "checkIndex", "(IILjava/util/function/BiFunction;)I"⟩ : MethodName) jdk_41_method_11_code 3 (some .int) := ⟨⟨(hw _ (mi 137 rfl)), (hw _ (mi 98 rfl))⟩, (hw _ (mi 138 rfl))⟩
theorem pd_377 : parseMethodDescriptor "(IILjava/util/function/BiFunction;)I" = some ⟨[.int, .int, (.object "java/util/function/BiFunction")], some .int⟩ := by decide +kernel
theorem d30_8 : decode jdk_42_method_155_code 8 = .ok (.pop, 1) := by decide +kernel
theorem d30_9 : decode jdk_42_method_155_code 9 = .ok (.return_, 1) := by decide +kernel
theorem efsci (m : MethodId) (p0 : Int32) (p1 : Int32) : entryFrame m #[(.int p0), (.int p1)] 2 = mkF m 0 #[iv p0, iv p1] [] := by first | (simp [entryFrame, mkF, argsToLocals, Value.category]; done) | rfl
set_option maxRecDepth 65536 in
set_option maxHeartbeats 40000000 in
theorem rmsci (l : Launch) (Z : State) (aZ : Array Value) (hw : HW aZ Z) (ws : List Jvm.Cond) (p0 : Int32) (p1 : Int32) (s_SIOOBE_FORMATTER : Value) (h0 : Heap) (n0 : Nat) (Z0 : n0 ≤ h0.size) (S_SIOOBE_FORMATTER : SfF Z h0 s_SIOOBE_FORMATTER) (rS_SIOOBE_FORMATTER : s_SIOOBE_FORMATTER.isRef = true) (hn : ¬ p0 < (0 : Int32)) (hl : p0 < p1) :
    MFn l (⟨"java/lang/String", "checkIndex", "(II)V"⟩ : MethodName) jdk_42_method_155_code 2 none ws (Rm 1 0 0 14) #[(.int p0), (.int p1)] Z h0 (QP n0 h0 (none)) := by
  refine own_mf (C := "java/lang/String") rfl (plainFor_of_name pn_15) (fun m => efsci m p0 p1) ?_
  intro p e s m below meth cd0 s₁ En hx hby hml hown hnm hZ X0 e0 hlk hrt go0
  have N0 := Fr.nil n0
  have K0 : Keep h0 h0 [] := Keep.refl _ _
  have go1 : Go p.tables e below s₁ (mkF m 2 #[iv p0, iv p1] [(.int p1), (.int p0)]) En := by
    intro t k
    refine go0 _ ?_
    refine XS.iloadN X0.here hx rfl (hb hby d30_0) rfl ?_
    refine XS.iloadN X0.here hx rfl (hb hby d30_1) rfl ?_
    exact k
  obtain ⟨T2, X2, e2, st2⟩ := getS2 X0 hx hZ hown (host := "") (Or.inl (hw _ (mi 97 rfl))) Via.refl e0 S_SIOOBE_FORMATTER (g := (mkF m 2 #[iv p0, iv p1] [(.int p1), (.int p0)])) rfl (hb hby d30_2)
  have go3 := gap go1 st2
  obtain ⟨_, T4, Lc4, X4, hQ4, st4⟩ := own_cs X2 hx hZ hown hml go3 (hb hby d30_5) e2 (hw _ (mi 136 rfl)) (own_site376 hw) (rmpci l Z aZ hw [] p0 p1 s_SIOOBE_FORMATTER h0 n0 Z0 hn hl rS_SIOOBE_FORMATTER) (by decide) (argsL := [(.int p0), (.int p1), s_SIOOBE_FORMATTER]) (rest := []) rfl rfl rfl (lenOf pd_377 rfl) (W := 0) rfl (by decide) (by decide) (by decide : 0 + 0 ≤ _) (by decide : 0 + 0 ≤ _)
  obtain ⟨rfl, N4q, e4⟩ := hQ4
  have N4 := Fr.app N0 N4q
  have go5 : Go p.tables e below T4 (mkF m 9 #[iv p0, iv p1] []) En := by
    intro t k
    refine st4 _ ?_
    refine XS.pop X4.here hx rfl (hb hby d30_8) rfl rfl ?_
    exact k
  refine own_outV X4 hx hlk go5 hrt (hb hby d30_9) e4 (by decide) (by decide) ?_
  exact ⟨rfl, N4, rfl⟩
theorem d29_0 : decode jdk_43_method_2_code 0 = .ok (.iload_n 1, 1) := by decide +kernel
theorem d29_1 : decode jdk_43_method_2_code 1 = .ok (.aload_n 0, 1) := by decide +kernel
theorem d29_2 : decode jdk_43_method_2_code 2 = .ok (.arraylength, 1) := by decide +kernel
theorem d29_3 : decode jdk_43_method_2_code 3 = .ok (.invokestatic 9, 3) := by decide +kernel
theorem own_site384 {Z : State} {aZ : Array Value} (hw : HW aZ Z) : SSt aZ Z (⟨"java/lang/String", "checkIndex", "(II)V"⟩ : MethodName) jdk_42_method_155_code 2 none := ⟨⟨(hw _ (mi 134 rfl)), (hw _ (mi 8 rfl))⟩, (hw _ (mi 135 rfl))⟩
theorem d29_6 : decode jdk_43_method_2_code 6 = .ok (.aload_n 0, 1) := by decide +kernel
theorem d29_7 : decode jdk_43_method_2_code 7 = .ok (.iload_n 1, 1) := by decide +kernel
theorem d29_8 : decode jdk_43_method_2_code 8 = .ok (.baload, 1) := by decide +kernel
theorem d29_9 : decode jdk_43_method_2_code 9 = .ok (.sipush 255, 3) := by decide +kernel
theorem d29_12 : decode jdk_43_method_2_code 12 = .ok (.iand, 1) := by decide +kernel
theorem d29_13 : decode jdk_43_method_2_code 13 = .ok (.i2c, 1) := by decide +kernel
theorem d29_14 : decode jdk_43_method_2_code 14 = .ok (.ireturn, 1) := by decide +kernel
def vlca_4 (x : Int32) : Int32 := (x &&& (255 : Int32)).toUInt32.toUInt16.toUInt32.toInt32
def flca (x : Int32) : Int32 := (vlca_4 x)
theorem eflca (m : MethodId) (a0 : Addr) (p1 : Int32) : entryFrame m #[(.ref a0), (.int p1)] 2 = mkF m 0 #[rv a0, iv p1] [] := by first | (simp [entryFrame, mkF, argsToLocals, Value.category]; done) | rfl
set_option maxRecDepth 65536 in
set_option maxHeartbeats 40000000 in
theorem rmlca (l : Launch) (Z : State) (aZ : Array Value) (hw : HW aZ Z) (ws : List Jvm.Cond) (a0 : Addr) (p1 : Int32) (k_a0 : ClassId) (n_a0 : Int32) (vs_a0 : List Value) (s_SIOOBE_FORMATTER : Value) (x : Int32) (h0 : Heap) (n0 : Nat) (Z0 : n0 ≤ h0.size) (V_a0 : Arv Z h0 a0 k_a0 .byte n_a0 vs_a0 (.int 0)) (S_SIOOBE_FORMATTER : SfF Z h0 s_SIOOBE_FORMATTER) (rS_SIOOBE_FORMATTER : s_SIOOBE_FORMATTER.isRef = true) (hn : ¬ p1 < (0 : Int32)) (hl : p1 < n_a0) (hel : vs_a0.getD p1.toNatClampNeg (.int 0) = .int x) :
    MFn l (⟨"java/lang/StringLatin1", "charAt", "([BI)C"⟩ : MethodName) jdk_43_method_2_code 2 (some .char) ws (Rm 2 0 0 27) #[(.ref a0), (.int p1)] Z h0 (QP n0 h0 (some (.int (flca x)))) := by
  refine own_mf (C := "java/lang/StringLatin1") rfl (plainFor_of_name pn_128) (fun m => eflca m a0 p1) ?_
  intro p e s m below meth cd0 s₁ En hx hby hml hown hnm hZ X0 e0 hlk hrt go0
  have N0 := Fr.nil n0
  have K0 : Keep h0 h0 [] := Keep.refl _ _
  obtain ⟨cl1, Ar1, q1, S1, N1, H1, G1⟩ := id V_a0
  have go2 : Go p.tables e below s₁ (mkF m 3 #[rv a0, iv p1] [(.int n_a0), (.int p1)]) En := by
    intro t k
    refine go0 _ ?_
    refine XS.iloadN X0.here hx rfl (hb hby d29_0) rfl ?_
    refine XS.aloadN X0.here hx rfl (hb hby d29_1) rfl rfl ?_
    refine X0.arraylength hx (by rw [e0]; exact Ar1.1) (State.isArrayOf_alike hZ.alike Ar1.2.1) (g := (mkF m 2 #[rv a0, iv p1] [(.ref a0), (.int p1)])) rfl rfl (hb hby d29_2) _ ?_
    rw [len_of S1 N1]
    exact k
  obtain ⟨_, T3, Lc3, X3, hQ3, st3⟩ := own_cs X0 hx hZ hown hml go2 (hb hby d29_3) e0 (hw _ (mi 133 rfl)) (own_site384 hw) (rmsci l Z aZ hw [] p1 n_a0 _ h0 n0 Z0 S_SIOOBE_FORMATTER rS_SIOOBE_FORMATTER hn hl) (by decide) (argsL := [(.int p1), (.int n_a0)]) (rest := []) rfl rfl rfl (lenOf pd_318 rfl) (W := 0) rfl (by decide) (by decide) (by decide : 0 + 0 ≤ _) (by decide : 0 + 0 ≤ _)
  obtain ⟨rfl, N3q, e3⟩ := hQ3
  have N3 := Fr.app N0 N3q
  have go5 : Go p.tables e below T3 (mkF m 14 #[rv a0, iv p1] [(.int (vlca_4 x))]) En := by
    intro t k
    refine st3 _ ?_
    refine XS.aloadN X3.here hx rfl (hb hby d29_6) rfl rfl ?_
    refine XS.iloadN X3.here hx rfl (hb hby d29_7) rfl ?_
    refine X3.baloadBytes hx (j := p1) (v := (.int x)) (by rw [e3]; exact Ar1.1) (State.isArrayOf_alike hZ.alike Ar1.2.1) Ar1.2.2 (inb_of S1 ⟨hn, hl⟩) (Has.at H1 (inb_of S1 ⟨hn, hl⟩) hel) (g := (mkF m 8 #[rv a0, iv p1] [(.int p1), (.ref a0)])) rfl rfl (hb hby d29_8) _ ?_
    refine XS.sipush X3.here hx rfl (hb hby d29_9) ?_
    refine XS.iand X3.here hx rfl (hb hby d29_12) rfl ?_
    show Steps _ _ _ (T3.setTop (mkF m 13 #[rv a0, iv p1] [(.int (x &&& (255 : Int32)))])) _
    refine XS.i2c X3.here hx rfl (hb hby d29_13) rfl ?_
    exact k
  refine own_out (w := (.int (vlca_4 x))) X3 hx hlk go5 hrt (XT.narrow_c _) (Or.inl ⟨rfl, Or.inr (Or.inr (Or.inr (Or.inl rfl))), _, rfl⟩) (hb hby d29_14) e3 (by decide) (by decide) ?_
  exact ⟨by rw [flca], N3, rfl⟩
theorem d28_0 : decode jdk_42_method_56_code 0 = .ok (.aload_n 0, 1) := by decide +kernel
theorem d28_1 : decode jdk_42_method_56_code 1 = .ok (.invokevirtual 492, 3) := by decide +kernel
theorem d28_4 : decode jdk_42_method_56_code 4 = .ok (.ifCond .eq 12, 3) := by decide +kernel
theorem d28_7 : decode jdk_42_method_56_code 7 = .ok (.aload_n 0, 1) := by decide +kernel
theorem d28_8 : decode jdk_42_method_56_code 8 = .ok (.getfield 9, 3) := by decide +kernel
theorem d28_11 : decode jdk_42_method_56_code 11 = .ok (.iload_n 1, 1) := by decide +kernel
theorem d28_12 : decode jdk_42_method_56_code 12 = .ok (.invokestatic 495, 3) := by decide +kernel
theorem own_site400 {Z : State} {aZ : Array Value} (hw : HW aZ Z) : SSt aZ Z (⟨"java/lang/StringLatin1", "charAt", "([BI)C"⟩ : MethodName) jdk_43_method_2_code 2 (some .char) := ⟨⟨(hw _ (mi 131 rfl)), (hw _ (mi 59 rfl))⟩, (hw _ (mi 132 rfl))⟩
theorem pd_401 : parseMethodDescriptor "([BI)C" = some ⟨[(.array .byte), .int], some .char⟩ := by decide +kernel
theorem d28_15 : decode jdk_42_method_56_code 15 = .ok (.ireturn, 1) := by decide +kernel
def fsca (x : Int32) : Int32 := (flca x)
theorem efsca (m : MethodId) (a0 : Addr) (p1 : Int32) : entryFrame m #[(.ref a0), (.int p1)] 2 = mkF m 0 #[rv a0, iv p1] [] := by first | (simp [entryFrame, mkF, argsToLocals, Value.category]; done) | rfl
set_option maxRecDepth 65536 in
set_option maxHeartbeats 40000000 in
theorem rmsca (l : Launch) (Z : State) (aZ : Array Value) (hw : HW aZ Z) (ws : List Jvm.Cond) (a0 : Addr) (p1 : Int32) (w_a0_value : Addr) (k_w_a0_value : ClassId) (n_w_a0_value : Int32) (vs_w_a0_value : List Value) (s_COMPACT_STRINGS : Int32) (s_SIOOBE_FORMATTER : Value) (x : Int32) (h0 : Heap) (n0 : Nat) (Z0 : n0 ≤ h0.size) (E_a0 : Est Z h0 a0) (F_a0_coder : Fcd Z h0 a0 (.int 0)) (F_a0_value : Fvl Z h0 a0 (.ref w_a0_value)) (V_w_a0_value : Arv Z h0 w_a0_value k_w_a0_value .byte n_w_a0_value vs_w_a0_value (.int 0)) (S_COMPACT_STRINGS : SfC Z h0 (.int s_COMPACT_STRINGS)) (hcs : ¬ s_COMPACT_STRINGS = (0 : Int32)) (S_SIOOBE_FORMATTER : SfF Z h0 s_SIOOBE_FORMATTER) (rS_SIOOBE_FORMATTER : s_SIOOBE_FORMATTER.isRef = true) (hn : ¬ p1 < (0 : Int32)) (hl : p1 < n_w_a0_value) (hel : vs_w_a0_value.getD p1.toNatClampNeg (.int 0) = .int x) :
    MFn l (⟨"java/lang/String", "charAt", "(I)C"⟩ : MethodName) jdk_42_method_56_code 2 (some .char) ws (Rm 3 0 0 40) #[(.ref a0), (.int p1)] Z h0 (QP n0 h0 (some (.int (fsca x)))) := by
  refine own_mf (C := "java/lang/String") rfl (plainFor_of_name pn_15) (fun m => efsca m a0 p1) ?_
  intro p e s m below meth cd0 s₁ En hx hby hml hown hnm hZ X0 e0 hlk hrt go0
  have N0 := Fr.nil n0
  have K0 : Keep h0 h0 [] := Keep.refl _ _
  have go1 : Go p.tables e below s₁ (mkF m 1 #[rv a0, iv p1] [(.ref a0)]) En := by
    intro t k
    refine go0 _ ?_
    refine XS.aloadN X0.here hx rfl (hb hby d28_0) rfl rfl ?_
    exact k
  obtain ⟨_, T2, Lc2, X2, hQ2, st2⟩ := own_cv X0 hx hZ hown hml go1 (hb hby d28_1) e0 (hw _ (mi 41 rfl)) (own_site176 hw) E_a0 (rmil l Z aZ hw [] a0 _ h0 n0 Z0 S_COMPACT_STRINGS hcs F_a0_coder) (by decide) (argsL := []) (rest := []) rfl rfl rfl (lenOf pd_177 rfl) (W := 0) rfl (by decide) (by decide) (by decide : 0 + 0 ≤ _) (by decide : 0 + 0 ≤ _)
  obtain ⟨rfl, N2q, e2⟩ := hQ2
  have N2 := Fr.app N0 N2q
  have go3 : Go p.tables e below T2 (mkF m 8 #[rv a0, iv p1] [(.ref a0)]) En := by
    intro t k
    refine st2 _ ?_
    refine XS.ifNo X2.here hx rfl (hb hby d28_4) rfl (XT.i0_eq_f (by decide : ¬ ((1 : Int32) = (0 : Int32)))) ?_
    refine XS.aloadN X2.here hx rfl (hb hby d28_7) rfl rfl ?_
    exact k
  obtain ⟨T4, X4, e4, st4⟩ := getF X2 hx hZ hown (host := "") (Or.inl (hw _ (mi 25 rfl))) Via.refl e2 F_a0_value (g := (mkF m 8 #[rv a0, iv p1] [(.ref a0)])) rfl rfl (hb hby d28_8)
  have go5 := gap go3 st4
  have go6 : Go p.tables e below T4 (mkF m 12 #[rv a0, iv p1] [(.int p1), (.ref w_a0_value)]) En := by
    intro t k
    refine go5 _ ?_
    refine XS.iloadN X4.here hx rfl (hb hby d28_11) rfl ?_
    exact k
  obtain ⟨_, T7, Lc7, X7, hQ7, st7⟩ := own_cs X4 hx hZ hown hml go6 (hb hby d28_12) e4 (hw _ (mi 130 rfl)) (own_site400 hw) (rmlca l Z aZ hw [] _ p1 _ _ _ _ x h0 n0 Z0 V_w_a0_value S_SIOOBE_FORMATTER rS_SIOOBE_FORMATTER hn hl hel) (by decide) (argsL := [(.ref w_a0_value), (.int p1)]) (rest := []) rfl rfl rfl (lenOf pd_401 rfl) (W := 0) rfl (by decide) (by decide) (by decide : 0 + 0 ≤ _) (by decide : 0 + 0 ≤ _)
  obtain ⟨rfl, N7q, e7⟩ := hQ7
  have N7 := Fr.app N2 N7q
  refine own_out (w := (.int (flca x))) X7 hx hlk st7 hrt (XT.narrow_c _) (Or.inl ⟨rfl, Or.inr (Or.inr (Or.inr (Or.inl rfl))), _, rfl⟩) (hb hby d28_15) e7 (by decide) (by decide) ?_
  exact ⟨by rw [fsca], N7, rfl⟩
theorem own_dead5 (x : Int32) (h0 : ¬ (x &&& 2147483647) % 5 = 0) (h1 : ¬ (x &&& 2147483647) % 5 = 1) (h2 : ¬ (x &&& 2147483647) % 5 = 2) (h3 : ¬ (x &&& 2147483647) % 5 = 3) (h4 : ¬ (x &&& 2147483647) % 5 = 4) : False := by
  have hm := c_mask x 2147483647 31 (by decide) (by decide)
  have hr := (c_irem (x &&& 2147483647) 5 5 (by decide)).1 (by omega)
  have g0 := own_ne 0 rfl h0
  have g1 := own_ne 1 rfl h1
  have g2 := own_ne 2 rfl h2
  have g3 := own_ne 3 rfl h3
  have g4 := own_ne 4 rfl h4
  omega
theorem own_chr (p : Int32) : 0 ≤ (f1 p).toInt ∧ (f1 p).toInt ≤ 255 := by
  have e : (63 : Int32).toInt = 63 := rfl
  have hm := c_mask p 255 8 (by decide) (by decide)
  have hc := c_i2c (p &&& 255)
  unfold f1 b1_3; split
  · omega
  · omega
theorem own_byte (p : Int32) : (f1 p).toUInt32.toUInt16.toUInt32.toInt32.toInt8.toInt32.toInt8.toInt32.toInt = (f1 p).toInt ∨ (f1 p).toUInt32.toUInt16.toUInt32.toInt32.toInt8.toInt32.toInt8.toInt32.toInt = (f1 p).toInt - 256 := by
  have h := own_chr p
  have a := c_i2c (f1 p)
  have b := c_i2b (f1 p).toUInt32.toUInt16.toUInt32.toInt32
  have c := c_i2b (f1 p).toUInt32.toUInt16.toUInt32.toInt32.toInt8.toInt32
  omega
theorem own_back (p : Int32) : (((f1 p).toUInt32.toUInt16.toUInt32.toInt32.toInt8.toInt32.toInt8.toInt32 &&& 255).toUInt32.toUInt16.toUInt32.toInt32) = (f1 p).toUInt32.toUInt16.toUInt32.toInt32 := by
  have h := own_chr p
  have a := c_i2c (f1 p)
  have b := own_byte p
  have c := c_mask (f1 p).toUInt32.toUInt16.toUInt32.toInt32.toInt8.toInt32.toInt8.toInt32 255 8 (by decide) (by decide)
  have d := c_i2c ((f1 p).toUInt32.toUInt16.toUInt32.toInt32.toInt8.toInt32.toInt8.toInt32 &&& 255)
  rw [← Int32.toInt_inj]; omega
theorem own_site403 {Z : State} {aZ : Array Value} (hw : HW aZ Z) : SSt aZ Z (⟨"com/example/nephele/nephele/web/internal/RequestPathQueryStringPinLaw", "ch", "(I)C"⟩ : MethodName) method_2_code 1 (some .char) := ⟨⟨(hw _ (mi 1 rfl)), (hw _ (mi 2 rfl))⟩, (hw _ (mi 3 rfl))⟩
theorem pd_404 : parseMethodDescriptor "(I)C" = some ⟨[.int], some .char⟩ := by decide +kernel
theorem pd_406 : parseMethodDescriptor "([C)V" = some ⟨[(.array .char)], none⟩ := by decide +kernel
theorem own_site407 {Z : State} {aZ : Array Value} (hw : HW aZ Z) : SSt aZ Z (⟨"com/example/nephele/nephele/web/internal/RequestPath", "queryString", "(Ljava/lang/String;)Ljava/lang/String;"⟩ : MethodName) prog_24_method_3_code 2 (some (.object "java/lang/String")) := ⟨⟨(hw _ (mi 28 rfl)), (hw _ (mi 29 rfl))⟩, (hw _ (mi 30 rfl))⟩
theorem pd_408 : parseMethodDescriptor "(Ljava/lang/String;)Ljava/lang/String;" = some ⟨[(.object "java/lang/String")], some (.object "java/lang/String")⟩ := by decide +kernel
theorem own_c255 (p : Int32) : ¬ (255 : Int32) < (f1 p).toUInt32.toUInt16.toUInt32.toInt32 := by
  have h := own_chr p
  have a := c_i2c (f1 p)
  have e : (255 : Int32).toInt = 255 := rfl
  rw [Int32.lt_iff_toInt_lt]; omega
theorem own_site410 {Z : State} {aZ : Array Value} (hw : HW aZ Z) : SIt aZ Z (⟨"java/lang/String", "<init>", "([C)V"⟩ : MethodName) jdk_42_method_3_code 2 := ⟨⟨(hw _ (mi 10 rfl)), (hw _ (mi 8 rfl))⟩, (hw _ (mi 11 rfl))⟩
theorem own_qt (p : Int32) (h : (f1 p) = (63 : Int32)) : (f1 p).toUInt32.toUInt16.toUInt32.toInt32.toInt8.toInt32.toInt8.toInt32 = (63 : Int32) := by rw [h]; decide
theorem own_qf (p : Int32) (h : ¬ (f1 p) = (63 : Int32)) : ¬ (f1 p).toUInt32.toUInt16.toUInt32.toInt32.toInt8.toInt32.toInt8.toInt32 = (63 : Int32) := by
  have q := own_byte p
  have r := own_chr p
  rw [← Int32.toInt_inj] at h ⊢
  have e : (63 : Int32).toInt = 63 := rfl
  omega
theorem own_site413 {Z : State} {aZ : Array Value} (hw : HW aZ Z) : SVt aZ Z "java/lang/String" (⟨"java/lang/String", "charAt", "(I)C"⟩ : MethodName) jdk_42_method_56_code 2 (some .char) := ⟨⟨⟨(hw _ (mi 126 rfl)), (hw _ (mi 128 rfl))⟩, (hw _ (mi 127 rfl)), (hw _ (mi 8 rfl))⟩, (hw _ (mi 129 rfl))⟩
theorem own_bk414 (p : Int32) : (fsca (f1 p).toUInt32.toUInt16.toUInt32.toInt32.toInt8.toInt32.toInt8.toInt32) = (f1 p).toUInt32.toUInt16.toUInt32.toInt32 := own_back p
def v0_9 (p4 : Int32) : Int32 := ((p4 &&& (2147483647 : Int32)) % (5 : Int32))
def f0 (p0 : Int32) (p1 : Int32) (p2 : Int32) (p3 : Int32) (p4 : Int32) : Int32 := (if (v0_9 p4) = (0 : Int32) then (1 : Int32) else (if (v0_9 p4) = (1 : Int32) then (if (f1 p0) = (63 : Int32) then (1 : Int32) else (1 : Int32)) else (if (v0_9 p4) = (2 : Int32) then (if (f1 p0) = (63 : Int32) then (1 : Int32) else (if (f1 p1) = (63 : Int32) then (1 : Int32) else (1 : Int32))) else (if (v0_9 p4) = (3 : Int32) then (if (f1 p0) = (63 : Int32) then (1 : Int32) else (if (f1 p1) = (63 : Int32) then (1 : Int32) else (if (f1 p2) = (63 : Int32) then (1 : Int32) else (1 : Int32)))) else (if (v0_9 p4) = (4 : Int32) then (if (f1 p0) = (63 : Int32) then (1 : Int32) else (if (f1 p1) = (63 : Int32) then (1 : Int32) else (if (f1 p2) = (63 : Int32) then (1 : Int32) else (if (f1 p3) = (63 : Int32) then (1 : Int32) else (1 : Int32))))) else (1 : Int32))))))
theorem f0_one (p0 : Int32) (p1 : Int32) (p2 : Int32) (p3 : Int32) (p4 : Int32) : f0 p0 p1 p2 p3 p4 = 1 := by
  unfold f0; simp only [ite_self]
def Q0 (Z : State) (n0 : Nat) (p0 : Int32) (p1 : Int32) (p2 : Int32) (p3 : Int32) (p4 : Int32) (s_COMPACT_STRINGS : Int32) (s_SIOOBE_FORMATTER : Value) (h0 : Heap) (v : Option Value) (h : Heap) (L : List Loc) : Prop := v = some (.int 1) ∧ Fr n0 L
theorem ef0 (m : MethodId) (p0 : Int32) (p1 : Int32) (p2 : Int32) (p3 : Int32) (p4 : Int32) : entryFrame m #[(.int p0), (.int p1), (.int p2), (.int p3), (.int p4)] maxLocals = mkF m 0 #[iv p0, iv p1, iv p2, iv p3, iv p4, .unset, .unset, .unset, .unset, .unset, .unset, .unset, .unset, .unset, .unset, .unset, .unset] [] := by first | (simp [entryFrame, mkF, argsToLocals, Value.category, maxLocals]; done) | rfl
abbrev L0_0 (p0 : Int32) (p1 : Int32) (p2 : Int32) (p3 : Int32) (p4 : Int32) : Array Slot := #[iv p0, iv p1, iv p2, iv p3, iv p4, iv (f1 p0), iv (f1 p1), iv (f1 p2), iv (f1 p3), .unset, .unset, .unset, .unset, .unset, .unset, .unset, .unset]
abbrev L0_1 (p0 : Int32) (p1 : Int32) (p2 : Int32) (p3 : Int32) (p4 : Int32) : Array Slot := #[iv p0, iv p1, iv p2, iv p3, iv p4, iv (f1 p0), iv (f1 p1), iv (f1 p2), iv (f1 p3), iv 0, .unset, .unset, .unset, .unset, .unset, .unset, .unset]
abbrev L0_2 (p0 : Int32) (p1 : Int32) (p2 : Int32) (p3 : Int32) (p4 : Int32) (b14 : Addr) : Array Slot := #[iv p0, iv p1, iv p2, iv p3, iv p4, iv (f1 p0), iv (f1 p1), iv (f1 p2), iv (f1 p3), iv 0, rv b14, .unset, .unset, .unset, .unset, .unset, .unset]
abbrev L0_3 (p0 : Int32) (p1 : Int32) (p2 : Int32) (p3 : Int32) (p4 : Int32) (b14 : Addr) (b18 : Addr) : Array Slot := #[iv p0, iv p1, iv p2, iv p3, iv p4, iv (f1 p0), iv (f1 p1), iv (f1 p2), iv (f1 p3), iv 0, rv b14, rv b18, .unset, .unset, .unset, .unset, .unset]
abbrev L0_4 (p0 : Int32) (p1 : Int32) (p2 : Int32) (p3 : Int32) (p4 : Int32) (b14 : Addr) (b18 : Addr) : Array Slot := #[iv p0, iv p1, iv p2, iv p3, iv p4, iv (f1 p0), iv (f1 p1), iv (f1 p2), iv (f1 p3), iv 0, rv b14, rv b18, .val .null, iv (-1), .unset, .unset, .unset]
abbrev L0_5 (p0 : Int32) (p1 : Int32) (p2 : Int32) (p3 : Int32) (p4 : Int32) : Array Slot := #[iv p0, iv p1, iv p2, iv p3, iv p4, iv (f1 p0), iv (f1 p1), iv (f1 p2), iv (f1 p3), iv 1, .unset, .unset, .unset, .unset, .unset, .unset, .unset]
abbrev L0_6 (p0 : Int32) (p1 : Int32) (p2 : Int32) (p3 : Int32) (p4 : Int32) (b36 : Addr) : Array Slot := #[iv p0, iv p1, iv p2, iv p3, iv p4, iv (f1 p0), iv (f1 p1), iv (f1 p2), iv (f1 p3), iv 1, rv b36, .unset, .unset, .unset, .unset, .unset, .unset]
abbrev L0_7 (p0 : Int32) (p1 : Int32) (p2 : Int32) (p3 : Int32) (p4 : Int32) (b36 : Addr) (b45 : Addr) : Array Slot := #[iv p0, iv p1, iv p2, iv p3, iv p4, iv (f1 p0), iv (f1 p1), iv (f1 p2), iv (f1 p3), iv 1, rv b36, rv b45, .unset, .unset, .unset, .unset, .unset]
abbrev L0_8 (p0 : Int32) (p1 : Int32) (p2 : Int32) (p3 : Int32) (p4 : Int32) (b36 : Addr) (b45 : Addr) (b58 : Addr) : Array Slot := #[iv p0, iv p1, iv p2, iv p3, iv p4, iv (f1 p0), iv (f1 p1), iv (f1 p2), iv (f1 p3), iv 1, rv b36, rv b45, rv b58, iv 0, iv 0, .unset, .unset]
abbrev L0_9 (p0 : Int32) (p1 : Int32) (p2 : Int32) (p3 : Int32) (p4 : Int32) (b36 : Addr) (b45 : Addr) (b58 : Addr) : Array Slot := #[iv p0, iv p1, iv p2, iv p3, iv p4, iv (f1 p0), iv (f1 p1), iv (f1 p2), iv (f1 p3), iv 1, rv b36, rv b45, rv b58, iv 0, .unset, .unset, .unset]
abbrev L0_10 (p0 : Int32) (p1 : Int32) (p2 : Int32) (p3 : Int32) (p4 : Int32) (b36 : Addr) (b45 : Addr) (b58 : Addr) (b68 : Addr) : Array Slot := #[iv p0, iv p1, iv p2, iv p3, iv p4, iv (f1 p0), iv (f1 p1), iv (f1 p2), iv (f1 p3), iv 1, rv b36, rv b45, rv b58, iv 0, iv 0, rv b68, iv 1]
abbrev L0_11 (p0 : Int32) (p1 : Int32) (p2 : Int32) (p3 : Int32) (p4 : Int32) (b36 : Addr) (b45 : Addr) : Array Slot := #[iv p0, iv p1, iv p2, iv p3, iv p4, iv (f1 p0), iv (f1 p1), iv (f1 p2), iv (f1 p3), iv 1, rv b36, rv b45, .val .null, iv (-1), .unset, .unset, .unset]
abbrev L0_12 (p0 : Int32) (p1 : Int32) (p2 : Int32) (p3 : Int32) (p4 : Int32) : Array Slot := #[iv p0, iv p1, iv p2, iv p3, iv p4, iv (f1 p0), iv (f1 p1), iv (f1 p2), iv (f1 p3), iv 2, .unset, .unset, .unset, .unset, .unset, .unset, .unset]
abbrev L0_13 (p0 : Int32) (p1 : Int32) (p2 : Int32) (p3 : Int32) (p4 : Int32) (b120 : Addr) : Array Slot := #[iv p0, iv p1, iv p2, iv p3, iv p4, iv (f1 p0), iv (f1 p1), iv (f1 p2), iv (f1 p3), iv 2, rv b120, .unset, .unset, .unset, .unset, .unset, .unset]
abbrev L0_14 (p0 : Int32) (p1 : Int32) (p2 : Int32) (p3 : Int32) (p4 : Int32) (b120 : Addr) (b134 : Addr) : Array Slot := #[iv p0, iv p1, iv p2, iv p3, iv p4, iv (f1 p0), iv (f1 p1), iv (f1 p2), iv (f1 p3), iv 2, rv b120, rv b134, .unset, .unset, .unset, .unset, .unset]
abbrev L0_15 (p0 : Int32) (p1 : Int32) (p2 : Int32) (p3 : Int32) (p4 : Int32) (b120 : Addr) (b134 : Addr) (b147 : Addr) : Array Slot := #[iv p0, iv p1, iv p2, iv p3, iv p4, iv (f1 p0), iv (f1 p1), iv (f1 p2), iv (f1 p3), iv 2, rv b120, rv b134, rv b147, iv 0, iv 1, .unset, .unset]
abbrev L0_16 (p0 : Int32) (p1 : Int32) (p2 : Int32) (p3 : Int32) (p4 : Int32) (b120 : Addr) (b134 : Addr) (b147 : Addr) : Array Slot := #[iv p0, iv p1, iv p2, iv p3, iv p4, iv (f1 p0), iv (f1 p1), iv (f1 p2), iv (f1 p3), iv 2, rv b120, rv b134, rv b147, iv 0, .unset, .unset, .unset]
abbrev L0_17 (p0 : Int32) (p1 : Int32) (p2 : Int32) (p3 : Int32) (p4 : Int32) (b120 : Addr) (b134 : Addr) (b147 : Addr) (b156 : Addr) : Array Slot := #[iv p0, iv p1, iv p2, iv p3, iv p4, iv (f1 p0), iv (f1 p1), iv (f1 p2), iv (f1 p3), iv 2, rv b120, rv b134, rv b147, iv 0, iv 1, rv b156, iv 1]
abbrev L0_18 (p0 : Int32) (p1 : Int32) (p2 : Int32) (p3 : Int32) (p4 : Int32) (b120 : Addr) (b134 : Addr) (b207 : Addr) : Array Slot := #[iv p0, iv p1, iv p2, iv p3, iv p4, iv (f1 p0), iv (f1 p1), iv (f1 p2), iv (f1 p3), iv 2, rv b120, rv b134, rv b207, iv 1, iv 0, .unset, .unset]
abbrev L0_19 (p0 : Int32) (p1 : Int32) (p2 : Int32) (p3 : Int32) (p4 : Int32) (b120 : Addr) (b134 : Addr) (b207 : Addr) : Array Slot := #[iv p0, iv p1, iv p2, iv p3, iv p4, iv (f1 p0), iv (f1 p1), iv (f1 p2), iv (f1 p3), iv 2, rv b120, rv b134, rv b207, iv (-1), .unset, .unset, .unset]
abbrev L0_20 (p0 : Int32) (p1 : Int32) (p2 : Int32) (p3 : Int32) (p4 : Int32) (b120 : Addr) (b134 : Addr) (b207 : Addr) : Array Slot := #[iv p0, iv p1, iv p2, iv p3, iv p4, iv (f1 p0), iv (f1 p1), iv (f1 p2), iv (f1 p3), iv 2, rv b120, rv b134, rv b207, iv 1, .unset, .unset, .unset]
abbrev L0_21 (p0 : Int32) (p1 : Int32) (p2 : Int32) (p3 : Int32) (p4 : Int32) (b120 : Addr) (b134 : Addr) (b207 : Addr) (b217 : Addr) : Array Slot := #[iv p0, iv p1, iv p2, iv p3, iv p4, iv (f1 p0), iv (f1 p1), iv (f1 p2), iv (f1 p3), iv 2, rv b120, rv b134, rv b207, iv 1, iv 0, rv b217, iv 1]
abbrev L0_22 (p0 : Int32) (p1 : Int32) (p2 : Int32) (p3 : Int32) (p4 : Int32) (b120 : Addr) (b134 : Addr) : Array Slot := #[iv p0, iv p1, iv p2, iv p3, iv p4, iv (f1 p0), iv (f1 p1), iv (f1 p2), iv (f1 p3), iv 2, rv b120, rv b134, .val .null, iv (-1), .unset, .unset, .unset]
abbrev L0_23 (p0 : Int32) (p1 : Int32) (p2 : Int32) (p3 : Int32) (p4 : Int32) : Array Slot := #[iv p0, iv p1, iv p2, iv p3, iv p4, iv (f1 p0), iv (f1 p1), iv (f1 p2), iv (f1 p3), iv 3, .unset, .unset, .unset, .unset, .unset, .unset, .unset]
abbrev L0_24 (p0 : Int32) (p1 : Int32) (p2 : Int32) (p3 : Int32) (p4 : Int32) (b269 : Addr) : Array Slot := #[iv p0, iv p1, iv p2, iv p3, iv p4, iv (f1 p0), iv (f1 p1), iv (f1 p2), iv (f1 p3), iv 3, rv b269, .unset, .unset, .unset, .unset, .unset, .unset]
abbrev L0_25 (p0 : Int32) (p1 : Int32) (p2 : Int32) (p3 : Int32) (p4 : Int32) (b269 : Addr) (b288 : Addr) : Array Slot := #[iv p0, iv p1, iv p2, iv p3, iv p4, iv (f1 p0), iv (f1 p1), iv (f1 p2), iv (f1 p3), iv 3, rv b269, rv b288, .unset, .unset, .unset, .unset, .unset]
abbrev L0_26 (p0 : Int32) (p1 : Int32) (p2 : Int32) (p3 : Int32) (p4 : Int32) (b269 : Addr) (b288 : Addr) (b301 : Addr) : Array Slot := #[iv p0, iv p1, iv p2, iv p3, iv p4, iv (f1 p0), iv (f1 p1), iv (f1 p2), iv (f1 p3), iv 3, rv b269, rv b288, rv b301, iv 0, iv 2, .unset, .unset]
abbrev L0_27 (p0 : Int32) (p1 : Int32) (p2 : Int32) (p3 : Int32) (p4 : Int32) (b269 : Addr) (b288 : Addr) (b301 : Addr) : Array Slot := #[iv p0, iv p1, iv p2, iv p3, iv p4, iv (f1 p0), iv (f1 p1), iv (f1 p2), iv (f1 p3), iv 3, rv b269, rv b288, rv b301, iv 0, .unset, .unset, .unset]
abbrev L0_28 (p0 : Int32) (p1 : Int32) (p2 : Int32) (p3 : Int32) (p4 : Int32) (b269 : Addr) (b288 : Addr) (b301 : Addr) (b310 : Addr) : Array Slot := #[iv p0, iv p1, iv p2, iv p3, iv p4, iv (f1 p0), iv (f1 p1), iv (f1 p2), iv (f1 p3), iv 3, rv b269, rv b288, rv b301, iv 0, iv 2, rv b310, iv 1]
abbrev L0_29 (p0 : Int32) (p1 : Int32) (p2 : Int32) (p3 : Int32) (p4 : Int32) (b269 : Addr) (b288 : Addr) (b363 : Addr) : Array Slot := #[iv p0, iv p1, iv p2, iv p3, iv p4, iv (f1 p0), iv (f1 p1), iv (f1 p2), iv (f1 p3), iv 3, rv b269, rv b288, rv b363, iv 1, iv 1, .unset, .unset]
abbrev L0_30 (p0 : Int32) (p1 : Int32) (p2 : Int32) (p3 : Int32) (p4 : Int32) (b269 : Addr) (b288 : Addr) (b363 : Addr) : Array Slot := #[iv p0, iv p1, iv p2, iv p3, iv p4, iv (f1 p0), iv (f1 p1), iv (f1 p2), iv (f1 p3), iv 3, rv b269, rv b288, rv b363, iv (-1), .unset, .unset, .unset]
abbrev L0_31 (p0 : Int32) (p1 : Int32) (p2 : Int32) (p3 : Int32) (p4 : Int32) (b269 : Addr) (b288 : Addr) (b363 : Addr) : Array Slot := #[iv p0, iv p1, iv p2, iv p3, iv p4, iv (f1 p0), iv (f1 p1), iv (f1 p2), iv (f1 p3), iv 3, rv b269, rv b288, rv b363, iv 1, .unset, .unset, .unset]
abbrev L0_32 (p0 : Int32) (p1 : Int32) (p2 : Int32) (p3 : Int32) (p4 : Int32) (b269 : Addr) (b288 : Addr) (b363 : Addr) (b372 : Addr) : Array Slot := #[iv p0, iv p1, iv p2, iv p3, iv p4, iv (f1 p0), iv (f1 p1), iv (f1 p2), iv (f1 p3), iv 3, rv b269, rv b288, rv b363, iv 1, iv 1, rv b372, iv 1]
abbrev L0_33 (p0 : Int32) (p1 : Int32) (p2 : Int32) (p3 : Int32) (p4 : Int32) (b269 : Addr) (b288 : Addr) (b423 : Addr) : Array Slot := #[iv p0, iv p1, iv p2, iv p3, iv p4, iv (f1 p0), iv (f1 p1), iv (f1 p2), iv (f1 p3), iv 3, rv b269, rv b288, rv b423, iv 2, iv 0, .unset, .unset]
abbrev L0_34 (p0 : Int32) (p1 : Int32) (p2 : Int32) (p3 : Int32) (p4 : Int32) (b269 : Addr) (b288 : Addr) (b423 : Addr) : Array Slot := #[iv p0, iv p1, iv p2, iv p3, iv p4, iv (f1 p0), iv (f1 p1), iv (f1 p2), iv (f1 p3), iv 3, rv b269, rv b288, rv b423, iv (-1), .unset, .unset, .unset]
abbrev L0_35 (p0 : Int32) (p1 : Int32) (p2 : Int32) (p3 : Int32) (p4 : Int32) (b269 : Addr) (b288 : Addr) (b423 : Addr) : Array Slot := #[iv p0, iv p1, iv p2, iv p3, iv p4, iv (f1 p0), iv (f1 p1), iv (f1 p2), iv (f1 p3), iv 3, rv b269, rv b288, rv b423, iv 2, .unset, .unset, .unset]
abbrev L0_36 (p0 : Int32) (p1 : Int32) (p2 : Int32) (p3 : Int32) (p4 : Int32) (b269 : Addr) (b288 : Addr) (b423 : Addr) (b433 : Addr) : Array Slot := #[iv p0, iv p1, iv p2, iv p3, iv p4, iv (f1 p0), iv (f1 p1), iv (f1 p2), iv (f1 p3), iv 3, rv b269, rv b288, rv b423, iv 2, iv 0, rv b433, iv 1]
abbrev L0_37 (p0 : Int32) (p1 : Int32) (p2 : Int32) (p3 : Int32) (p4 : Int32) (b269 : Addr) (b288 : Addr) : Array Slot := #[iv p0, iv p1, iv p2, iv p3, iv p4, iv (f1 p0), iv (f1 p1), iv (f1 p2), iv (f1 p3), iv 3, rv b269, rv b288, .val .null, iv (-1), .unset, .unset, .unset]
abbrev L0_38 (p0 : Int32) (p1 : Int32) (p2 : Int32) (p3 : Int32) (p4 : Int32) : Array Slot := #[iv p0, iv p1, iv p2, iv p3, iv p4, iv (f1 p0), iv (f1 p1), iv (f1 p2), iv (f1 p3), iv 4, .unset, .unset, .unset, .unset, .unset, .unset, .unset]
abbrev L0_39 (p0 : Int32) (p1 : Int32) (p2 : Int32) (p3 : Int32) (p4 : Int32) (b485 : Addr) : Array Slot := #[iv p0, iv p1, iv p2, iv p3, iv p4, iv (f1 p0), iv (f1 p1), iv (f1 p2), iv (f1 p3), iv 4, rv b485, .unset, .unset, .unset, .unset, .unset, .unset]
abbrev L0_40 (p0 : Int32) (p1 : Int32) (p2 : Int32) (p3 : Int32) (p4 : Int32) (b485 : Addr) (b509 : Addr) : Array Slot := #[iv p0, iv p1, iv p2, iv p3, iv p4, iv (f1 p0), iv (f1 p1), iv (f1 p2), iv (f1 p3), iv 4, rv b485, rv b509, .unset, .unset, .unset, .unset, .unset]
abbrev L0_41 (p0 : Int32) (p1 : Int32) (p2 : Int32) (p3 : Int32) (p4 : Int32) (b485 : Addr) (b509 : Addr) (b522 : Addr) : Array Slot := #[iv p0, iv p1, iv p2, iv p3, iv p4, iv (f1 p0), iv (f1 p1), iv (f1 p2), iv (f1 p3), iv 4, rv b485, rv b509, rv b522, iv 0, iv 3, .unset, .unset]
abbrev L0_42 (p0 : Int32) (p1 : Int32) (p2 : Int32) (p3 : Int32) (p4 : Int32) (b485 : Addr) (b509 : Addr) (b522 : Addr) : Array Slot := #[iv p0, iv p1, iv p2, iv p3, iv p4, iv (f1 p0), iv (f1 p1), iv (f1 p2), iv (f1 p3), iv 4, rv b485, rv b509, rv b522, iv 0, .unset, .unset, .unset]
abbrev L0_43 (p0 : Int32) (p1 : Int32) (p2 : Int32) (p3 : Int32) (p4 : Int32) (b485 : Addr) (b509 : Addr) (b522 : Addr) (b531 : Addr) : Array Slot := #[iv p0, iv p1, iv p2, iv p3, iv p4, iv (f1 p0), iv (f1 p1), iv (f1 p2), iv (f1 p3), iv 4, rv b485, rv b509, rv b522, iv 0, iv 3, rv b531, iv 1]
abbrev L0_44 (p0 : Int32) (p1 : Int32) (p2 : Int32) (p3 : Int32) (p4 : Int32) (b485 : Addr) (b509 : Addr) (b586 : Addr) : Array Slot := #[iv p0, iv p1, iv p2, iv p3, iv p4, iv (f1 p0), iv (f1 p1), iv (f1 p2), iv (f1 p3), iv 4, rv b485, rv b509, rv b586, iv 1, iv 2, .unset, .unset]
abbrev L0_45 (p0 : Int32) (p1 : Int32) (p2 : Int32) (p3 : Int32) (p4 : Int32) (b485 : Addr) (b509 : Addr) (b586 : Addr) : Array Slot := #[iv p0, iv p1, iv p2, iv p3, iv p4, iv (f1 p0), iv (f1 p1), iv (f1 p2), iv (f1 p3), iv 4, rv b485, rv b509, rv b586, iv (-1), .unset, .unset, .unset]
abbrev L0_46 (p0 : Int32) (p1 : Int32) (p2 : Int32) (p3 : Int32) (p4 : Int32) (b485 : Addr) (b509 : Addr) (b586 : Addr) : Array Slot := #[iv p0, iv p1, iv p2, iv p3, iv p4, iv (f1 p0), iv (f1 p1), iv (f1 p2), iv (f1 p3), iv 4, rv b485, rv b509, rv b586, iv 1, .unset, .unset, .unset]
abbrev L0_47 (p0 : Int32) (p1 : Int32) (p2 : Int32) (p3 : Int32) (p4 : Int32) (b485 : Addr) (b509 : Addr) (b586 : Addr) (b595 : Addr) : Array Slot := #[iv p0, iv p1, iv p2, iv p3, iv p4, iv (f1 p0), iv (f1 p1), iv (f1 p2), iv (f1 p3), iv 4, rv b485, rv b509, rv b586, iv 1, iv 2, rv b595, iv 1]
abbrev L0_48 (p0 : Int32) (p1 : Int32) (p2 : Int32) (p3 : Int32) (p4 : Int32) (b485 : Addr) (b509 : Addr) (b648 : Addr) : Array Slot := #[iv p0, iv p1, iv p2, iv p3, iv p4, iv (f1 p0), iv (f1 p1), iv (f1 p2), iv (f1 p3), iv 4, rv b485, rv b509, rv b648, iv 2, iv 1, .unset, .unset]
abbrev L0_49 (p0 : Int32) (p1 : Int32) (p2 : Int32) (p3 : Int32) (p4 : Int32) (b485 : Addr) (b509 : Addr) (b648 : Addr) : Array Slot := #[iv p0, iv p1, iv p2, iv p3, iv p4, iv (f1 p0), iv (f1 p1), iv (f1 p2), iv (f1 p3), iv 4, rv b485, rv b509, rv b648, iv (-1), .unset, .unset, .unset]
abbrev L0_50 (p0 : Int32) (p1 : Int32) (p2 : Int32) (p3 : Int32) (p4 : Int32) (b485 : Addr) (b509 : Addr) (b648 : Addr) : Array Slot := #[iv p0, iv p1, iv p2, iv p3, iv p4, iv (f1 p0), iv (f1 p1), iv (f1 p2), iv (f1 p3), iv 4, rv b485, rv b509, rv b648, iv 2, .unset, .unset, .unset]
abbrev L0_51 (p0 : Int32) (p1 : Int32) (p2 : Int32) (p3 : Int32) (p4 : Int32) (b485 : Addr) (b509 : Addr) (b648 : Addr) (b657 : Addr) : Array Slot := #[iv p0, iv p1, iv p2, iv p3, iv p4, iv (f1 p0), iv (f1 p1), iv (f1 p2), iv (f1 p3), iv 4, rv b485, rv b509, rv b648, iv 2, iv 1, rv b657, iv 1]
abbrev L0_52 (p0 : Int32) (p1 : Int32) (p2 : Int32) (p3 : Int32) (p4 : Int32) (b485 : Addr) (b509 : Addr) (b708 : Addr) : Array Slot := #[iv p0, iv p1, iv p2, iv p3, iv p4, iv (f1 p0), iv (f1 p1), iv (f1 p2), iv (f1 p3), iv 4, rv b485, rv b509, rv b708, iv 3, iv 0, .unset, .unset]
abbrev L0_53 (p0 : Int32) (p1 : Int32) (p2 : Int32) (p3 : Int32) (p4 : Int32) (b485 : Addr) (b509 : Addr) (b708 : Addr) : Array Slot := #[iv p0, iv p1, iv p2, iv p3, iv p4, iv (f1 p0), iv (f1 p1), iv (f1 p2), iv (f1 p3), iv 4, rv b485, rv b509, rv b708, iv (-1), .unset, .unset, .unset]
abbrev L0_54 (p0 : Int32) (p1 : Int32) (p2 : Int32) (p3 : Int32) (p4 : Int32) (b485 : Addr) (b509 : Addr) (b708 : Addr) : Array Slot := #[iv p0, iv p1, iv p2, iv p3, iv p4, iv (f1 p0), iv (f1 p1), iv (f1 p2), iv (f1 p3), iv 4, rv b485, rv b509, rv b708, iv 3, .unset, .unset, .unset]
abbrev L0_55 (p0 : Int32) (p1 : Int32) (p2 : Int32) (p3 : Int32) (p4 : Int32) (b485 : Addr) (b509 : Addr) (b708 : Addr) (b718 : Addr) : Array Slot := #[iv p0, iv p1, iv p2, iv p3, iv p4, iv (f1 p0), iv (f1 p1), iv (f1 p2), iv (f1 p3), iv 4, rv b485, rv b509, rv b708, iv 3, iv 0, rv b718, iv 1]
abbrev L0_56 (p0 : Int32) (p1 : Int32) (p2 : Int32) (p3 : Int32) (p4 : Int32) (b485 : Addr) (b509 : Addr) : Array Slot := #[iv p0, iv p1, iv p2, iv p3, iv p4, iv (f1 p0), iv (f1 p1), iv (f1 p2), iv (f1 p3), iv 4, rv b485, rv b509, .val .null, iv (-1), .unset, .unset, .unset]
set_option maxRecDepth 65536 in
set_option maxHeartbeats 40000000 in
theorem rm0 (l : Launch) (Z : State) (aZ : Array Value) (hw : HW aZ Z) (ws : List Jvm.Cond) (p0 : Int32) (p1 : Int32) (p2 : Int32) (p3 : Int32) (p4 : Int32) (s_COMPACT_STRINGS : Int32) (s_SIOOBE_FORMATTER : Value) (h0 : Heap) (n0 : Nat) (Z0 : n0 ≤ h0.size) (hkp : ∀ (b : Addr) (cl : Cell), Z.heap[b]? = some cl → h0[b]? = some cl) (hcn7 : Jvm.Lit.constHeld Z "java/lang/String" 7) (hcn151 : Jvm.Lit.constHeld Z "java/lang/StringLatin1" 151) (hcw : Jvm.Lit.compactW.before aZ Z = true) (S_COMPACT_STRINGS : SfC Z h0 (.int s_COMPACT_STRINGS)) (hcs : ¬ s_COMPACT_STRINGS = (0 : Int32)) (S_SIOOBE_FORMATTER : SfF Z h0 s_SIOOBE_FORMATTER) (rS_SIOOBE_FORMATTER : s_SIOOBE_FORMATTER.isRef = true) :
    MetFree l x (head1 (Jvm.Cond.code x code maxLocals ret :: ws) room_1) (fun a U => a = #[(.int p0), (.int p1), (.int p2), (.int p3), (.int p4)] ∧ Z.Warmed39 U.vm ∧ U.heap = h0 ∧ IB Z U.vm []) (fun _ _ _ _ _ => True) (fun _ U o U' => ∃ v L, o = .returned v ∧ Q0 Z n0 p0 p1 p2 p3 p4 s_COMPACT_STRINGS s_SIOOBE_FORMATTER h0 v U'.heap L ∧ ReturnedEndW U o U' L room_1.cells room_1.slots) := by
  refine MetFree.of_bodySF (plainFor_of_name pn_107) hisR ?_
  intro p e s m args below meth c s₁ Bd hml0 hP hK
  obtain ⟨rfl, hZ, hh, IB0⟩ := hP
  have hx := Bd.exec
  have hby := Bd.bytes
  have hml : c.maxLocals = 17 := hml0
  have hown : s.vm.findClass "com/example/nephele/nephele/web/internal/RequestPathQueryStringPinLaw" = some m.cls := findClass_of_methodNamed Bd.named
  have hnm := (name_of_methodNamed Bd.named Bd.method).1
  have X0 : Stand p l e room_1 (s.setVm s.vm) m #[(.int p0), (.int p1), (.int p2), (.int p3), (.int p4)] below meth c s₁ [] 0 0 := Stand.of_body Bd
  have e0 : s₁.heap = h0 := by rw [← hh, Bd.state]; rfl
  have N0 := Fr.nil n0
  have K0 : Keep h0 h0 [] := Keep.refl _ _
  obtain ⟨En, hEn⟩ : ∃ z, z = (s₁.setTop (entryFrame m #[(.int p0), (.int p1), (.int p2), (.int p3), (.int p4)] maxLocals)) := ⟨_, rfl⟩
  have go0 : Go p.tables e below s₁ (mkF m 0 #[iv p0, iv p1, iv p2, iv p3, iv p4, .unset, .unset, .unset, .unset, .unset, .unset, .unset, .unset, .unset, .unset, .unset, .unset] []) En := fun t k => by subst hEn; exact castTop (ef0 m p0 p1 p2 p3 p4) k
  have hS0 : s.Since s.vm s.heap.size := (State.WarmedH.refl s).since _
  have hk0 : s.heap.size ≤ h0.size := by rw [← hh]; exact Nat.le_refl _
  have hkS : ∀ (b : Addr) (cl : Cell), Z.heap[b]? = some cl → s.heap[b]? = some cl := fun b cl q => by rw [hh]; exact hkp b cl q
  have go1 : Go p.tables e below s₁ (mkF m 1 #[iv p0, iv p1, iv p2, iv p3, iv p4, .unset, .unset, .unset, .unset, .unset, .unset, .unset, .unset, .unset, .unset, .unset, .unset] [(.int p0)]) En := by
    intro t k
    refine go0 _ ?_
    refine XS.iloadN X0.here hx rfl (hb hby at_0) rfl ?_
    exact k
  obtain ⟨_, T2, Lc2, X2, hQ2, st2⟩ := own_cs X0 hx hZ hown hml go1 (hb hby at_1) e0 (hw _ (mi 0 rfl)) (own_site403 hw) (rm1 l Z aZ hw [] p0 h0 n0 Z0 ) (by decide) (argsL := [(.int p0)]) (rest := []) rfl rfl rfl (lenOf pd_404 rfl) (W := 0) rfl (by decide) (by decide) (by decide : 0 + 0 ≤ _) (by decide : 0 + 0 ≤ _)
  obtain ⟨rfl, N2q, e2⟩ := hQ2
  have N2 := Fr.app N0 N2q
  have go3 : Go p.tables e below T2 (mkF m 7 #[iv p0, iv p1, iv p2, iv p3, iv p4, iv (f1 p0), .unset, .unset, .unset, .unset, .unset, .unset, .unset, .unset, .unset, .unset, .unset] [(.int p1)]) En := by
    intro t k
    refine st2 _ ?_
    refine XS.istore X2.here hx rfl (hb hby at_4) rfl (l' := #[iv p0, iv p1, iv p2, iv p3, iv p4, iv (f1 p0), .unset, .unset, .unset, .unset, .unset, .unset, .unset, .unset, .unset, .unset, .unset]) rfl ?_
    refine XS.iloadN X2.here hx rfl (hb hby at_6) rfl ?_
    exact k
  obtain ⟨_, T4, Lc4, X4, hQ4, st4⟩ := own_cs X2 hx hZ hown hml go3 (hb hby at_7) e2 (hw _ (mi 0 rfl)) (own_site403 hw) (rm1 l Z aZ hw [] p1 h0 n0 Z0 ) (by decide) (argsL := [(.int p1)]) (rest := []) rfl rfl rfl (lenOf pd_404 rfl) (W := 0) rfl (by decide) (by decide) (by decide : 0 + 0 ≤ _) (by decide : 0 + 0 ≤ _)
  obtain ⟨rfl, N4q, e4⟩ := hQ4
  have N4 := Fr.app N2 N4q
  have go5 : Go p.tables e below T4 (mkF m 13 #[iv p0, iv p1, iv p2, iv p3, iv p4, iv (f1 p0), iv (f1 p1), .unset, .unset, .unset, .unset, .unset, .unset, .unset, .unset, .unset, .unset] [(.int p2)]) En := by
    intro t k
    refine st4 _ ?_
    refine XS.istore X4.here hx rfl (hb hby at_10) rfl (l' := #[iv p0, iv p1, iv p2, iv p3, iv p4, iv (f1 p0), iv (f1 p1), .unset, .unset, .unset, .unset, .unset, .unset, .unset, .unset, .unset, .unset]) rfl ?_
    refine XS.iloadN X4.here hx rfl (hb hby at_12) rfl ?_
    exact k
  obtain ⟨_, T6, Lc6, X6, hQ6, st6⟩ := own_cs X4 hx hZ hown hml go5 (hb hby at_13) e4 (hw _ (mi 0 rfl)) (own_site403 hw) (rm1 l Z aZ hw [] p2 h0 n0 Z0 ) (by decide) (argsL := [(.int p2)]) (rest := []) rfl rfl rfl (lenOf pd_404 rfl) (W := 0) rfl (by decide) (by decide) (by decide : 0 + 0 ≤ _) (by decide : 0 + 0 ≤ _)
  obtain ⟨rfl, N6q, e6⟩ := hQ6
  have N6 := Fr.app N4 N6q
  have go7 : Go p.tables e below T6 (mkF m 19 #[iv p0, iv p1, iv p2, iv p3, iv p4, iv (f1 p0), iv (f1 p1), iv (f1 p2), .unset, .unset, .unset, .unset, .unset, .unset, .unset, .unset, .unset] [(.int p3)]) En := by
    intro t k
    refine st6 _ ?_
    refine XS.istore X6.here hx rfl (hb hby at_16) rfl (l' := #[iv p0, iv p1, iv p2, iv p3, iv p4, iv (f1 p0), iv (f1 p1), iv (f1 p2), .unset, .unset, .unset, .unset, .unset, .unset, .unset, .unset, .unset]) rfl ?_
    refine XS.iloadN X6.here hx rfl (hb hby at_18) rfl ?_
    exact k
  obtain ⟨_, T8, Lc8, X8, hQ8, st8⟩ := own_cs X6 hx hZ hown hml go7 (hb hby at_19) e6 (hw _ (mi 0 rfl)) (own_site403 hw) (rm1 l Z aZ hw [] p3 h0 n0 Z0 ) (by decide) (argsL := [(.int p3)]) (rest := []) rfl rfl rfl (lenOf pd_404 rfl) (W := 0) rfl (by decide) (by decide) (by decide : 0 + 0 ≤ _) (by decide : 0 + 0 ≤ _)
  obtain ⟨rfl, N8q, e8⟩ := hQ8
  have N8 := Fr.app N6 N8q
  have go10 : Go p.tables e below T8 (mkF m 33 #[iv p0, iv p1, iv p2, iv p3, iv p4, iv (f1 p0), iv (f1 p1), iv (f1 p2), iv (f1 p3), iv (v0_9 p4), .unset, .unset, .unset, .unset, .unset, .unset, .unset] []) En := by
    intro t k
    refine st8 _ ?_
    refine XS.istore X8.here hx rfl (hb hby at_22) rfl (l' := (L0_0 p0 p1 p2 p3 p4)) rfl ?_
    refine XS.iload X8.here hx rfl (hb hby at_24) rfl ?_
    refine X8.ldcInt hx hown (mvT hZ (hw _ (mi 4 rfl))) (g := (mkF m 26 (L0_0 p0 p1 p2 p3 p4) [(.int p4)])) rfl (hb hby at_26) _ ?_
    refine XS.iand X8.here hx rfl (hb hby at_28) rfl ?_
    refine XS.iconst X8.here hx rfl (hb hby at_29) ?_
    show Steps _ _ _ (T8.setTop (mkF m 30 (L0_0 p0 p1 p2 p3 p4) [(.int 5), (.int (p4 &&& (2147483647 : Int32)))])) _
    refine iremM X8 hx rfl (hb hby at_30) rfl (by decide) ?_
    refine XS.istore X8.here hx rfl (hb hby at_31) rfl (l' := #[iv p0, iv p1, iv p2, iv p3, iv p4, iv (f1 p0), iv (f1 p1), iv (f1 p2), iv (f1 p3), iv (v0_9 p4), .unset, .unset, .unset, .unset, .unset, .unset, .unset]) rfl ?_
    exact k
  by_cases hs11 : (v0_9 p4) = (0 : Int32)
  · have go12 : Go p.tables e below T8 (mkF m 33 (L0_1 p0 p1 p2 p3 p4) []) En := by
      have q : Go p.tables e below T8 (mkF m  33 #[iv p0, iv p1, iv p2, iv p3, iv p4, iv (f1 p0), iv (f1 p1), iv (f1 p2), iv (f1 p3), iv (v0_9 p4), .unset, .unset, .unset, .unset, .unset, .unset, .unset] []) En := go10
      rw [hs11] at q
      exact q
    have go13 : Go p.tables e below T8 (mkF m 39 (L0_1 p0 p1 p2 p3 p4) [(.int 0)]) En := by
      intro t k
      refine go12 _ ?_
      refine XS.iload X8.here hx rfl (hb hby at_33) rfl ?_
      refine XS.ifNo X8.here hx rfl (hb hby at_35) rfl (XT.i0_ne_f (by decide : ((0 : Int32) = (0 : Int32)))) ?_
      refine XS.iconst X8.here hx rfl (hb hby at_38) ?_
      exact k
    obtain ⟨T14, h14, k14, X14, e14, E14, A14, st14⟩ := newP X8 hx hZ (hw _ (mi 5 rfl)) e8 (g := (mkF m 39 (L0_1 p0 p1 p2 p3 p4) [(.int 0)])) rfl (hb hby at_39) rfl (by decide) (cap := 0) (by decide) (by decide) (by decide) (by decide)
    obtain ⟨b14, g14⟩ : ∃ z, z = h0.size := ⟨_, rfl⟩
    rw [← g14] at A14 st14
    have low14 : n0 ≤ b14 := Nat.le_trans Z0 (Nat.le_of_eq g14.symm)
    have fsh14 : h0.size ≤ b14 := Nat.le_trans K0.1 (Nat.le_of_eq g14.symm)
    have K14 : Keep h0 h14 [] := K0.ext E14
    have Zs14 : n0 ≤ h14.size := Nat.le_trans Z0 E14.1
    have hk14 : s.heap.size ≤ h14.size := Nat.le_trans hk0 E14.1
    have go15 := gap go13 st14
    have F16 : Arv Z h14 b14 k14 .char (0 : Int32) [] (.int 0) := (Arv.new A14 (by decide)).pad (pad_rep [] (.int 0) 0)
    have go17 : Go p.tables e below T14 (mkF m 143 (L0_2 p0 p1 p2 p3 p4 b14) []) En := by
      intro t k
      refine go15 _ ?_
      refine XS.astore X14.here hx rfl (hb hby at_41) rfl rfl (l' := (L0_2 p0 p1 p2 p3 p4 b14)) rfl ?_
      refine XS.goto X14.here hx rfl (pc0 := 43) (pc' := 143) rfl (hb hby at_43) (by decide) (by decide) ?_
      exact k
    obtain ⟨T18, h18, X18, e18, E18, A18, D18, -, st18⟩ := newO X14 hx hZ hown (hw _ (mi 6 rfl)) (hw _ (mi 7 rfl)) (hw _ (mi 8 rfl)) e14 (g := (mkF m 143 (L0_2 p0 p1 p2 p3 p4 b14) [])) rfl (hb hby at_143) (by decide) (by decide)
    obtain ⟨b18, g18⟩ : ∃ z, z = h14.size := ⟨_, rfl⟩
    rw [← g18] at A18 D18 st18
    have ne19 : b14 ≠ b18 := Nat.ne_of_lt (Nat.lt_of_lt_of_le F16.lt (Nat.le_of_eq g18.symm))
    have low18 : n0 ≤ b18 := Nat.le_trans Zs14 (Nat.le_of_eq g18.symm)
    have fsh18 : h0.size ≤ b18 := Nat.le_trans K14.1 (Nat.le_of_eq g18.symm)
    have K18 : Keep h0 h18 [] := K14.ext E18
    have Zs18 : n0 ≤ h18.size := Nat.le_trans Zs14 E18.1
    have hk18 : s.heap.size ≤ h18.size := Nat.le_trans hk14 E18.1
    have go20 := gap go17 st18
    have F21 := F16.ext E18
    have F22 : Fvl Z h18 b18 .null := D18 (Or.inr (hw _ (mi 21 rfl))) (ty := (.array .byte)) (by decide)
    have F23 : Fcd Z h18 b18 (.int 0) := D18 (Or.inr (hw _ (mi 22 rfl))) (ty := .byte) (by decide)
    have go24 : Go p.tables e below T18 (mkF m 149 (L0_2 p0 p1 p2 p3 p4 b14) [(.ref b14), (.ref b18), (.ref b18)]) En := by
      intro t k
      refine go20 _ ?_
      refine XS.dup X18.here hx rfl (hb hby at_146) rfl rfl ?_
      refine XS.aload X18.here hx rfl (hb hby at_147) rfl rfl ?_
      exact k
    obtain ⟨_, _, ⟨T25, L25, k25, n25⟩, -, X25q, hS25q, hg25, ⟨Lc25, hQ25, l25, y25, z25⟩, st25⟩ := X18.specialBackS hx (y := (⟨"java/lang/String", "<init>", "([C)V"⟩ : MethodName)) rfl hown (mvT hZ (hw _ (mi 9 rfl))) (mvT hZ (hw _ (mi 10 rfl))) (mvT hZ (hw _ (mi 11 rfl))) (by decide) (own_backOfSI (W := 1) (rmiBn0 l Z aZ hw [] b18 b14 k14 h18 n0 Zs18 A18 F22 F23 low18 F21 (fun b cl q => K18.2.1 b cl (hkp b cl q) nin0) hcn7 hcw) hZ (hw _ (mi 11 rfl)) (hw _ (mi 8 rfl)) (by decide) (by decide) IB0) (g := (mkF m 149 (L0_2 p0 p1 p2 p3 p4 b14) [(.ref b14), (.ref b18), (.ref b18)])) rfl (by rw [hml]; rfl) (Steps.refl _) (a := b18) (argsL := [(.ref b14)]) (rest := [(.ref b18)]) (lenOf pd_406 rfl) rfl (by show 2 * 0 + _ ≤ _; exact Nat.le_of_eq rfl) (hb hby at_149) (fun _ _ => ⟨rfl, e18, (by decide : 2 + 2 ≤ _), (by decide : 4 + 4 ≤ _)⟩)
    dsimp only [Pt.U, Pt.locs, Pt.cells, Pt.slots] at X25q hS25q hg25 l25 y25 z25 st25 hQ25
    subst l25 y25 z25
    have hk25q : s.heap.size ≤ T18.heap.size := by rw [e18]; exact hk18
    obtain ⟨X25, hS25, hZ25, hown25⟩ := rebS hS0 hk25q X25q hS25q hg25 hZ hown
    have hk25r : T25.heap.size ≤ T25.heap.size := Nat.le_refl _
    obtain ⟨rfl, N25q, K25q, G25_0, G25_1, bx25, kx25, GX25, GV25⟩ := hQ25
    have N25 := Fr.app N8 N25q
    have K25 : Keep h0 T25.heap [] := K18.trans K25q (allS (Or.inr fsh18) all0)
    have Zs25 : n0 ≤ T25.heap.size := Nat.le_trans Zs18 K25q.1
    have hk25 : s.heap.size ≤ T25.heap.size := Nat.le_trans hk18 K25q.1
    have F26 := F21.keep K25q (ninS ne19 nin0)
    have F27 := A18.keep K25q
    have go28 := gapT go24 st25
    have go29 : Go p.tables e below T25 (mkF m 154 (L0_3 p0 p1 p2 p3 p4 b14 b18) []) En := by
      intro t k
      refine go28 _ ?_
      refine XS.astore X25.here hx rfl (hb hby at_152) rfl rfl (l' := (L0_3 p0 p1 p2 p3 p4 b14 b18)) rfl ?_
      exact k
    have go30 : Go p.tables e below T25 (mkF m 156 (L0_3 p0 p1 p2 p3 p4 b14 b18) [(.ref b18)]) En := by
      intro t k
      refine go29 _ ?_
      refine XS.aload X25.here hx rfl (hb hby at_154) rfl rfl ?_
      exact k
    obtain ⟨_, T31, Lc31, X31, hQ31, st31⟩ := own_cs X25 hx hZ25 hown25 hml go30 (hb hby at_156) rfl (hw _ (mi 27 rfl)) (own_site407 hw) (rmqs0_m l Z aZ hw [] b18 _ _ _ T25.heap n0 Zs25 G25_0 G25_1 GX25 GV25 (own_sta_keep S_COMPACT_STRINGS K25 all0) hcs) (by decide) (argsL := [(.ref b18)]) (rest := []) rfl rfl rfl (lenOf pd_408 rfl) (W := 0) rfl (by decide) (by decide) (by decide : 4 + 0 ≤ _) (by decide : 8 + 0 ≤ _)
    obtain ⟨rfl, N31q, e31⟩ := hQ31
    have N31 := Fr.app N25 N31q
    have go32 : Go p.tables e below T31 (mkF m 251 (L0_4 p0 p1 p2 p3 p4 b14 b18) [(.int 1)]) En := by
      intro t k
      refine st31 _ ?_
      refine XS.astore X31.here hx rfl (hb hby at_159) rfl rfl (l' := #[iv p0, iv p1, iv p2, iv p3, iv p4, iv (f1 p0), iv (f1 p1), iv (f1 p2), iv (f1 p3), iv 0, rv b14, rv b18, .val .null, .unset, .unset, .unset, .unset]) rfl ?_
      refine XS.iconst X31.here hx rfl (hb hby at_161) ?_
      refine XS.istore X31.here hx rfl (hb hby at_162) rfl (l' := (L0_4 p0 p1 p2 p3 p4 b14 b18)) rfl ?_
      refine XS.iload X31.here hx rfl (hb hby at_164) rfl ?_
      refine XS.ifYes X31.here hx rfl (pc0 := 166) (pc' := 182) rfl (hb hby at_166) rfl (XT.i0_le_t (by decide : ¬ ((0 : Int32) < (0 : Int32)))) (by decide) (by decide) ?_
      show Steps _ _ _ (T31.setTop (mkF m 182 (L0_4 p0 p1 p2 p3 p4 b14 b18) [])) _
      refine XS.iload X31.here hx rfl (hb hby at_182) rfl ?_
      refine XS.iconst X31.here hx rfl (hb hby at_184) ?_
      refine XS.icmpYes X31.here hx rfl (pc0 := 185) (pc' := 201) rfl (hb hby at_185) rfl (XT.ii_le_t (by decide : ¬ ((1 : Int32) < (0 : Int32)))) (by decide) (by decide) ?_
      refine XS.iload X31.here hx rfl (hb hby at_201) rfl ?_
      refine XS.iconst X31.here hx rfl (hb hby at_203) ?_
      show Steps _ _ _ (T31.setTop (mkF m 204 (L0_4 p0 p1 p2 p3 p4 b14 b18) [(.int 2), (.int 0)])) _
      refine XS.icmpYes X31.here hx rfl (pc0 := 204) (pc' := 220) rfl (hb hby at_204) rfl (XT.ii_le_t (by decide : ¬ ((2 : Int32) < (0 : Int32)))) (by decide) (by decide) ?_
      refine XS.iload X31.here hx rfl (hb hby at_220) rfl ?_
      refine XS.iconst X31.here hx rfl (hb hby at_222) ?_
      refine XS.icmpYes X31.here hx rfl (pc0 := 223) (pc' := 236) rfl (hb hby at_223) rfl (XT.ii_le_t (by decide : ¬ ((3 : Int32) < (0 : Int32)))) (by decide) (by decide) ?_
      refine XS.iload X31.here hx rfl (hb hby at_236) rfl ?_
      show Steps _ _ _ (T31.setTop (mkF m 238 (L0_4 p0 p1 p2 p3 p4 b14 b18) [(.int (-1))])) _
      refine XS.ifNo X31.here hx rfl (hb hby at_238) rfl (XT.i0_ge_f (by decide : ((-1 : Int32) < (0 : Int32)))) ?_
      refine XS.aload X31.here hx rfl (hb hby at_241) rfl rfl ?_
      refine XT.nonnullNo X31.here hx rfl (hb hby at_243) rfl rfl ?_
      refine XS.iconst X31.here hx rfl (hb hby at_246) ?_
      refine XS.goto X31.here hx rfl (pc0 := 247) (pc' := 251) rfl (hb hby at_247) (by decide) (by decide) ?_
      show Steps _ _ _ (T31.setTop (mkF m 251 (L0_4 p0 p1 p2 p3 p4 b14 b18) [(.int 1)])) _
      exact k
    obtain ⟨fs, hr, hrun, hended, hRW⟩ := X31.leaveW hS25 (by rw [e31]; exact hk25r) (v := some (.int 1)) (fun h => by rw [Bd.returns] at h; cases h) Bd.notSynchronized
    subst hEn
    refine ⟨_, _, go32 _ (Jvm.RoadKit.retOut X31 hx Bd.returns rfl (Or.inl ⟨rfl, Or.inr (Or.inl rfl), _, rfl⟩) (hb hby at_251) hr), hrun, hended, _, _, rfl, ?_, hRW.1, hRW.2.1, hRW.2.2.1, hRW.2.2.2.mono (by decide) (by decide)⟩
    show Q0 _ _ p0 p1 p2 p3 p4 s_COMPACT_STRINGS s_SIOOBE_FORMATTER h0 _ (T31.setFrames fs).heap _
    have hE : (T31.setFrames fs).heap = T25.heap := e31
    rw [hE]
    exact ⟨congrArg (fun z => some (Value.int z)) ((by rw [f0, if_pos hs11] : (1 : Int32) = (f0 p0 p1 p2 p3 p4)).trans (f0_one p0 p1 p2 p3 p4)), N31⟩
  by_cases hs33 : (v0_9 p4) = (1 : Int32)
  · have go34 : Go p.tables e below T8 (mkF m 33 (L0_5 p0 p1 p2 p3 p4) []) En := by
      have q : Go p.tables e below T8 (mkF m  33 #[iv p0, iv p1, iv p2, iv p3, iv p4, iv (f1 p0), iv (f1 p1), iv (f1 p2), iv (f1 p3), iv (v0_9 p4), .unset, .unset, .unset, .unset, .unset, .unset, .unset] []) En := go10
      rw [hs33] at q
      exact q
    have go35 : Go p.tables e below T8 (mkF m 53 (L0_5 p0 p1 p2 p3 p4) [(.int 1)]) En := by
      intro t k
      refine go34 _ ?_
      refine XS.iload X8.here hx rfl (hb hby at_33) rfl ?_
      refine XS.ifYes X8.here hx rfl (pc0 := 35) (pc' := 46) rfl (hb hby at_35) rfl (XT.i0_ne_t (by decide : ¬ ((1 : Int32) = (0 : Int32)))) (by decide) (by decide) ?_
      refine XS.iload X8.here hx rfl (hb hby at_46) rfl ?_
      refine XS.iconst X8.here hx rfl (hb hby at_48) ?_
      refine XS.icmpNo X8.here hx rfl (hb hby at_49) rfl (XT.ii_ne_f (by decide : ((1 : Int32) = (1 : Int32)))) ?_
      show Steps _ _ _ (T8.setTop (mkF m 52 (L0_5 p0 p1 p2 p3 p4) [])) _
      refine XS.iconst X8.here hx rfl (hb hby at_52) ?_
      exact k
    obtain ⟨T36, h36, k36, X36, e36, E36, A36, st36⟩ := newP X8 hx hZ (hw _ (mi 5 rfl)) e8 (g := (mkF m 53 (L0_5 p0 p1 p2 p3 p4) [(.int 1)])) rfl (hb hby at_53) rfl (by decide) (cap := 1) (by decide) (by decide) (by decide) (by decide)
    obtain ⟨b36, g36⟩ : ∃ z, z = h0.size := ⟨_, rfl⟩
    rw [← g36] at A36 st36
    have low36 : n0 ≤ b36 := Nat.le_trans Z0 (Nat.le_of_eq g36.symm)
    have fsh36 : h0.size ≤ b36 := Nat.le_trans K0.1 (Nat.le_of_eq g36.symm)
    have K36 : Keep h0 h36 [] := K0.ext E36
    have Zs36 : n0 ≤ h36.size := Nat.le_trans Z0 E36.1
    have hk36 : s.heap.size ≤ h36.size := Nat.le_trans hk0 E36.1
    have go37 := gap go35 st36
    have F38 : Arv Z h36 b36 k36 .char (1 : Int32) [(.int 0)] (.int 0) := (Arv.new A36 (by decide)).pad (pad_rep [] (.int 0) 1)
    have go39 : Go p.tables e below T36 (mkF m 59 (L0_5 p0 p1 p2 p3 p4) [(.int (f1 p0)), (.int 0), (.ref b36), (.ref b36)]) En := by
      intro t k
      refine go37 _ ?_
      refine XS.dup X36.here hx rfl (hb hby at_55) rfl rfl ?_
      refine XS.iconst X36.here hx rfl (hb hby at_56) ?_
      refine XS.iload X36.here hx rfl (hb hby at_57) rfl ?_
      exact k
    obtain ⟨cl41, Ar41, q41, S41, N41, H41, G41⟩ := id F38
    obtain ⟨T40, h40, X40, e40, W40, st40⟩ := stC X36 hx hZ e36 Ar41 (j := (0 : Int32)) (inb_of S41 ⟨by decide, by decide⟩) (g := (mkF m 59 (L0_5 p0 p1 p2 p3 p4) [(.int (f1 p0)), (.int 0), (.ref b36), (.ref b36)])) rfl rfl (hb hby at_59)
    have go42 := gap go39 st40
    have N40 := Fr.snoc X40 N8 low36
    have K40 : Keep h0 h40 [] := K36.wr W40 (Or.inr fsh36)
    have Zs40 : n0 ≤ h40.size := Nat.le_trans Zs36 (Keep.of_wr W40).1
    have hk40 : s.heap.size ≤ h40.size := Nat.le_trans hk36 (Keep.of_wr W40).1
    have F43 : Arv Z h40 b36 k36 .char (1 : Int32) [(.int (f1 p0).toUInt32.toUInt16.toUInt32.toInt32)] (.int 0) := Arv.set Ar41 q41 S41 N41 H41 G41 (fits_nar_char _) W40 0 rfl (Nat.le_of_ble_eq_true rfl)
    have go44 : Go p.tables e below T40 (mkF m 143 (L0_6 p0 p1 p2 p3 p4 b36) []) En := by
      intro t k
      refine go42 _ ?_
      refine XS.astore X40.here hx rfl (hb hby at_60) rfl rfl (l' := (L0_6 p0 p1 p2 p3 p4 b36)) rfl ?_
      refine XS.goto X40.here hx rfl (pc0 := 62) (pc' := 143) rfl (hb hby at_62) (by decide) (by decide) ?_
      exact k
    obtain ⟨T45, h45, X45, e45, E45, A45, D45, -, st45⟩ := newO X40 hx hZ hown (hw _ (mi 6 rfl)) (hw _ (mi 7 rfl)) (hw _ (mi 8 rfl)) e40 (g := (mkF m 143 (L0_6 p0 p1 p2 p3 p4 b36) [])) rfl (hb hby at_143) (by decide) (by decide)
    obtain ⟨b45, g45⟩ : ∃ z, z = h40.size := ⟨_, rfl⟩
    rw [← g45] at A45 D45 st45
    have ne46 : b36 ≠ b45 := Nat.ne_of_lt (Nat.lt_of_lt_of_le F43.lt (Nat.le_of_eq g45.symm))
    have low45 : n0 ≤ b45 := Nat.le_trans Zs40 (Nat.le_of_eq g45.symm)
    have fsh45 : h0.size ≤ b45 := Nat.le_trans K40.1 (Nat.le_of_eq g45.symm)
    have K45 : Keep h0 h45 [] := K40.ext E45
    have Zs45 : n0 ≤ h45.size := Nat.le_trans Zs40 E45.1
    have hk45 : s.heap.size ≤ h45.size := Nat.le_trans hk40 E45.1
    have go47 := gap go44 st45
    have F48 := F43.ext E45
    have F49 : Fvl Z h45 b45 .null := D45 (Or.inr (hw _ (mi 21 rfl))) (ty := (.array .byte)) (by decide)
    have F50 : Fcd Z h45 b45 (.int 0) := D45 (Or.inr (hw _ (mi 22 rfl))) (ty := .byte) (by decide)
    have go51 : Go p.tables e below T45 (mkF m 149 (L0_6 p0 p1 p2 p3 p4 b36) [(.ref b36), (.ref b45), (.ref b45)]) En := by
      intro t k
      refine go47 _ ?_
      refine XS.dup X45.here hx rfl (hb hby at_146) rfl rfl ?_
      refine XS.aload X45.here hx rfl (hb hby at_147) rfl rfl ?_
      exact k
    obtain ⟨_, T52, Lc52, X52, hQ52, st52⟩ := own_ci X45 hx hZ hown hml go51 (hb hby at_149) e45 (hw _ (mi 9 rfl)) (own_site410 hw) rfl (rmiBn1 l Z aZ hw [] b45 b36 k36 _ _ h45 n0 Zs45 A45 F49 F50 low45 F48 (own_sta_keep S_COMPACT_STRINGS K45 all0) hcs (own_c255 p0)) (by decide) (argsL := [(.ref b36)]) (rest := [(.ref b45)]) rfl rfl rfl (lenOf pd_406 rfl) (W := 1) rfl (by decide) (by decide) (by decide : 2 + 1 ≤ _) (by decide : 5 + 1 ≤ _)
    obtain ⟨rfl, N52q, K52q, G52_0, G52_1, bx52, kx52, GX52, GV52⟩ := hQ52
    have N52 := Fr.app N40 N52q
    have K52 : Keep h0 T52.heap [] := K45.trans K52q (allS (Or.inr fsh45) all0)
    have Zs52 : n0 ≤ T52.heap.size := Nat.le_trans Zs45 K52q.1
    have hk52 : s.heap.size ≤ T52.heap.size := Nat.le_trans hk45 K52q.1
    have F53 := F48.keep K52q (ninS ne46 nin0)
    have F54 := A45.keep K52q
    have go55 : Go p.tables e below T52 (mkF m 154 (L0_7 p0 p1 p2 p3 p4 b36 b45) []) En := by
      intro t k
      refine st52 _ ?_
      refine XS.astore X52.here hx rfl (hb hby at_152) rfl rfl (l' := (L0_7 p0 p1 p2 p3 p4 b36 b45)) rfl ?_
      exact k
    by_cases hs56 : (f1 p0) = (63 : Int32)
    · have go57 : Go p.tables e below T52 (mkF m 156 (L0_7 p0 p1 p2 p3 p4 b36 b45) [(.ref b45)]) En := by
        intro t k
        refine go55 _ ?_
        refine XS.aload X52.here hx rfl (hb hby at_154) rfl rfl ?_
        exact k
      obtain ⟨_, _, ⟨T58, L58, k58, n58⟩, -, X58q, hS58q, hg58, ⟨Lc58, hQ58, l58, y58, z58⟩, st58⟩ := callSS X52 hx (y := (⟨"com/example/nephele/nephele/web/internal/RequestPath", "queryString", "(Ljava/lang/String;)Ljava/lang/String;"⟩ : MethodName)) hown (mvT hZ (hw _ (mi 27 rfl))) (mvT hZ (hw _ (mi 28 rfl))) (mvT hZ (hw _ (mi 29 rfl))) (mvT hZ (hw _ (mi 30 rfl))) (by decide) (own_backOfSI (W := 0) (rmqs1_0 l Z aZ hw [] b45 _ _ _ _ _ T52.heap n0 Zs52 G52_0 G52_1 GX52 GV52 (own_sta_keep S_COMPACT_STRINGS K52 all0) hcs (by rw [fiz1, fiy1, fix1, fic1, if_pos (own_qt p0 hs56)]) (own_sta_keep S_SIOOBE_FORMATTER K52 all0) rS_SIOOBE_FORMATTER (fun b cl q => K52.2.1 b cl (hkp b cl q) nin0) hcn151 hcw) hZ (hw _ (mi 30 rfl)) (hw _ (mi 29 rfl)) (by decide) (by decide) IB0) (g := (mkF m 156 (L0_7 p0 p1 p2 p3 p4 b36 b45) [(.ref b45)])) rfl (by rw [hml]; rfl) (argsL := [(.ref b45)]) (rest := []) (lenOf pd_408 rfl) rfl (by show 2 * 0 + _ ≤ _; exact Nat.le_of_eq rfl) (hb hby at_156) (fun _ _ => ⟨rfl, rfl, (by decide : 3 + 2 ≤ _), (by decide : 6 + 4 ≤ _)⟩)
      dsimp only [Pt.U, Pt.locs, Pt.cells, Pt.slots] at X58q hS58q hg58 l58 y58 z58 st58 hQ58
      subst l58 y58 z58
      have hk58q : s.heap.size ≤ T52.heap.size := hk52
      obtain ⟨X58, hS58, hZ58, hown58⟩ := rebS hS0 hk58q X58q hS58q hg58 hZ hown
      have hk58r : T58.heap.size ≤ T58.heap.size := Nat.le_refl _
      obtain ⟨b58, bx58, kx58, rfl, N58q, K58q, GE58, GC58, GX58, GV58⟩ := hQ58
      have N58 := Fr.app N52 N58q
      have K58 : Keep h0 T58.heap [] := K52.trans K58q all0
      have Zs58 : n0 ≤ T58.heap.size := Nat.le_trans Zs52 K58q.1
      have hk58 : s.heap.size ≤ T58.heap.size := Nat.le_trans hk52 K58q.1
      have F59 := F53.keep K58q nin0
      have F60 := G52_0.keep K58q
      have F61 := G52_1.keep K58q nin0
      have F62 := GX52.keep K58q nin0
      have F63 := GV52.keep K58q nin0
      have go64 := gapT go57 st58
      have go65 : Go p.tables e below T58 (mkF m 270 (L0_8 p0 p1 p2 p3 p4 b36 b45 b58) [(.ref b58)]) En := by
        intro t k
        refine go64 _ ?_
        refine XS.astore X58.here hx rfl (hb hby at_159) rfl rfl (l' := #[iv p0, iv p1, iv p2, iv p3, iv p4, iv (f1 p0), iv (f1 p1), iv (f1 p2), iv (f1 p3), iv 1, rv b36, rv b45, rv b58, .unset, .unset, .unset, .unset]) rfl ?_
        refine XS.iconst X58.here hx rfl (hb hby at_161) ?_
        refine XS.istore X58.here hx rfl (hb hby at_162) rfl (l' := #[iv p0, iv p1, iv p2, iv p3, iv p4, iv (f1 p0), iv (f1 p1), iv (f1 p2), iv (f1 p3), iv 1, rv b36, rv b45, rv b58, iv (-1), .unset, .unset, .unset]) rfl ?_
        refine XS.iload X58.here hx rfl (hb hby at_164) rfl ?_
        refine XS.ifNo X58.here hx rfl (hb hby at_166) rfl (XT.i0_le_f (by decide : ((0 : Int32) < (1 : Int32)))) ?_
        show Steps _ _ _ (T58.setTop (mkF m 169 #[iv p0, iv p1, iv p2, iv p3, iv p4, iv (f1 p0), iv (f1 p1), iv (f1 p2), iv (f1 p3), iv 1, rv b36, rv b45, rv b58, iv (-1), .unset, .unset, .unset] [])) _
        refine XS.iload X58.here hx rfl (hb hby at_169) rfl ?_
        refine XS.bipush X58.here hx rfl (hb hby at_171) ?_
        refine XS.icmpNo X58.here hx rfl (hb hby at_173) rfl (XT.ii_ne_f hs56) ?_
        refine XS.iconst X58.here hx rfl (hb hby at_176) ?_
        refine XS.istore X58.here hx rfl (hb hby at_177) rfl (l' := (L0_9 p0 p1 p2 p3 p4 b36 b45 b58)) rfl ?_
        show Steps _ _ _ (T58.setTop (mkF m 179 (L0_9 p0 p1 p2 p3 p4 b36 b45 b58) [])) _
        refine XS.goto X58.here hx rfl (pc0 := 179) (pc' := 236) rfl (hb hby at_179) (by decide) (by decide) ?_
        refine XS.iload X58.here hx rfl (hb hby at_236) rfl ?_
        refine XS.ifYes X58.here hx rfl (pc0 := 238) (pc' := 252) rfl (hb hby at_238) rfl (XT.i0_ge_t (by decide : ¬ ((0 : Int32) < (0 : Int32)))) (by decide) (by decide) ?_
        refine XS.aload X58.here hx rfl (hb hby at_252) rfl rfl ?_
        refine XT.nonnullYes X58.here hx rfl (pc0 := 254) (pc' := 259) rfl (hb hby at_254) rfl rfl (fun q => nomatch q) (by decide) (by decide) ?_
        show Steps _ _ _ (T58.setTop (mkF m 259 (L0_9 p0 p1 p2 p3 p4 b36 b45 b58) [])) _
        refine XS.iload X58.here hx rfl (hb hby at_259) rfl ?_
        refine XS.iload X58.here hx rfl (hb hby at_261) rfl ?_
        refine XS.isub X58.here hx rfl (hb hby at_263) rfl ?_
        refine XS.iconst X58.here hx rfl (hb hby at_264) ?_
        refine XS.isub X58.here hx rfl (hb hby at_265) rfl ?_
        show Steps _ _ _ (T58.setTop (mkF m 266 (L0_9 p0 p1 p2 p3 p4 b36 b45 b58) [(.int 0)])) _
        refine XS.istore X58.here hx rfl (hb hby at_266) rfl (l' := (L0_8 p0 p1 p2 p3 p4 b36 b45 b58)) rfl ?_
        refine XS.aload X58.here hx rfl (hb hby at_268) rfl rfl ?_
        exact k
      obtain ⟨_, T66, Lc66, X66, hQ66, st66⟩ := own_cv X58 hx hZ58 hown58 hml go65 (hb hby at_270) rfl (hw _ (mi 124 rfl)) (own_site185 hw) GE58 (rmln l Z aZ hw [] b58 _ _ _ [] _ T58.heap n0 Zs58 GE58 GC58 GX58 GV58 (own_sta_keep S_COMPACT_STRINGS K58 all0) hcs) (by decide) (argsL := []) (rest := []) rfl rfl rfl (lenOf pd_186 rfl) (W := 0) rfl (by decide) (by decide) (by decide : 5 + 0 ≤ _) (by decide : 10 + 0 ≤ _)
      obtain ⟨rfl, N66q, e66⟩ := hQ66
      have N66 := Fr.app N58 N66q
      have go67 : Go p.tables e below T66 (mkF m 281 (L0_8 p0 p1 p2 p3 p4 b36 b45 b58) [(.int 4)]) En := by
        intro t k
        refine st66 _ ?_
        refine XS.iload X66.here hx rfl (hb hby at_273) rfl ?_
        refine XS.icmpYes X66.here hx rfl (pc0 := 275) (pc' := 280) rfl (hb hby at_275) rfl (XT.ii_eq_t (by decide : ((0 : Int32) = (0 : Int32)))) (by decide) (by decide) ?_
        refine XS.iconst X66.here hx rfl (hb hby at_280) ?_
        exact k
      obtain ⟨T68, h68, k68, X68, e68, E68, A68, st68⟩ := newP X66 hx hZ58 (hw _ (mi 5 rfl)) e66 (g := (mkF m 281 (L0_8 p0 p1 p2 p3 p4 b36 b45 b58) [(.int 4)])) rfl (hb hby at_281) rfl (by decide) (cap := 4) (by decide) (by decide) (by decide) (by decide)
      obtain ⟨b68, g68⟩ : ∃ z, z = T58.heap.size := ⟨_, rfl⟩
      rw [← g68] at A68 st68
      have ne69 : b58 ≠ b68 := Nat.ne_of_lt (Nat.lt_of_lt_of_le GE58.lt (Nat.le_of_eq g68.symm))
      have ne70 : bx58 ≠ b68 := Nat.ne_of_lt (Nat.lt_of_lt_of_le GV58.lt (Nat.le_of_eq g68.symm))
      have low68 : n0 ≤ b68 := Nat.le_trans Zs58 (Nat.le_of_eq g68.symm)
      have fsh68 : h0.size ≤ b68 := Nat.le_trans K58.1 (Nat.le_of_eq g68.symm)
      have K68 : Keep h0 h68 [] := K58.ext E68
      have Zs68 : n0 ≤ h68.size := Nat.le_trans Zs58 E68.1
      have hk68 : T58.heap.size ≤ h68.size := Nat.le_trans hk58r E68.1
      have go71 := gap go67 st68
      have F72 := GE58.ext E68
      have F73 := GC58.ext E68
      have F74 := GX58.ext E68
      have F75 := GV58.ext E68
      have F76 : Arv Z h68 b68 k68 .char (4 : Int32) [(.int 0), (.int 0), (.int 0), (.int 0)] (.int 0) := (Arv.new A68 (by decide)).pad (pad_rep [] (.int 0) 4)
      have go77 : Go p.tables e below T68 (mkF m 287 (L0_8 p0 p1 p2 p3 p4 b36 b45 b58) [(.int (f1 p0)), (.int 0), (.ref b68), (.ref b68)]) En := by
        intro t k
        refine go71 _ ?_
        refine XS.dup X68.here hx rfl (hb hby at_283) rfl rfl ?_
        refine XS.iconst X68.here hx rfl (hb hby at_284) ?_
        refine XS.iload X68.here hx rfl (hb hby at_285) rfl ?_
        exact k
      obtain ⟨cl79, Ar79, q79, S79, N79, H79, G79⟩ := id F76
      obtain ⟨T78, h78, X78, e78, W78, st78⟩ := stC X68 hx hZ58 e68 Ar79 (j := (0 : Int32)) (inb_of S79 ⟨by decide, by decide⟩) (g := (mkF m 287 (L0_8 p0 p1 p2 p3 p4 b36 b45 b58) [(.int (f1 p0)), (.int 0), (.ref b68), (.ref b68)])) rfl rfl (hb hby at_287)
      have go80 := gap go77 st78
      have N78 := Fr.snoc X78 N66 low68
      have K78 : Keep h0 h78 [] := K68.wr W78 (Or.inr fsh68)
      have Zs78 : n0 ≤ h78.size := Nat.le_trans Zs68 (Keep.of_wr W78).1
      have hk78 : T58.heap.size ≤ h78.size := Nat.le_trans hk68 (Keep.of_wr W78).1
      have F81 := F72.wr W78
      have F82 := F73.other W78 (Or.inl ne69)
      have F83 := F74.other W78 (Or.inl ne69)
      have F84 := F75.other W78 ne70
      have F85 : Arv Z h78 b68 k68 .char (4 : Int32) [(.int (f1 p0).toUInt32.toUInt16.toUInt32.toInt32), (.int 0), (.int 0), (.int 0)] (.int 0) := Arv.set Ar79 q79 S79 N79 H79 G79 (fits_nar_char _) W78 0 rfl (Nat.le_of_ble_eq_true rfl)
      have go86 : Go p.tables e below T78 (mkF m 292 (L0_8 p0 p1 p2 p3 p4 b36 b45 b58) [(.int (f1 p1)), (.int 1), (.ref b68), (.ref b68)]) En := by
        intro t k
        refine go80 _ ?_
        refine XS.dup X78.here hx rfl (hb hby at_288) rfl rfl ?_
        refine XS.iconst X78.here hx rfl (hb hby at_289) ?_
        refine XS.iload X78.here hx rfl (hb hby at_290) rfl ?_
        exact k
      obtain ⟨cl88, Ar88, q88, S88, N88, H88, G88⟩ := id F85
      obtain ⟨T87, h87, X87, e87, W87, st87⟩ := stC X78 hx hZ58 e78 Ar88 (j := (1 : Int32)) (inb_of S88 ⟨by decide, by decide⟩) (g := (mkF m 292 (L0_8 p0 p1 p2 p3 p4 b36 b45 b58) [(.int (f1 p1)), (.int 1), (.ref b68), (.ref b68)])) rfl rfl (hb hby at_292)
      have go89 := gap go86 st87
      have N87 := Fr.snoc X87 N78 low68
      have K87 : Keep h0 h87 [] := K78.wr W87 (Or.inr fsh68)
      have Zs87 : n0 ≤ h87.size := Nat.le_trans Zs78 (Keep.of_wr W87).1
      have hk87 : T58.heap.size ≤ h87.size := Nat.le_trans hk78 (Keep.of_wr W87).1
      have F90 := F81.wr W87
      have F91 := F82.other W87 (Or.inl ne69)
      have F92 := F83.other W87 (Or.inl ne69)
      have F93 := F84.other W87 ne70
      have F94 : Arv Z h87 b68 k68 .char (4 : Int32) [(.int (f1 p0).toUInt32.toUInt16.toUInt32.toInt32), (.int (f1 p1).toUInt32.toUInt16.toUInt32.toInt32), (.int 0), (.int 0)] (.int 0) := Arv.set Ar88 q88 S88 N88 H88 G88 (fits_nar_char _) W87 1 rfl (Nat.le_of_ble_eq_true rfl)
      have go95 : Go p.tables e below T87 (mkF m 297 (L0_8 p0 p1 p2 p3 p4 b36 b45 b58) [(.int (f1 p2)), (.int 2), (.ref b68), (.ref b68)]) En := by
        intro t k
        refine go89 _ ?_
        refine XS.dup X87.here hx rfl (hb hby at_293) rfl rfl ?_
        refine XS.iconst X87.here hx rfl (hb hby at_294) ?_
        refine XS.iload X87.here hx rfl (hb hby at_295) rfl ?_
        exact k
      obtain ⟨cl97, Ar97, q97, S97, N97, H97, G97⟩ := id F94
      obtain ⟨T96, h96, X96, e96, W96, st96⟩ := stC X87 hx hZ58 e87 Ar97 (j := (2 : Int32)) (inb_of S97 ⟨by decide, by decide⟩) (g := (mkF m 297 (L0_8 p0 p1 p2 p3 p4 b36 b45 b58) [(.int (f1 p2)), (.int 2), (.ref b68), (.ref b68)])) rfl rfl (hb hby at_297)
      have go98 := gap go95 st96
      have N96 := Fr.snoc X96 N87 low68
      have K96 : Keep h0 h96 [] := K87.wr W96 (Or.inr fsh68)
      have Zs96 : n0 ≤ h96.size := Nat.le_trans Zs87 (Keep.of_wr W96).1
      have hk96 : T58.heap.size ≤ h96.size := Nat.le_trans hk87 (Keep.of_wr W96).1
      have F99 := F90.wr W96
      have F100 := F91.other W96 (Or.inl ne69)
      have F101 := F92.other W96 (Or.inl ne69)
      have F102 := F93.other W96 ne70
      have F103 : Arv Z h96 b68 k68 .char (4 : Int32) [(.int (f1 p0).toUInt32.toUInt16.toUInt32.toInt32), (.int (f1 p1).toUInt32.toUInt16.toUInt32.toInt32), (.int (f1 p2).toUInt32.toUInt16.toUInt32.toInt32), (.int 0)] (.int 0) := Arv.set Ar97 q97 S97 N97 H97 G97 (fits_nar_char _) W96 2 rfl (Nat.le_of_ble_eq_true rfl)
      have go104 : Go p.tables e below T96 (mkF m 302 (L0_8 p0 p1 p2 p3 p4 b36 b45 b58) [(.int (f1 p3)), (.int 3), (.ref b68), (.ref b68)]) En := by
        intro t k
        refine go98 _ ?_
        refine XS.dup X96.here hx rfl (hb hby at_298) rfl rfl ?_
        refine XS.iconst X96.here hx rfl (hb hby at_299) ?_
        refine XS.iload X96.here hx rfl (hb hby at_300) rfl ?_
        exact k
      obtain ⟨cl106, Ar106, q106, S106, N106, H106, G106⟩ := id F103
      obtain ⟨T105, h105, X105, e105, W105, st105⟩ := stC X96 hx hZ58 e96 Ar106 (j := (3 : Int32)) (inb_of S106 ⟨by decide, by decide⟩) (g := (mkF m 302 (L0_8 p0 p1 p2 p3 p4 b36 b45 b58) [(.int (f1 p3)), (.int 3), (.ref b68), (.ref b68)])) rfl rfl (hb hby at_302)
      have go107 := gap go104 st105
      have N105 := Fr.snoc X105 N96 low68
      have K105 : Keep h0 h105 [] := K96.wr W105 (Or.inr fsh68)
      have Zs105 : n0 ≤ h105.size := Nat.le_trans Zs96 (Keep.of_wr W105).1
      have hk105 : T58.heap.size ≤ h105.size := Nat.le_trans hk96 (Keep.of_wr W105).1
      have F108 := F99.wr W105
      have F109 := F100.other W105 (Or.inl ne69)
      have F110 := F101.other W105 (Or.inl ne69)
      have F111 := F102.other W105 ne70
      have F112 : Arv Z h105 b68 k68 .char (4 : Int32) [(.int (f1 p0).toUInt32.toUInt16.toUInt32.toInt32), (.int (f1 p1).toUInt32.toUInt16.toUInt32.toInt32), (.int (f1 p2).toUInt32.toUInt16.toUInt32.toInt32), (.int (f1 p3).toUInt32.toUInt16.toUInt32.toInt32)] (.int 0) := Arv.set Ar106 q106 S106 N106 H106 G106 (fits_nar_char _) W105 3 rfl (Nat.le_of_ble_eq_true rfl)
      have go113 : Go p.tables e below T105 (mkF m 411 (L0_10 p0 p1 p2 p3 p4 b36 b45 b58 b68) [(.int 1)]) En := by
        intro t k
        refine go107 _ ?_
        refine XS.astore X105.here hx rfl (hb hby at_303) rfl rfl (l' := #[iv p0, iv p1, iv p2, iv p3, iv p4, iv (f1 p0), iv (f1 p1), iv (f1 p2), iv (f1 p3), iv 1, rv b36, rv b45, rv b58, iv 0, iv 0, rv b68, .unset]) rfl ?_
        refine XS.iconst X105.here hx rfl (hb hby at_305) ?_
        refine XS.istore X105.here hx rfl (hb hby at_306) rfl (l' := (L0_10 p0 p1 p2 p3 p4 b36 b45 b58 b68)) rfl ?_
        refine XS.iload X105.here hx rfl (hb hby at_308) rfl ?_
        refine XS.ifYes X105.here hx rfl (pc0 := 310) (pc' := 341) rfl (hb hby at_310) rfl (XT.i0_le_t (by decide : ¬ ((0 : Int32) < (0 : Int32)))) (by decide) (by decide) ?_
        show Steps _ _ _ (T105.setTop (mkF m 341 (L0_10 p0 p1 p2 p3 p4 b36 b45 b58 b68) [])) _
        refine XS.iload X105.here hx rfl (hb hby at_341) rfl ?_
        refine XS.iconst X105.here hx rfl (hb hby at_343) ?_
        refine XS.icmpYes X105.here hx rfl (pc0 := 344) (pc' := 375) rfl (hb hby at_344) rfl (XT.ii_le_t (by decide : ¬ ((1 : Int32) < (0 : Int32)))) (by decide) (by decide) ?_
        refine XS.iload X105.here hx rfl (hb hby at_375) rfl ?_
        refine XS.iconst X105.here hx rfl (hb hby at_377) ?_
        show Steps _ _ _ (T105.setTop (mkF m 378 (L0_10 p0 p1 p2 p3 p4 b36 b45 b58 b68) [(.int 2), (.int 0)])) _
        refine XS.icmpYes X105.here hx rfl (pc0 := 378) (pc' := 409) rfl (hb hby at_378) rfl (XT.ii_le_t (by decide : ¬ ((2 : Int32) < (0 : Int32)))) (by decide) (by decide) ?_
        refine XS.iload X105.here hx rfl (hb hby at_409) rfl ?_
        exact k
      obtain ⟨fs, hr, hrun, hended, hRW⟩ := X105.leaveW hS58 (by rw [e105]; exact hk105) (v := some (.int 1)) (fun h => by rw [Bd.returns] at h; cases h) Bd.notSynchronized
      subst hEn
      refine ⟨_, _, go113 _ (Jvm.RoadKit.retOut X105 hx Bd.returns rfl (Or.inl ⟨rfl, Or.inr (Or.inl rfl), _, rfl⟩) (hb hby at_411) hr), hrun, hended, _, _, rfl, ?_, hRW.1, hRW.2.1, hRW.2.2.1, hRW.2.2.2.mono (by decide) (by decide)⟩
      show Q0 _ _ p0 p1 p2 p3 p4 s_COMPACT_STRINGS s_SIOOBE_FORMATTER h0 _ (T105.setFrames fs).heap _
      have hE : (T105.setFrames fs).heap = h105 := e105
      rw [hE]
      exact ⟨congrArg (fun z => some (Value.int z)) ((by rw [f0, if_neg hs11, if_pos hs33, if_pos hs56] : (1 : Int32) = (f0 p0 p1 p2 p3 p4)).trans (f0_one p0 p1 p2 p3 p4)), N105⟩
    have go114 : Go p.tables e below T52 (mkF m 156 (L0_7 p0 p1 p2 p3 p4 b36 b45) [(.ref b45)]) En := by
      intro t k
      refine go55 _ ?_
      refine XS.aload X52.here hx rfl (hb hby at_154) rfl rfl ?_
      exact k
    obtain ⟨_, T115, Lc115, X115, hQ115, st115⟩ := own_cs X52 hx hZ hown hml go114 (hb hby at_156) rfl (hw _ (mi 27 rfl)) (own_site407 hw) (rmqs1_m l Z aZ hw [] b45 _ _ _ _ T52.heap n0 Zs52 G52_0 G52_1 GX52 GV52 (own_sta_keep S_COMPACT_STRINGS K52 all0) hcs (by rw [fiz1, fiy1, fix1, fic1, if_neg (own_qf p0 hs56)])) (by decide) (argsL := [(.ref b45)]) (rest := []) rfl rfl rfl (lenOf pd_408 rfl) (W := 0) rfl (by decide) (by decide) (by decide : 3 + 0 ≤ _) (by decide : 6 + 0 ≤ _)
    obtain ⟨rfl, N115q, e115⟩ := hQ115
    have N115 := Fr.app N52 N115q
    have go116 : Go p.tables e below T115 (mkF m 251 (L0_11 p0 p1 p2 p3 p4 b36 b45) [(.int 1)]) En := by
      intro t k
      refine st115 _ ?_
      refine XS.astore X115.here hx rfl (hb hby at_159) rfl rfl (l' := #[iv p0, iv p1, iv p2, iv p3, iv p4, iv (f1 p0), iv (f1 p1), iv (f1 p2), iv (f1 p3), iv 1, rv b36, rv b45, .val .null, .unset, .unset, .unset, .unset]) rfl ?_
      refine XS.iconst X115.here hx rfl (hb hby at_161) ?_
      refine XS.istore X115.here hx rfl (hb hby at_162) rfl (l' := (L0_11 p0 p1 p2 p3 p4 b36 b45)) rfl ?_
      refine XS.iload X115.here hx rfl (hb hby at_164) rfl ?_
      refine XS.ifNo X115.here hx rfl (hb hby at_166) rfl (XT.i0_le_f (by decide : ((0 : Int32) < (1 : Int32)))) ?_
      show Steps _ _ _ (T115.setTop (mkF m 169 (L0_11 p0 p1 p2 p3 p4 b36 b45) [])) _
      refine XS.iload X115.here hx rfl (hb hby at_169) rfl ?_
      refine XS.bipush X115.here hx rfl (hb hby at_171) ?_
      refine XS.icmpYes X115.here hx rfl (pc0 := 173) (pc' := 182) rfl (hb hby at_173) rfl (XT.ii_ne_t hs56) (by decide) (by decide) ?_
      refine XS.iload X115.here hx rfl (hb hby at_182) rfl ?_
      refine XS.iconst X115.here hx rfl (hb hby at_184) ?_
      show Steps _ _ _ (T115.setTop (mkF m 185 (L0_11 p0 p1 p2 p3 p4 b36 b45) [(.int 1), (.int 1)])) _
      refine XS.icmpYes X115.here hx rfl (pc0 := 185) (pc' := 201) rfl (hb hby at_185) rfl (XT.ii_le_t (by decide : ¬ ((1 : Int32) < (1 : Int32)))) (by decide) (by decide) ?_
      refine XS.iload X115.here hx rfl (hb hby at_201) rfl ?_
      refine XS.iconst X115.here hx rfl (hb hby at_203) ?_
      refine XS.icmpYes X115.here hx rfl (pc0 := 204) (pc' := 220) rfl (hb hby at_204) rfl (XT.ii_le_t (by decide : ¬ ((2 : Int32) < (1 : Int32)))) (by decide) (by decide) ?_
      refine XS.iload X115.here hx rfl (hb hby at_220) rfl ?_
      show Steps _ _ _ (T115.setTop (mkF m 222 (L0_11 p0 p1 p2 p3 p4 b36 b45) [(.int 1)])) _
      refine XS.iconst X115.here hx rfl (hb hby at_222) ?_
      refine XS.icmpYes X115.here hx rfl (pc0 := 223) (pc' := 236) rfl (hb hby at_223) rfl (XT.ii_le_t (by decide : ¬ ((3 : Int32) < (1 : Int32)))) (by decide) (by decide) ?_
      refine XS.iload X115.here hx rfl (hb hby at_236) rfl ?_
      refine XS.ifNo X115.here hx rfl (hb hby at_238) rfl (XT.i0_ge_f (by decide : ((-1 : Int32) < (0 : Int32)))) ?_
      refine XS.aload X115.here hx rfl (hb hby at_241) rfl rfl ?_
      show Steps _ _ _ (T115.setTop (mkF m 243 (L0_11 p0 p1 p2 p3 p4 b36 b45) [.null])) _
      refine XT.nonnullNo X115.here hx rfl (hb hby at_243) rfl rfl ?_
      refine XS.iconst X115.here hx rfl (hb hby at_246) ?_
      refine XS.goto X115.here hx rfl (pc0 := 247) (pc' := 251) rfl (hb hby at_247) (by decide) (by decide) ?_
      exact k
    obtain ⟨fs, hr, hrun, hended, hRW⟩ := X115.leaveW hS0 (by rw [e115]; exact hk52) (v := some (.int 1)) (fun h => by rw [Bd.returns] at h; cases h) Bd.notSynchronized
    subst hEn
    refine ⟨_, _, go116 _ (Jvm.RoadKit.retOut X115 hx Bd.returns rfl (Or.inl ⟨rfl, Or.inr (Or.inl rfl), _, rfl⟩) (hb hby at_251) hr), hrun, hended, _, _, rfl, ?_, hRW.1, hRW.2.1, hRW.2.2.1, hRW.2.2.2.mono (by decide) (by decide)⟩
    show Q0 _ _ p0 p1 p2 p3 p4 s_COMPACT_STRINGS s_SIOOBE_FORMATTER h0 _ (T115.setFrames fs).heap _
    have hE : (T115.setFrames fs).heap = T52.heap := e115
    rw [hE]
    exact ⟨congrArg (fun z => some (Value.int z)) ((by rw [f0, if_neg hs11, if_pos hs33, if_neg hs56] : (1 : Int32) = (f0 p0 p1 p2 p3 p4)).trans (f0_one p0 p1 p2 p3 p4)), N115⟩
  by_cases hs117 : (v0_9 p4) = (2 : Int32)
  · have go118 : Go p.tables e below T8 (mkF m 33 (L0_12 p0 p1 p2 p3 p4) []) En := by
      have q : Go p.tables e below T8 (mkF m  33 #[iv p0, iv p1, iv p2, iv p3, iv p4, iv (f1 p0), iv (f1 p1), iv (f1 p2), iv (f1 p3), iv (v0_9 p4), .unset, .unset, .unset, .unset, .unset, .unset, .unset] []) En := go10
      rw [hs117] at q
      exact q
    have go119 : Go p.tables e below T8 (mkF m 72 (L0_12 p0 p1 p2 p3 p4) [(.int 2)]) En := by
      intro t k
      refine go118 _ ?_
      refine XS.iload X8.here hx rfl (hb hby at_33) rfl ?_
      refine XS.ifYes X8.here hx rfl (pc0 := 35) (pc' := 46) rfl (hb hby at_35) rfl (XT.i0_ne_t (by decide : ¬ ((2 : Int32) = (0 : Int32)))) (by decide) (by decide) ?_
      refine XS.iload X8.here hx rfl (hb hby at_46) rfl ?_
      refine XS.iconst X8.here hx rfl (hb hby at_48) ?_
      refine XS.icmpYes X8.here hx rfl (pc0 := 49) (pc' := 65) rfl (hb hby at_49) rfl (XT.ii_ne_t (by decide : ¬ ((2 : Int32) = (1 : Int32)))) (by decide) (by decide) ?_
      show Steps _ _ _ (T8.setTop (mkF m 65 (L0_12 p0 p1 p2 p3 p4) [])) _
      refine XS.iload X8.here hx rfl (hb hby at_65) rfl ?_
      refine XS.iconst X8.here hx rfl (hb hby at_67) ?_
      refine XS.icmpNo X8.here hx rfl (hb hby at_68) rfl (XT.ii_ne_f (by decide : ((2 : Int32) = (2 : Int32)))) ?_
      refine XS.iconst X8.here hx rfl (hb hby at_71) ?_
      exact k
    obtain ⟨T120, h120, k120, X120, e120, E120, A120, st120⟩ := newP X8 hx hZ (hw _ (mi 5 rfl)) e8 (g := (mkF m 72 (L0_12 p0 p1 p2 p3 p4) [(.int 2)])) rfl (hb hby at_72) rfl (by decide) (cap := 2) (by decide) (by decide) (by decide) (by decide)
    obtain ⟨b120, g120⟩ : ∃ z, z = h0.size := ⟨_, rfl⟩
    rw [← g120] at A120 st120
    have low120 : n0 ≤ b120 := Nat.le_trans Z0 (Nat.le_of_eq g120.symm)
    have fsh120 : h0.size ≤ b120 := Nat.le_trans K0.1 (Nat.le_of_eq g120.symm)
    have K120 : Keep h0 h120 [] := K0.ext E120
    have Zs120 : n0 ≤ h120.size := Nat.le_trans Z0 E120.1
    have hk120 : s.heap.size ≤ h120.size := Nat.le_trans hk0 E120.1
    have go121 := gap go119 st120
    have F122 : Arv Z h120 b120 k120 .char (2 : Int32) [(.int 0), (.int 0)] (.int 0) := (Arv.new A120 (by decide)).pad (pad_rep [] (.int 0) 2)
    have go123 : Go p.tables e below T120 (mkF m 78 (L0_12 p0 p1 p2 p3 p4) [(.int (f1 p0)), (.int 0), (.ref b120), (.ref b120)]) En := by
      intro t k
      refine go121 _ ?_
      refine XS.dup X120.here hx rfl (hb hby at_74) rfl rfl ?_
      refine XS.iconst X120.here hx rfl (hb hby at_75) ?_
      refine XS.iload X120.here hx rfl (hb hby at_76) rfl ?_
      exact k
    obtain ⟨cl125, Ar125, q125, S125, N125, H125, G125⟩ := id F122
    obtain ⟨T124, h124, X124, e124, W124, st124⟩ := stC X120 hx hZ e120 Ar125 (j := (0 : Int32)) (inb_of S125 ⟨by decide, by decide⟩) (g := (mkF m 78 (L0_12 p0 p1 p2 p3 p4) [(.int (f1 p0)), (.int 0), (.ref b120), (.ref b120)])) rfl rfl (hb hby at_78)
    have go126 := gap go123 st124
    have N124 := Fr.snoc X124 N8 low120
    have K124 : Keep h0 h124 [] := K120.wr W124 (Or.inr fsh120)
    have Zs124 : n0 ≤ h124.size := Nat.le_trans Zs120 (Keep.of_wr W124).1
    have hk124 : s.heap.size ≤ h124.size := Nat.le_trans hk120 (Keep.of_wr W124).1
    have F127 : Arv Z h124 b120 k120 .char (2 : Int32) [(.int (f1 p0).toUInt32.toUInt16.toUInt32.toInt32), (.int 0)] (.int 0) := Arv.set Ar125 q125 S125 N125 H125 G125 (fits_nar_char _) W124 0 rfl (Nat.le_of_ble_eq_true rfl)
    have go128 : Go p.tables e below T124 (mkF m 83 (L0_12 p0 p1 p2 p3 p4) [(.int (f1 p1)), (.int 1), (.ref b120), (.ref b120)]) En := by
      intro t k
      refine go126 _ ?_
      refine XS.dup X124.here hx rfl (hb hby at_79) rfl rfl ?_
      refine XS.iconst X124.here hx rfl (hb hby at_80) ?_
      refine XS.iload X124.here hx rfl (hb hby at_81) rfl ?_
      exact k
    obtain ⟨cl130, Ar130, q130, S130, N130, H130, G130⟩ := id F127
    obtain ⟨T129, h129, X129, e129, W129, st129⟩ := stC X124 hx hZ e124 Ar130 (j := (1 : Int32)) (inb_of S130 ⟨by decide, by decide⟩) (g := (mkF m 83 (L0_12 p0 p1 p2 p3 p4) [(.int (f1 p1)), (.int 1), (.ref b120), (.ref b120)])) rfl rfl (hb hby at_83)
    have go131 := gap go128 st129
    have N129 := Fr.snoc X129 N124 low120
    have K129 : Keep h0 h129 [] := K124.wr W129 (Or.inr fsh120)
    have Zs129 : n0 ≤ h129.size := Nat.le_trans Zs124 (Keep.of_wr W129).1
    have hk129 : s.heap.size ≤ h129.size := Nat.le_trans hk124 (Keep.of_wr W129).1
    have F132 : Arv Z h129 b120 k120 .char (2 : Int32) [(.int (f1 p0).toUInt32.toUInt16.toUInt32.toInt32), (.int (f1 p1).toUInt32.toUInt16.toUInt32.toInt32)] (.int 0) := Arv.set Ar130 q130 S130 N130 H130 G130 (fits_nar_char _) W129 1 rfl (Nat.le_of_ble_eq_true rfl)
    have go133 : Go p.tables e below T129 (mkF m 143 (L0_13 p0 p1 p2 p3 p4 b120) []) En := by
      intro t k
      refine go131 _ ?_
      refine XS.astore X129.here hx rfl (hb hby at_84) rfl rfl (l' := (L0_13 p0 p1 p2 p3 p4 b120)) rfl ?_
      refine XS.goto X129.here hx rfl (pc0 := 86) (pc' := 143) rfl (hb hby at_86) (by decide) (by decide) ?_
      exact k
    obtain ⟨T134, h134, X134, e134, E134, A134, D134, -, st134⟩ := newO X129 hx hZ hown (hw _ (mi 6 rfl)) (hw _ (mi 7 rfl)) (hw _ (mi 8 rfl)) e129 (g := (mkF m 143 (L0_13 p0 p1 p2 p3 p4 b120) [])) rfl (hb hby at_143) (by decide) (by decide)
    obtain ⟨b134, g134⟩ : ∃ z, z = h129.size := ⟨_, rfl⟩
    rw [← g134] at A134 D134 st134
    have ne135 : b120 ≠ b134 := Nat.ne_of_lt (Nat.lt_of_lt_of_le F132.lt (Nat.le_of_eq g134.symm))
    have low134 : n0 ≤ b134 := Nat.le_trans Zs129 (Nat.le_of_eq g134.symm)
    have fsh134 : h0.size ≤ b134 := Nat.le_trans K129.1 (Nat.le_of_eq g134.symm)
    have K134 : Keep h0 h134 [] := K129.ext E134
    have Zs134 : n0 ≤ h134.size := Nat.le_trans Zs129 E134.1
    have hk134 : s.heap.size ≤ h134.size := Nat.le_trans hk129 E134.1
    have go136 := gap go133 st134
    have F137 := F132.ext E134
    have F138 : Fvl Z h134 b134 .null := D134 (Or.inr (hw _ (mi 21 rfl))) (ty := (.array .byte)) (by decide)
    have F139 : Fcd Z h134 b134 (.int 0) := D134 (Or.inr (hw _ (mi 22 rfl))) (ty := .byte) (by decide)
    have go140 : Go p.tables e below T134 (mkF m 149 (L0_13 p0 p1 p2 p3 p4 b120) [(.ref b120), (.ref b134), (.ref b134)]) En := by
      intro t k
      refine go136 _ ?_
      refine XS.dup X134.here hx rfl (hb hby at_146) rfl rfl ?_
      refine XS.aload X134.here hx rfl (hb hby at_147) rfl rfl ?_
      exact k
    obtain ⟨_, T141, Lc141, X141, hQ141, st141⟩ := own_ci X134 hx hZ hown hml go140 (hb hby at_149) e134 (hw _ (mi 9 rfl)) (own_site410 hw) rfl (rmiBn2 l Z aZ hw [] _ _ _ _ _ _ h134 n0 Zs134 A134 F138 F139 low134 F137 (own_sta_keep S_COMPACT_STRINGS K134 all0) hcs (own_c255 p0) (own_c255 p1)) (by decide) (argsL := [(.ref b120)]) (rest := [(.ref b134)]) rfl rfl rfl (lenOf pd_406 rfl) (W := 1) rfl (by decide) (by decide) (by decide : 2 + 1 ≤ _) (by decide : 6 + 2 ≤ _)
    obtain ⟨rfl, N141q, K141q, G141_0, G141_1, bx141, kx141, GX141, GV141⟩ := hQ141
    have N141 := Fr.app N129 N141q
    have K141 : Keep h0 T141.heap [] := K134.trans K141q (allS (Or.inr fsh134) all0)
    have Zs141 : n0 ≤ T141.heap.size := Nat.le_trans Zs134 K141q.1
    have hk141 : s.heap.size ≤ T141.heap.size := Nat.le_trans hk134 K141q.1
    have F142 := F137.keep K141q (ninS ne135 nin0)
    have F143 := A134.keep K141q
    have go144 : Go p.tables e below T141 (mkF m 154 (L0_14 p0 p1 p2 p3 p4 b120 b134) []) En := by
      intro t k
      refine st141 _ ?_
      refine XS.astore X141.here hx rfl (hb hby at_152) rfl rfl (l' := (L0_14 p0 p1 p2 p3 p4 b120 b134)) rfl ?_
      exact k
    by_cases hs145 : (f1 p0) = (63 : Int32)
    · have go146 : Go p.tables e below T141 (mkF m 156 (L0_14 p0 p1 p2 p3 p4 b120 b134) [(.ref b134)]) En := by
        intro t k
        refine go144 _ ?_
        refine XS.aload X141.here hx rfl (hb hby at_154) rfl rfl ?_
        exact k
      obtain ⟨_, T147, Lc147, X147, hQ147, st147⟩ := own_cs X141 hx hZ hown hml go146 (hb hby at_156) rfl (hw _ (mi 27 rfl)) (own_site407 hw) (rmqs2_0 l Z aZ hw [] _ _ _ _ _ _ _ T141.heap n0 Zs141 G141_0 G141_1 GX141 GV141 (own_sta_keep S_COMPACT_STRINGS K141 all0) hcs (by rw [fiz2, fiy2, fix2, fic2, if_pos (own_qt p0 hs145)]) (own_sta_keep S_SIOOBE_FORMATTER K141 all0) rS_SIOOBE_FORMATTER) (by decide) (argsL := [(.ref b134)]) (rest := []) rfl rfl rfl (lenOf pd_408 rfl) (W := 0) rfl (by decide) (by decide) (by decide : 3 + 2 ≤ _) (by decide : 8 + 5 ≤ _)
      obtain ⟨b147, bx147, kx147, rfl, N147q, K147q, GE147, GC147, GX147, GV147⟩ := hQ147
      have N147 := Fr.app N141 N147q
      have K147 : Keep h0 T147.heap [] := K141.trans K147q all0
      have Zs147 : n0 ≤ T147.heap.size := Nat.le_trans Zs141 K147q.1
      have hk147 : s.heap.size ≤ T147.heap.size := Nat.le_trans hk141 K147q.1
      have F148 := F142.keep K147q nin0
      have F149 := G141_0.keep K147q
      have F150 := G141_1.keep K147q nin0
      have F151 := GX141.keep K147q nin0
      have F152 := GV141.keep K147q nin0
      have go153 : Go p.tables e below T147 (mkF m 270 (L0_15 p0 p1 p2 p3 p4 b120 b134 b147) [(.ref b147)]) En := by
        intro t k
        refine st147 _ ?_
        refine XS.astore X147.here hx rfl (hb hby at_159) rfl rfl (l' := #[iv p0, iv p1, iv p2, iv p3, iv p4, iv (f1 p0), iv (f1 p1), iv (f1 p2), iv (f1 p3), iv 2, rv b120, rv b134, rv b147, .unset, .unset, .unset, .unset]) rfl ?_
        refine XS.iconst X147.here hx rfl (hb hby at_161) ?_
        refine XS.istore X147.here hx rfl (hb hby at_162) rfl (l' := #[iv p0, iv p1, iv p2, iv p3, iv p4, iv (f1 p0), iv (f1 p1), iv (f1 p2), iv (f1 p3), iv 2, rv b120, rv b134, rv b147, iv (-1), .unset, .unset, .unset]) rfl ?_
        refine XS.iload X147.here hx rfl (hb hby at_164) rfl ?_
        refine XS.ifNo X147.here hx rfl (hb hby at_166) rfl (XT.i0_le_f (by decide : ((0 : Int32) < (2 : Int32)))) ?_
        show Steps _ _ _ (T147.setTop (mkF m 169 #[iv p0, iv p1, iv p2, iv p3, iv p4, iv (f1 p0), iv (f1 p1), iv (f1 p2), iv (f1 p3), iv 2, rv b120, rv b134, rv b147, iv (-1), .unset, .unset, .unset] [])) _
        refine XS.iload X147.here hx rfl (hb hby at_169) rfl ?_
        refine XS.bipush X147.here hx rfl (hb hby at_171) ?_
        refine XS.icmpNo X147.here hx rfl (hb hby at_173) rfl (XT.ii_ne_f hs145) ?_
        refine XS.iconst X147.here hx rfl (hb hby at_176) ?_
        refine XS.istore X147.here hx rfl (hb hby at_177) rfl (l' := (L0_16 p0 p1 p2 p3 p4 b120 b134 b147)) rfl ?_
        show Steps _ _ _ (T147.setTop (mkF m 179 (L0_16 p0 p1 p2 p3 p4 b120 b134 b147) [])) _
        refine XS.goto X147.here hx rfl (pc0 := 179) (pc' := 236) rfl (hb hby at_179) (by decide) (by decide) ?_
        refine XS.iload X147.here hx rfl (hb hby at_236) rfl ?_
        refine XS.ifYes X147.here hx rfl (pc0 := 238) (pc' := 252) rfl (hb hby at_238) rfl (XT.i0_ge_t (by decide : ¬ ((0 : Int32) < (0 : Int32)))) (by decide) (by decide) ?_
        refine XS.aload X147.here hx rfl (hb hby at_252) rfl rfl ?_
        refine XT.nonnullYes X147.here hx rfl (pc0 := 254) (pc' := 259) rfl (hb hby at_254) rfl rfl (fun q => nomatch q) (by decide) (by decide) ?_
        show Steps _ _ _ (T147.setTop (mkF m 259 (L0_16 p0 p1 p2 p3 p4 b120 b134 b147) [])) _
        refine XS.iload X147.here hx rfl (hb hby at_259) rfl ?_
        refine XS.iload X147.here hx rfl (hb hby at_261) rfl ?_
        refine XS.isub X147.here hx rfl (hb hby at_263) rfl ?_
        refine XS.iconst X147.here hx rfl (hb hby at_264) ?_
        refine XS.isub X147.here hx rfl (hb hby at_265) rfl ?_
        show Steps _ _ _ (T147.setTop (mkF m 266 (L0_16 p0 p1 p2 p3 p4 b120 b134 b147) [(.int 1)])) _
        refine XS.istore X147.here hx rfl (hb hby at_266) rfl (l' := (L0_15 p0 p1 p2 p3 p4 b120 b134 b147)) rfl ?_
        refine XS.aload X147.here hx rfl (hb hby at_268) rfl rfl ?_
        exact k
      obtain ⟨_, T154, Lc154, X154, hQ154, st154⟩ := own_cv X147 hx hZ hown hml go153 (hb hby at_270) rfl (hw _ (mi 124 rfl)) (own_site185 hw) GE147 (rmln l Z aZ hw [] _ _ _ _ _ _ T147.heap n0 Zs147 GE147 GC147 GX147 GV147 (own_sta_keep S_COMPACT_STRINGS K147 all0) hcs) (by decide) (argsL := []) (rest := []) rfl rfl rfl (lenOf pd_186 rfl) (W := 0) rfl (by decide) (by decide) (by decide : 5 + 0 ≤ _) (by decide : 13 + 0 ≤ _)
      obtain ⟨rfl, N154q, e154⟩ := hQ154
      have N154 := Fr.app N147 N154q
      have go155 : Go p.tables e below T154 (mkF m 281 (L0_15 p0 p1 p2 p3 p4 b120 b134 b147) [(.int 4)]) En := by
        intro t k
        refine st154 _ ?_
        refine XS.iload X154.here hx rfl (hb hby at_273) rfl ?_
        refine XS.icmpYes X154.here hx rfl (pc0 := 275) (pc' := 280) rfl (hb hby at_275) rfl (XT.ii_eq_t (by decide : ((1 : Int32) = (1 : Int32)))) (by decide) (by decide) ?_
        refine XS.iconst X154.here hx rfl (hb hby at_280) ?_
        exact k
      obtain ⟨T156, h156, k156, X156, e156, E156, A156, st156⟩ := newP X154 hx hZ (hw _ (mi 5 rfl)) e154 (g := (mkF m 281 (L0_15 p0 p1 p2 p3 p4 b120 b134 b147) [(.int 4)])) rfl (hb hby at_281) rfl (by decide) (cap := 4) (by decide) (by decide) (by decide) (by decide)
      obtain ⟨b156, g156⟩ : ∃ z, z = T147.heap.size := ⟨_, rfl⟩
      rw [← g156] at A156 st156
      have ne157 : b147 ≠ b156 := Nat.ne_of_lt (Nat.lt_of_lt_of_le GE147.lt (Nat.le_of_eq g156.symm))
      have ne158 : bx147 ≠ b156 := Nat.ne_of_lt (Nat.lt_of_lt_of_le GV147.lt (Nat.le_of_eq g156.symm))
      have low156 : n0 ≤ b156 := Nat.le_trans Zs147 (Nat.le_of_eq g156.symm)
      have fsh156 : h0.size ≤ b156 := Nat.le_trans K147.1 (Nat.le_of_eq g156.symm)
      have K156 : Keep h0 h156 [] := K147.ext E156
      have Zs156 : n0 ≤ h156.size := Nat.le_trans Zs147 E156.1
      have hk156 : s.heap.size ≤ h156.size := Nat.le_trans hk147 E156.1
      have go159 := gap go155 st156
      have F160 := GE147.ext E156
      have F161 := GC147.ext E156
      have F162 := GX147.ext E156
      have F163 := GV147.ext E156
      have F164 : Arv Z h156 b156 k156 .char (4 : Int32) [(.int 0), (.int 0), (.int 0), (.int 0)] (.int 0) := (Arv.new A156 (by decide)).pad (pad_rep [] (.int 0) 4)
      have go165 : Go p.tables e below T156 (mkF m 287 (L0_15 p0 p1 p2 p3 p4 b120 b134 b147) [(.int (f1 p0)), (.int 0), (.ref b156), (.ref b156)]) En := by
        intro t k
        refine go159 _ ?_
        refine XS.dup X156.here hx rfl (hb hby at_283) rfl rfl ?_
        refine XS.iconst X156.here hx rfl (hb hby at_284) ?_
        refine XS.iload X156.here hx rfl (hb hby at_285) rfl ?_
        exact k
      obtain ⟨cl167, Ar167, q167, S167, N167, H167, G167⟩ := id F164
      obtain ⟨T166, h166, X166, e166, W166, st166⟩ := stC X156 hx hZ e156 Ar167 (j := (0 : Int32)) (inb_of S167 ⟨by decide, by decide⟩) (g := (mkF m 287 (L0_15 p0 p1 p2 p3 p4 b120 b134 b147) [(.int (f1 p0)), (.int 0), (.ref b156), (.ref b156)])) rfl rfl (hb hby at_287)
      have go168 := gap go165 st166
      have N166 := Fr.snoc X166 N154 low156
      have K166 : Keep h0 h166 [] := K156.wr W166 (Or.inr fsh156)
      have Zs166 : n0 ≤ h166.size := Nat.le_trans Zs156 (Keep.of_wr W166).1
      have hk166 : s.heap.size ≤ h166.size := Nat.le_trans hk156 (Keep.of_wr W166).1
      have F169 := F160.wr W166
      have F170 := F161.other W166 (Or.inl ne157)
      have F171 := F162.other W166 (Or.inl ne157)
      have F172 := F163.other W166 ne158
      have F173 : Arv Z h166 b156 k156 .char (4 : Int32) [(.int (f1 p0).toUInt32.toUInt16.toUInt32.toInt32), (.int 0), (.int 0), (.int 0)] (.int 0) := Arv.set Ar167 q167 S167 N167 H167 G167 (fits_nar_char _) W166 0 rfl (Nat.le_of_ble_eq_true rfl)
      have go174 : Go p.tables e below T166 (mkF m 292 (L0_15 p0 p1 p2 p3 p4 b120 b134 b147) [(.int (f1 p1)), (.int 1), (.ref b156), (.ref b156)]) En := by
        intro t k
        refine go168 _ ?_
        refine XS.dup X166.here hx rfl (hb hby at_288) rfl rfl ?_
        refine XS.iconst X166.here hx rfl (hb hby at_289) ?_
        refine XS.iload X166.here hx rfl (hb hby at_290) rfl ?_
        exact k
      obtain ⟨cl176, Ar176, q176, S176, N176, H176, G176⟩ := id F173
      obtain ⟨T175, h175, X175, e175, W175, st175⟩ := stC X166 hx hZ e166 Ar176 (j := (1 : Int32)) (inb_of S176 ⟨by decide, by decide⟩) (g := (mkF m 292 (L0_15 p0 p1 p2 p3 p4 b120 b134 b147) [(.int (f1 p1)), (.int 1), (.ref b156), (.ref b156)])) rfl rfl (hb hby at_292)
      have go177 := gap go174 st175
      have N175 := Fr.snoc X175 N166 low156
      have K175 : Keep h0 h175 [] := K166.wr W175 (Or.inr fsh156)
      have Zs175 : n0 ≤ h175.size := Nat.le_trans Zs166 (Keep.of_wr W175).1
      have hk175 : s.heap.size ≤ h175.size := Nat.le_trans hk166 (Keep.of_wr W175).1
      have F178 := F169.wr W175
      have F179 := F170.other W175 (Or.inl ne157)
      have F180 := F171.other W175 (Or.inl ne157)
      have F181 := F172.other W175 ne158
      have F182 : Arv Z h175 b156 k156 .char (4 : Int32) [(.int (f1 p0).toUInt32.toUInt16.toUInt32.toInt32), (.int (f1 p1).toUInt32.toUInt16.toUInt32.toInt32), (.int 0), (.int 0)] (.int 0) := Arv.set Ar176 q176 S176 N176 H176 G176 (fits_nar_char _) W175 1 rfl (Nat.le_of_ble_eq_true rfl)
      have go183 : Go p.tables e below T175 (mkF m 297 (L0_15 p0 p1 p2 p3 p4 b120 b134 b147) [(.int (f1 p2)), (.int 2), (.ref b156), (.ref b156)]) En := by
        intro t k
        refine go177 _ ?_
        refine XS.dup X175.here hx rfl (hb hby at_293) rfl rfl ?_
        refine XS.iconst X175.here hx rfl (hb hby at_294) ?_
        refine XS.iload X175.here hx rfl (hb hby at_295) rfl ?_
        exact k
      obtain ⟨cl185, Ar185, q185, S185, N185, H185, G185⟩ := id F182
      obtain ⟨T184, h184, X184, e184, W184, st184⟩ := stC X175 hx hZ e175 Ar185 (j := (2 : Int32)) (inb_of S185 ⟨by decide, by decide⟩) (g := (mkF m 297 (L0_15 p0 p1 p2 p3 p4 b120 b134 b147) [(.int (f1 p2)), (.int 2), (.ref b156), (.ref b156)])) rfl rfl (hb hby at_297)
      have go186 := gap go183 st184
      have N184 := Fr.snoc X184 N175 low156
      have K184 : Keep h0 h184 [] := K175.wr W184 (Or.inr fsh156)
      have Zs184 : n0 ≤ h184.size := Nat.le_trans Zs175 (Keep.of_wr W184).1
      have hk184 : s.heap.size ≤ h184.size := Nat.le_trans hk175 (Keep.of_wr W184).1
      have F187 := F178.wr W184
      have F188 := F179.other W184 (Or.inl ne157)
      have F189 := F180.other W184 (Or.inl ne157)
      have F190 := F181.other W184 ne158
      have F191 : Arv Z h184 b156 k156 .char (4 : Int32) [(.int (f1 p0).toUInt32.toUInt16.toUInt32.toInt32), (.int (f1 p1).toUInt32.toUInt16.toUInt32.toInt32), (.int (f1 p2).toUInt32.toUInt16.toUInt32.toInt32), (.int 0)] (.int 0) := Arv.set Ar185 q185 S185 N185 H185 G185 (fits_nar_char _) W184 2 rfl (Nat.le_of_ble_eq_true rfl)
      have go192 : Go p.tables e below T184 (mkF m 302 (L0_15 p0 p1 p2 p3 p4 b120 b134 b147) [(.int (f1 p3)), (.int 3), (.ref b156), (.ref b156)]) En := by
        intro t k
        refine go186 _ ?_
        refine XS.dup X184.here hx rfl (hb hby at_298) rfl rfl ?_
        refine XS.iconst X184.here hx rfl (hb hby at_299) ?_
        refine XS.iload X184.here hx rfl (hb hby at_300) rfl ?_
        exact k
      obtain ⟨cl194, Ar194, q194, S194, N194, H194, G194⟩ := id F191
      obtain ⟨T193, h193, X193, e193, W193, st193⟩ := stC X184 hx hZ e184 Ar194 (j := (3 : Int32)) (inb_of S194 ⟨by decide, by decide⟩) (g := (mkF m 302 (L0_15 p0 p1 p2 p3 p4 b120 b134 b147) [(.int (f1 p3)), (.int 3), (.ref b156), (.ref b156)])) rfl rfl (hb hby at_302)
      have go195 := gap go192 st193
      have N193 := Fr.snoc X193 N184 low156
      have K193 : Keep h0 h193 [] := K184.wr W193 (Or.inr fsh156)
      have Zs193 : n0 ≤ h193.size := Nat.le_trans Zs184 (Keep.of_wr W193).1
      have hk193 : s.heap.size ≤ h193.size := Nat.le_trans hk184 (Keep.of_wr W193).1
      have F196 := F187.wr W193
      have F197 := F188.other W193 (Or.inl ne157)
      have F198 := F189.other W193 (Or.inl ne157)
      have F199 := F190.other W193 ne158
      have F200 : Arv Z h193 b156 k156 .char (4 : Int32) [(.int (f1 p0).toUInt32.toUInt16.toUInt32.toInt32), (.int (f1 p1).toUInt32.toUInt16.toUInt32.toInt32), (.int (f1 p2).toUInt32.toUInt16.toUInt32.toInt32), (.int (f1 p3).toUInt32.toUInt16.toUInt32.toInt32)] (.int 0) := Arv.set Ar194 q194 S194 N194 H194 G194 (fits_nar_char _) W193 3 rfl (Nat.le_of_ble_eq_true rfl)
      have go201 : Go p.tables e below T193 (mkF m 321 (L0_17 p0 p1 p2 p3 p4 b120 b134 b147 b156) [(.int 0), (.ref b147)]) En := by
        intro t k
        refine go195 _ ?_
        refine XS.astore X193.here hx rfl (hb hby at_303) rfl rfl (l' := #[iv p0, iv p1, iv p2, iv p3, iv p4, iv (f1 p0), iv (f1 p1), iv (f1 p2), iv (f1 p3), iv 2, rv b120, rv b134, rv b147, iv 0, iv 1, rv b156, .unset]) rfl ?_
        refine XS.iconst X193.here hx rfl (hb hby at_305) ?_
        refine XS.istore X193.here hx rfl (hb hby at_306) rfl (l' := (L0_17 p0 p1 p2 p3 p4 b120 b134 b147 b156)) rfl ?_
        refine XS.iload X193.here hx rfl (hb hby at_308) rfl ?_
        refine XS.ifNo X193.here hx rfl (hb hby at_310) rfl (XT.i0_le_f (by decide : ((0 : Int32) < (1 : Int32)))) ?_
        show Steps _ _ _ (T193.setTop (mkF m 313 (L0_17 p0 p1 p2 p3 p4 b120 b134 b147 b156) [])) _
        refine XS.iload X193.here hx rfl (hb hby at_313) rfl ?_
        refine XS.ifNo X193.here hx rfl (hb hby at_315) rfl (XT.i0_eq_f (by decide : ¬ ((1 : Int32) = (0 : Int32)))) ?_
        refine XS.aload X193.here hx rfl (hb hby at_318) rfl rfl ?_
        refine XS.iconst X193.here hx rfl (hb hby at_320) ?_
        exact k
      obtain ⟨_, T202, Lc202, X202, hQ202, st202⟩ := own_cv X193 hx hZ hown hml go201 (hb hby at_321) e193 (hw _ (mi 125 rfl)) (own_site413 hw) F196 (rmsca l Z aZ hw [] _ (0 : Int32) _ _ _ _ _ _ (f1 p1).toUInt32.toUInt16.toUInt32.toInt32.toInt8.toInt32.toInt8.toInt32 h193 n0 Zs193 F196 F197 F198 F199 (own_sta_keep S_COMPACT_STRINGS K193 all0) hcs (own_sta_keep S_SIOOBE_FORMATTER K193 all0) rS_SIOOBE_FORMATTER (by decide) (by decide) rfl) (by decide) (argsL := [(.int 0)]) (rest := []) rfl rfl rfl (lenOf pd_404 rfl) (W := 0) rfl (by decide) (by decide) (by decide : 6 + 0 ≤ _) (by decide : 17 + 0 ≤ _)
      obtain ⟨rfl, N202q, e202⟩ := hQ202
      have N202 := Fr.app N193 N202q
      obtain ⟨cl203, Ar203, q203, S203, N203, H203, G203⟩ := id F200
      have go204 : Go p.tables e below T202 (mkF m 411 (L0_17 p0 p1 p2 p3 p4 b120 b134 b147 b156) [(.int 1)]) En := by
        intro t k
        refine st202 _ ?_
        refine XS.aload X202.here hx rfl (hb hby at_324) rfl rfl ?_
        refine XS.iload X202.here hx rfl (hb hby at_326) rfl ?_
        refine XS.iconst X202.here hx rfl (hb hby at_328) ?_
        refine XS.iadd X202.here hx rfl (hb hby at_329) rfl ?_
        refine X202.caload hx (j := (1 : Int32)) (v := (.int (f1 p1).toUInt32.toUInt16.toUInt32.toInt32)) (by rw [e202]; exact Ar203.1) (State.isArrayOf_alike hZ.alike Ar203.2.1) Ar203.2.2 (inb_of S203 ⟨by decide, by decide⟩) (Has.at H203 (inb_of S203 ⟨by decide, by decide⟩) rfl) (g := (mkF m 330 (L0_17 p0 p1 p2 p3 p4 b120 b134 b147 b156) [(.int 1), (.ref b156), (.int (fsca (f1 p1).toUInt32.toUInt16.toUInt32.toInt32.toInt8.toInt32.toInt8.toInt32))])) rfl rfl (hb hby at_330) _ ?_
        show Steps _ _ _ (T202.setTop (mkF m 331 (L0_17 p0 p1 p2 p3 p4 b120 b134 b147 b156) [(.int (f1 p1).toUInt32.toUInt16.toUInt32.toInt32), (.int (fsca (f1 p1).toUInt32.toUInt16.toUInt32.toInt32.toInt8.toInt32.toInt8.toInt32))])) _
        refine XS.icmpNo X202.here hx rfl (hb hby at_331) rfl (XT.ii_ne_f (own_bk414 p1)) ?_
        refine XS.iconst X202.here hx rfl (hb hby at_334) ?_
        refine XS.goto X202.here hx rfl (pc0 := 335) (pc' := 339) rfl (hb hby at_335) (by decide) (by decide) ?_
        refine XS.istore X202.here hx rfl (hb hby at_339) rfl (l' := (L0_17 p0 p1 p2 p3 p4 b120 b134 b147 b156)) rfl ?_
        refine XS.iload X202.here hx rfl (hb hby at_341) rfl ?_
        show Steps _ _ _ (T202.setTop (mkF m 343 (L0_17 p0 p1 p2 p3 p4 b120 b134 b147 b156) [(.int 1)])) _
        refine XS.iconst X202.here hx rfl (hb hby at_343) ?_
        refine XS.icmpYes X202.here hx rfl (pc0 := 344) (pc' := 375) rfl (hb hby at_344) rfl (XT.ii_le_t (by decide : ¬ ((1 : Int32) < (1 : Int32)))) (by decide) (by decide) ?_
        refine XS.iload X202.here hx rfl (hb hby at_375) rfl ?_
        refine XS.iconst X202.here hx rfl (hb hby at_377) ?_
        refine XS.icmpYes X202.here hx rfl (pc0 := 378) (pc' := 409) rfl (hb hby at_378) rfl (XT.ii_le_t (by decide : ¬ ((2 : Int32) < (1 : Int32)))) (by decide) (by decide) ?_
        show Steps _ _ _ (T202.setTop (mkF m 409 (L0_17 p0 p1 p2 p3 p4 b120 b134 b147 b156) [])) _
        refine XS.iload X202.here hx rfl (hb hby at_409) rfl ?_
        exact k
      obtain ⟨fs, hr, hrun, hended, hRW⟩ := X202.leaveW hS0 (by rw [e202]; exact hk193) (v := some (.int 1)) (fun h => by rw [Bd.returns] at h; cases h) Bd.notSynchronized
      subst hEn
      refine ⟨_, _, go204 _ (Jvm.RoadKit.retOut X202 hx Bd.returns rfl (Or.inl ⟨rfl, Or.inr (Or.inl rfl), _, rfl⟩) (hb hby at_411) hr), hrun, hended, _, _, rfl, ?_, hRW.1, hRW.2.1, hRW.2.2.1, hRW.2.2.2.mono (by decide) (by decide)⟩
      show Q0 _ _ p0 p1 p2 p3 p4 s_COMPACT_STRINGS s_SIOOBE_FORMATTER h0 _ (T202.setFrames fs).heap _
      have hE : (T202.setFrames fs).heap = h193 := e202
      rw [hE]
      exact ⟨congrArg (fun z => some (Value.int z)) ((by rw [f0, if_neg hs11, if_neg hs33, if_pos hs117, if_pos hs145] : (1 : Int32) = (f0 p0 p1 p2 p3 p4)).trans (f0_one p0 p1 p2 p3 p4)), N202⟩
    by_cases hs205 : (f1 p1) = (63 : Int32)
    · have go206 : Go p.tables e below T141 (mkF m 156 (L0_14 p0 p1 p2 p3 p4 b120 b134) [(.ref b134)]) En := by
        intro t k
        refine go144 _ ?_
        refine XS.aload X141.here hx rfl (hb hby at_154) rfl rfl ?_
        exact k
      obtain ⟨_, _, ⟨T207, L207, k207, n207⟩, -, X207q, hS207q, hg207, ⟨Lc207, hQ207, l207, y207, z207⟩, st207⟩ := callSS X141 hx (y := (⟨"com/example/nephele/nephele/web/internal/RequestPath", "queryString", "(Ljava/lang/String;)Ljava/lang/String;"⟩ : MethodName)) hown (mvT hZ (hw _ (mi 27 rfl))) (mvT hZ (hw _ (mi 28 rfl))) (mvT hZ (hw _ (mi 29 rfl))) (mvT hZ (hw _ (mi 30 rfl))) (by decide) (own_backOfSI (W := 0) (rmqs2_1 l Z aZ hw [] _ _ _ _ _ _ _ T141.heap n0 Zs141 G141_0 G141_1 GX141 GV141 (own_sta_keep S_COMPACT_STRINGS K141 all0) hcs (by rw [fiz2, fiy2, fix2, fic2, if_neg (own_qf p0 hs145), if_pos (own_qt p1 hs205)]) (own_sta_keep S_SIOOBE_FORMATTER K141 all0) rS_SIOOBE_FORMATTER (fun b cl q => K141.2.1 b cl (hkp b cl q) nin0) hcn151 hcw) hZ (hw _ (mi 30 rfl)) (hw _ (mi 29 rfl)) (by decide) (by decide) IB0) (g := (mkF m 156 (L0_14 p0 p1 p2 p3 p4 b120 b134) [(.ref b134)])) rfl (by rw [hml]; rfl) (argsL := [(.ref b134)]) (rest := []) (lenOf pd_408 rfl) rfl (by show 2 * 0 + _ ≤ _; exact Nat.le_of_eq rfl) (hb hby at_156) (fun _ _ => ⟨rfl, rfl, (by decide : 3 + 2 ≤ _), (by decide : 8 + 4 ≤ _)⟩)
      dsimp only [Pt.U, Pt.locs, Pt.cells, Pt.slots] at X207q hS207q hg207 l207 y207 z207 st207 hQ207
      subst l207 y207 z207
      have hk207q : s.heap.size ≤ T141.heap.size := hk141
      obtain ⟨X207, hS207, hZ207, hown207⟩ := rebS hS0 hk207q X207q hS207q hg207 hZ hown
      have hk207r : T207.heap.size ≤ T207.heap.size := Nat.le_refl _
      obtain ⟨b207, bx207, kx207, rfl, N207q, K207q, GE207, GC207, GX207, GV207⟩ := hQ207
      have N207 := Fr.app N141 N207q
      have K207 : Keep h0 T207.heap [] := K141.trans K207q all0
      have Zs207 : n0 ≤ T207.heap.size := Nat.le_trans Zs141 K207q.1
      have hk207 : s.heap.size ≤ T207.heap.size := Nat.le_trans hk141 K207q.1
      have F208 := F142.keep K207q nin0
      have F209 := G141_0.keep K207q
      have F210 := G141_1.keep K207q nin0
      have F211 := GX141.keep K207q nin0
      have F212 := GV141.keep K207q nin0
      have go213 := gapT go206 st207
      have go214 : Go p.tables e below T207 (mkF m 270 (L0_18 p0 p1 p2 p3 p4 b120 b134 b207) [(.ref b207)]) En := by
        intro t k
        refine go213 _ ?_
        refine XS.astore X207.here hx rfl (hb hby at_159) rfl rfl (l' := #[iv p0, iv p1, iv p2, iv p3, iv p4, iv (f1 p0), iv (f1 p1), iv (f1 p2), iv (f1 p3), iv 2, rv b120, rv b134, rv b207, .unset, .unset, .unset, .unset]) rfl ?_
        refine XS.iconst X207.here hx rfl (hb hby at_161) ?_
        refine XS.istore X207.here hx rfl (hb hby at_162) rfl (l' := (L0_19 p0 p1 p2 p3 p4 b120 b134 b207)) rfl ?_
        refine XS.iload X207.here hx rfl (hb hby at_164) rfl ?_
        refine XS.ifNo X207.here hx rfl (hb hby at_166) rfl (XT.i0_le_f (by decide : ((0 : Int32) < (2 : Int32)))) ?_
        show Steps _ _ _ (T207.setTop (mkF m 169 (L0_19 p0 p1 p2 p3 p4 b120 b134 b207) [])) _
        refine XS.iload X207.here hx rfl (hb hby at_169) rfl ?_
        refine XS.bipush X207.here hx rfl (hb hby at_171) ?_
        refine XS.icmpYes X207.here hx rfl (pc0 := 173) (pc' := 182) rfl (hb hby at_173) rfl (XT.ii_ne_t hs145) (by decide) (by decide) ?_
        refine XS.iload X207.here hx rfl (hb hby at_182) rfl ?_
        refine XS.iconst X207.here hx rfl (hb hby at_184) ?_
        show Steps _ _ _ (T207.setTop (mkF m 185 (L0_19 p0 p1 p2 p3 p4 b120 b134 b207) [(.int 1), (.int 2)])) _
        refine XS.icmpNo X207.here hx rfl (hb hby at_185) rfl (XT.ii_le_f (by decide : ((1 : Int32) < (2 : Int32)))) ?_
        refine XS.iload X207.here hx rfl (hb hby at_188) rfl ?_
        refine XS.bipush X207.here hx rfl (hb hby at_190) ?_
        refine XS.icmpNo X207.here hx rfl (hb hby at_192) rfl (XT.ii_ne_f hs205) ?_
        refine XS.iconst X207.here hx rfl (hb hby at_195) ?_
        show Steps _ _ _ (T207.setTop (mkF m 196 (L0_19 p0 p1 p2 p3 p4 b120 b134 b207) [(.int 1)])) _
        refine XS.istore X207.here hx rfl (hb hby at_196) rfl (l' := (L0_20 p0 p1 p2 p3 p4 b120 b134 b207)) rfl ?_
        refine XS.goto X207.here hx rfl (pc0 := 198) (pc' := 236) rfl (hb hby at_198) (by decide) (by decide) ?_
        refine XS.iload X207.here hx rfl (hb hby at_236) rfl ?_
        refine XS.ifYes X207.here hx rfl (pc0 := 238) (pc' := 252) rfl (hb hby at_238) rfl (XT.i0_ge_t (by decide : ¬ ((1 : Int32) < (0 : Int32)))) (by decide) (by decide) ?_
        refine XS.aload X207.here hx rfl (hb hby at_252) rfl rfl ?_
        show Steps _ _ _ (T207.setTop (mkF m 254 (L0_20 p0 p1 p2 p3 p4 b120 b134 b207) [(.ref b207)])) _
        refine XT.nonnullYes X207.here hx rfl (pc0 := 254) (pc' := 259) rfl (hb hby at_254) rfl rfl (fun q => nomatch q) (by decide) (by decide) ?_
        refine XS.iload X207.here hx rfl (hb hby at_259) rfl ?_
        refine XS.iload X207.here hx rfl (hb hby at_261) rfl ?_
        refine XS.isub X207.here hx rfl (hb hby at_263) rfl ?_
        refine XS.iconst X207.here hx rfl (hb hby at_264) ?_
        show Steps _ _ _ (T207.setTop (mkF m 265 (L0_20 p0 p1 p2 p3 p4 b120 b134 b207) [(.int 1), (.int 1)])) _
        refine XS.isub X207.here hx rfl (hb hby at_265) rfl ?_
        refine XS.istore X207.here hx rfl (hb hby at_266) rfl (l' := (L0_18 p0 p1 p2 p3 p4 b120 b134 b207)) rfl ?_
        refine XS.aload X207.here hx rfl (hb hby at_268) rfl rfl ?_
        exact k
      obtain ⟨_, T215, Lc215, X215, hQ215, st215⟩ := own_cv X207 hx hZ207 hown207 hml go214 (hb hby at_270) rfl (hw _ (mi 124 rfl)) (own_site185 hw) GE207 (rmln l Z aZ hw [] _ _ _ _ [] _ T207.heap n0 Zs207 GE207 GC207 GX207 GV207 (own_sta_keep S_COMPACT_STRINGS K207 all0) hcs) (by decide) (argsL := []) (rest := []) rfl rfl rfl (lenOf pd_186 rfl) (W := 0) rfl (by decide) (by decide) (by decide : 5 + 0 ≤ _) (by decide : 12 + 0 ≤ _)
      obtain ⟨rfl, N215q, e215⟩ := hQ215
      have N215 := Fr.app N207 N215q
      have go216 : Go p.tables e below T215 (mkF m 281 (L0_18 p0 p1 p2 p3 p4 b120 b134 b207) [(.int 4)]) En := by
        intro t k
        refine st215 _ ?_
        refine XS.iload X215.here hx rfl (hb hby at_273) rfl ?_
        refine XS.icmpYes X215.here hx rfl (pc0 := 275) (pc' := 280) rfl (hb hby at_275) rfl (XT.ii_eq_t (by decide : ((0 : Int32) = (0 : Int32)))) (by decide) (by decide) ?_
        refine XS.iconst X215.here hx rfl (hb hby at_280) ?_
        exact k
      obtain ⟨T217, h217, k217, X217, e217, E217, A217, st217⟩ := newP X215 hx hZ207 (hw _ (mi 5 rfl)) e215 (g := (mkF m 281 (L0_18 p0 p1 p2 p3 p4 b120 b134 b207) [(.int 4)])) rfl (hb hby at_281) rfl (by decide) (cap := 4) (by decide) (by decide) (by decide) (by decide)
      obtain ⟨b217, g217⟩ : ∃ z, z = T207.heap.size := ⟨_, rfl⟩
      rw [← g217] at A217 st217
      have ne218 : b207 ≠ b217 := Nat.ne_of_lt (Nat.lt_of_lt_of_le GE207.lt (Nat.le_of_eq g217.symm))
      have ne219 : bx207 ≠ b217 := Nat.ne_of_lt (Nat.lt_of_lt_of_le GV207.lt (Nat.le_of_eq g217.symm))
      have low217 : n0 ≤ b217 := Nat.le_trans Zs207 (Nat.le_of_eq g217.symm)
      have fsh217 : h0.size ≤ b217 := Nat.le_trans K207.1 (Nat.le_of_eq g217.symm)
      have K217 : Keep h0 h217 [] := K207.ext E217
      have Zs217 : n0 ≤ h217.size := Nat.le_trans Zs207 E217.1
      have hk217 : T207.heap.size ≤ h217.size := Nat.le_trans hk207r E217.1
      have go220 := gap go216 st217
      have F221 := GE207.ext E217
      have F222 := GC207.ext E217
      have F223 := GX207.ext E217
      have F224 := GV207.ext E217
      have F225 : Arv Z h217 b217 k217 .char (4 : Int32) [(.int 0), (.int 0), (.int 0), (.int 0)] (.int 0) := (Arv.new A217 (by decide)).pad (pad_rep [] (.int 0) 4)
      have go226 : Go p.tables e below T217 (mkF m 287 (L0_18 p0 p1 p2 p3 p4 b120 b134 b207) [(.int (f1 p0)), (.int 0), (.ref b217), (.ref b217)]) En := by
        intro t k
        refine go220 _ ?_
        refine XS.dup X217.here hx rfl (hb hby at_283) rfl rfl ?_
        refine XS.iconst X217.here hx rfl (hb hby at_284) ?_
        refine XS.iload X217.here hx rfl (hb hby at_285) rfl ?_
        exact k
      obtain ⟨cl228, Ar228, q228, S228, N228, H228, G228⟩ := id F225
      obtain ⟨T227, h227, X227, e227, W227, st227⟩ := stC X217 hx hZ207 e217 Ar228 (j := (0 : Int32)) (inb_of S228 ⟨by decide, by decide⟩) (g := (mkF m 287 (L0_18 p0 p1 p2 p3 p4 b120 b134 b207) [(.int (f1 p0)), (.int 0), (.ref b217), (.ref b217)])) rfl rfl (hb hby at_287)
      have go229 := gap go226 st227
      have N227 := Fr.snoc X227 N215 low217
      have K227 : Keep h0 h227 [] := K217.wr W227 (Or.inr fsh217)
      have Zs227 : n0 ≤ h227.size := Nat.le_trans Zs217 (Keep.of_wr W227).1
      have hk227 : T207.heap.size ≤ h227.size := Nat.le_trans hk217 (Keep.of_wr W227).1
      have F230 := F221.wr W227
      have F231 := F222.other W227 (Or.inl ne218)
      have F232 := F223.other W227 (Or.inl ne218)
      have F233 := F224.other W227 ne219
      have F234 : Arv Z h227 b217 k217 .char (4 : Int32) [(.int (f1 p0).toUInt32.toUInt16.toUInt32.toInt32), (.int 0), (.int 0), (.int 0)] (.int 0) := Arv.set Ar228 q228 S228 N228 H228 G228 (fits_nar_char _) W227 0 rfl (Nat.le_of_ble_eq_true rfl)
      have go235 : Go p.tables e below T227 (mkF m 292 (L0_18 p0 p1 p2 p3 p4 b120 b134 b207) [(.int (f1 p1)), (.int 1), (.ref b217), (.ref b217)]) En := by
        intro t k
        refine go229 _ ?_
        refine XS.dup X227.here hx rfl (hb hby at_288) rfl rfl ?_
        refine XS.iconst X227.here hx rfl (hb hby at_289) ?_
        refine XS.iload X227.here hx rfl (hb hby at_290) rfl ?_
        exact k
      obtain ⟨cl237, Ar237, q237, S237, N237, H237, G237⟩ := id F234
      obtain ⟨T236, h236, X236, e236, W236, st236⟩ := stC X227 hx hZ207 e227 Ar237 (j := (1 : Int32)) (inb_of S237 ⟨by decide, by decide⟩) (g := (mkF m 292 (L0_18 p0 p1 p2 p3 p4 b120 b134 b207) [(.int (f1 p1)), (.int 1), (.ref b217), (.ref b217)])) rfl rfl (hb hby at_292)
      have go238 := gap go235 st236
      have N236 := Fr.snoc X236 N227 low217
      have K236 : Keep h0 h236 [] := K227.wr W236 (Or.inr fsh217)
      have Zs236 : n0 ≤ h236.size := Nat.le_trans Zs227 (Keep.of_wr W236).1
      have hk236 : T207.heap.size ≤ h236.size := Nat.le_trans hk227 (Keep.of_wr W236).1
      have F239 := F230.wr W236
      have F240 := F231.other W236 (Or.inl ne218)
      have F241 := F232.other W236 (Or.inl ne218)
      have F242 := F233.other W236 ne219
      have F243 : Arv Z h236 b217 k217 .char (4 : Int32) [(.int (f1 p0).toUInt32.toUInt16.toUInt32.toInt32), (.int (f1 p1).toUInt32.toUInt16.toUInt32.toInt32), (.int 0), (.int 0)] (.int 0) := Arv.set Ar237 q237 S237 N237 H237 G237 (fits_nar_char _) W236 1 rfl (Nat.le_of_ble_eq_true rfl)
      have go244 : Go p.tables e below T236 (mkF m 297 (L0_18 p0 p1 p2 p3 p4 b120 b134 b207) [(.int (f1 p2)), (.int 2), (.ref b217), (.ref b217)]) En := by
        intro t k
        refine go238 _ ?_
        refine XS.dup X236.here hx rfl (hb hby at_293) rfl rfl ?_
        refine XS.iconst X236.here hx rfl (hb hby at_294) ?_
        refine XS.iload X236.here hx rfl (hb hby at_295) rfl ?_
        exact k
      obtain ⟨cl246, Ar246, q246, S246, N246, H246, G246⟩ := id F243
      obtain ⟨T245, h245, X245, e245, W245, st245⟩ := stC X236 hx hZ207 e236 Ar246 (j := (2 : Int32)) (inb_of S246 ⟨by decide, by decide⟩) (g := (mkF m 297 (L0_18 p0 p1 p2 p3 p4 b120 b134 b207) [(.int (f1 p2)), (.int 2), (.ref b217), (.ref b217)])) rfl rfl (hb hby at_297)
      have go247 := gap go244 st245
      have N245 := Fr.snoc X245 N236 low217
      have K245 : Keep h0 h245 [] := K236.wr W245 (Or.inr fsh217)
      have Zs245 : n0 ≤ h245.size := Nat.le_trans Zs236 (Keep.of_wr W245).1
      have hk245 : T207.heap.size ≤ h245.size := Nat.le_trans hk236 (Keep.of_wr W245).1
      have F248 := F239.wr W245
      have F249 := F240.other W245 (Or.inl ne218)
      have F250 := F241.other W245 (Or.inl ne218)
      have F251 := F242.other W245 ne219
      have F252 : Arv Z h245 b217 k217 .char (4 : Int32) [(.int (f1 p0).toUInt32.toUInt16.toUInt32.toInt32), (.int (f1 p1).toUInt32.toUInt16.toUInt32.toInt32), (.int (f1 p2).toUInt32.toUInt16.toUInt32.toInt32), (.int 0)] (.int 0) := Arv.set Ar246 q246 S246 N246 H246 G246 (fits_nar_char _) W245 2 rfl (Nat.le_of_ble_eq_true rfl)
      have go253 : Go p.tables e below T245 (mkF m 302 (L0_18 p0 p1 p2 p3 p4 b120 b134 b207) [(.int (f1 p3)), (.int 3), (.ref b217), (.ref b217)]) En := by
        intro t k
        refine go247 _ ?_
        refine XS.dup X245.here hx rfl (hb hby at_298) rfl rfl ?_
        refine XS.iconst X245.here hx rfl (hb hby at_299) ?_
        refine XS.iload X245.here hx rfl (hb hby at_300) rfl ?_
        exact k
      obtain ⟨cl255, Ar255, q255, S255, N255, H255, G255⟩ := id F252
      obtain ⟨T254, h254, X254, e254, W254, st254⟩ := stC X245 hx hZ207 e245 Ar255 (j := (3 : Int32)) (inb_of S255 ⟨by decide, by decide⟩) (g := (mkF m 302 (L0_18 p0 p1 p2 p3 p4 b120 b134 b207) [(.int (f1 p3)), (.int 3), (.ref b217), (.ref b217)])) rfl rfl (hb hby at_302)
      have go256 := gap go253 st254
      have N254 := Fr.snoc X254 N245 low217
      have K254 : Keep h0 h254 [] := K245.wr W254 (Or.inr fsh217)
      have Zs254 : n0 ≤ h254.size := Nat.le_trans Zs245 (Keep.of_wr W254).1
      have hk254 : T207.heap.size ≤ h254.size := Nat.le_trans hk245 (Keep.of_wr W254).1
      have F257 := F248.wr W254
      have F258 := F249.other W254 (Or.inl ne218)
      have F259 := F250.other W254 (Or.inl ne218)
      have F260 := F251.other W254 ne219
      have F261 : Arv Z h254 b217 k217 .char (4 : Int32) [(.int (f1 p0).toUInt32.toUInt16.toUInt32.toInt32), (.int (f1 p1).toUInt32.toUInt16.toUInt32.toInt32), (.int (f1 p2).toUInt32.toUInt16.toUInt32.toInt32), (.int (f1 p3).toUInt32.toUInt16.toUInt32.toInt32)] (.int 0) := Arv.set Ar255 q255 S255 N255 H255 G255 (fits_nar_char _) W254 3 rfl (Nat.le_of_ble_eq_true rfl)
      have go262 : Go p.tables e below T254 (mkF m 411 (L0_21 p0 p1 p2 p3 p4 b120 b134 b207 b217) [(.int 1)]) En := by
        intro t k
        refine go256 _ ?_
        refine XS.astore X254.here hx rfl (hb hby at_303) rfl rfl (l' := #[iv p0, iv p1, iv p2, iv p3, iv p4, iv (f1 p0), iv (f1 p1), iv (f1 p2), iv (f1 p3), iv 2, rv b120, rv b134, rv b207, iv 1, iv 0, rv b217, .unset]) rfl ?_
        refine XS.iconst X254.here hx rfl (hb hby at_305) ?_
        refine XS.istore X254.here hx rfl (hb hby at_306) rfl (l' := (L0_21 p0 p1 p2 p3 p4 b120 b134 b207 b217)) rfl ?_
        refine XS.iload X254.here hx rfl (hb hby at_308) rfl ?_
        refine XS.ifYes X254.here hx rfl (pc0 := 310) (pc' := 341) rfl (hb hby at_310) rfl (XT.i0_le_t (by decide : ¬ ((0 : Int32) < (0 : Int32)))) (by decide) (by decide) ?_
        show Steps _ _ _ (T254.setTop (mkF m 341 (L0_21 p0 p1 p2 p3 p4 b120 b134 b207 b217) [])) _
        refine XS.iload X254.here hx rfl (hb hby at_341) rfl ?_
        refine XS.iconst X254.here hx rfl (hb hby at_343) ?_
        refine XS.icmpYes X254.here hx rfl (pc0 := 344) (pc' := 375) rfl (hb hby at_344) rfl (XT.ii_le_t (by decide : ¬ ((1 : Int32) < (0 : Int32)))) (by decide) (by decide) ?_
        refine XS.iload X254.here hx rfl (hb hby at_375) rfl ?_
        refine XS.iconst X254.here hx rfl (hb hby at_377) ?_
        show Steps _ _ _ (T254.setTop (mkF m 378 (L0_21 p0 p1 p2 p3 p4 b120 b134 b207 b217) [(.int 2), (.int 0)])) _
        refine XS.icmpYes X254.here hx rfl (pc0 := 378) (pc' := 409) rfl (hb hby at_378) rfl (XT.ii_le_t (by decide : ¬ ((2 : Int32) < (0 : Int32)))) (by decide) (by decide) ?_
        refine XS.iload X254.here hx rfl (hb hby at_409) rfl ?_
        exact k
      obtain ⟨fs, hr, hrun, hended, hRW⟩ := X254.leaveW hS207 (by rw [e254]; exact hk254) (v := some (.int 1)) (fun h => by rw [Bd.returns] at h; cases h) Bd.notSynchronized
      subst hEn
      refine ⟨_, _, go262 _ (Jvm.RoadKit.retOut X254 hx Bd.returns rfl (Or.inl ⟨rfl, Or.inr (Or.inl rfl), _, rfl⟩) (hb hby at_411) hr), hrun, hended, _, _, rfl, ?_, hRW.1, hRW.2.1, hRW.2.2.1, hRW.2.2.2.mono (by decide) (by decide)⟩
      show Q0 _ _ p0 p1 p2 p3 p4 s_COMPACT_STRINGS s_SIOOBE_FORMATTER h0 _ (T254.setFrames fs).heap _
      have hE : (T254.setFrames fs).heap = h254 := e254
      rw [hE]
      exact ⟨congrArg (fun z => some (Value.int z)) ((by rw [f0, if_neg hs11, if_neg hs33, if_pos hs117, if_neg hs145, if_pos hs205] : (1 : Int32) = (f0 p0 p1 p2 p3 p4)).trans (f0_one p0 p1 p2 p3 p4)), N254⟩
    have go263 : Go p.tables e below T141 (mkF m 156 (L0_14 p0 p1 p2 p3 p4 b120 b134) [(.ref b134)]) En := by
      intro t k
      refine go144 _ ?_
      refine XS.aload X141.here hx rfl (hb hby at_154) rfl rfl ?_
      exact k
    obtain ⟨_, T264, Lc264, X264, hQ264, st264⟩ := own_cs X141 hx hZ hown hml go263 (hb hby at_156) rfl (hw _ (mi 27 rfl)) (own_site407 hw) (rmqs2_m l Z aZ hw [] _ _ _ _ _ _ T141.heap n0 Zs141 G141_0 G141_1 GX141 GV141 (own_sta_keep S_COMPACT_STRINGS K141 all0) hcs (by rw [fiz2, fiy2, fix2, fic2, if_neg (own_qf p0 hs145), if_neg (own_qf p1 hs205)])) (by decide) (argsL := [(.ref b134)]) (rest := []) rfl rfl rfl (lenOf pd_408 rfl) (W := 0) rfl (by decide) (by decide) (by decide : 3 + 0 ≤ _) (by decide : 8 + 0 ≤ _)
    obtain ⟨rfl, N264q, e264⟩ := hQ264
    have N264 := Fr.app N141 N264q
    have go265 : Go p.tables e below T264 (mkF m 251 (L0_22 p0 p1 p2 p3 p4 b120 b134) [(.int 1)]) En := by
      intro t k
      refine st264 _ ?_
      refine XS.astore X264.here hx rfl (hb hby at_159) rfl rfl (l' := #[iv p0, iv p1, iv p2, iv p3, iv p4, iv (f1 p0), iv (f1 p1), iv (f1 p2), iv (f1 p3), iv 2, rv b120, rv b134, .val .null, .unset, .unset, .unset, .unset]) rfl ?_
      refine XS.iconst X264.here hx rfl (hb hby at_161) ?_
      refine XS.istore X264.here hx rfl (hb hby at_162) rfl (l' := (L0_22 p0 p1 p2 p3 p4 b120 b134)) rfl ?_
      refine XS.iload X264.here hx rfl (hb hby at_164) rfl ?_
      refine XS.ifNo X264.here hx rfl (hb hby at_166) rfl (XT.i0_le_f (by decide : ((0 : Int32) < (2 : Int32)))) ?_
      show Steps _ _ _ (T264.setTop (mkF m 169 (L0_22 p0 p1 p2 p3 p4 b120 b134) [])) _
      refine XS.iload X264.here hx rfl (hb hby at_169) rfl ?_
      refine XS.bipush X264.here hx rfl (hb hby at_171) ?_
      refine XS.icmpYes X264.here hx rfl (pc0 := 173) (pc' := 182) rfl (hb hby at_173) rfl (XT.ii_ne_t hs145) (by decide) (by decide) ?_
      refine XS.iload X264.here hx rfl (hb hby at_182) rfl ?_
      refine XS.iconst X264.here hx rfl (hb hby at_184) ?_
      show Steps _ _ _ (T264.setTop (mkF m 185 (L0_22 p0 p1 p2 p3 p4 b120 b134) [(.int 1), (.int 2)])) _
      refine XS.icmpNo X264.here hx rfl (hb hby at_185) rfl (XT.ii_le_f (by decide : ((1 : Int32) < (2 : Int32)))) ?_
      refine XS.iload X264.here hx rfl (hb hby at_188) rfl ?_
      refine XS.bipush X264.here hx rfl (hb hby at_190) ?_
      refine XS.icmpYes X264.here hx rfl (pc0 := 192) (pc' := 201) rfl (hb hby at_192) rfl (XT.ii_ne_t hs205) (by decide) (by decide) ?_
      refine XS.iload X264.here hx rfl (hb hby at_201) rfl ?_
      show Steps _ _ _ (T264.setTop (mkF m 203 (L0_22 p0 p1 p2 p3 p4 b120 b134) [(.int 2)])) _
      refine XS.iconst X264.here hx rfl (hb hby at_203) ?_
      refine XS.icmpYes X264.here hx rfl (pc0 := 204) (pc' := 220) rfl (hb hby at_204) rfl (XT.ii_le_t (by decide : ¬ ((2 : Int32) < (2 : Int32)))) (by decide) (by decide) ?_
      refine XS.iload X264.here hx rfl (hb hby at_220) rfl ?_
      refine XS.iconst X264.here hx rfl (hb hby at_222) ?_
      refine XS.icmpYes X264.here hx rfl (pc0 := 223) (pc' := 236) rfl (hb hby at_223) rfl (XT.ii_le_t (by decide : ¬ ((3 : Int32) < (2 : Int32)))) (by decide) (by decide) ?_
      show Steps _ _ _ (T264.setTop (mkF m 236 (L0_22 p0 p1 p2 p3 p4 b120 b134) [])) _
      refine XS.iload X264.here hx rfl (hb hby at_236) rfl ?_
      refine XS.ifNo X264.here hx rfl (hb hby at_238) rfl (XT.i0_ge_f (by decide : ((-1 : Int32) < (0 : Int32)))) ?_
      refine XS.aload X264.here hx rfl (hb hby at_241) rfl rfl ?_
      refine XT.nonnullNo X264.here hx rfl (hb hby at_243) rfl rfl ?_
      refine XS.iconst X264.here hx rfl (hb hby at_246) ?_
      show Steps _ _ _ (T264.setTop (mkF m 247 (L0_22 p0 p1 p2 p3 p4 b120 b134) [(.int 1)])) _
      refine XS.goto X264.here hx rfl (pc0 := 247) (pc' := 251) rfl (hb hby at_247) (by decide) (by decide) ?_
      exact k
    obtain ⟨fs, hr, hrun, hended, hRW⟩ := X264.leaveW hS0 (by rw [e264]; exact hk141) (v := some (.int 1)) (fun h => by rw [Bd.returns] at h; cases h) Bd.notSynchronized
    subst hEn
    refine ⟨_, _, go265 _ (Jvm.RoadKit.retOut X264 hx Bd.returns rfl (Or.inl ⟨rfl, Or.inr (Or.inl rfl), _, rfl⟩) (hb hby at_251) hr), hrun, hended, _, _, rfl, ?_, hRW.1, hRW.2.1, hRW.2.2.1, hRW.2.2.2.mono (by decide) (by decide)⟩
    show Q0 _ _ p0 p1 p2 p3 p4 s_COMPACT_STRINGS s_SIOOBE_FORMATTER h0 _ (T264.setFrames fs).heap _
    have hE : (T264.setFrames fs).heap = T141.heap := e264
    rw [hE]
    exact ⟨congrArg (fun z => some (Value.int z)) ((by rw [f0, if_neg hs11, if_neg hs33, if_pos hs117, if_neg hs145, if_neg hs205] : (1 : Int32) = (f0 p0 p1 p2 p3 p4)).trans (f0_one p0 p1 p2 p3 p4)), N264⟩
  by_cases hs266 : (v0_9 p4) = (3 : Int32)
  · have go267 : Go p.tables e below T8 (mkF m 33 (L0_23 p0 p1 p2 p3 p4) []) En := by
      have q : Go p.tables e below T8 (mkF m  33 #[iv p0, iv p1, iv p2, iv p3, iv p4, iv (f1 p0), iv (f1 p1), iv (f1 p2), iv (f1 p3), iv (v0_9 p4), .unset, .unset, .unset, .unset, .unset, .unset, .unset] []) En := go10
      rw [hs266] at q
      exact q
    have go268 : Go p.tables e below T8 (mkF m 96 (L0_23 p0 p1 p2 p3 p4) [(.int 3)]) En := by
      intro t k
      refine go267 _ ?_
      refine XS.iload X8.here hx rfl (hb hby at_33) rfl ?_
      refine XS.ifYes X8.here hx rfl (pc0 := 35) (pc' := 46) rfl (hb hby at_35) rfl (XT.i0_ne_t (by decide : ¬ ((3 : Int32) = (0 : Int32)))) (by decide) (by decide) ?_
      refine XS.iload X8.here hx rfl (hb hby at_46) rfl ?_
      refine XS.iconst X8.here hx rfl (hb hby at_48) ?_
      refine XS.icmpYes X8.here hx rfl (pc0 := 49) (pc' := 65) rfl (hb hby at_49) rfl (XT.ii_ne_t (by decide : ¬ ((3 : Int32) = (1 : Int32)))) (by decide) (by decide) ?_
      show Steps _ _ _ (T8.setTop (mkF m 65 (L0_23 p0 p1 p2 p3 p4) [])) _
      refine XS.iload X8.here hx rfl (hb hby at_65) rfl ?_
      refine XS.iconst X8.here hx rfl (hb hby at_67) ?_
      refine XS.icmpYes X8.here hx rfl (pc0 := 68) (pc' := 89) rfl (hb hby at_68) rfl (XT.ii_ne_t (by decide : ¬ ((3 : Int32) = (2 : Int32)))) (by decide) (by decide) ?_
      refine XS.iload X8.here hx rfl (hb hby at_89) rfl ?_
      refine XS.iconst X8.here hx rfl (hb hby at_91) ?_
      show Steps _ _ _ (T8.setTop (mkF m 92 (L0_23 p0 p1 p2 p3 p4) [(.int 3), (.int 3)])) _
      refine XS.icmpNo X8.here hx rfl (hb hby at_92) rfl (XT.ii_ne_f (by decide : ((3 : Int32) = (3 : Int32)))) ?_
      refine XS.iconst X8.here hx rfl (hb hby at_95) ?_
      exact k
    obtain ⟨T269, h269, k269, X269, e269, E269, A269, st269⟩ := newP X8 hx hZ (hw _ (mi 5 rfl)) e8 (g := (mkF m 96 (L0_23 p0 p1 p2 p3 p4) [(.int 3)])) rfl (hb hby at_96) rfl (by decide) (cap := 3) (by decide) (by decide) (by decide) (by decide)
    obtain ⟨b269, g269⟩ : ∃ z, z = h0.size := ⟨_, rfl⟩
    rw [← g269] at A269 st269
    have low269 : n0 ≤ b269 := Nat.le_trans Z0 (Nat.le_of_eq g269.symm)
    have fsh269 : h0.size ≤ b269 := Nat.le_trans K0.1 (Nat.le_of_eq g269.symm)
    have K269 : Keep h0 h269 [] := K0.ext E269
    have Zs269 : n0 ≤ h269.size := Nat.le_trans Z0 E269.1
    have hk269 : s.heap.size ≤ h269.size := Nat.le_trans hk0 E269.1
    have go270 := gap go268 st269
    have F271 : Arv Z h269 b269 k269 .char (3 : Int32) [(.int 0), (.int 0), (.int 0)] (.int 0) := (Arv.new A269 (by decide)).pad (pad_rep [] (.int 0) 3)
    have go272 : Go p.tables e below T269 (mkF m 102 (L0_23 p0 p1 p2 p3 p4) [(.int (f1 p0)), (.int 0), (.ref b269), (.ref b269)]) En := by
      intro t k
      refine go270 _ ?_
      refine XS.dup X269.here hx rfl (hb hby at_98) rfl rfl ?_
      refine XS.iconst X269.here hx rfl (hb hby at_99) ?_
      refine XS.iload X269.here hx rfl (hb hby at_100) rfl ?_
      exact k
    obtain ⟨cl274, Ar274, q274, S274, N274, H274, G274⟩ := id F271
    obtain ⟨T273, h273, X273, e273, W273, st273⟩ := stC X269 hx hZ e269 Ar274 (j := (0 : Int32)) (inb_of S274 ⟨by decide, by decide⟩) (g := (mkF m 102 (L0_23 p0 p1 p2 p3 p4) [(.int (f1 p0)), (.int 0), (.ref b269), (.ref b269)])) rfl rfl (hb hby at_102)
    have go275 := gap go272 st273
    have N273 := Fr.snoc X273 N8 low269
    have K273 : Keep h0 h273 [] := K269.wr W273 (Or.inr fsh269)
    have Zs273 : n0 ≤ h273.size := Nat.le_trans Zs269 (Keep.of_wr W273).1
    have hk273 : s.heap.size ≤ h273.size := Nat.le_trans hk269 (Keep.of_wr W273).1
    have F276 : Arv Z h273 b269 k269 .char (3 : Int32) [(.int (f1 p0).toUInt32.toUInt16.toUInt32.toInt32), (.int 0), (.int 0)] (.int 0) := Arv.set Ar274 q274 S274 N274 H274 G274 (fits_nar_char _) W273 0 rfl (Nat.le_of_ble_eq_true rfl)
    have go277 : Go p.tables e below T273 (mkF m 107 (L0_23 p0 p1 p2 p3 p4) [(.int (f1 p1)), (.int 1), (.ref b269), (.ref b269)]) En := by
      intro t k
      refine go275 _ ?_
      refine XS.dup X273.here hx rfl (hb hby at_103) rfl rfl ?_
      refine XS.iconst X273.here hx rfl (hb hby at_104) ?_
      refine XS.iload X273.here hx rfl (hb hby at_105) rfl ?_
      exact k
    obtain ⟨cl279, Ar279, q279, S279, N279, H279, G279⟩ := id F276
    obtain ⟨T278, h278, X278, e278, W278, st278⟩ := stC X273 hx hZ e273 Ar279 (j := (1 : Int32)) (inb_of S279 ⟨by decide, by decide⟩) (g := (mkF m 107 (L0_23 p0 p1 p2 p3 p4) [(.int (f1 p1)), (.int 1), (.ref b269), (.ref b269)])) rfl rfl (hb hby at_107)
    have go280 := gap go277 st278
    have N278 := Fr.snoc X278 N273 low269
    have K278 : Keep h0 h278 [] := K273.wr W278 (Or.inr fsh269)
    have Zs278 : n0 ≤ h278.size := Nat.le_trans Zs273 (Keep.of_wr W278).1
    have hk278 : s.heap.size ≤ h278.size := Nat.le_trans hk273 (Keep.of_wr W278).1
    have F281 : Arv Z h278 b269 k269 .char (3 : Int32) [(.int (f1 p0).toUInt32.toUInt16.toUInt32.toInt32), (.int (f1 p1).toUInt32.toUInt16.toUInt32.toInt32), (.int 0)] (.int 0) := Arv.set Ar279 q279 S279 N279 H279 G279 (fits_nar_char _) W278 1 rfl (Nat.le_of_ble_eq_true rfl)
    have go282 : Go p.tables e below T278 (mkF m 112 (L0_23 p0 p1 p2 p3 p4) [(.int (f1 p2)), (.int 2), (.ref b269), (.ref b269)]) En := by
      intro t k
      refine go280 _ ?_
      refine XS.dup X278.here hx rfl (hb hby at_108) rfl rfl ?_
      refine XS.iconst X278.here hx rfl (hb hby at_109) ?_
      refine XS.iload X278.here hx rfl (hb hby at_110) rfl ?_
      exact k
    obtain ⟨cl284, Ar284, q284, S284, N284, H284, G284⟩ := id F281
    obtain ⟨T283, h283, X283, e283, W283, st283⟩ := stC X278 hx hZ e278 Ar284 (j := (2 : Int32)) (inb_of S284 ⟨by decide, by decide⟩) (g := (mkF m 112 (L0_23 p0 p1 p2 p3 p4) [(.int (f1 p2)), (.int 2), (.ref b269), (.ref b269)])) rfl rfl (hb hby at_112)
    have go285 := gap go282 st283
    have N283 := Fr.snoc X283 N278 low269
    have K283 : Keep h0 h283 [] := K278.wr W283 (Or.inr fsh269)
    have Zs283 : n0 ≤ h283.size := Nat.le_trans Zs278 (Keep.of_wr W283).1
    have hk283 : s.heap.size ≤ h283.size := Nat.le_trans hk278 (Keep.of_wr W283).1
    have F286 : Arv Z h283 b269 k269 .char (3 : Int32) [(.int (f1 p0).toUInt32.toUInt16.toUInt32.toInt32), (.int (f1 p1).toUInt32.toUInt16.toUInt32.toInt32), (.int (f1 p2).toUInt32.toUInt16.toUInt32.toInt32)] (.int 0) := Arv.set Ar284 q284 S284 N284 H284 G284 (fits_nar_char _) W283 2 rfl (Nat.le_of_ble_eq_true rfl)
    have go287 : Go p.tables e below T283 (mkF m 143 (L0_24 p0 p1 p2 p3 p4 b269) []) En := by
      intro t k
      refine go285 _ ?_
      refine XS.astore X283.here hx rfl (hb hby at_113) rfl rfl (l' := (L0_24 p0 p1 p2 p3 p4 b269)) rfl ?_
      refine XS.goto X283.here hx rfl (pc0 := 115) (pc' := 143) rfl (hb hby at_115) (by decide) (by decide) ?_
      exact k
    obtain ⟨T288, h288, X288, e288, E288, A288, D288, -, st288⟩ := newO X283 hx hZ hown (hw _ (mi 6 rfl)) (hw _ (mi 7 rfl)) (hw _ (mi 8 rfl)) e283 (g := (mkF m 143 (L0_24 p0 p1 p2 p3 p4 b269) [])) rfl (hb hby at_143) (by decide) (by decide)
    obtain ⟨b288, g288⟩ : ∃ z, z = h283.size := ⟨_, rfl⟩
    rw [← g288] at A288 D288 st288
    have ne289 : b269 ≠ b288 := Nat.ne_of_lt (Nat.lt_of_lt_of_le F286.lt (Nat.le_of_eq g288.symm))
    have low288 : n0 ≤ b288 := Nat.le_trans Zs283 (Nat.le_of_eq g288.symm)
    have fsh288 : h0.size ≤ b288 := Nat.le_trans K283.1 (Nat.le_of_eq g288.symm)
    have K288 : Keep h0 h288 [] := K283.ext E288
    have Zs288 : n0 ≤ h288.size := Nat.le_trans Zs283 E288.1
    have hk288 : s.heap.size ≤ h288.size := Nat.le_trans hk283 E288.1
    have go290 := gap go287 st288
    have F291 := F286.ext E288
    have F292 : Fvl Z h288 b288 .null := D288 (Or.inr (hw _ (mi 21 rfl))) (ty := (.array .byte)) (by decide)
    have F293 : Fcd Z h288 b288 (.int 0) := D288 (Or.inr (hw _ (mi 22 rfl))) (ty := .byte) (by decide)
    have go294 : Go p.tables e below T288 (mkF m 149 (L0_24 p0 p1 p2 p3 p4 b269) [(.ref b269), (.ref b288), (.ref b288)]) En := by
      intro t k
      refine go290 _ ?_
      refine XS.dup X288.here hx rfl (hb hby at_146) rfl rfl ?_
      refine XS.aload X288.here hx rfl (hb hby at_147) rfl rfl ?_
      exact k
    obtain ⟨_, T295, Lc295, X295, hQ295, st295⟩ := own_ci X288 hx hZ hown hml go294 (hb hby at_149) e288 (hw _ (mi 9 rfl)) (own_site410 hw) rfl (rmiBn3 l Z aZ hw [] _ _ _ _ _ _ _ h288 n0 Zs288 A288 F292 F293 low288 F291 (own_sta_keep S_COMPACT_STRINGS K288 all0) hcs (own_c255 p0) (own_c255 p1) (own_c255 p2)) (by decide) (argsL := [(.ref b269)]) (rest := [(.ref b288)]) rfl rfl rfl (lenOf pd_406 rfl) (W := 1) rfl (by decide) (by decide) (by decide : 2 + 1 ≤ _) (by decide : 7 + 3 ≤ _)
    obtain ⟨rfl, N295q, K295q, G295_0, G295_1, bx295, kx295, GX295, GV295⟩ := hQ295
    have N295 := Fr.app N283 N295q
    have K295 : Keep h0 T295.heap [] := K288.trans K295q (allS (Or.inr fsh288) all0)
    have Zs295 : n0 ≤ T295.heap.size := Nat.le_trans Zs288 K295q.1
    have hk295 : s.heap.size ≤ T295.heap.size := Nat.le_trans hk288 K295q.1
    have F296 := F291.keep K295q (ninS ne289 nin0)
    have F297 := A288.keep K295q
    have go298 : Go p.tables e below T295 (mkF m 154 (L0_25 p0 p1 p2 p3 p4 b269 b288) []) En := by
      intro t k
      refine st295 _ ?_
      refine XS.astore X295.here hx rfl (hb hby at_152) rfl rfl (l' := (L0_25 p0 p1 p2 p3 p4 b269 b288)) rfl ?_
      exact k
    by_cases hs299 : (f1 p0) = (63 : Int32)
    · have go300 : Go p.tables e below T295 (mkF m 156 (L0_25 p0 p1 p2 p3 p4 b269 b288) [(.ref b288)]) En := by
        intro t k
        refine go298 _ ?_
        refine XS.aload X295.here hx rfl (hb hby at_154) rfl rfl ?_
        exact k
      obtain ⟨_, T301, Lc301, X301, hQ301, st301⟩ := own_cs X295 hx hZ hown hml go300 (hb hby at_156) rfl (hw _ (mi 27 rfl)) (own_site407 hw) (rmqs3_0 l Z aZ hw [] _ _ _ _ _ _ _ _ T295.heap n0 Zs295 G295_0 G295_1 GX295 GV295 (own_sta_keep S_COMPACT_STRINGS K295 all0) hcs (by rw [fiz3, fiy3, fix3, fic3, if_pos (own_qt p0 hs299)]) (own_sta_keep S_SIOOBE_FORMATTER K295 all0) rS_SIOOBE_FORMATTER) (by decide) (argsL := [(.ref b288)]) (rest := []) rfl rfl rfl (lenOf pd_408 rfl) (W := 0) rfl (by decide) (by decide) (by decide : 3 + 2 ≤ _) (by decide : 10 + 6 ≤ _)
      obtain ⟨b301, bx301, kx301, rfl, N301q, K301q, GE301, GC301, GX301, GV301⟩ := hQ301
      have N301 := Fr.app N295 N301q
      have K301 : Keep h0 T301.heap [] := K295.trans K301q all0
      have Zs301 : n0 ≤ T301.heap.size := Nat.le_trans Zs295 K301q.1
      have hk301 : s.heap.size ≤ T301.heap.size := Nat.le_trans hk295 K301q.1
      have F302 := F296.keep K301q nin0
      have F303 := G295_0.keep K301q
      have F304 := G295_1.keep K301q nin0
      have F305 := GX295.keep K301q nin0
      have F306 := GV295.keep K301q nin0
      have go307 : Go p.tables e below T301 (mkF m 270 (L0_26 p0 p1 p2 p3 p4 b269 b288 b301) [(.ref b301)]) En := by
        intro t k
        refine st301 _ ?_
        refine XS.astore X301.here hx rfl (hb hby at_159) rfl rfl (l' := #[iv p0, iv p1, iv p2, iv p3, iv p4, iv (f1 p0), iv (f1 p1), iv (f1 p2), iv (f1 p3), iv 3, rv b269, rv b288, rv b301, .unset, .unset, .unset, .unset]) rfl ?_
        refine XS.iconst X301.here hx rfl (hb hby at_161) ?_
        refine XS.istore X301.here hx rfl (hb hby at_162) rfl (l' := #[iv p0, iv p1, iv p2, iv p3, iv p4, iv (f1 p0), iv (f1 p1), iv (f1 p2), iv (f1 p3), iv 3, rv b269, rv b288, rv b301, iv (-1), .unset, .unset, .unset]) rfl ?_
        refine XS.iload X301.here hx rfl (hb hby at_164) rfl ?_
        refine XS.ifNo X301.here hx rfl (hb hby at_166) rfl (XT.i0_le_f (by decide : ((0 : Int32) < (3 : Int32)))) ?_
        show Steps _ _ _ (T301.setTop (mkF m 169 #[iv p0, iv p1, iv p2, iv p3, iv p4, iv (f1 p0), iv (f1 p1), iv (f1 p2), iv (f1 p3), iv 3, rv b269, rv b288, rv b301, iv (-1), .unset, .unset, .unset] [])) _
        refine XS.iload X301.here hx rfl (hb hby at_169) rfl ?_
        refine XS.bipush X301.here hx rfl (hb hby at_171) ?_
        refine XS.icmpNo X301.here hx rfl (hb hby at_173) rfl (XT.ii_ne_f hs299) ?_
        refine XS.iconst X301.here hx rfl (hb hby at_176) ?_
        refine XS.istore X301.here hx rfl (hb hby at_177) rfl (l' := (L0_27 p0 p1 p2 p3 p4 b269 b288 b301)) rfl ?_
        show Steps _ _ _ (T301.setTop (mkF m 179 (L0_27 p0 p1 p2 p3 p4 b269 b288 b301) [])) _
        refine XS.goto X301.here hx rfl (pc0 := 179) (pc' := 236) rfl (hb hby at_179) (by decide) (by decide) ?_
        refine XS.iload X301.here hx rfl (hb hby at_236) rfl ?_
        refine XS.ifYes X301.here hx rfl (pc0 := 238) (pc' := 252) rfl (hb hby at_238) rfl (XT.i0_ge_t (by decide : ¬ ((0 : Int32) < (0 : Int32)))) (by decide) (by decide) ?_
        refine XS.aload X301.here hx rfl (hb hby at_252) rfl rfl ?_
        refine XT.nonnullYes X301.here hx rfl (pc0 := 254) (pc' := 259) rfl (hb hby at_254) rfl rfl (fun q => nomatch q) (by decide) (by decide) ?_
        show Steps _ _ _ (T301.setTop (mkF m 259 (L0_27 p0 p1 p2 p3 p4 b269 b288 b301) [])) _
        refine XS.iload X301.here hx rfl (hb hby at_259) rfl ?_
        refine XS.iload X301.here hx rfl (hb hby at_261) rfl ?_
        refine XS.isub X301.here hx rfl (hb hby at_263) rfl ?_
        refine XS.iconst X301.here hx rfl (hb hby at_264) ?_
        refine XS.isub X301.here hx rfl (hb hby at_265) rfl ?_
        show Steps _ _ _ (T301.setTop (mkF m 266 (L0_27 p0 p1 p2 p3 p4 b269 b288 b301) [(.int 2)])) _
        refine XS.istore X301.here hx rfl (hb hby at_266) rfl (l' := (L0_26 p0 p1 p2 p3 p4 b269 b288 b301)) rfl ?_
        refine XS.aload X301.here hx rfl (hb hby at_268) rfl rfl ?_
        exact k
      obtain ⟨_, T308, Lc308, X308, hQ308, st308⟩ := own_cv X301 hx hZ hown hml go307 (hb hby at_270) rfl (hw _ (mi 124 rfl)) (own_site185 hw) GE301 (rmln l Z aZ hw [] _ _ _ _ _ _ T301.heap n0 Zs301 GE301 GC301 GX301 GV301 (own_sta_keep S_COMPACT_STRINGS K301 all0) hcs) (by decide) (argsL := []) (rest := []) rfl rfl rfl (lenOf pd_186 rfl) (W := 0) rfl (by decide) (by decide) (by decide : 5 + 0 ≤ _) (by decide : 16 + 0 ≤ _)
      obtain ⟨rfl, N308q, e308⟩ := hQ308
      have N308 := Fr.app N301 N308q
      have go309 : Go p.tables e below T308 (mkF m 281 (L0_26 p0 p1 p2 p3 p4 b269 b288 b301) [(.int 4)]) En := by
        intro t k
        refine st308 _ ?_
        refine XS.iload X308.here hx rfl (hb hby at_273) rfl ?_
        refine XS.icmpYes X308.here hx rfl (pc0 := 275) (pc' := 280) rfl (hb hby at_275) rfl (XT.ii_eq_t (by decide : ((2 : Int32) = (2 : Int32)))) (by decide) (by decide) ?_
        refine XS.iconst X308.here hx rfl (hb hby at_280) ?_
        exact k
      obtain ⟨T310, h310, k310, X310, e310, E310, A310, st310⟩ := newP X308 hx hZ (hw _ (mi 5 rfl)) e308 (g := (mkF m 281 (L0_26 p0 p1 p2 p3 p4 b269 b288 b301) [(.int 4)])) rfl (hb hby at_281) rfl (by decide) (cap := 4) (by decide) (by decide) (by decide) (by decide)
      obtain ⟨b310, g310⟩ : ∃ z, z = T301.heap.size := ⟨_, rfl⟩
      rw [← g310] at A310 st310
      have ne311 : b301 ≠ b310 := Nat.ne_of_lt (Nat.lt_of_lt_of_le GE301.lt (Nat.le_of_eq g310.symm))
      have ne312 : bx301 ≠ b310 := Nat.ne_of_lt (Nat.lt_of_lt_of_le GV301.lt (Nat.le_of_eq g310.symm))
      have low310 : n0 ≤ b310 := Nat.le_trans Zs301 (Nat.le_of_eq g310.symm)
      have fsh310 : h0.size ≤ b310 := Nat.le_trans K301.1 (Nat.le_of_eq g310.symm)
      have K310 : Keep h0 h310 [] := K301.ext E310
      have Zs310 : n0 ≤ h310.size := Nat.le_trans Zs301 E310.1
      have hk310 : s.heap.size ≤ h310.size := Nat.le_trans hk301 E310.1
      have go313 := gap go309 st310
      have F314 := GE301.ext E310
      have F315 := GC301.ext E310
      have F316 := GX301.ext E310
      have F317 := GV301.ext E310
      have F318 : Arv Z h310 b310 k310 .char (4 : Int32) [(.int 0), (.int 0), (.int 0), (.int 0)] (.int 0) := (Arv.new A310 (by decide)).pad (pad_rep [] (.int 0) 4)
      have go319 : Go p.tables e below T310 (mkF m 287 (L0_26 p0 p1 p2 p3 p4 b269 b288 b301) [(.int (f1 p0)), (.int 0), (.ref b310), (.ref b310)]) En := by
        intro t k
        refine go313 _ ?_
        refine XS.dup X310.here hx rfl (hb hby at_283) rfl rfl ?_
        refine XS.iconst X310.here hx rfl (hb hby at_284) ?_
        refine XS.iload X310.here hx rfl (hb hby at_285) rfl ?_
        exact k
      obtain ⟨cl321, Ar321, q321, S321, N321, H321, G321⟩ := id F318
      obtain ⟨T320, h320, X320, e320, W320, st320⟩ := stC X310 hx hZ e310 Ar321 (j := (0 : Int32)) (inb_of S321 ⟨by decide, by decide⟩) (g := (mkF m 287 (L0_26 p0 p1 p2 p3 p4 b269 b288 b301) [(.int (f1 p0)), (.int 0), (.ref b310), (.ref b310)])) rfl rfl (hb hby at_287)
      have go322 := gap go319 st320
      have N320 := Fr.snoc X320 N308 low310
      have K320 : Keep h0 h320 [] := K310.wr W320 (Or.inr fsh310)
      have Zs320 : n0 ≤ h320.size := Nat.le_trans Zs310 (Keep.of_wr W320).1
      have hk320 : s.heap.size ≤ h320.size := Nat.le_trans hk310 (Keep.of_wr W320).1
      have F323 := F314.wr W320
      have F324 := F315.other W320 (Or.inl ne311)
      have F325 := F316.other W320 (Or.inl ne311)
      have F326 := F317.other W320 ne312
      have F327 : Arv Z h320 b310 k310 .char (4 : Int32) [(.int (f1 p0).toUInt32.toUInt16.toUInt32.toInt32), (.int 0), (.int 0), (.int 0)] (.int 0) := Arv.set Ar321 q321 S321 N321 H321 G321 (fits_nar_char _) W320 0 rfl (Nat.le_of_ble_eq_true rfl)
      have go328 : Go p.tables e below T320 (mkF m 292 (L0_26 p0 p1 p2 p3 p4 b269 b288 b301) [(.int (f1 p1)), (.int 1), (.ref b310), (.ref b310)]) En := by
        intro t k
        refine go322 _ ?_
        refine XS.dup X320.here hx rfl (hb hby at_288) rfl rfl ?_
        refine XS.iconst X320.here hx rfl (hb hby at_289) ?_
        refine XS.iload X320.here hx rfl (hb hby at_290) rfl ?_
        exact k
      obtain ⟨cl330, Ar330, q330, S330, N330, H330, G330⟩ := id F327
      obtain ⟨T329, h329, X329, e329, W329, st329⟩ := stC X320 hx hZ e320 Ar330 (j := (1 : Int32)) (inb_of S330 ⟨by decide, by decide⟩) (g := (mkF m 292 (L0_26 p0 p1 p2 p3 p4 b269 b288 b301) [(.int (f1 p1)), (.int 1), (.ref b310), (.ref b310)])) rfl rfl (hb hby at_292)
      have go331 := gap go328 st329
      have N329 := Fr.snoc X329 N320 low310
      have K329 : Keep h0 h329 [] := K320.wr W329 (Or.inr fsh310)
      have Zs329 : n0 ≤ h329.size := Nat.le_trans Zs320 (Keep.of_wr W329).1
      have hk329 : s.heap.size ≤ h329.size := Nat.le_trans hk320 (Keep.of_wr W329).1
      have F332 := F323.wr W329
      have F333 := F324.other W329 (Or.inl ne311)
      have F334 := F325.other W329 (Or.inl ne311)
      have F335 := F326.other W329 ne312
      have F336 : Arv Z h329 b310 k310 .char (4 : Int32) [(.int (f1 p0).toUInt32.toUInt16.toUInt32.toInt32), (.int (f1 p1).toUInt32.toUInt16.toUInt32.toInt32), (.int 0), (.int 0)] (.int 0) := Arv.set Ar330 q330 S330 N330 H330 G330 (fits_nar_char _) W329 1 rfl (Nat.le_of_ble_eq_true rfl)
      have go337 : Go p.tables e below T329 (mkF m 297 (L0_26 p0 p1 p2 p3 p4 b269 b288 b301) [(.int (f1 p2)), (.int 2), (.ref b310), (.ref b310)]) En := by
        intro t k
        refine go331 _ ?_
        refine XS.dup X329.here hx rfl (hb hby at_293) rfl rfl ?_
        refine XS.iconst X329.here hx rfl (hb hby at_294) ?_
        refine XS.iload X329.here hx rfl (hb hby at_295) rfl ?_
        exact k
      obtain ⟨cl339, Ar339, q339, S339, N339, H339, G339⟩ := id F336
      obtain ⟨T338, h338, X338, e338, W338, st338⟩ := stC X329 hx hZ e329 Ar339 (j := (2 : Int32)) (inb_of S339 ⟨by decide, by decide⟩) (g := (mkF m 297 (L0_26 p0 p1 p2 p3 p4 b269 b288 b301) [(.int (f1 p2)), (.int 2), (.ref b310), (.ref b310)])) rfl rfl (hb hby at_297)
      have go340 := gap go337 st338
      have N338 := Fr.snoc X338 N329 low310
      have K338 : Keep h0 h338 [] := K329.wr W338 (Or.inr fsh310)
      have Zs338 : n0 ≤ h338.size := Nat.le_trans Zs329 (Keep.of_wr W338).1
      have hk338 : s.heap.size ≤ h338.size := Nat.le_trans hk329 (Keep.of_wr W338).1
      have F341 := F332.wr W338
      have F342 := F333.other W338 (Or.inl ne311)
      have F343 := F334.other W338 (Or.inl ne311)
      have F344 := F335.other W338 ne312
      have F345 : Arv Z h338 b310 k310 .char (4 : Int32) [(.int (f1 p0).toUInt32.toUInt16.toUInt32.toInt32), (.int (f1 p1).toUInt32.toUInt16.toUInt32.toInt32), (.int (f1 p2).toUInt32.toUInt16.toUInt32.toInt32), (.int 0)] (.int 0) := Arv.set Ar339 q339 S339 N339 H339 G339 (fits_nar_char _) W338 2 rfl (Nat.le_of_ble_eq_true rfl)
      have go346 : Go p.tables e below T338 (mkF m 302 (L0_26 p0 p1 p2 p3 p4 b269 b288 b301) [(.int (f1 p3)), (.int 3), (.ref b310), (.ref b310)]) En := by
        intro t k
        refine go340 _ ?_
        refine XS.dup X338.here hx rfl (hb hby at_298) rfl rfl ?_
        refine XS.iconst X338.here hx rfl (hb hby at_299) ?_
        refine XS.iload X338.here hx rfl (hb hby at_300) rfl ?_
        exact k
      obtain ⟨cl348, Ar348, q348, S348, N348, H348, G348⟩ := id F345
      obtain ⟨T347, h347, X347, e347, W347, st347⟩ := stC X338 hx hZ e338 Ar348 (j := (3 : Int32)) (inb_of S348 ⟨by decide, by decide⟩) (g := (mkF m 302 (L0_26 p0 p1 p2 p3 p4 b269 b288 b301) [(.int (f1 p3)), (.int 3), (.ref b310), (.ref b310)])) rfl rfl (hb hby at_302)
      have go349 := gap go346 st347
      have N347 := Fr.snoc X347 N338 low310
      have K347 : Keep h0 h347 [] := K338.wr W347 (Or.inr fsh310)
      have Zs347 : n0 ≤ h347.size := Nat.le_trans Zs338 (Keep.of_wr W347).1
      have hk347 : s.heap.size ≤ h347.size := Nat.le_trans hk338 (Keep.of_wr W347).1
      have F350 := F341.wr W347
      have F351 := F342.other W347 (Or.inl ne311)
      have F352 := F343.other W347 (Or.inl ne311)
      have F353 := F344.other W347 ne312
      have F354 : Arv Z h347 b310 k310 .char (4 : Int32) [(.int (f1 p0).toUInt32.toUInt16.toUInt32.toInt32), (.int (f1 p1).toUInt32.toUInt16.toUInt32.toInt32), (.int (f1 p2).toUInt32.toUInt16.toUInt32.toInt32), (.int (f1 p3).toUInt32.toUInt16.toUInt32.toInt32)] (.int 0) := Arv.set Ar348 q348 S348 N348 H348 G348 (fits_nar_char _) W347 3 rfl (Nat.le_of_ble_eq_true rfl)
      have go355 : Go p.tables e below T347 (mkF m 321 (L0_28 p0 p1 p2 p3 p4 b269 b288 b301 b310) [(.int 0), (.ref b301)]) En := by
        intro t k
        refine go349 _ ?_
        refine XS.astore X347.here hx rfl (hb hby at_303) rfl rfl (l' := #[iv p0, iv p1, iv p2, iv p3, iv p4, iv (f1 p0), iv (f1 p1), iv (f1 p2), iv (f1 p3), iv 3, rv b269, rv b288, rv b301, iv 0, iv 2, rv b310, .unset]) rfl ?_
        refine XS.iconst X347.here hx rfl (hb hby at_305) ?_
        refine XS.istore X347.here hx rfl (hb hby at_306) rfl (l' := (L0_28 p0 p1 p2 p3 p4 b269 b288 b301 b310)) rfl ?_
        refine XS.iload X347.here hx rfl (hb hby at_308) rfl ?_
        refine XS.ifNo X347.here hx rfl (hb hby at_310) rfl (XT.i0_le_f (by decide : ((0 : Int32) < (2 : Int32)))) ?_
        show Steps _ _ _ (T347.setTop (mkF m 313 (L0_28 p0 p1 p2 p3 p4 b269 b288 b301 b310) [])) _
        refine XS.iload X347.here hx rfl (hb hby at_313) rfl ?_
        refine XS.ifNo X347.here hx rfl (hb hby at_315) rfl (XT.i0_eq_f (by decide : ¬ ((1 : Int32) = (0 : Int32)))) ?_
        refine XS.aload X347.here hx rfl (hb hby at_318) rfl rfl ?_
        refine XS.iconst X347.here hx rfl (hb hby at_320) ?_
        exact k
      obtain ⟨_, T356, Lc356, X356, hQ356, st356⟩ := own_cv X347 hx hZ hown hml go355 (hb hby at_321) e347 (hw _ (mi 125 rfl)) (own_site413 hw) F350 (rmsca l Z aZ hw [] _ (0 : Int32) _ _ _ _ _ _ (f1 p1).toUInt32.toUInt16.toUInt32.toInt32.toInt8.toInt32.toInt8.toInt32 h347 n0 Zs347 F350 F351 F352 F353 (own_sta_keep S_COMPACT_STRINGS K347 all0) hcs (own_sta_keep S_SIOOBE_FORMATTER K347 all0) rS_SIOOBE_FORMATTER (by decide) (by decide) rfl) (by decide) (argsL := [(.int 0)]) (rest := []) rfl rfl rfl (lenOf pd_404 rfl) (W := 0) rfl (by decide) (by decide) (by decide : 6 + 0 ≤ _) (by decide : 20 + 0 ≤ _)
      obtain ⟨rfl, N356q, e356⟩ := hQ356
      have N356 := Fr.app N347 N356q
      obtain ⟨cl357, Ar357, q357, S357, N357, H357, G357⟩ := id F354
      have go358 : Go p.tables e below T356 (mkF m 355 (L0_28 p0 p1 p2 p3 p4 b269 b288 b301 b310) [(.int 1), (.ref b301)]) En := by
        intro t k
        refine st356 _ ?_
        refine XS.aload X356.here hx rfl (hb hby at_324) rfl rfl ?_
        refine XS.iload X356.here hx rfl (hb hby at_326) rfl ?_
        refine XS.iconst X356.here hx rfl (hb hby at_328) ?_
        refine XS.iadd X356.here hx rfl (hb hby at_329) rfl ?_
        refine X356.caload hx (j := (1 : Int32)) (v := (.int (f1 p1).toUInt32.toUInt16.toUInt32.toInt32)) (by rw [e356]; exact Ar357.1) (State.isArrayOf_alike hZ.alike Ar357.2.1) Ar357.2.2 (inb_of S357 ⟨by decide, by decide⟩) (Has.at H357 (inb_of S357 ⟨by decide, by decide⟩) rfl) (g := (mkF m 330 (L0_28 p0 p1 p2 p3 p4 b269 b288 b301 b310) [(.int 1), (.ref b310), (.int (fsca (f1 p1).toUInt32.toUInt16.toUInt32.toInt32.toInt8.toInt32.toInt8.toInt32))])) rfl rfl (hb hby at_330) _ ?_
        show Steps _ _ _ (T356.setTop (mkF m 331 (L0_28 p0 p1 p2 p3 p4 b269 b288 b301 b310) [(.int (f1 p1).toUInt32.toUInt16.toUInt32.toInt32), (.int (fsca (f1 p1).toUInt32.toUInt16.toUInt32.toInt32.toInt8.toInt32.toInt8.toInt32))])) _
        refine XS.icmpNo X356.here hx rfl (hb hby at_331) rfl (XT.ii_ne_f (own_bk414 p1)) ?_
        refine XS.iconst X356.here hx rfl (hb hby at_334) ?_
        refine XS.goto X356.here hx rfl (pc0 := 335) (pc' := 339) rfl (hb hby at_335) (by decide) (by decide) ?_
        refine XS.istore X356.here hx rfl (hb hby at_339) rfl (l' := (L0_28 p0 p1 p2 p3 p4 b269 b288 b301 b310)) rfl ?_
        refine XS.iload X356.here hx rfl (hb hby at_341) rfl ?_
        show Steps _ _ _ (T356.setTop (mkF m 343 (L0_28 p0 p1 p2 p3 p4 b269 b288 b301 b310) [(.int 2)])) _
        refine XS.iconst X356.here hx rfl (hb hby at_343) ?_
        refine XS.icmpNo X356.here hx rfl (hb hby at_344) rfl (XT.ii_le_f (by decide : ((1 : Int32) < (2 : Int32)))) ?_
        refine XS.iload X356.here hx rfl (hb hby at_347) rfl ?_
        refine XS.ifNo X356.here hx rfl (hb hby at_349) rfl (XT.i0_eq_f (by decide : ¬ ((1 : Int32) = (0 : Int32)))) ?_
        refine XS.aload X356.here hx rfl (hb hby at_352) rfl rfl ?_
        show Steps _ _ _ (T356.setTop (mkF m 354 (L0_28 p0 p1 p2 p3 p4 b269 b288 b301 b310) [(.ref b301)])) _
        refine XS.iconst X356.here hx rfl (hb hby at_354) ?_
        exact k
      obtain ⟨_, T359, Lc359, X359, hQ359, st359⟩ := own_cv X356 hx hZ hown hml go358 (hb hby at_355) e356 (hw _ (mi 125 rfl)) (own_site413 hw) F350 (rmsca l Z aZ hw [] _ (1 : Int32) _ _ _ _ _ _ (f1 p2).toUInt32.toUInt16.toUInt32.toInt32.toInt8.toInt32.toInt8.toInt32 h347 n0 Zs347 F350 F351 F352 F353 (own_sta_keep S_COMPACT_STRINGS K347 all0) hcs (own_sta_keep S_SIOOBE_FORMATTER K347 all0) rS_SIOOBE_FORMATTER (by decide) (by decide) rfl) (by decide) (argsL := [(.int 1)]) (rest := []) rfl rfl rfl (lenOf pd_404 rfl) (W := 0) rfl (by decide) (by decide) (by decide : 6 + 0 ≤ _) (by decide : 20 + 0 ≤ _)
      obtain ⟨rfl, N359q, e359⟩ := hQ359
      have N359 := Fr.app N356 N359q
      have go360 : Go p.tables e below T359 (mkF m 411 (L0_28 p0 p1 p2 p3 p4 b269 b288 b301 b310) [(.int 1)]) En := by
        intro t k
        refine st359 _ ?_
        refine XS.aload X359.here hx rfl (hb hby at_358) rfl rfl ?_
        refine XS.iload X359.here hx rfl (hb hby at_360) rfl ?_
        refine XS.iconst X359.here hx rfl (hb hby at_362) ?_
        refine XS.iadd X359.here hx rfl (hb hby at_363) rfl ?_
        refine X359.caload hx (j := (2 : Int32)) (v := (.int (f1 p2).toUInt32.toUInt16.toUInt32.toInt32)) (by rw [e359]; exact Ar357.1) (State.isArrayOf_alike hZ.alike Ar357.2.1) Ar357.2.2 (inb_of S357 ⟨by decide, by decide⟩) (Has.at H357 (inb_of S357 ⟨by decide, by decide⟩) rfl) (g := (mkF m 364 (L0_28 p0 p1 p2 p3 p4 b269 b288 b301 b310) [(.int 2), (.ref b310), (.int (fsca (f1 p2).toUInt32.toUInt16.toUInt32.toInt32.toInt8.toInt32.toInt8.toInt32))])) rfl rfl (hb hby at_364) _ ?_
        show Steps _ _ _ (T359.setTop (mkF m 365 (L0_28 p0 p1 p2 p3 p4 b269 b288 b301 b310) [(.int (f1 p2).toUInt32.toUInt16.toUInt32.toInt32), (.int (fsca (f1 p2).toUInt32.toUInt16.toUInt32.toInt32.toInt8.toInt32.toInt8.toInt32))])) _
        refine XS.icmpNo X359.here hx rfl (hb hby at_365) rfl (XT.ii_ne_f (own_bk414 p2)) ?_
        refine XS.iconst X359.here hx rfl (hb hby at_368) ?_
        refine XS.goto X359.here hx rfl (pc0 := 369) (pc' := 373) rfl (hb hby at_369) (by decide) (by decide) ?_
        refine XS.istore X359.here hx rfl (hb hby at_373) rfl (l' := (L0_28 p0 p1 p2 p3 p4 b269 b288 b301 b310)) rfl ?_
        refine XS.iload X359.here hx rfl (hb hby at_375) rfl ?_
        show Steps _ _ _ (T359.setTop (mkF m 377 (L0_28 p0 p1 p2 p3 p4 b269 b288 b301 b310) [(.int 2)])) _
        refine XS.iconst X359.here hx rfl (hb hby at_377) ?_
        refine XS.icmpYes X359.here hx rfl (pc0 := 378) (pc' := 409) rfl (hb hby at_378) rfl (XT.ii_le_t (by decide : ¬ ((2 : Int32) < (2 : Int32)))) (by decide) (by decide) ?_
        refine XS.iload X359.here hx rfl (hb hby at_409) rfl ?_
        exact k
      obtain ⟨fs, hr, hrun, hended, hRW⟩ := X359.leaveW hS0 (by rw [e359]; exact hk347) (v := some (.int 1)) (fun h => by rw [Bd.returns] at h; cases h) Bd.notSynchronized
      subst hEn
      refine ⟨_, _, go360 _ (Jvm.RoadKit.retOut X359 hx Bd.returns rfl (Or.inl ⟨rfl, Or.inr (Or.inl rfl), _, rfl⟩) (hb hby at_411) hr), hrun, hended, _, _, rfl, ?_, hRW.1, hRW.2.1, hRW.2.2.1, hRW.2.2.2.mono (by decide) (by decide)⟩
      show Q0 _ _ p0 p1 p2 p3 p4 s_COMPACT_STRINGS s_SIOOBE_FORMATTER h0 _ (T359.setFrames fs).heap _
      have hE : (T359.setFrames fs).heap = h347 := e359
      rw [hE]
      exact ⟨congrArg (fun z => some (Value.int z)) ((by rw [f0, if_neg hs11, if_neg hs33, if_neg hs117, if_pos hs266, if_pos hs299] : (1 : Int32) = (f0 p0 p1 p2 p3 p4)).trans (f0_one p0 p1 p2 p3 p4)), N359⟩
    by_cases hs361 : (f1 p1) = (63 : Int32)
    · have go362 : Go p.tables e below T295 (mkF m 156 (L0_25 p0 p1 p2 p3 p4 b269 b288) [(.ref b288)]) En := by
        intro t k
        refine go298 _ ?_
        refine XS.aload X295.here hx rfl (hb hby at_154) rfl rfl ?_
        exact k
      obtain ⟨_, T363, Lc363, X363, hQ363, st363⟩ := own_cs X295 hx hZ hown hml go362 (hb hby at_156) rfl (hw _ (mi 27 rfl)) (own_site407 hw) (rmqs3_1 l Z aZ hw [] _ _ _ _ _ _ _ _ T295.heap n0 Zs295 G295_0 G295_1 GX295 GV295 (own_sta_keep S_COMPACT_STRINGS K295 all0) hcs (by rw [fiz3, fiy3, fix3, fic3, if_neg (own_qf p0 hs299), if_pos (own_qt p1 hs361)]) (own_sta_keep S_SIOOBE_FORMATTER K295 all0) rS_SIOOBE_FORMATTER) (by decide) (argsL := [(.ref b288)]) (rest := []) rfl rfl rfl (lenOf pd_408 rfl) (W := 0) rfl (by decide) (by decide) (by decide : 3 + 2 ≤ _) (by decide : 10 + 5 ≤ _)
      obtain ⟨b363, bx363, kx363, rfl, N363q, K363q, GE363, GC363, GX363, GV363⟩ := hQ363
      have N363 := Fr.app N295 N363q
      have K363 : Keep h0 T363.heap [] := K295.trans K363q all0
      have Zs363 : n0 ≤ T363.heap.size := Nat.le_trans Zs295 K363q.1
      have hk363 : s.heap.size ≤ T363.heap.size := Nat.le_trans hk295 K363q.1
      have F364 := F296.keep K363q nin0
      have F365 := G295_0.keep K363q
      have F366 := G295_1.keep K363q nin0
      have F367 := GX295.keep K363q nin0
      have F368 := GV295.keep K363q nin0
      have go369 : Go p.tables e below T363 (mkF m 270 (L0_29 p0 p1 p2 p3 p4 b269 b288 b363) [(.ref b363)]) En := by
        intro t k
        refine st363 _ ?_
        refine XS.astore X363.here hx rfl (hb hby at_159) rfl rfl (l' := #[iv p0, iv p1, iv p2, iv p3, iv p4, iv (f1 p0), iv (f1 p1), iv (f1 p2), iv (f1 p3), iv 3, rv b269, rv b288, rv b363, .unset, .unset, .unset, .unset]) rfl ?_
        refine XS.iconst X363.here hx rfl (hb hby at_161) ?_
        refine XS.istore X363.here hx rfl (hb hby at_162) rfl (l' := (L0_30 p0 p1 p2 p3 p4 b269 b288 b363)) rfl ?_
        refine XS.iload X363.here hx rfl (hb hby at_164) rfl ?_
        refine XS.ifNo X363.here hx rfl (hb hby at_166) rfl (XT.i0_le_f (by decide : ((0 : Int32) < (3 : Int32)))) ?_
        show Steps _ _ _ (T363.setTop (mkF m 169 (L0_30 p0 p1 p2 p3 p4 b269 b288 b363) [])) _
        refine XS.iload X363.here hx rfl (hb hby at_169) rfl ?_
        refine XS.bipush X363.here hx rfl (hb hby at_171) ?_
        refine XS.icmpYes X363.here hx rfl (pc0 := 173) (pc' := 182) rfl (hb hby at_173) rfl (XT.ii_ne_t hs299) (by decide) (by decide) ?_
        refine XS.iload X363.here hx rfl (hb hby at_182) rfl ?_
        refine XS.iconst X363.here hx rfl (hb hby at_184) ?_
        show Steps _ _ _ (T363.setTop (mkF m 185 (L0_30 p0 p1 p2 p3 p4 b269 b288 b363) [(.int 1), (.int 3)])) _
        refine XS.icmpNo X363.here hx rfl (hb hby at_185) rfl (XT.ii_le_f (by decide : ((1 : Int32) < (3 : Int32)))) ?_
        refine XS.iload X363.here hx rfl (hb hby at_188) rfl ?_
        refine XS.bipush X363.here hx rfl (hb hby at_190) ?_
        refine XS.icmpNo X363.here hx rfl (hb hby at_192) rfl (XT.ii_ne_f hs361) ?_
        refine XS.iconst X363.here hx rfl (hb hby at_195) ?_
        show Steps _ _ _ (T363.setTop (mkF m 196 (L0_30 p0 p1 p2 p3 p4 b269 b288 b363) [(.int 1)])) _
        refine XS.istore X363.here hx rfl (hb hby at_196) rfl (l' := (L0_31 p0 p1 p2 p3 p4 b269 b288 b363)) rfl ?_
        refine XS.goto X363.here hx rfl (pc0 := 198) (pc' := 236) rfl (hb hby at_198) (by decide) (by decide) ?_
        refine XS.iload X363.here hx rfl (hb hby at_236) rfl ?_
        refine XS.ifYes X363.here hx rfl (pc0 := 238) (pc' := 252) rfl (hb hby at_238) rfl (XT.i0_ge_t (by decide : ¬ ((1 : Int32) < (0 : Int32)))) (by decide) (by decide) ?_
        refine XS.aload X363.here hx rfl (hb hby at_252) rfl rfl ?_
        show Steps _ _ _ (T363.setTop (mkF m 254 (L0_31 p0 p1 p2 p3 p4 b269 b288 b363) [(.ref b363)])) _
        refine XT.nonnullYes X363.here hx rfl (pc0 := 254) (pc' := 259) rfl (hb hby at_254) rfl rfl (fun q => nomatch q) (by decide) (by decide) ?_
        refine XS.iload X363.here hx rfl (hb hby at_259) rfl ?_
        refine XS.iload X363.here hx rfl (hb hby at_261) rfl ?_
        refine XS.isub X363.here hx rfl (hb hby at_263) rfl ?_
        refine XS.iconst X363.here hx rfl (hb hby at_264) ?_
        show Steps _ _ _ (T363.setTop (mkF m 265 (L0_31 p0 p1 p2 p3 p4 b269 b288 b363) [(.int 1), (.int 2)])) _
        refine XS.isub X363.here hx rfl (hb hby at_265) rfl ?_
        refine XS.istore X363.here hx rfl (hb hby at_266) rfl (l' := (L0_29 p0 p1 p2 p3 p4 b269 b288 b363)) rfl ?_
        refine XS.aload X363.here hx rfl (hb hby at_268) rfl rfl ?_
        exact k
      obtain ⟨_, T370, Lc370, X370, hQ370, st370⟩ := own_cv X363 hx hZ hown hml go369 (hb hby at_270) rfl (hw _ (mi 124 rfl)) (own_site185 hw) GE363 (rmln l Z aZ hw [] _ _ _ _ _ _ T363.heap n0 Zs363 GE363 GC363 GX363 GV363 (own_sta_keep S_COMPACT_STRINGS K363 all0) hcs) (by decide) (argsL := []) (rest := []) rfl rfl rfl (lenOf pd_186 rfl) (W := 0) rfl (by decide) (by decide) (by decide : 5 + 0 ≤ _) (by decide : 15 + 0 ≤ _)
      obtain ⟨rfl, N370q, e370⟩ := hQ370
      have N370 := Fr.app N363 N370q
      have go371 : Go p.tables e below T370 (mkF m 281 (L0_29 p0 p1 p2 p3 p4 b269 b288 b363) [(.int 4)]) En := by
        intro t k
        refine st370 _ ?_
        refine XS.iload X370.here hx rfl (hb hby at_273) rfl ?_
        refine XS.icmpYes X370.here hx rfl (pc0 := 275) (pc' := 280) rfl (hb hby at_275) rfl (XT.ii_eq_t (by decide : ((1 : Int32) = (1 : Int32)))) (by decide) (by decide) ?_
        refine XS.iconst X370.here hx rfl (hb hby at_280) ?_
        exact k
      obtain ⟨T372, h372, k372, X372, e372, E372, A372, st372⟩ := newP X370 hx hZ (hw _ (mi 5 rfl)) e370 (g := (mkF m 281 (L0_29 p0 p1 p2 p3 p4 b269 b288 b363) [(.int 4)])) rfl (hb hby at_281) rfl (by decide) (cap := 4) (by decide) (by decide) (by decide) (by decide)
      obtain ⟨b372, g372⟩ : ∃ z, z = T363.heap.size := ⟨_, rfl⟩
      rw [← g372] at A372 st372
      have ne373 : b363 ≠ b372 := Nat.ne_of_lt (Nat.lt_of_lt_of_le GE363.lt (Nat.le_of_eq g372.symm))
      have ne374 : bx363 ≠ b372 := Nat.ne_of_lt (Nat.lt_of_lt_of_le GV363.lt (Nat.le_of_eq g372.symm))
      have low372 : n0 ≤ b372 := Nat.le_trans Zs363 (Nat.le_of_eq g372.symm)
      have fsh372 : h0.size ≤ b372 := Nat.le_trans K363.1 (Nat.le_of_eq g372.symm)
      have K372 : Keep h0 h372 [] := K363.ext E372
      have Zs372 : n0 ≤ h372.size := Nat.le_trans Zs363 E372.1
      have hk372 : s.heap.size ≤ h372.size := Nat.le_trans hk363 E372.1
      have go375 := gap go371 st372
      have F376 := GE363.ext E372
      have F377 := GC363.ext E372
      have F378 := GX363.ext E372
      have F379 := GV363.ext E372
      have F380 : Arv Z h372 b372 k372 .char (4 : Int32) [(.int 0), (.int 0), (.int 0), (.int 0)] (.int 0) := (Arv.new A372 (by decide)).pad (pad_rep [] (.int 0) 4)
      have go381 : Go p.tables e below T372 (mkF m 287 (L0_29 p0 p1 p2 p3 p4 b269 b288 b363) [(.int (f1 p0)), (.int 0), (.ref b372), (.ref b372)]) En := by
        intro t k
        refine go375 _ ?_
        refine XS.dup X372.here hx rfl (hb hby at_283) rfl rfl ?_
        refine XS.iconst X372.here hx rfl (hb hby at_284) ?_
        refine XS.iload X372.here hx rfl (hb hby at_285) rfl ?_
        exact k
      obtain ⟨cl383, Ar383, q383, S383, N383, H383, G383⟩ := id F380
      obtain ⟨T382, h382, X382, e382, W382, st382⟩ := stC X372 hx hZ e372 Ar383 (j := (0 : Int32)) (inb_of S383 ⟨by decide, by decide⟩) (g := (mkF m 287 (L0_29 p0 p1 p2 p3 p4 b269 b288 b363) [(.int (f1 p0)), (.int 0), (.ref b372), (.ref b372)])) rfl rfl (hb hby at_287)
      have go384 := gap go381 st382
      have N382 := Fr.snoc X382 N370 low372
      have K382 : Keep h0 h382 [] := K372.wr W382 (Or.inr fsh372)
      have Zs382 : n0 ≤ h382.size := Nat.le_trans Zs372 (Keep.of_wr W382).1
      have hk382 : s.heap.size ≤ h382.size := Nat.le_trans hk372 (Keep.of_wr W382).1
      have F385 := F376.wr W382
      have F386 := F377.other W382 (Or.inl ne373)
      have F387 := F378.other W382 (Or.inl ne373)
      have F388 := F379.other W382 ne374
      have F389 : Arv Z h382 b372 k372 .char (4 : Int32) [(.int (f1 p0).toUInt32.toUInt16.toUInt32.toInt32), (.int 0), (.int 0), (.int 0)] (.int 0) := Arv.set Ar383 q383 S383 N383 H383 G383 (fits_nar_char _) W382 0 rfl (Nat.le_of_ble_eq_true rfl)
      have go390 : Go p.tables e below T382 (mkF m 292 (L0_29 p0 p1 p2 p3 p4 b269 b288 b363) [(.int (f1 p1)), (.int 1), (.ref b372), (.ref b372)]) En := by
        intro t k
        refine go384 _ ?_
        refine XS.dup X382.here hx rfl (hb hby at_288) rfl rfl ?_
        refine XS.iconst X382.here hx rfl (hb hby at_289) ?_
        refine XS.iload X382.here hx rfl (hb hby at_290) rfl ?_
        exact k
      obtain ⟨cl392, Ar392, q392, S392, N392, H392, G392⟩ := id F389
      obtain ⟨T391, h391, X391, e391, W391, st391⟩ := stC X382 hx hZ e382 Ar392 (j := (1 : Int32)) (inb_of S392 ⟨by decide, by decide⟩) (g := (mkF m 292 (L0_29 p0 p1 p2 p3 p4 b269 b288 b363) [(.int (f1 p1)), (.int 1), (.ref b372), (.ref b372)])) rfl rfl (hb hby at_292)
      have go393 := gap go390 st391
      have N391 := Fr.snoc X391 N382 low372
      have K391 : Keep h0 h391 [] := K382.wr W391 (Or.inr fsh372)
      have Zs391 : n0 ≤ h391.size := Nat.le_trans Zs382 (Keep.of_wr W391).1
      have hk391 : s.heap.size ≤ h391.size := Nat.le_trans hk382 (Keep.of_wr W391).1
      have F394 := F385.wr W391
      have F395 := F386.other W391 (Or.inl ne373)
      have F396 := F387.other W391 (Or.inl ne373)
      have F397 := F388.other W391 ne374
      have F398 : Arv Z h391 b372 k372 .char (4 : Int32) [(.int (f1 p0).toUInt32.toUInt16.toUInt32.toInt32), (.int (f1 p1).toUInt32.toUInt16.toUInt32.toInt32), (.int 0), (.int 0)] (.int 0) := Arv.set Ar392 q392 S392 N392 H392 G392 (fits_nar_char _) W391 1 rfl (Nat.le_of_ble_eq_true rfl)
      have go399 : Go p.tables e below T391 (mkF m 297 (L0_29 p0 p1 p2 p3 p4 b269 b288 b363) [(.int (f1 p2)), (.int 2), (.ref b372), (.ref b372)]) En := by
        intro t k
        refine go393 _ ?_
        refine XS.dup X391.here hx rfl (hb hby at_293) rfl rfl ?_
        refine XS.iconst X391.here hx rfl (hb hby at_294) ?_
        refine XS.iload X391.here hx rfl (hb hby at_295) rfl ?_
        exact k
      obtain ⟨cl401, Ar401, q401, S401, N401, H401, G401⟩ := id F398
      obtain ⟨T400, h400, X400, e400, W400, st400⟩ := stC X391 hx hZ e391 Ar401 (j := (2 : Int32)) (inb_of S401 ⟨by decide, by decide⟩) (g := (mkF m 297 (L0_29 p0 p1 p2 p3 p4 b269 b288 b363) [(.int (f1 p2)), (.int 2), (.ref b372), (.ref b372)])) rfl rfl (hb hby at_297)
      have go402 := gap go399 st400
      have N400 := Fr.snoc X400 N391 low372
      have K400 : Keep h0 h400 [] := K391.wr W400 (Or.inr fsh372)
      have Zs400 : n0 ≤ h400.size := Nat.le_trans Zs391 (Keep.of_wr W400).1
      have hk400 : s.heap.size ≤ h400.size := Nat.le_trans hk391 (Keep.of_wr W400).1
      have F403 := F394.wr W400
      have F404 := F395.other W400 (Or.inl ne373)
      have F405 := F396.other W400 (Or.inl ne373)
      have F406 := F397.other W400 ne374
      have F407 : Arv Z h400 b372 k372 .char (4 : Int32) [(.int (f1 p0).toUInt32.toUInt16.toUInt32.toInt32), (.int (f1 p1).toUInt32.toUInt16.toUInt32.toInt32), (.int (f1 p2).toUInt32.toUInt16.toUInt32.toInt32), (.int 0)] (.int 0) := Arv.set Ar401 q401 S401 N401 H401 G401 (fits_nar_char _) W400 2 rfl (Nat.le_of_ble_eq_true rfl)
      have go408 : Go p.tables e below T400 (mkF m 302 (L0_29 p0 p1 p2 p3 p4 b269 b288 b363) [(.int (f1 p3)), (.int 3), (.ref b372), (.ref b372)]) En := by
        intro t k
        refine go402 _ ?_
        refine XS.dup X400.here hx rfl (hb hby at_298) rfl rfl ?_
        refine XS.iconst X400.here hx rfl (hb hby at_299) ?_
        refine XS.iload X400.here hx rfl (hb hby at_300) rfl ?_
        exact k
      obtain ⟨cl410, Ar410, q410, S410, N410, H410, G410⟩ := id F407
      obtain ⟨T409, h409, X409, e409, W409, st409⟩ := stC X400 hx hZ e400 Ar410 (j := (3 : Int32)) (inb_of S410 ⟨by decide, by decide⟩) (g := (mkF m 302 (L0_29 p0 p1 p2 p3 p4 b269 b288 b363) [(.int (f1 p3)), (.int 3), (.ref b372), (.ref b372)])) rfl rfl (hb hby at_302)
      have go411 := gap go408 st409
      have N409 := Fr.snoc X409 N400 low372
      have K409 : Keep h0 h409 [] := K400.wr W409 (Or.inr fsh372)
      have Zs409 : n0 ≤ h409.size := Nat.le_trans Zs400 (Keep.of_wr W409).1
      have hk409 : s.heap.size ≤ h409.size := Nat.le_trans hk400 (Keep.of_wr W409).1
      have F412 := F403.wr W409
      have F413 := F404.other W409 (Or.inl ne373)
      have F414 := F405.other W409 (Or.inl ne373)
      have F415 := F406.other W409 ne374
      have F416 : Arv Z h409 b372 k372 .char (4 : Int32) [(.int (f1 p0).toUInt32.toUInt16.toUInt32.toInt32), (.int (f1 p1).toUInt32.toUInt16.toUInt32.toInt32), (.int (f1 p2).toUInt32.toUInt16.toUInt32.toInt32), (.int (f1 p3).toUInt32.toUInt16.toUInt32.toInt32)] (.int 0) := Arv.set Ar410 q410 S410 N410 H410 G410 (fits_nar_char _) W409 3 rfl (Nat.le_of_ble_eq_true rfl)
      have go417 : Go p.tables e below T409 (mkF m 321 (L0_32 p0 p1 p2 p3 p4 b269 b288 b363 b372) [(.int 0), (.ref b363)]) En := by
        intro t k
        refine go411 _ ?_
        refine XS.astore X409.here hx rfl (hb hby at_303) rfl rfl (l' := #[iv p0, iv p1, iv p2, iv p3, iv p4, iv (f1 p0), iv (f1 p1), iv (f1 p2), iv (f1 p3), iv 3, rv b269, rv b288, rv b363, iv 1, iv 1, rv b372, .unset]) rfl ?_
        refine XS.iconst X409.here hx rfl (hb hby at_305) ?_
        refine XS.istore X409.here hx rfl (hb hby at_306) rfl (l' := (L0_32 p0 p1 p2 p3 p4 b269 b288 b363 b372)) rfl ?_
        refine XS.iload X409.here hx rfl (hb hby at_308) rfl ?_
        refine XS.ifNo X409.here hx rfl (hb hby at_310) rfl (XT.i0_le_f (by decide : ((0 : Int32) < (1 : Int32)))) ?_
        show Steps _ _ _ (T409.setTop (mkF m 313 (L0_32 p0 p1 p2 p3 p4 b269 b288 b363 b372) [])) _
        refine XS.iload X409.here hx rfl (hb hby at_313) rfl ?_
        refine XS.ifNo X409.here hx rfl (hb hby at_315) rfl (XT.i0_eq_f (by decide : ¬ ((1 : Int32) = (0 : Int32)))) ?_
        refine XS.aload X409.here hx rfl (hb hby at_318) rfl rfl ?_
        refine XS.iconst X409.here hx rfl (hb hby at_320) ?_
        exact k
      obtain ⟨_, T418, Lc418, X418, hQ418, st418⟩ := own_cv X409 hx hZ hown hml go417 (hb hby at_321) e409 (hw _ (mi 125 rfl)) (own_site413 hw) F412 (rmsca l Z aZ hw [] _ (0 : Int32) _ _ _ _ _ _ (f1 p2).toUInt32.toUInt16.toUInt32.toInt32.toInt8.toInt32.toInt8.toInt32 h409 n0 Zs409 F412 F413 F414 F415 (own_sta_keep S_COMPACT_STRINGS K409 all0) hcs (own_sta_keep S_SIOOBE_FORMATTER K409 all0) rS_SIOOBE_FORMATTER (by decide) (by decide) rfl) (by decide) (argsL := [(.int 0)]) (rest := []) rfl rfl rfl (lenOf pd_404 rfl) (W := 0) rfl (by decide) (by decide) (by decide : 6 + 0 ≤ _) (by decide : 19 + 0 ≤ _)
      obtain ⟨rfl, N418q, e418⟩ := hQ418
      have N418 := Fr.app N409 N418q
      obtain ⟨cl419, Ar419, q419, S419, N419, H419, G419⟩ := id F416
      have go420 : Go p.tables e below T418 (mkF m 411 (L0_32 p0 p1 p2 p3 p4 b269 b288 b363 b372) [(.int 1)]) En := by
        intro t k
        refine st418 _ ?_
        refine XS.aload X418.here hx rfl (hb hby at_324) rfl rfl ?_
        refine XS.iload X418.here hx rfl (hb hby at_326) rfl ?_
        refine XS.iconst X418.here hx rfl (hb hby at_328) ?_
        refine XS.iadd X418.here hx rfl (hb hby at_329) rfl ?_
        refine X418.caload hx (j := (2 : Int32)) (v := (.int (f1 p2).toUInt32.toUInt16.toUInt32.toInt32)) (by rw [e418]; exact Ar419.1) (State.isArrayOf_alike hZ.alike Ar419.2.1) Ar419.2.2 (inb_of S419 ⟨by decide, by decide⟩) (Has.at H419 (inb_of S419 ⟨by decide, by decide⟩) rfl) (g := (mkF m 330 (L0_32 p0 p1 p2 p3 p4 b269 b288 b363 b372) [(.int 2), (.ref b372), (.int (fsca (f1 p2).toUInt32.toUInt16.toUInt32.toInt32.toInt8.toInt32.toInt8.toInt32))])) rfl rfl (hb hby at_330) _ ?_
        show Steps _ _ _ (T418.setTop (mkF m 331 (L0_32 p0 p1 p2 p3 p4 b269 b288 b363 b372) [(.int (f1 p2).toUInt32.toUInt16.toUInt32.toInt32), (.int (fsca (f1 p2).toUInt32.toUInt16.toUInt32.toInt32.toInt8.toInt32.toInt8.toInt32))])) _
        refine XS.icmpNo X418.here hx rfl (hb hby at_331) rfl (XT.ii_ne_f (own_bk414 p2)) ?_
        refine XS.iconst X418.here hx rfl (hb hby at_334) ?_
        refine XS.goto X418.here hx rfl (pc0 := 335) (pc' := 339) rfl (hb hby at_335) (by decide) (by decide) ?_
        refine XS.istore X418.here hx rfl (hb hby at_339) rfl (l' := (L0_32 p0 p1 p2 p3 p4 b269 b288 b363 b372)) rfl ?_
        refine XS.iload X418.here hx rfl (hb hby at_341) rfl ?_
        show Steps _ _ _ (T418.setTop (mkF m 343 (L0_32 p0 p1 p2 p3 p4 b269 b288 b363 b372) [(.int 1)])) _
        refine XS.iconst X418.here hx rfl (hb hby at_343) ?_
        refine XS.icmpYes X418.here hx rfl (pc0 := 344) (pc' := 375) rfl (hb hby at_344) rfl (XT.ii_le_t (by decide : ¬ ((1 : Int32) < (1 : Int32)))) (by decide) (by decide) ?_
        refine XS.iload X418.here hx rfl (hb hby at_375) rfl ?_
        refine XS.iconst X418.here hx rfl (hb hby at_377) ?_
        refine XS.icmpYes X418.here hx rfl (pc0 := 378) (pc' := 409) rfl (hb hby at_378) rfl (XT.ii_le_t (by decide : ¬ ((2 : Int32) < (1 : Int32)))) (by decide) (by decide) ?_
        show Steps _ _ _ (T418.setTop (mkF m 409 (L0_32 p0 p1 p2 p3 p4 b269 b288 b363 b372) [])) _
        refine XS.iload X418.here hx rfl (hb hby at_409) rfl ?_
        exact k
      obtain ⟨fs, hr, hrun, hended, hRW⟩ := X418.leaveW hS0 (by rw [e418]; exact hk409) (v := some (.int 1)) (fun h => by rw [Bd.returns] at h; cases h) Bd.notSynchronized
      subst hEn
      refine ⟨_, _, go420 _ (Jvm.RoadKit.retOut X418 hx Bd.returns rfl (Or.inl ⟨rfl, Or.inr (Or.inl rfl), _, rfl⟩) (hb hby at_411) hr), hrun, hended, _, _, rfl, ?_, hRW.1, hRW.2.1, hRW.2.2.1, hRW.2.2.2.mono (by decide) (by decide)⟩
      show Q0 _ _ p0 p1 p2 p3 p4 s_COMPACT_STRINGS s_SIOOBE_FORMATTER h0 _ (T418.setFrames fs).heap _
      have hE : (T418.setFrames fs).heap = h409 := e418
      rw [hE]
      exact ⟨congrArg (fun z => some (Value.int z)) ((by rw [f0, if_neg hs11, if_neg hs33, if_neg hs117, if_pos hs266, if_neg hs299, if_pos hs361] : (1 : Int32) = (f0 p0 p1 p2 p3 p4)).trans (f0_one p0 p1 p2 p3 p4)), N418⟩
    by_cases hs421 : (f1 p2) = (63 : Int32)
    · have go422 : Go p.tables e below T295 (mkF m 156 (L0_25 p0 p1 p2 p3 p4 b269 b288) [(.ref b288)]) En := by
        intro t k
        refine go298 _ ?_
        refine XS.aload X295.here hx rfl (hb hby at_154) rfl rfl ?_
        exact k
      obtain ⟨_, _, ⟨T423, L423, k423, n423⟩, -, X423q, hS423q, hg423, ⟨Lc423, hQ423, l423, y423, z423⟩, st423⟩ := callSS X295 hx (y := (⟨"com/example/nephele/nephele/web/internal/RequestPath", "queryString", "(Ljava/lang/String;)Ljava/lang/String;"⟩ : MethodName)) hown (mvT hZ (hw _ (mi 27 rfl))) (mvT hZ (hw _ (mi 28 rfl))) (mvT hZ (hw _ (mi 29 rfl))) (mvT hZ (hw _ (mi 30 rfl))) (by decide) (own_backOfSI (W := 0) (rmqs3_2 l Z aZ hw [] _ _ _ _ _ _ _ _ T295.heap n0 Zs295 G295_0 G295_1 GX295 GV295 (own_sta_keep S_COMPACT_STRINGS K295 all0) hcs (by rw [fiz3, fiy3, fix3, fic3, if_neg (own_qf p0 hs299), if_neg (own_qf p1 hs361), if_pos (own_qt p2 hs421)]) (own_sta_keep S_SIOOBE_FORMATTER K295 all0) rS_SIOOBE_FORMATTER (fun b cl q => K295.2.1 b cl (hkp b cl q) nin0) hcn151 hcw) hZ (hw _ (mi 30 rfl)) (hw _ (mi 29 rfl)) (by decide) (by decide) IB0) (g := (mkF m 156 (L0_25 p0 p1 p2 p3 p4 b269 b288) [(.ref b288)])) rfl (by rw [hml]; rfl) (argsL := [(.ref b288)]) (rest := []) (lenOf pd_408 rfl) rfl (by show 2 * 0 + _ ≤ _; exact Nat.le_of_eq rfl) (hb hby at_156) (fun _ _ => ⟨rfl, rfl, (by decide : 3 + 2 ≤ _), (by decide : 10 + 4 ≤ _)⟩)
      dsimp only [Pt.U, Pt.locs, Pt.cells, Pt.slots] at X423q hS423q hg423 l423 y423 z423 st423 hQ423
      subst l423 y423 z423
      have hk423q : s.heap.size ≤ T295.heap.size := hk295
      obtain ⟨X423, hS423, hZ423, hown423⟩ := rebS hS0 hk423q X423q hS423q hg423 hZ hown
      have hk423r : T423.heap.size ≤ T423.heap.size := Nat.le_refl _
      obtain ⟨b423, bx423, kx423, rfl, N423q, K423q, GE423, GC423, GX423, GV423⟩ := hQ423
      have N423 := Fr.app N295 N423q
      have K423 : Keep h0 T423.heap [] := K295.trans K423q all0
      have Zs423 : n0 ≤ T423.heap.size := Nat.le_trans Zs295 K423q.1
      have hk423 : s.heap.size ≤ T423.heap.size := Nat.le_trans hk295 K423q.1
      have F424 := F296.keep K423q nin0
      have F425 := G295_0.keep K423q
      have F426 := G295_1.keep K423q nin0
      have F427 := GX295.keep K423q nin0
      have F428 := GV295.keep K423q nin0
      have go429 := gapT go422 st423
      have go430 : Go p.tables e below T423 (mkF m 270 (L0_33 p0 p1 p2 p3 p4 b269 b288 b423) [(.ref b423)]) En := by
        intro t k
        refine go429 _ ?_
        refine XS.astore X423.here hx rfl (hb hby at_159) rfl rfl (l' := #[iv p0, iv p1, iv p2, iv p3, iv p4, iv (f1 p0), iv (f1 p1), iv (f1 p2), iv (f1 p3), iv 3, rv b269, rv b288, rv b423, .unset, .unset, .unset, .unset]) rfl ?_
        refine XS.iconst X423.here hx rfl (hb hby at_161) ?_
        refine XS.istore X423.here hx rfl (hb hby at_162) rfl (l' := (L0_34 p0 p1 p2 p3 p4 b269 b288 b423)) rfl ?_
        refine XS.iload X423.here hx rfl (hb hby at_164) rfl ?_
        refine XS.ifNo X423.here hx rfl (hb hby at_166) rfl (XT.i0_le_f (by decide : ((0 : Int32) < (3 : Int32)))) ?_
        show Steps _ _ _ (T423.setTop (mkF m 169 (L0_34 p0 p1 p2 p3 p4 b269 b288 b423) [])) _
        refine XS.iload X423.here hx rfl (hb hby at_169) rfl ?_
        refine XS.bipush X423.here hx rfl (hb hby at_171) ?_
        refine XS.icmpYes X423.here hx rfl (pc0 := 173) (pc' := 182) rfl (hb hby at_173) rfl (XT.ii_ne_t hs299) (by decide) (by decide) ?_
        refine XS.iload X423.here hx rfl (hb hby at_182) rfl ?_
        refine XS.iconst X423.here hx rfl (hb hby at_184) ?_
        show Steps _ _ _ (T423.setTop (mkF m 185 (L0_34 p0 p1 p2 p3 p4 b269 b288 b423) [(.int 1), (.int 3)])) _
        refine XS.icmpNo X423.here hx rfl (hb hby at_185) rfl (XT.ii_le_f (by decide : ((1 : Int32) < (3 : Int32)))) ?_
        refine XS.iload X423.here hx rfl (hb hby at_188) rfl ?_
        refine XS.bipush X423.here hx rfl (hb hby at_190) ?_
        refine XS.icmpYes X423.here hx rfl (pc0 := 192) (pc' := 201) rfl (hb hby at_192) rfl (XT.ii_ne_t hs361) (by decide) (by decide) ?_
        refine XS.iload X423.here hx rfl (hb hby at_201) rfl ?_
        show Steps _ _ _ (T423.setTop (mkF m 203 (L0_34 p0 p1 p2 p3 p4 b269 b288 b423) [(.int 3)])) _
        refine XS.iconst X423.here hx rfl (hb hby at_203) ?_
        refine XS.icmpNo X423.here hx rfl (hb hby at_204) rfl (XT.ii_le_f (by decide : ((2 : Int32) < (3 : Int32)))) ?_
        refine XS.iload X423.here hx rfl (hb hby at_207) rfl ?_
        refine XS.bipush X423.here hx rfl (hb hby at_209) ?_
        refine XS.icmpNo X423.here hx rfl (hb hby at_211) rfl (XT.ii_ne_f hs421) ?_
        show Steps _ _ _ (T423.setTop (mkF m 214 (L0_34 p0 p1 p2 p3 p4 b269 b288 b423) [])) _
        refine XS.iconst X423.here hx rfl (hb hby at_214) ?_
        refine XS.istore X423.here hx rfl (hb hby at_215) rfl (l' := (L0_35 p0 p1 p2 p3 p4 b269 b288 b423)) rfl ?_
        refine XS.goto X423.here hx rfl (pc0 := 217) (pc' := 236) rfl (hb hby at_217) (by decide) (by decide) ?_
        refine XS.iload X423.here hx rfl (hb hby at_236) rfl ?_
        refine XS.ifYes X423.here hx rfl (pc0 := 238) (pc' := 252) rfl (hb hby at_238) rfl (XT.i0_ge_t (by decide : ¬ ((2 : Int32) < (0 : Int32)))) (by decide) (by decide) ?_
        show Steps _ _ _ (T423.setTop (mkF m 252 (L0_35 p0 p1 p2 p3 p4 b269 b288 b423) [])) _
        refine XS.aload X423.here hx rfl (hb hby at_252) rfl rfl ?_
        refine XT.nonnullYes X423.here hx rfl (pc0 := 254) (pc' := 259) rfl (hb hby at_254) rfl rfl (fun q => nomatch q) (by decide) (by decide) ?_
        refine XS.iload X423.here hx rfl (hb hby at_259) rfl ?_
        refine XS.iload X423.here hx rfl (hb hby at_261) rfl ?_
        refine XS.isub X423.here hx rfl (hb hby at_263) rfl ?_
        show Steps _ _ _ (T423.setTop (mkF m 264 (L0_35 p0 p1 p2 p3 p4 b269 b288 b423) [(.int 1)])) _
        refine XS.iconst X423.here hx rfl (hb hby at_264) ?_
        refine XS.isub X423.here hx rfl (hb hby at_265) rfl ?_
        refine XS.istore X423.here hx rfl (hb hby at_266) rfl (l' := (L0_33 p0 p1 p2 p3 p4 b269 b288 b423)) rfl ?_
        refine XS.aload X423.here hx rfl (hb hby at_268) rfl rfl ?_
        exact k
      obtain ⟨_, T431, Lc431, X431, hQ431, st431⟩ := own_cv X423 hx hZ423 hown423 hml go430 (hb hby at_270) rfl (hw _ (mi 124 rfl)) (own_site185 hw) GE423 (rmln l Z aZ hw [] _ _ _ _ [] _ T423.heap n0 Zs423 GE423 GC423 GX423 GV423 (own_sta_keep S_COMPACT_STRINGS K423 all0) hcs) (by decide) (argsL := []) (rest := []) rfl rfl rfl (lenOf pd_186 rfl) (W := 0) rfl (by decide) (by decide) (by decide : 5 + 0 ≤ _) (by decide : 14 + 0 ≤ _)
      obtain ⟨rfl, N431q, e431⟩ := hQ431
      have N431 := Fr.app N423 N431q
      have go432 : Go p.tables e below T431 (mkF m 281 (L0_33 p0 p1 p2 p3 p4 b269 b288 b423) [(.int 4)]) En := by
        intro t k
        refine st431 _ ?_
        refine XS.iload X431.here hx rfl (hb hby at_273) rfl ?_
        refine XS.icmpYes X431.here hx rfl (pc0 := 275) (pc' := 280) rfl (hb hby at_275) rfl (XT.ii_eq_t (by decide : ((0 : Int32) = (0 : Int32)))) (by decide) (by decide) ?_
        refine XS.iconst X431.here hx rfl (hb hby at_280) ?_
        exact k
      obtain ⟨T433, h433, k433, X433, e433, E433, A433, st433⟩ := newP X431 hx hZ423 (hw _ (mi 5 rfl)) e431 (g := (mkF m 281 (L0_33 p0 p1 p2 p3 p4 b269 b288 b423) [(.int 4)])) rfl (hb hby at_281) rfl (by decide) (cap := 4) (by decide) (by decide) (by decide) (by decide)
      obtain ⟨b433, g433⟩ : ∃ z, z = T423.heap.size := ⟨_, rfl⟩
      rw [← g433] at A433 st433
      have ne434 : b423 ≠ b433 := Nat.ne_of_lt (Nat.lt_of_lt_of_le GE423.lt (Nat.le_of_eq g433.symm))
      have ne435 : bx423 ≠ b433 := Nat.ne_of_lt (Nat.lt_of_lt_of_le GV423.lt (Nat.le_of_eq g433.symm))
      have low433 : n0 ≤ b433 := Nat.le_trans Zs423 (Nat.le_of_eq g433.symm)
      have fsh433 : h0.size ≤ b433 := Nat.le_trans K423.1 (Nat.le_of_eq g433.symm)
      have K433 : Keep h0 h433 [] := K423.ext E433
      have Zs433 : n0 ≤ h433.size := Nat.le_trans Zs423 E433.1
      have hk433 : T423.heap.size ≤ h433.size := Nat.le_trans hk423r E433.1
      have go436 := gap go432 st433
      have F437 := GE423.ext E433
      have F438 := GC423.ext E433
      have F439 := GX423.ext E433
      have F440 := GV423.ext E433
      have F441 : Arv Z h433 b433 k433 .char (4 : Int32) [(.int 0), (.int 0), (.int 0), (.int 0)] (.int 0) := (Arv.new A433 (by decide)).pad (pad_rep [] (.int 0) 4)
      have go442 : Go p.tables e below T433 (mkF m 287 (L0_33 p0 p1 p2 p3 p4 b269 b288 b423) [(.int (f1 p0)), (.int 0), (.ref b433), (.ref b433)]) En := by
        intro t k
        refine go436 _ ?_
        refine XS.dup X433.here hx rfl (hb hby at_283) rfl rfl ?_
        refine XS.iconst X433.here hx rfl (hb hby at_284) ?_
        refine XS.iload X433.here hx rfl (hb hby at_285) rfl ?_
        exact k
      obtain ⟨cl444, Ar444, q444, S444, N444, H444, G444⟩ := id F441
      obtain ⟨T443, h443, X443, e443, W443, st443⟩ := stC X433 hx hZ423 e433 Ar444 (j := (0 : Int32)) (inb_of S444 ⟨by decide, by decide⟩) (g := (mkF m 287 (L0_33 p0 p1 p2 p3 p4 b269 b288 b423) [(.int (f1 p0)), (.int 0), (.ref b433), (.ref b433)])) rfl rfl (hb hby at_287)
      have go445 := gap go442 st443
      have N443 := Fr.snoc X443 N431 low433
      have K443 : Keep h0 h443 [] := K433.wr W443 (Or.inr fsh433)
      have Zs443 : n0 ≤ h443.size := Nat.le_trans Zs433 (Keep.of_wr W443).1
      have hk443 : T423.heap.size ≤ h443.size := Nat.le_trans hk433 (Keep.of_wr W443).1
      have F446 := F437.wr W443
      have F447 := F438.other W443 (Or.inl ne434)
      have F448 := F439.other W443 (Or.inl ne434)
      have F449 := F440.other W443 ne435
      have F450 : Arv Z h443 b433 k433 .char (4 : Int32) [(.int (f1 p0).toUInt32.toUInt16.toUInt32.toInt32), (.int 0), (.int 0), (.int 0)] (.int 0) := Arv.set Ar444 q444 S444 N444 H444 G444 (fits_nar_char _) W443 0 rfl (Nat.le_of_ble_eq_true rfl)
      have go451 : Go p.tables e below T443 (mkF m 292 (L0_33 p0 p1 p2 p3 p4 b269 b288 b423) [(.int (f1 p1)), (.int 1), (.ref b433), (.ref b433)]) En := by
        intro t k
        refine go445 _ ?_
        refine XS.dup X443.here hx rfl (hb hby at_288) rfl rfl ?_
        refine XS.iconst X443.here hx rfl (hb hby at_289) ?_
        refine XS.iload X443.here hx rfl (hb hby at_290) rfl ?_
        exact k
      obtain ⟨cl453, Ar453, q453, S453, N453, H453, G453⟩ := id F450
      obtain ⟨T452, h452, X452, e452, W452, st452⟩ := stC X443 hx hZ423 e443 Ar453 (j := (1 : Int32)) (inb_of S453 ⟨by decide, by decide⟩) (g := (mkF m 292 (L0_33 p0 p1 p2 p3 p4 b269 b288 b423) [(.int (f1 p1)), (.int 1), (.ref b433), (.ref b433)])) rfl rfl (hb hby at_292)
      have go454 := gap go451 st452
      have N452 := Fr.snoc X452 N443 low433
      have K452 : Keep h0 h452 [] := K443.wr W452 (Or.inr fsh433)
      have Zs452 : n0 ≤ h452.size := Nat.le_trans Zs443 (Keep.of_wr W452).1
      have hk452 : T423.heap.size ≤ h452.size := Nat.le_trans hk443 (Keep.of_wr W452).1
      have F455 := F446.wr W452
      have F456 := F447.other W452 (Or.inl ne434)
      have F457 := F448.other W452 (Or.inl ne434)
      have F458 := F449.other W452 ne435
      have F459 : Arv Z h452 b433 k433 .char (4 : Int32) [(.int (f1 p0).toUInt32.toUInt16.toUInt32.toInt32), (.int (f1 p1).toUInt32.toUInt16.toUInt32.toInt32), (.int 0), (.int 0)] (.int 0) := Arv.set Ar453 q453 S453 N453 H453 G453 (fits_nar_char _) W452 1 rfl (Nat.le_of_ble_eq_true rfl)
      have go460 : Go p.tables e below T452 (mkF m 297 (L0_33 p0 p1 p2 p3 p4 b269 b288 b423) [(.int (f1 p2)), (.int 2), (.ref b433), (.ref b433)]) En := by
        intro t k
        refine go454 _ ?_
        refine XS.dup X452.here hx rfl (hb hby at_293) rfl rfl ?_
        refine XS.iconst X452.here hx rfl (hb hby at_294) ?_
        refine XS.iload X452.here hx rfl (hb hby at_295) rfl ?_
        exact k
      obtain ⟨cl462, Ar462, q462, S462, N462, H462, G462⟩ := id F459
      obtain ⟨T461, h461, X461, e461, W461, st461⟩ := stC X452 hx hZ423 e452 Ar462 (j := (2 : Int32)) (inb_of S462 ⟨by decide, by decide⟩) (g := (mkF m 297 (L0_33 p0 p1 p2 p3 p4 b269 b288 b423) [(.int (f1 p2)), (.int 2), (.ref b433), (.ref b433)])) rfl rfl (hb hby at_297)
      have go463 := gap go460 st461
      have N461 := Fr.snoc X461 N452 low433
      have K461 : Keep h0 h461 [] := K452.wr W461 (Or.inr fsh433)
      have Zs461 : n0 ≤ h461.size := Nat.le_trans Zs452 (Keep.of_wr W461).1
      have hk461 : T423.heap.size ≤ h461.size := Nat.le_trans hk452 (Keep.of_wr W461).1
      have F464 := F455.wr W461
      have F465 := F456.other W461 (Or.inl ne434)
      have F466 := F457.other W461 (Or.inl ne434)
      have F467 := F458.other W461 ne435
      have F468 : Arv Z h461 b433 k433 .char (4 : Int32) [(.int (f1 p0).toUInt32.toUInt16.toUInt32.toInt32), (.int (f1 p1).toUInt32.toUInt16.toUInt32.toInt32), (.int (f1 p2).toUInt32.toUInt16.toUInt32.toInt32), (.int 0)] (.int 0) := Arv.set Ar462 q462 S462 N462 H462 G462 (fits_nar_char _) W461 2 rfl (Nat.le_of_ble_eq_true rfl)
      have go469 : Go p.tables e below T461 (mkF m 302 (L0_33 p0 p1 p2 p3 p4 b269 b288 b423) [(.int (f1 p3)), (.int 3), (.ref b433), (.ref b433)]) En := by
        intro t k
        refine go463 _ ?_
        refine XS.dup X461.here hx rfl (hb hby at_298) rfl rfl ?_
        refine XS.iconst X461.here hx rfl (hb hby at_299) ?_
        refine XS.iload X461.here hx rfl (hb hby at_300) rfl ?_
        exact k
      obtain ⟨cl471, Ar471, q471, S471, N471, H471, G471⟩ := id F468
      obtain ⟨T470, h470, X470, e470, W470, st470⟩ := stC X461 hx hZ423 e461 Ar471 (j := (3 : Int32)) (inb_of S471 ⟨by decide, by decide⟩) (g := (mkF m 302 (L0_33 p0 p1 p2 p3 p4 b269 b288 b423) [(.int (f1 p3)), (.int 3), (.ref b433), (.ref b433)])) rfl rfl (hb hby at_302)
      have go472 := gap go469 st470
      have N470 := Fr.snoc X470 N461 low433
      have K470 : Keep h0 h470 [] := K461.wr W470 (Or.inr fsh433)
      have Zs470 : n0 ≤ h470.size := Nat.le_trans Zs461 (Keep.of_wr W470).1
      have hk470 : T423.heap.size ≤ h470.size := Nat.le_trans hk461 (Keep.of_wr W470).1
      have F473 := F464.wr W470
      have F474 := F465.other W470 (Or.inl ne434)
      have F475 := F466.other W470 (Or.inl ne434)
      have F476 := F467.other W470 ne435
      have F477 : Arv Z h470 b433 k433 .char (4 : Int32) [(.int (f1 p0).toUInt32.toUInt16.toUInt32.toInt32), (.int (f1 p1).toUInt32.toUInt16.toUInt32.toInt32), (.int (f1 p2).toUInt32.toUInt16.toUInt32.toInt32), (.int (f1 p3).toUInt32.toUInt16.toUInt32.toInt32)] (.int 0) := Arv.set Ar471 q471 S471 N471 H471 G471 (fits_nar_char _) W470 3 rfl (Nat.le_of_ble_eq_true rfl)
      have go478 : Go p.tables e below T470 (mkF m 411 (L0_36 p0 p1 p2 p3 p4 b269 b288 b423 b433) [(.int 1)]) En := by
        intro t k
        refine go472 _ ?_
        refine XS.astore X470.here hx rfl (hb hby at_303) rfl rfl (l' := #[iv p0, iv p1, iv p2, iv p3, iv p4, iv (f1 p0), iv (f1 p1), iv (f1 p2), iv (f1 p3), iv 3, rv b269, rv b288, rv b423, iv 2, iv 0, rv b433, .unset]) rfl ?_
        refine XS.iconst X470.here hx rfl (hb hby at_305) ?_
        refine XS.istore X470.here hx rfl (hb hby at_306) rfl (l' := (L0_36 p0 p1 p2 p3 p4 b269 b288 b423 b433)) rfl ?_
        refine XS.iload X470.here hx rfl (hb hby at_308) rfl ?_
        refine XS.ifYes X470.here hx rfl (pc0 := 310) (pc' := 341) rfl (hb hby at_310) rfl (XT.i0_le_t (by decide : ¬ ((0 : Int32) < (0 : Int32)))) (by decide) (by decide) ?_
        show Steps _ _ _ (T470.setTop (mkF m 341 (L0_36 p0 p1 p2 p3 p4 b269 b288 b423 b433) [])) _
        refine XS.iload X470.here hx rfl (hb hby at_341) rfl ?_
        refine XS.iconst X470.here hx rfl (hb hby at_343) ?_
        refine XS.icmpYes X470.here hx rfl (pc0 := 344) (pc' := 375) rfl (hb hby at_344) rfl (XT.ii_le_t (by decide : ¬ ((1 : Int32) < (0 : Int32)))) (by decide) (by decide) ?_
        refine XS.iload X470.here hx rfl (hb hby at_375) rfl ?_
        refine XS.iconst X470.here hx rfl (hb hby at_377) ?_
        show Steps _ _ _ (T470.setTop (mkF m 378 (L0_36 p0 p1 p2 p3 p4 b269 b288 b423 b433) [(.int 2), (.int 0)])) _
        refine XS.icmpYes X470.here hx rfl (pc0 := 378) (pc' := 409) rfl (hb hby at_378) rfl (XT.ii_le_t (by decide : ¬ ((2 : Int32) < (0 : Int32)))) (by decide) (by decide) ?_
        refine XS.iload X470.here hx rfl (hb hby at_409) rfl ?_
        exact k
      obtain ⟨fs, hr, hrun, hended, hRW⟩ := X470.leaveW hS423 (by rw [e470]; exact hk470) (v := some (.int 1)) (fun h => by rw [Bd.returns] at h; cases h) Bd.notSynchronized
      subst hEn
      refine ⟨_, _, go478 _ (Jvm.RoadKit.retOut X470 hx Bd.returns rfl (Or.inl ⟨rfl, Or.inr (Or.inl rfl), _, rfl⟩) (hb hby at_411) hr), hrun, hended, _, _, rfl, ?_, hRW.1, hRW.2.1, hRW.2.2.1, hRW.2.2.2.mono (by decide) (by decide)⟩
      show Q0 _ _ p0 p1 p2 p3 p4 s_COMPACT_STRINGS s_SIOOBE_FORMATTER h0 _ (T470.setFrames fs).heap _
      have hE : (T470.setFrames fs).heap = h470 := e470
      rw [hE]
      exact ⟨congrArg (fun z => some (Value.int z)) ((by rw [f0, if_neg hs11, if_neg hs33, if_neg hs117, if_pos hs266, if_neg hs299, if_neg hs361, if_pos hs421] : (1 : Int32) = (f0 p0 p1 p2 p3 p4)).trans (f0_one p0 p1 p2 p3 p4)), N470⟩
    have go479 : Go p.tables e below T295 (mkF m 156 (L0_25 p0 p1 p2 p3 p4 b269 b288) [(.ref b288)]) En := by
      intro t k
      refine go298 _ ?_
      refine XS.aload X295.here hx rfl (hb hby at_154) rfl rfl ?_
      exact k
    obtain ⟨_, T480, Lc480, X480, hQ480, st480⟩ := own_cs X295 hx hZ hown hml go479 (hb hby at_156) rfl (hw _ (mi 27 rfl)) (own_site407 hw) (rmqs3_m l Z aZ hw [] _ _ _ _ _ _ _ T295.heap n0 Zs295 G295_0 G295_1 GX295 GV295 (own_sta_keep S_COMPACT_STRINGS K295 all0) hcs (by rw [fiz3, fiy3, fix3, fic3, if_neg (own_qf p0 hs299), if_neg (own_qf p1 hs361), if_neg (own_qf p2 hs421)])) (by decide) (argsL := [(.ref b288)]) (rest := []) rfl rfl rfl (lenOf pd_408 rfl) (W := 0) rfl (by decide) (by decide) (by decide : 3 + 0 ≤ _) (by decide : 10 + 0 ≤ _)
    obtain ⟨rfl, N480q, e480⟩ := hQ480
    have N480 := Fr.app N295 N480q
    have go481 : Go p.tables e below T480 (mkF m 251 (L0_37 p0 p1 p2 p3 p4 b269 b288) [(.int 1)]) En := by
      intro t k
      refine st480 _ ?_
      refine XS.astore X480.here hx rfl (hb hby at_159) rfl rfl (l' := #[iv p0, iv p1, iv p2, iv p3, iv p4, iv (f1 p0), iv (f1 p1), iv (f1 p2), iv (f1 p3), iv 3, rv b269, rv b288, .val .null, .unset, .unset, .unset, .unset]) rfl ?_
      refine XS.iconst X480.here hx rfl (hb hby at_161) ?_
      refine XS.istore X480.here hx rfl (hb hby at_162) rfl (l' := (L0_37 p0 p1 p2 p3 p4 b269 b288)) rfl ?_
      refine XS.iload X480.here hx rfl (hb hby at_164) rfl ?_
      refine XS.ifNo X480.here hx rfl (hb hby at_166) rfl (XT.i0_le_f (by decide : ((0 : Int32) < (3 : Int32)))) ?_
      show Steps _ _ _ (T480.setTop (mkF m 169 (L0_37 p0 p1 p2 p3 p4 b269 b288) [])) _
      refine XS.iload X480.here hx rfl (hb hby at_169) rfl ?_
      refine XS.bipush X480.here hx rfl (hb hby at_171) ?_
      refine XS.icmpYes X480.here hx rfl (pc0 := 173) (pc' := 182) rfl (hb hby at_173) rfl (XT.ii_ne_t hs299) (by decide) (by decide) ?_
      refine XS.iload X480.here hx rfl (hb hby at_182) rfl ?_
      refine XS.iconst X480.here hx rfl (hb hby at_184) ?_
      show Steps _ _ _ (T480.setTop (mkF m 185 (L0_37 p0 p1 p2 p3 p4 b269 b288) [(.int 1), (.int 3)])) _
      refine XS.icmpNo X480.here hx rfl (hb hby at_185) rfl (XT.ii_le_f (by decide : ((1 : Int32) < (3 : Int32)))) ?_
      refine XS.iload X480.here hx rfl (hb hby at_188) rfl ?_
      refine XS.bipush X480.here hx rfl (hb hby at_190) ?_
      refine XS.icmpYes X480.here hx rfl (pc0 := 192) (pc' := 201) rfl (hb hby at_192) rfl (XT.ii_ne_t hs361) (by decide) (by decide) ?_
      refine XS.iload X480.here hx rfl (hb hby at_201) rfl ?_
      show Steps _ _ _ (T480.setTop (mkF m 203 (L0_37 p0 p1 p2 p3 p4 b269 b288) [(.int 3)])) _
      refine XS.iconst X480.here hx rfl (hb hby at_203) ?_
      refine XS.icmpNo X480.here hx rfl (hb hby at_204) rfl (XT.ii_le_f (by decide : ((2 : Int32) < (3 : Int32)))) ?_
      refine XS.iload X480.here hx rfl (hb hby at_207) rfl ?_
      refine XS.bipush X480.here hx rfl (hb hby at_209) ?_
      refine XS.icmpYes X480.here hx rfl (pc0 := 211) (pc' := 220) rfl (hb hby at_211) rfl (XT.ii_ne_t hs421) (by decide) (by decide) ?_
      show Steps _ _ _ (T480.setTop (mkF m 220 (L0_37 p0 p1 p2 p3 p4 b269 b288) [])) _
      refine XS.iload X480.here hx rfl (hb hby at_220) rfl ?_
      refine XS.iconst X480.here hx rfl (hb hby at_222) ?_
      refine XS.icmpYes X480.here hx rfl (pc0 := 223) (pc' := 236) rfl (hb hby at_223) rfl (XT.ii_le_t (by decide : ¬ ((3 : Int32) < (3 : Int32)))) (by decide) (by decide) ?_
      refine XS.iload X480.here hx rfl (hb hby at_236) rfl ?_
      refine XS.ifNo X480.here hx rfl (hb hby at_238) rfl (XT.i0_ge_f (by decide : ((-1 : Int32) < (0 : Int32)))) ?_
      show Steps _ _ _ (T480.setTop (mkF m 241 (L0_37 p0 p1 p2 p3 p4 b269 b288) [])) _
      refine XS.aload X480.here hx rfl (hb hby at_241) rfl rfl ?_
      refine XT.nonnullNo X480.here hx rfl (hb hby at_243) rfl rfl ?_
      refine XS.iconst X480.here hx rfl (hb hby at_246) ?_
      refine XS.goto X480.here hx rfl (pc0 := 247) (pc' := 251) rfl (hb hby at_247) (by decide) (by decide) ?_
      exact k
    obtain ⟨fs, hr, hrun, hended, hRW⟩ := X480.leaveW hS0 (by rw [e480]; exact hk295) (v := some (.int 1)) (fun h => by rw [Bd.returns] at h; cases h) Bd.notSynchronized
    subst hEn
    refine ⟨_, _, go481 _ (Jvm.RoadKit.retOut X480 hx Bd.returns rfl (Or.inl ⟨rfl, Or.inr (Or.inl rfl), _, rfl⟩) (hb hby at_251) hr), hrun, hended, _, _, rfl, ?_, hRW.1, hRW.2.1, hRW.2.2.1, hRW.2.2.2.mono (by decide) (by decide)⟩
    show Q0 _ _ p0 p1 p2 p3 p4 s_COMPACT_STRINGS s_SIOOBE_FORMATTER h0 _ (T480.setFrames fs).heap _
    have hE : (T480.setFrames fs).heap = T295.heap := e480
    rw [hE]
    exact ⟨congrArg (fun z => some (Value.int z)) ((by rw [f0, if_neg hs11, if_neg hs33, if_neg hs117, if_pos hs266, if_neg hs299, if_neg hs361, if_neg hs421] : (1 : Int32) = (f0 p0 p1 p2 p3 p4)).trans (f0_one p0 p1 p2 p3 p4)), N480⟩
  by_cases hs482 : (v0_9 p4) = (4 : Int32)
  · have go483 : Go p.tables e below T8 (mkF m 33 (L0_38 p0 p1 p2 p3 p4) []) En := by
      have q : Go p.tables e below T8 (mkF m  33 #[iv p0, iv p1, iv p2, iv p3, iv p4, iv (f1 p0), iv (f1 p1), iv (f1 p2), iv (f1 p3), iv (v0_9 p4), .unset, .unset, .unset, .unset, .unset, .unset, .unset] []) En := go10
      rw [hs482] at q
      exact q
    have go484 : Go p.tables e below T8 (mkF m 119 (L0_38 p0 p1 p2 p3 p4) [(.int 4)]) En := by
      intro t k
      refine go483 _ ?_
      refine XS.iload X8.here hx rfl (hb hby at_33) rfl ?_
      refine XS.ifYes X8.here hx rfl (pc0 := 35) (pc' := 46) rfl (hb hby at_35) rfl (XT.i0_ne_t (by decide : ¬ ((4 : Int32) = (0 : Int32)))) (by decide) (by decide) ?_
      refine XS.iload X8.here hx rfl (hb hby at_46) rfl ?_
      refine XS.iconst X8.here hx rfl (hb hby at_48) ?_
      refine XS.icmpYes X8.here hx rfl (pc0 := 49) (pc' := 65) rfl (hb hby at_49) rfl (XT.ii_ne_t (by decide : ¬ ((4 : Int32) = (1 : Int32)))) (by decide) (by decide) ?_
      show Steps _ _ _ (T8.setTop (mkF m 65 (L0_38 p0 p1 p2 p3 p4) [])) _
      refine XS.iload X8.here hx rfl (hb hby at_65) rfl ?_
      refine XS.iconst X8.here hx rfl (hb hby at_67) ?_
      refine XS.icmpYes X8.here hx rfl (pc0 := 68) (pc' := 89) rfl (hb hby at_68) rfl (XT.ii_ne_t (by decide : ¬ ((4 : Int32) = (2 : Int32)))) (by decide) (by decide) ?_
      refine XS.iload X8.here hx rfl (hb hby at_89) rfl ?_
      refine XS.iconst X8.here hx rfl (hb hby at_91) ?_
      show Steps _ _ _ (T8.setTop (mkF m 92 (L0_38 p0 p1 p2 p3 p4) [(.int 3), (.int 4)])) _
      refine XS.icmpYes X8.here hx rfl (pc0 := 92) (pc' := 118) rfl (hb hby at_92) rfl (XT.ii_ne_t (by decide : ¬ ((4 : Int32) = (3 : Int32)))) (by decide) (by decide) ?_
      refine XS.iconst X8.here hx rfl (hb hby at_118) ?_
      exact k
    obtain ⟨T485, h485, k485, X485, e485, E485, A485, st485⟩ := newP X8 hx hZ (hw _ (mi 5 rfl)) e8 (g := (mkF m 119 (L0_38 p0 p1 p2 p3 p4) [(.int 4)])) rfl (hb hby at_119) rfl (by decide) (cap := 4) (by decide) (by decide) (by decide) (by decide)
    obtain ⟨b485, g485⟩ : ∃ z, z = h0.size := ⟨_, rfl⟩
    rw [← g485] at A485 st485
    have low485 : n0 ≤ b485 := Nat.le_trans Z0 (Nat.le_of_eq g485.symm)
    have fsh485 : h0.size ≤ b485 := Nat.le_trans K0.1 (Nat.le_of_eq g485.symm)
    have K485 : Keep h0 h485 [] := K0.ext E485
    have Zs485 : n0 ≤ h485.size := Nat.le_trans Z0 E485.1
    have hk485 : s.heap.size ≤ h485.size := Nat.le_trans hk0 E485.1
    have go486 := gap go484 st485
    have F487 : Arv Z h485 b485 k485 .char (4 : Int32) [(.int 0), (.int 0), (.int 0), (.int 0)] (.int 0) := (Arv.new A485 (by decide)).pad (pad_rep [] (.int 0) 4)
    have go488 : Go p.tables e below T485 (mkF m 125 (L0_38 p0 p1 p2 p3 p4) [(.int (f1 p0)), (.int 0), (.ref b485), (.ref b485)]) En := by
      intro t k
      refine go486 _ ?_
      refine XS.dup X485.here hx rfl (hb hby at_121) rfl rfl ?_
      refine XS.iconst X485.here hx rfl (hb hby at_122) ?_
      refine XS.iload X485.here hx rfl (hb hby at_123) rfl ?_
      exact k
    obtain ⟨cl490, Ar490, q490, S490, N490, H490, G490⟩ := id F487
    obtain ⟨T489, h489, X489, e489, W489, st489⟩ := stC X485 hx hZ e485 Ar490 (j := (0 : Int32)) (inb_of S490 ⟨by decide, by decide⟩) (g := (mkF m 125 (L0_38 p0 p1 p2 p3 p4) [(.int (f1 p0)), (.int 0), (.ref b485), (.ref b485)])) rfl rfl (hb hby at_125)
    have go491 := gap go488 st489
    have N489 := Fr.snoc X489 N8 low485
    have K489 : Keep h0 h489 [] := K485.wr W489 (Or.inr fsh485)
    have Zs489 : n0 ≤ h489.size := Nat.le_trans Zs485 (Keep.of_wr W489).1
    have hk489 : s.heap.size ≤ h489.size := Nat.le_trans hk485 (Keep.of_wr W489).1
    have F492 : Arv Z h489 b485 k485 .char (4 : Int32) [(.int (f1 p0).toUInt32.toUInt16.toUInt32.toInt32), (.int 0), (.int 0), (.int 0)] (.int 0) := Arv.set Ar490 q490 S490 N490 H490 G490 (fits_nar_char _) W489 0 rfl (Nat.le_of_ble_eq_true rfl)
    have go493 : Go p.tables e below T489 (mkF m 130 (L0_38 p0 p1 p2 p3 p4) [(.int (f1 p1)), (.int 1), (.ref b485), (.ref b485)]) En := by
      intro t k
      refine go491 _ ?_
      refine XS.dup X489.here hx rfl (hb hby at_126) rfl rfl ?_
      refine XS.iconst X489.here hx rfl (hb hby at_127) ?_
      refine XS.iload X489.here hx rfl (hb hby at_128) rfl ?_
      exact k
    obtain ⟨cl495, Ar495, q495, S495, N495, H495, G495⟩ := id F492
    obtain ⟨T494, h494, X494, e494, W494, st494⟩ := stC X489 hx hZ e489 Ar495 (j := (1 : Int32)) (inb_of S495 ⟨by decide, by decide⟩) (g := (mkF m 130 (L0_38 p0 p1 p2 p3 p4) [(.int (f1 p1)), (.int 1), (.ref b485), (.ref b485)])) rfl rfl (hb hby at_130)
    have go496 := gap go493 st494
    have N494 := Fr.snoc X494 N489 low485
    have K494 : Keep h0 h494 [] := K489.wr W494 (Or.inr fsh485)
    have Zs494 : n0 ≤ h494.size := Nat.le_trans Zs489 (Keep.of_wr W494).1
    have hk494 : s.heap.size ≤ h494.size := Nat.le_trans hk489 (Keep.of_wr W494).1
    have F497 : Arv Z h494 b485 k485 .char (4 : Int32) [(.int (f1 p0).toUInt32.toUInt16.toUInt32.toInt32), (.int (f1 p1).toUInt32.toUInt16.toUInt32.toInt32), (.int 0), (.int 0)] (.int 0) := Arv.set Ar495 q495 S495 N495 H495 G495 (fits_nar_char _) W494 1 rfl (Nat.le_of_ble_eq_true rfl)
    have go498 : Go p.tables e below T494 (mkF m 135 (L0_38 p0 p1 p2 p3 p4) [(.int (f1 p2)), (.int 2), (.ref b485), (.ref b485)]) En := by
      intro t k
      refine go496 _ ?_
      refine XS.dup X494.here hx rfl (hb hby at_131) rfl rfl ?_
      refine XS.iconst X494.here hx rfl (hb hby at_132) ?_
      refine XS.iload X494.here hx rfl (hb hby at_133) rfl ?_
      exact k
    obtain ⟨cl500, Ar500, q500, S500, N500, H500, G500⟩ := id F497
    obtain ⟨T499, h499, X499, e499, W499, st499⟩ := stC X494 hx hZ e494 Ar500 (j := (2 : Int32)) (inb_of S500 ⟨by decide, by decide⟩) (g := (mkF m 135 (L0_38 p0 p1 p2 p3 p4) [(.int (f1 p2)), (.int 2), (.ref b485), (.ref b485)])) rfl rfl (hb hby at_135)
    have go501 := gap go498 st499
    have N499 := Fr.snoc X499 N494 low485
    have K499 : Keep h0 h499 [] := K494.wr W499 (Or.inr fsh485)
    have Zs499 : n0 ≤ h499.size := Nat.le_trans Zs494 (Keep.of_wr W499).1
    have hk499 : s.heap.size ≤ h499.size := Nat.le_trans hk494 (Keep.of_wr W499).1
    have F502 : Arv Z h499 b485 k485 .char (4 : Int32) [(.int (f1 p0).toUInt32.toUInt16.toUInt32.toInt32), (.int (f1 p1).toUInt32.toUInt16.toUInt32.toInt32), (.int (f1 p2).toUInt32.toUInt16.toUInt32.toInt32), (.int 0)] (.int 0) := Arv.set Ar500 q500 S500 N500 H500 G500 (fits_nar_char _) W499 2 rfl (Nat.le_of_ble_eq_true rfl)
    have go503 : Go p.tables e below T499 (mkF m 140 (L0_38 p0 p1 p2 p3 p4) [(.int (f1 p3)), (.int 3), (.ref b485), (.ref b485)]) En := by
      intro t k
      refine go501 _ ?_
      refine XS.dup X499.here hx rfl (hb hby at_136) rfl rfl ?_
      refine XS.iconst X499.here hx rfl (hb hby at_137) ?_
      refine XS.iload X499.here hx rfl (hb hby at_138) rfl ?_
      exact k
    obtain ⟨cl505, Ar505, q505, S505, N505, H505, G505⟩ := id F502
    obtain ⟨T504, h504, X504, e504, W504, st504⟩ := stC X499 hx hZ e499 Ar505 (j := (3 : Int32)) (inb_of S505 ⟨by decide, by decide⟩) (g := (mkF m 140 (L0_38 p0 p1 p2 p3 p4) [(.int (f1 p3)), (.int 3), (.ref b485), (.ref b485)])) rfl rfl (hb hby at_140)
    have go506 := gap go503 st504
    have N504 := Fr.snoc X504 N499 low485
    have K504 : Keep h0 h504 [] := K499.wr W504 (Or.inr fsh485)
    have Zs504 : n0 ≤ h504.size := Nat.le_trans Zs499 (Keep.of_wr W504).1
    have hk504 : s.heap.size ≤ h504.size := Nat.le_trans hk499 (Keep.of_wr W504).1
    have F507 : Arv Z h504 b485 k485 .char (4 : Int32) [(.int (f1 p0).toUInt32.toUInt16.toUInt32.toInt32), (.int (f1 p1).toUInt32.toUInt16.toUInt32.toInt32), (.int (f1 p2).toUInt32.toUInt16.toUInt32.toInt32), (.int (f1 p3).toUInt32.toUInt16.toUInt32.toInt32)] (.int 0) := Arv.set Ar505 q505 S505 N505 H505 G505 (fits_nar_char _) W504 3 rfl (Nat.le_of_ble_eq_true rfl)
    have go508 : Go p.tables e below T504 (mkF m 143 (L0_39 p0 p1 p2 p3 p4 b485) []) En := by
      intro t k
      refine go506 _ ?_
      refine XS.astore X504.here hx rfl (hb hby at_141) rfl rfl (l' := (L0_39 p0 p1 p2 p3 p4 b485)) rfl ?_
      exact k
    obtain ⟨T509, h509, X509, e509, E509, A509, D509, -, st509⟩ := newO X504 hx hZ hown (hw _ (mi 6 rfl)) (hw _ (mi 7 rfl)) (hw _ (mi 8 rfl)) e504 (g := (mkF m 143 (L0_39 p0 p1 p2 p3 p4 b485) [])) rfl (hb hby at_143) (by decide) (by decide)
    obtain ⟨b509, g509⟩ : ∃ z, z = h504.size := ⟨_, rfl⟩
    rw [← g509] at A509 D509 st509
    have ne510 : b485 ≠ b509 := Nat.ne_of_lt (Nat.lt_of_lt_of_le F507.lt (Nat.le_of_eq g509.symm))
    have low509 : n0 ≤ b509 := Nat.le_trans Zs504 (Nat.le_of_eq g509.symm)
    have fsh509 : h0.size ≤ b509 := Nat.le_trans K504.1 (Nat.le_of_eq g509.symm)
    have K509 : Keep h0 h509 [] := K504.ext E509
    have Zs509 : n0 ≤ h509.size := Nat.le_trans Zs504 E509.1
    have hk509 : s.heap.size ≤ h509.size := Nat.le_trans hk504 E509.1
    have go511 := gap go508 st509
    have F512 := F507.ext E509
    have F513 : Fvl Z h509 b509 .null := D509 (Or.inr (hw _ (mi 21 rfl))) (ty := (.array .byte)) (by decide)
    have F514 : Fcd Z h509 b509 (.int 0) := D509 (Or.inr (hw _ (mi 22 rfl))) (ty := .byte) (by decide)
    have go515 : Go p.tables e below T509 (mkF m 149 (L0_39 p0 p1 p2 p3 p4 b485) [(.ref b485), (.ref b509), (.ref b509)]) En := by
      intro t k
      refine go511 _ ?_
      refine XS.dup X509.here hx rfl (hb hby at_146) rfl rfl ?_
      refine XS.aload X509.here hx rfl (hb hby at_147) rfl rfl ?_
      exact k
    obtain ⟨_, T516, Lc516, X516, hQ516, st516⟩ := own_ci X509 hx hZ hown hml go515 (hb hby at_149) e509 (hw _ (mi 9 rfl)) (own_site410 hw) rfl (rmiBn4 l Z aZ hw [] _ _ _ _ _ _ _ _ h509 n0 Zs509 A509 F513 F514 low509 F512 (own_sta_keep S_COMPACT_STRINGS K509 all0) hcs (own_c255 p0) (own_c255 p1) (own_c255 p2) (own_c255 p3)) (by decide) (argsL := [(.ref b485)]) (rest := [(.ref b509)]) rfl rfl rfl (lenOf pd_406 rfl) (W := 1) rfl (by decide) (by decide) (by decide : 2 + 1 ≤ _) (by decide : 8 + 4 ≤ _)
    obtain ⟨rfl, N516q, K516q, G516_0, G516_1, bx516, kx516, GX516, GV516⟩ := hQ516
    have N516 := Fr.app N504 N516q
    have K516 : Keep h0 T516.heap [] := K509.trans K516q (allS (Or.inr fsh509) all0)
    have Zs516 : n0 ≤ T516.heap.size := Nat.le_trans Zs509 K516q.1
    have hk516 : s.heap.size ≤ T516.heap.size := Nat.le_trans hk509 K516q.1
    have F517 := F512.keep K516q (ninS ne510 nin0)
    have F518 := A509.keep K516q
    have go519 : Go p.tables e below T516 (mkF m 154 (L0_40 p0 p1 p2 p3 p4 b485 b509) []) En := by
      intro t k
      refine st516 _ ?_
      refine XS.astore X516.here hx rfl (hb hby at_152) rfl rfl (l' := (L0_40 p0 p1 p2 p3 p4 b485 b509)) rfl ?_
      exact k
    by_cases hs520 : (f1 p0) = (63 : Int32)
    · have go521 : Go p.tables e below T516 (mkF m 156 (L0_40 p0 p1 p2 p3 p4 b485 b509) [(.ref b509)]) En := by
        intro t k
        refine go519 _ ?_
        refine XS.aload X516.here hx rfl (hb hby at_154) rfl rfl ?_
        exact k
      obtain ⟨_, T522, Lc522, X522, hQ522, st522⟩ := own_cs X516 hx hZ hown hml go521 (hb hby at_156) rfl (hw _ (mi 27 rfl)) (own_site407 hw) (rmqs4_0 l Z aZ hw [] _ _ _ _ _ _ _ _ _ T516.heap n0 Zs516 G516_0 G516_1 GX516 GV516 (own_sta_keep S_COMPACT_STRINGS K516 all0) hcs (by rw [fiz4, fiy4, fix4, fic4, if_pos (own_qt p0 hs520)]) (own_sta_keep S_SIOOBE_FORMATTER K516 all0) rS_SIOOBE_FORMATTER) (by decide) (argsL := [(.ref b509)]) (rest := []) rfl rfl rfl (lenOf pd_408 rfl) (W := 0) rfl (by decide) (by decide) (by decide : 3 + 2 ≤ _) (by decide : 12 + 7 ≤ _)
      obtain ⟨b522, bx522, kx522, rfl, N522q, K522q, GE522, GC522, GX522, GV522⟩ := hQ522
      have N522 := Fr.app N516 N522q
      have K522 : Keep h0 T522.heap [] := K516.trans K522q all0
      have Zs522 : n0 ≤ T522.heap.size := Nat.le_trans Zs516 K522q.1
      have hk522 : s.heap.size ≤ T522.heap.size := Nat.le_trans hk516 K522q.1
      have F523 := F517.keep K522q nin0
      have F524 := G516_0.keep K522q
      have F525 := G516_1.keep K522q nin0
      have F526 := GX516.keep K522q nin0
      have F527 := GV516.keep K522q nin0
      have go528 : Go p.tables e below T522 (mkF m 270 (L0_41 p0 p1 p2 p3 p4 b485 b509 b522) [(.ref b522)]) En := by
        intro t k
        refine st522 _ ?_
        refine XS.astore X522.here hx rfl (hb hby at_159) rfl rfl (l' := #[iv p0, iv p1, iv p2, iv p3, iv p4, iv (f1 p0), iv (f1 p1), iv (f1 p2), iv (f1 p3), iv 4, rv b485, rv b509, rv b522, .unset, .unset, .unset, .unset]) rfl ?_
        refine XS.iconst X522.here hx rfl (hb hby at_161) ?_
        refine XS.istore X522.here hx rfl (hb hby at_162) rfl (l' := #[iv p0, iv p1, iv p2, iv p3, iv p4, iv (f1 p0), iv (f1 p1), iv (f1 p2), iv (f1 p3), iv 4, rv b485, rv b509, rv b522, iv (-1), .unset, .unset, .unset]) rfl ?_
        refine XS.iload X522.here hx rfl (hb hby at_164) rfl ?_
        refine XS.ifNo X522.here hx rfl (hb hby at_166) rfl (XT.i0_le_f (by decide : ((0 : Int32) < (4 : Int32)))) ?_
        show Steps _ _ _ (T522.setTop (mkF m 169 #[iv p0, iv p1, iv p2, iv p3, iv p4, iv (f1 p0), iv (f1 p1), iv (f1 p2), iv (f1 p3), iv 4, rv b485, rv b509, rv b522, iv (-1), .unset, .unset, .unset] [])) _
        refine XS.iload X522.here hx rfl (hb hby at_169) rfl ?_
        refine XS.bipush X522.here hx rfl (hb hby at_171) ?_
        refine XS.icmpNo X522.here hx rfl (hb hby at_173) rfl (XT.ii_ne_f hs520) ?_
        refine XS.iconst X522.here hx rfl (hb hby at_176) ?_
        refine XS.istore X522.here hx rfl (hb hby at_177) rfl (l' := (L0_42 p0 p1 p2 p3 p4 b485 b509 b522)) rfl ?_
        show Steps _ _ _ (T522.setTop (mkF m 179 (L0_42 p0 p1 p2 p3 p4 b485 b509 b522) [])) _
        refine XS.goto X522.here hx rfl (pc0 := 179) (pc' := 236) rfl (hb hby at_179) (by decide) (by decide) ?_
        refine XS.iload X522.here hx rfl (hb hby at_236) rfl ?_
        refine XS.ifYes X522.here hx rfl (pc0 := 238) (pc' := 252) rfl (hb hby at_238) rfl (XT.i0_ge_t (by decide : ¬ ((0 : Int32) < (0 : Int32)))) (by decide) (by decide) ?_
        refine XS.aload X522.here hx rfl (hb hby at_252) rfl rfl ?_
        refine XT.nonnullYes X522.here hx rfl (pc0 := 254) (pc' := 259) rfl (hb hby at_254) rfl rfl (fun q => nomatch q) (by decide) (by decide) ?_
        show Steps _ _ _ (T522.setTop (mkF m 259 (L0_42 p0 p1 p2 p3 p4 b485 b509 b522) [])) _
        refine XS.iload X522.here hx rfl (hb hby at_259) rfl ?_
        refine XS.iload X522.here hx rfl (hb hby at_261) rfl ?_
        refine XS.isub X522.here hx rfl (hb hby at_263) rfl ?_
        refine XS.iconst X522.here hx rfl (hb hby at_264) ?_
        refine XS.isub X522.here hx rfl (hb hby at_265) rfl ?_
        show Steps _ _ _ (T522.setTop (mkF m 266 (L0_42 p0 p1 p2 p3 p4 b485 b509 b522) [(.int 3)])) _
        refine XS.istore X522.here hx rfl (hb hby at_266) rfl (l' := (L0_41 p0 p1 p2 p3 p4 b485 b509 b522)) rfl ?_
        refine XS.aload X522.here hx rfl (hb hby at_268) rfl rfl ?_
        exact k
      obtain ⟨_, T529, Lc529, X529, hQ529, st529⟩ := own_cv X522 hx hZ hown hml go528 (hb hby at_270) rfl (hw _ (mi 124 rfl)) (own_site185 hw) GE522 (rmln l Z aZ hw [] _ _ _ _ _ _ T522.heap n0 Zs522 GE522 GC522 GX522 GV522 (own_sta_keep S_COMPACT_STRINGS K522 all0) hcs) (by decide) (argsL := []) (rest := []) rfl rfl rfl (lenOf pd_186 rfl) (W := 0) rfl (by decide) (by decide) (by decide : 5 + 0 ≤ _) (by decide : 19 + 0 ≤ _)
      obtain ⟨rfl, N529q, e529⟩ := hQ529
      have N529 := Fr.app N522 N529q
      have go530 : Go p.tables e below T529 (mkF m 281 (L0_41 p0 p1 p2 p3 p4 b485 b509 b522) [(.int 4)]) En := by
        intro t k
        refine st529 _ ?_
        refine XS.iload X529.here hx rfl (hb hby at_273) rfl ?_
        refine XS.icmpYes X529.here hx rfl (pc0 := 275) (pc' := 280) rfl (hb hby at_275) rfl (XT.ii_eq_t (by decide : ((3 : Int32) = (3 : Int32)))) (by decide) (by decide) ?_
        refine XS.iconst X529.here hx rfl (hb hby at_280) ?_
        exact k
      obtain ⟨T531, h531, k531, X531, e531, E531, A531, st531⟩ := newP X529 hx hZ (hw _ (mi 5 rfl)) e529 (g := (mkF m 281 (L0_41 p0 p1 p2 p3 p4 b485 b509 b522) [(.int 4)])) rfl (hb hby at_281) rfl (by decide) (cap := 4) (by decide) (by decide) (by decide) (by decide)
      obtain ⟨b531, g531⟩ : ∃ z, z = T522.heap.size := ⟨_, rfl⟩
      rw [← g531] at A531 st531
      have ne532 : b522 ≠ b531 := Nat.ne_of_lt (Nat.lt_of_lt_of_le GE522.lt (Nat.le_of_eq g531.symm))
      have ne533 : bx522 ≠ b531 := Nat.ne_of_lt (Nat.lt_of_lt_of_le GV522.lt (Nat.le_of_eq g531.symm))
      have low531 : n0 ≤ b531 := Nat.le_trans Zs522 (Nat.le_of_eq g531.symm)
      have fsh531 : h0.size ≤ b531 := Nat.le_trans K522.1 (Nat.le_of_eq g531.symm)
      have K531 : Keep h0 h531 [] := K522.ext E531
      have Zs531 : n0 ≤ h531.size := Nat.le_trans Zs522 E531.1
      have hk531 : s.heap.size ≤ h531.size := Nat.le_trans hk522 E531.1
      have go534 := gap go530 st531
      have F535 := GE522.ext E531
      have F536 := GC522.ext E531
      have F537 := GX522.ext E531
      have F538 := GV522.ext E531
      have F539 : Arv Z h531 b531 k531 .char (4 : Int32) [(.int 0), (.int 0), (.int 0), (.int 0)] (.int 0) := (Arv.new A531 (by decide)).pad (pad_rep [] (.int 0) 4)
      have go540 : Go p.tables e below T531 (mkF m 287 (L0_41 p0 p1 p2 p3 p4 b485 b509 b522) [(.int (f1 p0)), (.int 0), (.ref b531), (.ref b531)]) En := by
        intro t k
        refine go534 _ ?_
        refine XS.dup X531.here hx rfl (hb hby at_283) rfl rfl ?_
        refine XS.iconst X531.here hx rfl (hb hby at_284) ?_
        refine XS.iload X531.here hx rfl (hb hby at_285) rfl ?_
        exact k
      obtain ⟨cl542, Ar542, q542, S542, N542, H542, G542⟩ := id F539
      obtain ⟨T541, h541, X541, e541, W541, st541⟩ := stC X531 hx hZ e531 Ar542 (j := (0 : Int32)) (inb_of S542 ⟨by decide, by decide⟩) (g := (mkF m 287 (L0_41 p0 p1 p2 p3 p4 b485 b509 b522) [(.int (f1 p0)), (.int 0), (.ref b531), (.ref b531)])) rfl rfl (hb hby at_287)
      have go543 := gap go540 st541
      have N541 := Fr.snoc X541 N529 low531
      have K541 : Keep h0 h541 [] := K531.wr W541 (Or.inr fsh531)
      have Zs541 : n0 ≤ h541.size := Nat.le_trans Zs531 (Keep.of_wr W541).1
      have hk541 : s.heap.size ≤ h541.size := Nat.le_trans hk531 (Keep.of_wr W541).1
      have F544 := F535.wr W541
      have F545 := F536.other W541 (Or.inl ne532)
      have F546 := F537.other W541 (Or.inl ne532)
      have F547 := F538.other W541 ne533
      have F548 : Arv Z h541 b531 k531 .char (4 : Int32) [(.int (f1 p0).toUInt32.toUInt16.toUInt32.toInt32), (.int 0), (.int 0), (.int 0)] (.int 0) := Arv.set Ar542 q542 S542 N542 H542 G542 (fits_nar_char _) W541 0 rfl (Nat.le_of_ble_eq_true rfl)
      have go549 : Go p.tables e below T541 (mkF m 292 (L0_41 p0 p1 p2 p3 p4 b485 b509 b522) [(.int (f1 p1)), (.int 1), (.ref b531), (.ref b531)]) En := by
        intro t k
        refine go543 _ ?_
        refine XS.dup X541.here hx rfl (hb hby at_288) rfl rfl ?_
        refine XS.iconst X541.here hx rfl (hb hby at_289) ?_
        refine XS.iload X541.here hx rfl (hb hby at_290) rfl ?_
        exact k
      obtain ⟨cl551, Ar551, q551, S551, N551, H551, G551⟩ := id F548
      obtain ⟨T550, h550, X550, e550, W550, st550⟩ := stC X541 hx hZ e541 Ar551 (j := (1 : Int32)) (inb_of S551 ⟨by decide, by decide⟩) (g := (mkF m 292 (L0_41 p0 p1 p2 p3 p4 b485 b509 b522) [(.int (f1 p1)), (.int 1), (.ref b531), (.ref b531)])) rfl rfl (hb hby at_292)
      have go552 := gap go549 st550
      have N550 := Fr.snoc X550 N541 low531
      have K550 : Keep h0 h550 [] := K541.wr W550 (Or.inr fsh531)
      have Zs550 : n0 ≤ h550.size := Nat.le_trans Zs541 (Keep.of_wr W550).1
      have hk550 : s.heap.size ≤ h550.size := Nat.le_trans hk541 (Keep.of_wr W550).1
      have F553 := F544.wr W550
      have F554 := F545.other W550 (Or.inl ne532)
      have F555 := F546.other W550 (Or.inl ne532)
      have F556 := F547.other W550 ne533
      have F557 : Arv Z h550 b531 k531 .char (4 : Int32) [(.int (f1 p0).toUInt32.toUInt16.toUInt32.toInt32), (.int (f1 p1).toUInt32.toUInt16.toUInt32.toInt32), (.int 0), (.int 0)] (.int 0) := Arv.set Ar551 q551 S551 N551 H551 G551 (fits_nar_char _) W550 1 rfl (Nat.le_of_ble_eq_true rfl)
      have go558 : Go p.tables e below T550 (mkF m 297 (L0_41 p0 p1 p2 p3 p4 b485 b509 b522) [(.int (f1 p2)), (.int 2), (.ref b531), (.ref b531)]) En := by
        intro t k
        refine go552 _ ?_
        refine XS.dup X550.here hx rfl (hb hby at_293) rfl rfl ?_
        refine XS.iconst X550.here hx rfl (hb hby at_294) ?_
        refine XS.iload X550.here hx rfl (hb hby at_295) rfl ?_
        exact k
      obtain ⟨cl560, Ar560, q560, S560, N560, H560, G560⟩ := id F557
      obtain ⟨T559, h559, X559, e559, W559, st559⟩ := stC X550 hx hZ e550 Ar560 (j := (2 : Int32)) (inb_of S560 ⟨by decide, by decide⟩) (g := (mkF m 297 (L0_41 p0 p1 p2 p3 p4 b485 b509 b522) [(.int (f1 p2)), (.int 2), (.ref b531), (.ref b531)])) rfl rfl (hb hby at_297)
      have go561 := gap go558 st559
      have N559 := Fr.snoc X559 N550 low531
      have K559 : Keep h0 h559 [] := K550.wr W559 (Or.inr fsh531)
      have Zs559 : n0 ≤ h559.size := Nat.le_trans Zs550 (Keep.of_wr W559).1
      have hk559 : s.heap.size ≤ h559.size := Nat.le_trans hk550 (Keep.of_wr W559).1
      have F562 := F553.wr W559
      have F563 := F554.other W559 (Or.inl ne532)
      have F564 := F555.other W559 (Or.inl ne532)
      have F565 := F556.other W559 ne533
      have F566 : Arv Z h559 b531 k531 .char (4 : Int32) [(.int (f1 p0).toUInt32.toUInt16.toUInt32.toInt32), (.int (f1 p1).toUInt32.toUInt16.toUInt32.toInt32), (.int (f1 p2).toUInt32.toUInt16.toUInt32.toInt32), (.int 0)] (.int 0) := Arv.set Ar560 q560 S560 N560 H560 G560 (fits_nar_char _) W559 2 rfl (Nat.le_of_ble_eq_true rfl)
      have go567 : Go p.tables e below T559 (mkF m 302 (L0_41 p0 p1 p2 p3 p4 b485 b509 b522) [(.int (f1 p3)), (.int 3), (.ref b531), (.ref b531)]) En := by
        intro t k
        refine go561 _ ?_
        refine XS.dup X559.here hx rfl (hb hby at_298) rfl rfl ?_
        refine XS.iconst X559.here hx rfl (hb hby at_299) ?_
        refine XS.iload X559.here hx rfl (hb hby at_300) rfl ?_
        exact k
      obtain ⟨cl569, Ar569, q569, S569, N569, H569, G569⟩ := id F566
      obtain ⟨T568, h568, X568, e568, W568, st568⟩ := stC X559 hx hZ e559 Ar569 (j := (3 : Int32)) (inb_of S569 ⟨by decide, by decide⟩) (g := (mkF m 302 (L0_41 p0 p1 p2 p3 p4 b485 b509 b522) [(.int (f1 p3)), (.int 3), (.ref b531), (.ref b531)])) rfl rfl (hb hby at_302)
      have go570 := gap go567 st568
      have N568 := Fr.snoc X568 N559 low531
      have K568 : Keep h0 h568 [] := K559.wr W568 (Or.inr fsh531)
      have Zs568 : n0 ≤ h568.size := Nat.le_trans Zs559 (Keep.of_wr W568).1
      have hk568 : s.heap.size ≤ h568.size := Nat.le_trans hk559 (Keep.of_wr W568).1
      have F571 := F562.wr W568
      have F572 := F563.other W568 (Or.inl ne532)
      have F573 := F564.other W568 (Or.inl ne532)
      have F574 := F565.other W568 ne533
      have F575 : Arv Z h568 b531 k531 .char (4 : Int32) [(.int (f1 p0).toUInt32.toUInt16.toUInt32.toInt32), (.int (f1 p1).toUInt32.toUInt16.toUInt32.toInt32), (.int (f1 p2).toUInt32.toUInt16.toUInt32.toInt32), (.int (f1 p3).toUInt32.toUInt16.toUInt32.toInt32)] (.int 0) := Arv.set Ar569 q569 S569 N569 H569 G569 (fits_nar_char _) W568 3 rfl (Nat.le_of_ble_eq_true rfl)
      have go576 : Go p.tables e below T568 (mkF m 321 (L0_43 p0 p1 p2 p3 p4 b485 b509 b522 b531) [(.int 0), (.ref b522)]) En := by
        intro t k
        refine go570 _ ?_
        refine XS.astore X568.here hx rfl (hb hby at_303) rfl rfl (l' := #[iv p0, iv p1, iv p2, iv p3, iv p4, iv (f1 p0), iv (f1 p1), iv (f1 p2), iv (f1 p3), iv 4, rv b485, rv b509, rv b522, iv 0, iv 3, rv b531, .unset]) rfl ?_
        refine XS.iconst X568.here hx rfl (hb hby at_305) ?_
        refine XS.istore X568.here hx rfl (hb hby at_306) rfl (l' := (L0_43 p0 p1 p2 p3 p4 b485 b509 b522 b531)) rfl ?_
        refine XS.iload X568.here hx rfl (hb hby at_308) rfl ?_
        refine XS.ifNo X568.here hx rfl (hb hby at_310) rfl (XT.i0_le_f (by decide : ((0 : Int32) < (3 : Int32)))) ?_
        show Steps _ _ _ (T568.setTop (mkF m 313 (L0_43 p0 p1 p2 p3 p4 b485 b509 b522 b531) [])) _
        refine XS.iload X568.here hx rfl (hb hby at_313) rfl ?_
        refine XS.ifNo X568.here hx rfl (hb hby at_315) rfl (XT.i0_eq_f (by decide : ¬ ((1 : Int32) = (0 : Int32)))) ?_
        refine XS.aload X568.here hx rfl (hb hby at_318) rfl rfl ?_
        refine XS.iconst X568.here hx rfl (hb hby at_320) ?_
        exact k
      obtain ⟨_, T577, Lc577, X577, hQ577, st577⟩ := own_cv X568 hx hZ hown hml go576 (hb hby at_321) e568 (hw _ (mi 125 rfl)) (own_site413 hw) F571 (rmsca l Z aZ hw [] _ (0 : Int32) _ _ _ _ _ _ (f1 p1).toUInt32.toUInt16.toUInt32.toInt32.toInt8.toInt32.toInt8.toInt32 h568 n0 Zs568 F571 F572 F573 F574 (own_sta_keep S_COMPACT_STRINGS K568 all0) hcs (own_sta_keep S_SIOOBE_FORMATTER K568 all0) rS_SIOOBE_FORMATTER (by decide) (by decide) rfl) (by decide) (argsL := [(.int 0)]) (rest := []) rfl rfl rfl (lenOf pd_404 rfl) (W := 0) rfl (by decide) (by decide) (by decide : 6 + 0 ≤ _) (by decide : 23 + 0 ≤ _)
      obtain ⟨rfl, N577q, e577⟩ := hQ577
      have N577 := Fr.app N568 N577q
      obtain ⟨cl578, Ar578, q578, S578, N578, H578, G578⟩ := id F575
      have go579 : Go p.tables e below T577 (mkF m 355 (L0_43 p0 p1 p2 p3 p4 b485 b509 b522 b531) [(.int 1), (.ref b522)]) En := by
        intro t k
        refine st577 _ ?_
        refine XS.aload X577.here hx rfl (hb hby at_324) rfl rfl ?_
        refine XS.iload X577.here hx rfl (hb hby at_326) rfl ?_
        refine XS.iconst X577.here hx rfl (hb hby at_328) ?_
        refine XS.iadd X577.here hx rfl (hb hby at_329) rfl ?_
        refine X577.caload hx (j := (1 : Int32)) (v := (.int (f1 p1).toUInt32.toUInt16.toUInt32.toInt32)) (by rw [e577]; exact Ar578.1) (State.isArrayOf_alike hZ.alike Ar578.2.1) Ar578.2.2 (inb_of S578 ⟨by decide, by decide⟩) (Has.at H578 (inb_of S578 ⟨by decide, by decide⟩) rfl) (g := (mkF m 330 (L0_43 p0 p1 p2 p3 p4 b485 b509 b522 b531) [(.int 1), (.ref b531), (.int (fsca (f1 p1).toUInt32.toUInt16.toUInt32.toInt32.toInt8.toInt32.toInt8.toInt32))])) rfl rfl (hb hby at_330) _ ?_
        show Steps _ _ _ (T577.setTop (mkF m 331 (L0_43 p0 p1 p2 p3 p4 b485 b509 b522 b531) [(.int (f1 p1).toUInt32.toUInt16.toUInt32.toInt32), (.int (fsca (f1 p1).toUInt32.toUInt16.toUInt32.toInt32.toInt8.toInt32.toInt8.toInt32))])) _
        refine XS.icmpNo X577.here hx rfl (hb hby at_331) rfl (XT.ii_ne_f (own_bk414 p1)) ?_
        refine XS.iconst X577.here hx rfl (hb hby at_334) ?_
        refine XS.goto X577.here hx rfl (pc0 := 335) (pc' := 339) rfl (hb hby at_335) (by decide) (by decide) ?_
        refine XS.istore X577.here hx rfl (hb hby at_339) rfl (l' := (L0_43 p0 p1 p2 p3 p4 b485 b509 b522 b531)) rfl ?_
        refine XS.iload X577.here hx rfl (hb hby at_341) rfl ?_
        show Steps _ _ _ (T577.setTop (mkF m 343 (L0_43 p0 p1 p2 p3 p4 b485 b509 b522 b531) [(.int 3)])) _
        refine XS.iconst X577.here hx rfl (hb hby at_343) ?_
        refine XS.icmpNo X577.here hx rfl (hb hby at_344) rfl (XT.ii_le_f (by decide : ((1 : Int32) < (3 : Int32)))) ?_
        refine XS.iload X577.here hx rfl (hb hby at_347) rfl ?_
        refine XS.ifNo X577.here hx rfl (hb hby at_349) rfl (XT.i0_eq_f (by decide : ¬ ((1 : Int32) = (0 : Int32)))) ?_
        refine XS.aload X577.here hx rfl (hb hby at_352) rfl rfl ?_
        show Steps _ _ _ (T577.setTop (mkF m 354 (L0_43 p0 p1 p2 p3 p4 b485 b509 b522 b531) [(.ref b522)])) _
        refine XS.iconst X577.here hx rfl (hb hby at_354) ?_
        exact k
      obtain ⟨_, T580, Lc580, X580, hQ580, st580⟩ := own_cv X577 hx hZ hown hml go579 (hb hby at_355) e577 (hw _ (mi 125 rfl)) (own_site413 hw) F571 (rmsca l Z aZ hw [] _ (1 : Int32) _ _ _ _ _ _ (f1 p2).toUInt32.toUInt16.toUInt32.toInt32.toInt8.toInt32.toInt8.toInt32 h568 n0 Zs568 F571 F572 F573 F574 (own_sta_keep S_COMPACT_STRINGS K568 all0) hcs (own_sta_keep S_SIOOBE_FORMATTER K568 all0) rS_SIOOBE_FORMATTER (by decide) (by decide) rfl) (by decide) (argsL := [(.int 1)]) (rest := []) rfl rfl rfl (lenOf pd_404 rfl) (W := 0) rfl (by decide) (by decide) (by decide : 6 + 0 ≤ _) (by decide : 23 + 0 ≤ _)
      obtain ⟨rfl, N580q, e580⟩ := hQ580
      have N580 := Fr.app N577 N580q
      have go581 : Go p.tables e below T580 (mkF m 389 (L0_43 p0 p1 p2 p3 p4 b485 b509 b522 b531) [(.int 2), (.ref b522)]) En := by
        intro t k
        refine st580 _ ?_
        refine XS.aload X580.here hx rfl (hb hby at_358) rfl rfl ?_
        refine XS.iload X580.here hx rfl (hb hby at_360) rfl ?_
        refine XS.iconst X580.here hx rfl (hb hby at_362) ?_
        refine XS.iadd X580.here hx rfl (hb hby at_363) rfl ?_
        refine X580.caload hx (j := (2 : Int32)) (v := (.int (f1 p2).toUInt32.toUInt16.toUInt32.toInt32)) (by rw [e580]; exact Ar578.1) (State.isArrayOf_alike hZ.alike Ar578.2.1) Ar578.2.2 (inb_of S578 ⟨by decide, by decide⟩) (Has.at H578 (inb_of S578 ⟨by decide, by decide⟩) rfl) (g := (mkF m 364 (L0_43 p0 p1 p2 p3 p4 b485 b509 b522 b531) [(.int 2), (.ref b531), (.int (fsca (f1 p2).toUInt32.toUInt16.toUInt32.toInt32.toInt8.toInt32.toInt8.toInt32))])) rfl rfl (hb hby at_364) _ ?_
        show Steps _ _ _ (T580.setTop (mkF m 365 (L0_43 p0 p1 p2 p3 p4 b485 b509 b522 b531) [(.int (f1 p2).toUInt32.toUInt16.toUInt32.toInt32), (.int (fsca (f1 p2).toUInt32.toUInt16.toUInt32.toInt32.toInt8.toInt32.toInt8.toInt32))])) _
        refine XS.icmpNo X580.here hx rfl (hb hby at_365) rfl (XT.ii_ne_f (own_bk414 p2)) ?_
        refine XS.iconst X580.here hx rfl (hb hby at_368) ?_
        refine XS.goto X580.here hx rfl (pc0 := 369) (pc' := 373) rfl (hb hby at_369) (by decide) (by decide) ?_
        refine XS.istore X580.here hx rfl (hb hby at_373) rfl (l' := (L0_43 p0 p1 p2 p3 p4 b485 b509 b522 b531)) rfl ?_
        refine XS.iload X580.here hx rfl (hb hby at_375) rfl ?_
        show Steps _ _ _ (T580.setTop (mkF m 377 (L0_43 p0 p1 p2 p3 p4 b485 b509 b522 b531) [(.int 3)])) _
        refine XS.iconst X580.here hx rfl (hb hby at_377) ?_
        refine XS.icmpNo X580.here hx rfl (hb hby at_378) rfl (XT.ii_le_f (by decide : ((2 : Int32) < (3 : Int32)))) ?_
        refine XS.iload X580.here hx rfl (hb hby at_381) rfl ?_
        refine XS.ifNo X580.here hx rfl (hb hby at_383) rfl (XT.i0_eq_f (by decide : ¬ ((1 : Int32) = (0 : Int32)))) ?_
        refine XS.aload X580.here hx rfl (hb hby at_386) rfl rfl ?_
        show Steps _ _ _ (T580.setTop (mkF m 388 (L0_43 p0 p1 p2 p3 p4 b485 b509 b522 b531) [(.ref b522)])) _
        refine XS.iconst X580.here hx rfl (hb hby at_388) ?_
        exact k
      obtain ⟨_, T582, Lc582, X582, hQ582, st582⟩ := own_cv X580 hx hZ hown hml go581 (hb hby at_389) e580 (hw _ (mi 125 rfl)) (own_site413 hw) F571 (rmsca l Z aZ hw [] _ (2 : Int32) _ _ _ _ _ _ (f1 p3).toUInt32.toUInt16.toUInt32.toInt32.toInt8.toInt32.toInt8.toInt32 h568 n0 Zs568 F571 F572 F573 F574 (own_sta_keep S_COMPACT_STRINGS K568 all0) hcs (own_sta_keep S_SIOOBE_FORMATTER K568 all0) rS_SIOOBE_FORMATTER (by decide) (by decide) rfl) (by decide) (argsL := [(.int 2)]) (rest := []) rfl rfl rfl (lenOf pd_404 rfl) (W := 0) rfl (by decide) (by decide) (by decide : 6 + 0 ≤ _) (by decide : 23 + 0 ≤ _)
      obtain ⟨rfl, N582q, e582⟩ := hQ582
      have N582 := Fr.app N580 N582q
      have go583 : Go p.tables e below T582 (mkF m 411 (L0_43 p0 p1 p2 p3 p4 b485 b509 b522 b531) [(.int 1)]) En := by
        intro t k
        refine st582 _ ?_
        refine XS.aload X582.here hx rfl (hb hby at_392) rfl rfl ?_
        refine XS.iload X582.here hx rfl (hb hby at_394) rfl ?_
        refine XS.iconst X582.here hx rfl (hb hby at_396) ?_
        refine XS.iadd X582.here hx rfl (hb hby at_397) rfl ?_
        refine X582.caload hx (j := (3 : Int32)) (v := (.int (f1 p3).toUInt32.toUInt16.toUInt32.toInt32)) (by rw [e582]; exact Ar578.1) (State.isArrayOf_alike hZ.alike Ar578.2.1) Ar578.2.2 (inb_of S578 ⟨by decide, by decide⟩) (Has.at H578 (inb_of S578 ⟨by decide, by decide⟩) rfl) (g := (mkF m 398 (L0_43 p0 p1 p2 p3 p4 b485 b509 b522 b531) [(.int 3), (.ref b531), (.int (fsca (f1 p3).toUInt32.toUInt16.toUInt32.toInt32.toInt8.toInt32.toInt8.toInt32))])) rfl rfl (hb hby at_398) _ ?_
        show Steps _ _ _ (T582.setTop (mkF m 399 (L0_43 p0 p1 p2 p3 p4 b485 b509 b522 b531) [(.int (f1 p3).toUInt32.toUInt16.toUInt32.toInt32), (.int (fsca (f1 p3).toUInt32.toUInt16.toUInt32.toInt32.toInt8.toInt32.toInt8.toInt32))])) _
        refine XS.icmpNo X582.here hx rfl (hb hby at_399) rfl (XT.ii_ne_f (own_bk414 p3)) ?_
        refine XS.iconst X582.here hx rfl (hb hby at_402) ?_
        refine XS.goto X582.here hx rfl (pc0 := 403) (pc' := 407) rfl (hb hby at_403) (by decide) (by decide) ?_
        refine XS.istore X582.here hx rfl (hb hby at_407) rfl (l' := (L0_43 p0 p1 p2 p3 p4 b485 b509 b522 b531)) rfl ?_
        refine XS.iload X582.here hx rfl (hb hby at_409) rfl ?_
        show Steps _ _ _ (T582.setTop (mkF m 411 (L0_43 p0 p1 p2 p3 p4 b485 b509 b522 b531) [(.int 1)])) _
        exact k
      obtain ⟨fs, hr, hrun, hended, hRW⟩ := X582.leaveW hS0 (by rw [e582]; exact hk568) (v := some (.int 1)) (fun h => by rw [Bd.returns] at h; cases h) Bd.notSynchronized
      subst hEn
      refine ⟨_, _, go583 _ (Jvm.RoadKit.retOut X582 hx Bd.returns rfl (Or.inl ⟨rfl, Or.inr (Or.inl rfl), _, rfl⟩) (hb hby at_411) hr), hrun, hended, _, _, rfl, ?_, hRW.1, hRW.2.1, hRW.2.2.1, hRW.2.2.2.mono (by decide) (by decide)⟩
      show Q0 _ _ p0 p1 p2 p3 p4 s_COMPACT_STRINGS s_SIOOBE_FORMATTER h0 _ (T582.setFrames fs).heap _
      have hE : (T582.setFrames fs).heap = h568 := e582
      rw [hE]
      exact ⟨congrArg (fun z => some (Value.int z)) ((by rw [f0, if_neg hs11, if_neg hs33, if_neg hs117, if_neg hs266, if_pos hs482, if_pos hs520] : (1 : Int32) = (f0 p0 p1 p2 p3 p4)).trans (f0_one p0 p1 p2 p3 p4)), N582⟩
    by_cases hs584 : (f1 p1) = (63 : Int32)
    · have go585 : Go p.tables e below T516 (mkF m 156 (L0_40 p0 p1 p2 p3 p4 b485 b509) [(.ref b509)]) En := by
        intro t k
        refine go519 _ ?_
        refine XS.aload X516.here hx rfl (hb hby at_154) rfl rfl ?_
        exact k
      obtain ⟨_, T586, Lc586, X586, hQ586, st586⟩ := own_cs X516 hx hZ hown hml go585 (hb hby at_156) rfl (hw _ (mi 27 rfl)) (own_site407 hw) (rmqs4_1 l Z aZ hw [] _ _ _ _ _ _ _ _ _ T516.heap n0 Zs516 G516_0 G516_1 GX516 GV516 (own_sta_keep S_COMPACT_STRINGS K516 all0) hcs (by rw [fiz4, fiy4, fix4, fic4, if_neg (own_qf p0 hs520), if_pos (own_qt p1 hs584)]) (own_sta_keep S_SIOOBE_FORMATTER K516 all0) rS_SIOOBE_FORMATTER) (by decide) (argsL := [(.ref b509)]) (rest := []) rfl rfl rfl (lenOf pd_408 rfl) (W := 0) rfl (by decide) (by decide) (by decide : 3 + 2 ≤ _) (by decide : 12 + 6 ≤ _)
      obtain ⟨b586, bx586, kx586, rfl, N586q, K586q, GE586, GC586, GX586, GV586⟩ := hQ586
      have N586 := Fr.app N516 N586q
      have K586 : Keep h0 T586.heap [] := K516.trans K586q all0
      have Zs586 : n0 ≤ T586.heap.size := Nat.le_trans Zs516 K586q.1
      have hk586 : s.heap.size ≤ T586.heap.size := Nat.le_trans hk516 K586q.1
      have F587 := F517.keep K586q nin0
      have F588 := G516_0.keep K586q
      have F589 := G516_1.keep K586q nin0
      have F590 := GX516.keep K586q nin0
      have F591 := GV516.keep K586q nin0
      have go592 : Go p.tables e below T586 (mkF m 270 (L0_44 p0 p1 p2 p3 p4 b485 b509 b586) [(.ref b586)]) En := by
        intro t k
        refine st586 _ ?_
        refine XS.astore X586.here hx rfl (hb hby at_159) rfl rfl (l' := #[iv p0, iv p1, iv p2, iv p3, iv p4, iv (f1 p0), iv (f1 p1), iv (f1 p2), iv (f1 p3), iv 4, rv b485, rv b509, rv b586, .unset, .unset, .unset, .unset]) rfl ?_
        refine XS.iconst X586.here hx rfl (hb hby at_161) ?_
        refine XS.istore X586.here hx rfl (hb hby at_162) rfl (l' := (L0_45 p0 p1 p2 p3 p4 b485 b509 b586)) rfl ?_
        refine XS.iload X586.here hx rfl (hb hby at_164) rfl ?_
        refine XS.ifNo X586.here hx rfl (hb hby at_166) rfl (XT.i0_le_f (by decide : ((0 : Int32) < (4 : Int32)))) ?_
        show Steps _ _ _ (T586.setTop (mkF m 169 (L0_45 p0 p1 p2 p3 p4 b485 b509 b586) [])) _
        refine XS.iload X586.here hx rfl (hb hby at_169) rfl ?_
        refine XS.bipush X586.here hx rfl (hb hby at_171) ?_
        refine XS.icmpYes X586.here hx rfl (pc0 := 173) (pc' := 182) rfl (hb hby at_173) rfl (XT.ii_ne_t hs520) (by decide) (by decide) ?_
        refine XS.iload X586.here hx rfl (hb hby at_182) rfl ?_
        refine XS.iconst X586.here hx rfl (hb hby at_184) ?_
        show Steps _ _ _ (T586.setTop (mkF m 185 (L0_45 p0 p1 p2 p3 p4 b485 b509 b586) [(.int 1), (.int 4)])) _
        refine XS.icmpNo X586.here hx rfl (hb hby at_185) rfl (XT.ii_le_f (by decide : ((1 : Int32) < (4 : Int32)))) ?_
        refine XS.iload X586.here hx rfl (hb hby at_188) rfl ?_
        refine XS.bipush X586.here hx rfl (hb hby at_190) ?_
        refine XS.icmpNo X586.here hx rfl (hb hby at_192) rfl (XT.ii_ne_f hs584) ?_
        refine XS.iconst X586.here hx rfl (hb hby at_195) ?_
        show Steps _ _ _ (T586.setTop (mkF m 196 (L0_45 p0 p1 p2 p3 p4 b485 b509 b586) [(.int 1)])) _
        refine XS.istore X586.here hx rfl (hb hby at_196) rfl (l' := (L0_46 p0 p1 p2 p3 p4 b485 b509 b586)) rfl ?_
        refine XS.goto X586.here hx rfl (pc0 := 198) (pc' := 236) rfl (hb hby at_198) (by decide) (by decide) ?_
        refine XS.iload X586.here hx rfl (hb hby at_236) rfl ?_
        refine XS.ifYes X586.here hx rfl (pc0 := 238) (pc' := 252) rfl (hb hby at_238) rfl (XT.i0_ge_t (by decide : ¬ ((1 : Int32) < (0 : Int32)))) (by decide) (by decide) ?_
        refine XS.aload X586.here hx rfl (hb hby at_252) rfl rfl ?_
        show Steps _ _ _ (T586.setTop (mkF m 254 (L0_46 p0 p1 p2 p3 p4 b485 b509 b586) [(.ref b586)])) _
        refine XT.nonnullYes X586.here hx rfl (pc0 := 254) (pc' := 259) rfl (hb hby at_254) rfl rfl (fun q => nomatch q) (by decide) (by decide) ?_
        refine XS.iload X586.here hx rfl (hb hby at_259) rfl ?_
        refine XS.iload X586.here hx rfl (hb hby at_261) rfl ?_
        refine XS.isub X586.here hx rfl (hb hby at_263) rfl ?_
        refine XS.iconst X586.here hx rfl (hb hby at_264) ?_
        show Steps _ _ _ (T586.setTop (mkF m 265 (L0_46 p0 p1 p2 p3 p4 b485 b509 b586) [(.int 1), (.int 3)])) _
        refine XS.isub X586.here hx rfl (hb hby at_265) rfl ?_
        refine XS.istore X586.here hx rfl (hb hby at_266) rfl (l' := (L0_44 p0 p1 p2 p3 p4 b485 b509 b586)) rfl ?_
        refine XS.aload X586.here hx rfl (hb hby at_268) rfl rfl ?_
        exact k
      obtain ⟨_, T593, Lc593, X593, hQ593, st593⟩ := own_cv X586 hx hZ hown hml go592 (hb hby at_270) rfl (hw _ (mi 124 rfl)) (own_site185 hw) GE586 (rmln l Z aZ hw [] _ _ _ _ _ _ T586.heap n0 Zs586 GE586 GC586 GX586 GV586 (own_sta_keep S_COMPACT_STRINGS K586 all0) hcs) (by decide) (argsL := []) (rest := []) rfl rfl rfl (lenOf pd_186 rfl) (W := 0) rfl (by decide) (by decide) (by decide : 5 + 0 ≤ _) (by decide : 18 + 0 ≤ _)
      obtain ⟨rfl, N593q, e593⟩ := hQ593
      have N593 := Fr.app N586 N593q
      have go594 : Go p.tables e below T593 (mkF m 281 (L0_44 p0 p1 p2 p3 p4 b485 b509 b586) [(.int 4)]) En := by
        intro t k
        refine st593 _ ?_
        refine XS.iload X593.here hx rfl (hb hby at_273) rfl ?_
        refine XS.icmpYes X593.here hx rfl (pc0 := 275) (pc' := 280) rfl (hb hby at_275) rfl (XT.ii_eq_t (by decide : ((2 : Int32) = (2 : Int32)))) (by decide) (by decide) ?_
        refine XS.iconst X593.here hx rfl (hb hby at_280) ?_
        exact k
      obtain ⟨T595, h595, k595, X595, e595, E595, A595, st595⟩ := newP X593 hx hZ (hw _ (mi 5 rfl)) e593 (g := (mkF m 281 (L0_44 p0 p1 p2 p3 p4 b485 b509 b586) [(.int 4)])) rfl (hb hby at_281) rfl (by decide) (cap := 4) (by decide) (by decide) (by decide) (by decide)
      obtain ⟨b595, g595⟩ : ∃ z, z = T586.heap.size := ⟨_, rfl⟩
      rw [← g595] at A595 st595
      have ne596 : b586 ≠ b595 := Nat.ne_of_lt (Nat.lt_of_lt_of_le GE586.lt (Nat.le_of_eq g595.symm))
      have ne597 : bx586 ≠ b595 := Nat.ne_of_lt (Nat.lt_of_lt_of_le GV586.lt (Nat.le_of_eq g595.symm))
      have low595 : n0 ≤ b595 := Nat.le_trans Zs586 (Nat.le_of_eq g595.symm)
      have fsh595 : h0.size ≤ b595 := Nat.le_trans K586.1 (Nat.le_of_eq g595.symm)
      have K595 : Keep h0 h595 [] := K586.ext E595
      have Zs595 : n0 ≤ h595.size := Nat.le_trans Zs586 E595.1
      have hk595 : s.heap.size ≤ h595.size := Nat.le_trans hk586 E595.1
      have go598 := gap go594 st595
      have F599 := GE586.ext E595
      have F600 := GC586.ext E595
      have F601 := GX586.ext E595
      have F602 := GV586.ext E595
      have F603 : Arv Z h595 b595 k595 .char (4 : Int32) [(.int 0), (.int 0), (.int 0), (.int 0)] (.int 0) := (Arv.new A595 (by decide)).pad (pad_rep [] (.int 0) 4)
      have go604 : Go p.tables e below T595 (mkF m 287 (L0_44 p0 p1 p2 p3 p4 b485 b509 b586) [(.int (f1 p0)), (.int 0), (.ref b595), (.ref b595)]) En := by
        intro t k
        refine go598 _ ?_
        refine XS.dup X595.here hx rfl (hb hby at_283) rfl rfl ?_
        refine XS.iconst X595.here hx rfl (hb hby at_284) ?_
        refine XS.iload X595.here hx rfl (hb hby at_285) rfl ?_
        exact k
      obtain ⟨cl606, Ar606, q606, S606, N606, H606, G606⟩ := id F603
      obtain ⟨T605, h605, X605, e605, W605, st605⟩ := stC X595 hx hZ e595 Ar606 (j := (0 : Int32)) (inb_of S606 ⟨by decide, by decide⟩) (g := (mkF m 287 (L0_44 p0 p1 p2 p3 p4 b485 b509 b586) [(.int (f1 p0)), (.int 0), (.ref b595), (.ref b595)])) rfl rfl (hb hby at_287)
      have go607 := gap go604 st605
      have N605 := Fr.snoc X605 N593 low595
      have K605 : Keep h0 h605 [] := K595.wr W605 (Or.inr fsh595)
      have Zs605 : n0 ≤ h605.size := Nat.le_trans Zs595 (Keep.of_wr W605).1
      have hk605 : s.heap.size ≤ h605.size := Nat.le_trans hk595 (Keep.of_wr W605).1
      have F608 := F599.wr W605
      have F609 := F600.other W605 (Or.inl ne596)
      have F610 := F601.other W605 (Or.inl ne596)
      have F611 := F602.other W605 ne597
      have F612 : Arv Z h605 b595 k595 .char (4 : Int32) [(.int (f1 p0).toUInt32.toUInt16.toUInt32.toInt32), (.int 0), (.int 0), (.int 0)] (.int 0) := Arv.set Ar606 q606 S606 N606 H606 G606 (fits_nar_char _) W605 0 rfl (Nat.le_of_ble_eq_true rfl)
      have go613 : Go p.tables e below T605 (mkF m 292 (L0_44 p0 p1 p2 p3 p4 b485 b509 b586) [(.int (f1 p1)), (.int 1), (.ref b595), (.ref b595)]) En := by
        intro t k
        refine go607 _ ?_
        refine XS.dup X605.here hx rfl (hb hby at_288) rfl rfl ?_
        refine XS.iconst X605.here hx rfl (hb hby at_289) ?_
        refine XS.iload X605.here hx rfl (hb hby at_290) rfl ?_
        exact k
      obtain ⟨cl615, Ar615, q615, S615, N615, H615, G615⟩ := id F612
      obtain ⟨T614, h614, X614, e614, W614, st614⟩ := stC X605 hx hZ e605 Ar615 (j := (1 : Int32)) (inb_of S615 ⟨by decide, by decide⟩) (g := (mkF m 292 (L0_44 p0 p1 p2 p3 p4 b485 b509 b586) [(.int (f1 p1)), (.int 1), (.ref b595), (.ref b595)])) rfl rfl (hb hby at_292)
      have go616 := gap go613 st614
      have N614 := Fr.snoc X614 N605 low595
      have K614 : Keep h0 h614 [] := K605.wr W614 (Or.inr fsh595)
      have Zs614 : n0 ≤ h614.size := Nat.le_trans Zs605 (Keep.of_wr W614).1
      have hk614 : s.heap.size ≤ h614.size := Nat.le_trans hk605 (Keep.of_wr W614).1
      have F617 := F608.wr W614
      have F618 := F609.other W614 (Or.inl ne596)
      have F619 := F610.other W614 (Or.inl ne596)
      have F620 := F611.other W614 ne597
      have F621 : Arv Z h614 b595 k595 .char (4 : Int32) [(.int (f1 p0).toUInt32.toUInt16.toUInt32.toInt32), (.int (f1 p1).toUInt32.toUInt16.toUInt32.toInt32), (.int 0), (.int 0)] (.int 0) := Arv.set Ar615 q615 S615 N615 H615 G615 (fits_nar_char _) W614 1 rfl (Nat.le_of_ble_eq_true rfl)
      have go622 : Go p.tables e below T614 (mkF m 297 (L0_44 p0 p1 p2 p3 p4 b485 b509 b586) [(.int (f1 p2)), (.int 2), (.ref b595), (.ref b595)]) En := by
        intro t k
        refine go616 _ ?_
        refine XS.dup X614.here hx rfl (hb hby at_293) rfl rfl ?_
        refine XS.iconst X614.here hx rfl (hb hby at_294) ?_
        refine XS.iload X614.here hx rfl (hb hby at_295) rfl ?_
        exact k
      obtain ⟨cl624, Ar624, q624, S624, N624, H624, G624⟩ := id F621
      obtain ⟨T623, h623, X623, e623, W623, st623⟩ := stC X614 hx hZ e614 Ar624 (j := (2 : Int32)) (inb_of S624 ⟨by decide, by decide⟩) (g := (mkF m 297 (L0_44 p0 p1 p2 p3 p4 b485 b509 b586) [(.int (f1 p2)), (.int 2), (.ref b595), (.ref b595)])) rfl rfl (hb hby at_297)
      have go625 := gap go622 st623
      have N623 := Fr.snoc X623 N614 low595
      have K623 : Keep h0 h623 [] := K614.wr W623 (Or.inr fsh595)
      have Zs623 : n0 ≤ h623.size := Nat.le_trans Zs614 (Keep.of_wr W623).1
      have hk623 : s.heap.size ≤ h623.size := Nat.le_trans hk614 (Keep.of_wr W623).1
      have F626 := F617.wr W623
      have F627 := F618.other W623 (Or.inl ne596)
      have F628 := F619.other W623 (Or.inl ne596)
      have F629 := F620.other W623 ne597
      have F630 : Arv Z h623 b595 k595 .char (4 : Int32) [(.int (f1 p0).toUInt32.toUInt16.toUInt32.toInt32), (.int (f1 p1).toUInt32.toUInt16.toUInt32.toInt32), (.int (f1 p2).toUInt32.toUInt16.toUInt32.toInt32), (.int 0)] (.int 0) := Arv.set Ar624 q624 S624 N624 H624 G624 (fits_nar_char _) W623 2 rfl (Nat.le_of_ble_eq_true rfl)
      have go631 : Go p.tables e below T623 (mkF m 302 (L0_44 p0 p1 p2 p3 p4 b485 b509 b586) [(.int (f1 p3)), (.int 3), (.ref b595), (.ref b595)]) En := by
        intro t k
        refine go625 _ ?_
        refine XS.dup X623.here hx rfl (hb hby at_298) rfl rfl ?_
        refine XS.iconst X623.here hx rfl (hb hby at_299) ?_
        refine XS.iload X623.here hx rfl (hb hby at_300) rfl ?_
        exact k
      obtain ⟨cl633, Ar633, q633, S633, N633, H633, G633⟩ := id F630
      obtain ⟨T632, h632, X632, e632, W632, st632⟩ := stC X623 hx hZ e623 Ar633 (j := (3 : Int32)) (inb_of S633 ⟨by decide, by decide⟩) (g := (mkF m 302 (L0_44 p0 p1 p2 p3 p4 b485 b509 b586) [(.int (f1 p3)), (.int 3), (.ref b595), (.ref b595)])) rfl rfl (hb hby at_302)
      have go634 := gap go631 st632
      have N632 := Fr.snoc X632 N623 low595
      have K632 : Keep h0 h632 [] := K623.wr W632 (Or.inr fsh595)
      have Zs632 : n0 ≤ h632.size := Nat.le_trans Zs623 (Keep.of_wr W632).1
      have hk632 : s.heap.size ≤ h632.size := Nat.le_trans hk623 (Keep.of_wr W632).1
      have F635 := F626.wr W632
      have F636 := F627.other W632 (Or.inl ne596)
      have F637 := F628.other W632 (Or.inl ne596)
      have F638 := F629.other W632 ne597
      have F639 : Arv Z h632 b595 k595 .char (4 : Int32) [(.int (f1 p0).toUInt32.toUInt16.toUInt32.toInt32), (.int (f1 p1).toUInt32.toUInt16.toUInt32.toInt32), (.int (f1 p2).toUInt32.toUInt16.toUInt32.toInt32), (.int (f1 p3).toUInt32.toUInt16.toUInt32.toInt32)] (.int 0) := Arv.set Ar633 q633 S633 N633 H633 G633 (fits_nar_char _) W632 3 rfl (Nat.le_of_ble_eq_true rfl)
      have go640 : Go p.tables e below T632 (mkF m 321 (L0_47 p0 p1 p2 p3 p4 b485 b509 b586 b595) [(.int 0), (.ref b586)]) En := by
        intro t k
        refine go634 _ ?_
        refine XS.astore X632.here hx rfl (hb hby at_303) rfl rfl (l' := #[iv p0, iv p1, iv p2, iv p3, iv p4, iv (f1 p0), iv (f1 p1), iv (f1 p2), iv (f1 p3), iv 4, rv b485, rv b509, rv b586, iv 1, iv 2, rv b595, .unset]) rfl ?_
        refine XS.iconst X632.here hx rfl (hb hby at_305) ?_
        refine XS.istore X632.here hx rfl (hb hby at_306) rfl (l' := (L0_47 p0 p1 p2 p3 p4 b485 b509 b586 b595)) rfl ?_
        refine XS.iload X632.here hx rfl (hb hby at_308) rfl ?_
        refine XS.ifNo X632.here hx rfl (hb hby at_310) rfl (XT.i0_le_f (by decide : ((0 : Int32) < (2 : Int32)))) ?_
        show Steps _ _ _ (T632.setTop (mkF m 313 (L0_47 p0 p1 p2 p3 p4 b485 b509 b586 b595) [])) _
        refine XS.iload X632.here hx rfl (hb hby at_313) rfl ?_
        refine XS.ifNo X632.here hx rfl (hb hby at_315) rfl (XT.i0_eq_f (by decide : ¬ ((1 : Int32) = (0 : Int32)))) ?_
        refine XS.aload X632.here hx rfl (hb hby at_318) rfl rfl ?_
        refine XS.iconst X632.here hx rfl (hb hby at_320) ?_
        exact k
      obtain ⟨_, T641, Lc641, X641, hQ641, st641⟩ := own_cv X632 hx hZ hown hml go640 (hb hby at_321) e632 (hw _ (mi 125 rfl)) (own_site413 hw) F635 (rmsca l Z aZ hw [] _ (0 : Int32) _ _ _ _ _ _ (f1 p2).toUInt32.toUInt16.toUInt32.toInt32.toInt8.toInt32.toInt8.toInt32 h632 n0 Zs632 F635 F636 F637 F638 (own_sta_keep S_COMPACT_STRINGS K632 all0) hcs (own_sta_keep S_SIOOBE_FORMATTER K632 all0) rS_SIOOBE_FORMATTER (by decide) (by decide) rfl) (by decide) (argsL := [(.int 0)]) (rest := []) rfl rfl rfl (lenOf pd_404 rfl) (W := 0) rfl (by decide) (by decide) (by decide : 6 + 0 ≤ _) (by decide : 22 + 0 ≤ _)
      obtain ⟨rfl, N641q, e641⟩ := hQ641
      have N641 := Fr.app N632 N641q
      obtain ⟨cl642, Ar642, q642, S642, N642, H642, G642⟩ := id F639
      have go643 : Go p.tables e below T641 (mkF m 355 (L0_47 p0 p1 p2 p3 p4 b485 b509 b586 b595) [(.int 1), (.ref b586)]) En := by
        intro t k
        refine st641 _ ?_
        refine XS.aload X641.here hx rfl (hb hby at_324) rfl rfl ?_
        refine XS.iload X641.here hx rfl (hb hby at_326) rfl ?_
        refine XS.iconst X641.here hx rfl (hb hby at_328) ?_
        refine XS.iadd X641.here hx rfl (hb hby at_329) rfl ?_
        refine X641.caload hx (j := (2 : Int32)) (v := (.int (f1 p2).toUInt32.toUInt16.toUInt32.toInt32)) (by rw [e641]; exact Ar642.1) (State.isArrayOf_alike hZ.alike Ar642.2.1) Ar642.2.2 (inb_of S642 ⟨by decide, by decide⟩) (Has.at H642 (inb_of S642 ⟨by decide, by decide⟩) rfl) (g := (mkF m 330 (L0_47 p0 p1 p2 p3 p4 b485 b509 b586 b595) [(.int 2), (.ref b595), (.int (fsca (f1 p2).toUInt32.toUInt16.toUInt32.toInt32.toInt8.toInt32.toInt8.toInt32))])) rfl rfl (hb hby at_330) _ ?_
        show Steps _ _ _ (T641.setTop (mkF m 331 (L0_47 p0 p1 p2 p3 p4 b485 b509 b586 b595) [(.int (f1 p2).toUInt32.toUInt16.toUInt32.toInt32), (.int (fsca (f1 p2).toUInt32.toUInt16.toUInt32.toInt32.toInt8.toInt32.toInt8.toInt32))])) _
        refine XS.icmpNo X641.here hx rfl (hb hby at_331) rfl (XT.ii_ne_f (own_bk414 p2)) ?_
        refine XS.iconst X641.here hx rfl (hb hby at_334) ?_
        refine XS.goto X641.here hx rfl (pc0 := 335) (pc' := 339) rfl (hb hby at_335) (by decide) (by decide) ?_
        refine XS.istore X641.here hx rfl (hb hby at_339) rfl (l' := (L0_47 p0 p1 p2 p3 p4 b485 b509 b586 b595)) rfl ?_
        refine XS.iload X641.here hx rfl (hb hby at_341) rfl ?_
        show Steps _ _ _ (T641.setTop (mkF m 343 (L0_47 p0 p1 p2 p3 p4 b485 b509 b586 b595) [(.int 2)])) _
        refine XS.iconst X641.here hx rfl (hb hby at_343) ?_
        refine XS.icmpNo X641.here hx rfl (hb hby at_344) rfl (XT.ii_le_f (by decide : ((1 : Int32) < (2 : Int32)))) ?_
        refine XS.iload X641.here hx rfl (hb hby at_347) rfl ?_
        refine XS.ifNo X641.here hx rfl (hb hby at_349) rfl (XT.i0_eq_f (by decide : ¬ ((1 : Int32) = (0 : Int32)))) ?_
        refine XS.aload X641.here hx rfl (hb hby at_352) rfl rfl ?_
        show Steps _ _ _ (T641.setTop (mkF m 354 (L0_47 p0 p1 p2 p3 p4 b485 b509 b586 b595) [(.ref b586)])) _
        refine XS.iconst X641.here hx rfl (hb hby at_354) ?_
        exact k
      obtain ⟨_, T644, Lc644, X644, hQ644, st644⟩ := own_cv X641 hx hZ hown hml go643 (hb hby at_355) e641 (hw _ (mi 125 rfl)) (own_site413 hw) F635 (rmsca l Z aZ hw [] _ (1 : Int32) _ _ _ _ _ _ (f1 p3).toUInt32.toUInt16.toUInt32.toInt32.toInt8.toInt32.toInt8.toInt32 h632 n0 Zs632 F635 F636 F637 F638 (own_sta_keep S_COMPACT_STRINGS K632 all0) hcs (own_sta_keep S_SIOOBE_FORMATTER K632 all0) rS_SIOOBE_FORMATTER (by decide) (by decide) rfl) (by decide) (argsL := [(.int 1)]) (rest := []) rfl rfl rfl (lenOf pd_404 rfl) (W := 0) rfl (by decide) (by decide) (by decide : 6 + 0 ≤ _) (by decide : 22 + 0 ≤ _)
      obtain ⟨rfl, N644q, e644⟩ := hQ644
      have N644 := Fr.app N641 N644q
      have go645 : Go p.tables e below T644 (mkF m 411 (L0_47 p0 p1 p2 p3 p4 b485 b509 b586 b595) [(.int 1)]) En := by
        intro t k
        refine st644 _ ?_
        refine XS.aload X644.here hx rfl (hb hby at_358) rfl rfl ?_
        refine XS.iload X644.here hx rfl (hb hby at_360) rfl ?_
        refine XS.iconst X644.here hx rfl (hb hby at_362) ?_
        refine XS.iadd X644.here hx rfl (hb hby at_363) rfl ?_
        refine X644.caload hx (j := (3 : Int32)) (v := (.int (f1 p3).toUInt32.toUInt16.toUInt32.toInt32)) (by rw [e644]; exact Ar642.1) (State.isArrayOf_alike hZ.alike Ar642.2.1) Ar642.2.2 (inb_of S642 ⟨by decide, by decide⟩) (Has.at H642 (inb_of S642 ⟨by decide, by decide⟩) rfl) (g := (mkF m 364 (L0_47 p0 p1 p2 p3 p4 b485 b509 b586 b595) [(.int 3), (.ref b595), (.int (fsca (f1 p3).toUInt32.toUInt16.toUInt32.toInt32.toInt8.toInt32.toInt8.toInt32))])) rfl rfl (hb hby at_364) _ ?_
        show Steps _ _ _ (T644.setTop (mkF m 365 (L0_47 p0 p1 p2 p3 p4 b485 b509 b586 b595) [(.int (f1 p3).toUInt32.toUInt16.toUInt32.toInt32), (.int (fsca (f1 p3).toUInt32.toUInt16.toUInt32.toInt32.toInt8.toInt32.toInt8.toInt32))])) _
        refine XS.icmpNo X644.here hx rfl (hb hby at_365) rfl (XT.ii_ne_f (own_bk414 p3)) ?_
        refine XS.iconst X644.here hx rfl (hb hby at_368) ?_
        refine XS.goto X644.here hx rfl (pc0 := 369) (pc' := 373) rfl (hb hby at_369) (by decide) (by decide) ?_
        refine XS.istore X644.here hx rfl (hb hby at_373) rfl (l' := (L0_47 p0 p1 p2 p3 p4 b485 b509 b586 b595)) rfl ?_
        refine XS.iload X644.here hx rfl (hb hby at_375) rfl ?_
        show Steps _ _ _ (T644.setTop (mkF m 377 (L0_47 p0 p1 p2 p3 p4 b485 b509 b586 b595) [(.int 2)])) _
        refine XS.iconst X644.here hx rfl (hb hby at_377) ?_
        refine XS.icmpYes X644.here hx rfl (pc0 := 378) (pc' := 409) rfl (hb hby at_378) rfl (XT.ii_le_t (by decide : ¬ ((2 : Int32) < (2 : Int32)))) (by decide) (by decide) ?_
        refine XS.iload X644.here hx rfl (hb hby at_409) rfl ?_
        exact k
      obtain ⟨fs, hr, hrun, hended, hRW⟩ := X644.leaveW hS0 (by rw [e644]; exact hk632) (v := some (.int 1)) (fun h => by rw [Bd.returns] at h; cases h) Bd.notSynchronized
      subst hEn
      refine ⟨_, _, go645 _ (Jvm.RoadKit.retOut X644 hx Bd.returns rfl (Or.inl ⟨rfl, Or.inr (Or.inl rfl), _, rfl⟩) (hb hby at_411) hr), hrun, hended, _, _, rfl, ?_, hRW.1, hRW.2.1, hRW.2.2.1, hRW.2.2.2.mono (by decide) (by decide)⟩
      show Q0 _ _ p0 p1 p2 p3 p4 s_COMPACT_STRINGS s_SIOOBE_FORMATTER h0 _ (T644.setFrames fs).heap _
      have hE : (T644.setFrames fs).heap = h632 := e644
      rw [hE]
      exact ⟨congrArg (fun z => some (Value.int z)) ((by rw [f0, if_neg hs11, if_neg hs33, if_neg hs117, if_neg hs266, if_pos hs482, if_neg hs520, if_pos hs584] : (1 : Int32) = (f0 p0 p1 p2 p3 p4)).trans (f0_one p0 p1 p2 p3 p4)), N644⟩
    by_cases hs646 : (f1 p2) = (63 : Int32)
    · have go647 : Go p.tables e below T516 (mkF m 156 (L0_40 p0 p1 p2 p3 p4 b485 b509) [(.ref b509)]) En := by
        intro t k
        refine go519 _ ?_
        refine XS.aload X516.here hx rfl (hb hby at_154) rfl rfl ?_
        exact k
      obtain ⟨_, T648, Lc648, X648, hQ648, st648⟩ := own_cs X516 hx hZ hown hml go647 (hb hby at_156) rfl (hw _ (mi 27 rfl)) (own_site407 hw) (rmqs4_2 l Z aZ hw [] _ _ _ _ _ _ _ _ _ T516.heap n0 Zs516 G516_0 G516_1 GX516 GV516 (own_sta_keep S_COMPACT_STRINGS K516 all0) hcs (by rw [fiz4, fiy4, fix4, fic4, if_neg (own_qf p0 hs520), if_neg (own_qf p1 hs584), if_pos (own_qt p2 hs646)]) (own_sta_keep S_SIOOBE_FORMATTER K516 all0) rS_SIOOBE_FORMATTER) (by decide) (argsL := [(.ref b509)]) (rest := []) rfl rfl rfl (lenOf pd_408 rfl) (W := 0) rfl (by decide) (by decide) (by decide : 3 + 2 ≤ _) (by decide : 12 + 5 ≤ _)
      obtain ⟨b648, bx648, kx648, rfl, N648q, K648q, GE648, GC648, GX648, GV648⟩ := hQ648
      have N648 := Fr.app N516 N648q
      have K648 : Keep h0 T648.heap [] := K516.trans K648q all0
      have Zs648 : n0 ≤ T648.heap.size := Nat.le_trans Zs516 K648q.1
      have hk648 : s.heap.size ≤ T648.heap.size := Nat.le_trans hk516 K648q.1
      have F649 := F517.keep K648q nin0
      have F650 := G516_0.keep K648q
      have F651 := G516_1.keep K648q nin0
      have F652 := GX516.keep K648q nin0
      have F653 := GV516.keep K648q nin0
      have go654 : Go p.tables e below T648 (mkF m 270 (L0_48 p0 p1 p2 p3 p4 b485 b509 b648) [(.ref b648)]) En := by
        intro t k
        refine st648 _ ?_
        refine XS.astore X648.here hx rfl (hb hby at_159) rfl rfl (l' := #[iv p0, iv p1, iv p2, iv p3, iv p4, iv (f1 p0), iv (f1 p1), iv (f1 p2), iv (f1 p3), iv 4, rv b485, rv b509, rv b648, .unset, .unset, .unset, .unset]) rfl ?_
        refine XS.iconst X648.here hx rfl (hb hby at_161) ?_
        refine XS.istore X648.here hx rfl (hb hby at_162) rfl (l' := (L0_49 p0 p1 p2 p3 p4 b485 b509 b648)) rfl ?_
        refine XS.iload X648.here hx rfl (hb hby at_164) rfl ?_
        refine XS.ifNo X648.here hx rfl (hb hby at_166) rfl (XT.i0_le_f (by decide : ((0 : Int32) < (4 : Int32)))) ?_
        show Steps _ _ _ (T648.setTop (mkF m 169 (L0_49 p0 p1 p2 p3 p4 b485 b509 b648) [])) _
        refine XS.iload X648.here hx rfl (hb hby at_169) rfl ?_
        refine XS.bipush X648.here hx rfl (hb hby at_171) ?_
        refine XS.icmpYes X648.here hx rfl (pc0 := 173) (pc' := 182) rfl (hb hby at_173) rfl (XT.ii_ne_t hs520) (by decide) (by decide) ?_
        refine XS.iload X648.here hx rfl (hb hby at_182) rfl ?_
        refine XS.iconst X648.here hx rfl (hb hby at_184) ?_
        show Steps _ _ _ (T648.setTop (mkF m 185 (L0_49 p0 p1 p2 p3 p4 b485 b509 b648) [(.int 1), (.int 4)])) _
        refine XS.icmpNo X648.here hx rfl (hb hby at_185) rfl (XT.ii_le_f (by decide : ((1 : Int32) < (4 : Int32)))) ?_
        refine XS.iload X648.here hx rfl (hb hby at_188) rfl ?_
        refine XS.bipush X648.here hx rfl (hb hby at_190) ?_
        refine XS.icmpYes X648.here hx rfl (pc0 := 192) (pc' := 201) rfl (hb hby at_192) rfl (XT.ii_ne_t hs584) (by decide) (by decide) ?_
        refine XS.iload X648.here hx rfl (hb hby at_201) rfl ?_
        show Steps _ _ _ (T648.setTop (mkF m 203 (L0_49 p0 p1 p2 p3 p4 b485 b509 b648) [(.int 4)])) _
        refine XS.iconst X648.here hx rfl (hb hby at_203) ?_
        refine XS.icmpNo X648.here hx rfl (hb hby at_204) rfl (XT.ii_le_f (by decide : ((2 : Int32) < (4 : Int32)))) ?_
        refine XS.iload X648.here hx rfl (hb hby at_207) rfl ?_
        refine XS.bipush X648.here hx rfl (hb hby at_209) ?_
        refine XS.icmpNo X648.here hx rfl (hb hby at_211) rfl (XT.ii_ne_f hs646) ?_
        show Steps _ _ _ (T648.setTop (mkF m 214 (L0_49 p0 p1 p2 p3 p4 b485 b509 b648) [])) _
        refine XS.iconst X648.here hx rfl (hb hby at_214) ?_
        refine XS.istore X648.here hx rfl (hb hby at_215) rfl (l' := (L0_50 p0 p1 p2 p3 p4 b485 b509 b648)) rfl ?_
        refine XS.goto X648.here hx rfl (pc0 := 217) (pc' := 236) rfl (hb hby at_217) (by decide) (by decide) ?_
        refine XS.iload X648.here hx rfl (hb hby at_236) rfl ?_
        refine XS.ifYes X648.here hx rfl (pc0 := 238) (pc' := 252) rfl (hb hby at_238) rfl (XT.i0_ge_t (by decide : ¬ ((2 : Int32) < (0 : Int32)))) (by decide) (by decide) ?_
        show Steps _ _ _ (T648.setTop (mkF m 252 (L0_50 p0 p1 p2 p3 p4 b485 b509 b648) [])) _
        refine XS.aload X648.here hx rfl (hb hby at_252) rfl rfl ?_
        refine XT.nonnullYes X648.here hx rfl (pc0 := 254) (pc' := 259) rfl (hb hby at_254) rfl rfl (fun q => nomatch q) (by decide) (by decide) ?_
        refine XS.iload X648.here hx rfl (hb hby at_259) rfl ?_
        refine XS.iload X648.here hx rfl (hb hby at_261) rfl ?_
        refine XS.isub X648.here hx rfl (hb hby at_263) rfl ?_
        show Steps _ _ _ (T648.setTop (mkF m 264 (L0_50 p0 p1 p2 p3 p4 b485 b509 b648) [(.int 2)])) _
        refine XS.iconst X648.here hx rfl (hb hby at_264) ?_
        refine XS.isub X648.here hx rfl (hb hby at_265) rfl ?_
        refine XS.istore X648.here hx rfl (hb hby at_266) rfl (l' := (L0_48 p0 p1 p2 p3 p4 b485 b509 b648)) rfl ?_
        refine XS.aload X648.here hx rfl (hb hby at_268) rfl rfl ?_
        exact k
      obtain ⟨_, T655, Lc655, X655, hQ655, st655⟩ := own_cv X648 hx hZ hown hml go654 (hb hby at_270) rfl (hw _ (mi 124 rfl)) (own_site185 hw) GE648 (rmln l Z aZ hw [] _ _ _ _ _ _ T648.heap n0 Zs648 GE648 GC648 GX648 GV648 (own_sta_keep S_COMPACT_STRINGS K648 all0) hcs) (by decide) (argsL := []) (rest := []) rfl rfl rfl (lenOf pd_186 rfl) (W := 0) rfl (by decide) (by decide) (by decide : 5 + 0 ≤ _) (by decide : 17 + 0 ≤ _)
      obtain ⟨rfl, N655q, e655⟩ := hQ655
      have N655 := Fr.app N648 N655q
      have go656 : Go p.tables e below T655 (mkF m 281 (L0_48 p0 p1 p2 p3 p4 b485 b509 b648) [(.int 4)]) En := by
        intro t k
        refine st655 _ ?_
        refine XS.iload X655.here hx rfl (hb hby at_273) rfl ?_
        refine XS.icmpYes X655.here hx rfl (pc0 := 275) (pc' := 280) rfl (hb hby at_275) rfl (XT.ii_eq_t (by decide : ((1 : Int32) = (1 : Int32)))) (by decide) (by decide) ?_
        refine XS.iconst X655.here hx rfl (hb hby at_280) ?_
        exact k
      obtain ⟨T657, h657, k657, X657, e657, E657, A657, st657⟩ := newP X655 hx hZ (hw _ (mi 5 rfl)) e655 (g := (mkF m 281 (L0_48 p0 p1 p2 p3 p4 b485 b509 b648) [(.int 4)])) rfl (hb hby at_281) rfl (by decide) (cap := 4) (by decide) (by decide) (by decide) (by decide)
      obtain ⟨b657, g657⟩ : ∃ z, z = T648.heap.size := ⟨_, rfl⟩
      rw [← g657] at A657 st657
      have ne658 : b648 ≠ b657 := Nat.ne_of_lt (Nat.lt_of_lt_of_le GE648.lt (Nat.le_of_eq g657.symm))
      have ne659 : bx648 ≠ b657 := Nat.ne_of_lt (Nat.lt_of_lt_of_le GV648.lt (Nat.le_of_eq g657.symm))
      have low657 : n0 ≤ b657 := Nat.le_trans Zs648 (Nat.le_of_eq g657.symm)
      have fsh657 : h0.size ≤ b657 := Nat.le_trans K648.1 (Nat.le_of_eq g657.symm)
      have K657 : Keep h0 h657 [] := K648.ext E657
      have Zs657 : n0 ≤ h657.size := Nat.le_trans Zs648 E657.1
      have hk657 : s.heap.size ≤ h657.size := Nat.le_trans hk648 E657.1
      have go660 := gap go656 st657
      have F661 := GE648.ext E657
      have F662 := GC648.ext E657
      have F663 := GX648.ext E657
      have F664 := GV648.ext E657
      have F665 : Arv Z h657 b657 k657 .char (4 : Int32) [(.int 0), (.int 0), (.int 0), (.int 0)] (.int 0) := (Arv.new A657 (by decide)).pad (pad_rep [] (.int 0) 4)
      have go666 : Go p.tables e below T657 (mkF m 287 (L0_48 p0 p1 p2 p3 p4 b485 b509 b648) [(.int (f1 p0)), (.int 0), (.ref b657), (.ref b657)]) En := by
        intro t k
        refine go660 _ ?_
        refine XS.dup X657.here hx rfl (hb hby at_283) rfl rfl ?_
        refine XS.iconst X657.here hx rfl (hb hby at_284) ?_
        refine XS.iload X657.here hx rfl (hb hby at_285) rfl ?_
        exact k
      obtain ⟨cl668, Ar668, q668, S668, N668, H668, G668⟩ := id F665
      obtain ⟨T667, h667, X667, e667, W667, st667⟩ := stC X657 hx hZ e657 Ar668 (j := (0 : Int32)) (inb_of S668 ⟨by decide, by decide⟩) (g := (mkF m 287 (L0_48 p0 p1 p2 p3 p4 b485 b509 b648) [(.int (f1 p0)), (.int 0), (.ref b657), (.ref b657)])) rfl rfl (hb hby at_287)
      have go669 := gap go666 st667
      have N667 := Fr.snoc X667 N655 low657
      have K667 : Keep h0 h667 [] := K657.wr W667 (Or.inr fsh657)
      have Zs667 : n0 ≤ h667.size := Nat.le_trans Zs657 (Keep.of_wr W667).1
      have hk667 : s.heap.size ≤ h667.size := Nat.le_trans hk657 (Keep.of_wr W667).1
      have F670 := F661.wr W667
      have F671 := F662.other W667 (Or.inl ne658)
      have F672 := F663.other W667 (Or.inl ne658)
      have F673 := F664.other W667 ne659
      have F674 : Arv Z h667 b657 k657 .char (4 : Int32) [(.int (f1 p0).toUInt32.toUInt16.toUInt32.toInt32), (.int 0), (.int 0), (.int 0)] (.int 0) := Arv.set Ar668 q668 S668 N668 H668 G668 (fits_nar_char _) W667 0 rfl (Nat.le_of_ble_eq_true rfl)
      have go675 : Go p.tables e below T667 (mkF m 292 (L0_48 p0 p1 p2 p3 p4 b485 b509 b648) [(.int (f1 p1)), (.int 1), (.ref b657), (.ref b657)]) En := by
        intro t k
        refine go669 _ ?_
        refine XS.dup X667.here hx rfl (hb hby at_288) rfl rfl ?_
        refine XS.iconst X667.here hx rfl (hb hby at_289) ?_
        refine XS.iload X667.here hx rfl (hb hby at_290) rfl ?_
        exact k
      obtain ⟨cl677, Ar677, q677, S677, N677, H677, G677⟩ := id F674
      obtain ⟨T676, h676, X676, e676, W676, st676⟩ := stC X667 hx hZ e667 Ar677 (j := (1 : Int32)) (inb_of S677 ⟨by decide, by decide⟩) (g := (mkF m 292 (L0_48 p0 p1 p2 p3 p4 b485 b509 b648) [(.int (f1 p1)), (.int 1), (.ref b657), (.ref b657)])) rfl rfl (hb hby at_292)
      have go678 := gap go675 st676
      have N676 := Fr.snoc X676 N667 low657
      have K676 : Keep h0 h676 [] := K667.wr W676 (Or.inr fsh657)
      have Zs676 : n0 ≤ h676.size := Nat.le_trans Zs667 (Keep.of_wr W676).1
      have hk676 : s.heap.size ≤ h676.size := Nat.le_trans hk667 (Keep.of_wr W676).1
      have F679 := F670.wr W676
      have F680 := F671.other W676 (Or.inl ne658)
      have F681 := F672.other W676 (Or.inl ne658)
      have F682 := F673.other W676 ne659
      have F683 : Arv Z h676 b657 k657 .char (4 : Int32) [(.int (f1 p0).toUInt32.toUInt16.toUInt32.toInt32), (.int (f1 p1).toUInt32.toUInt16.toUInt32.toInt32), (.int 0), (.int 0)] (.int 0) := Arv.set Ar677 q677 S677 N677 H677 G677 (fits_nar_char _) W676 1 rfl (Nat.le_of_ble_eq_true rfl)
      have go684 : Go p.tables e below T676 (mkF m 297 (L0_48 p0 p1 p2 p3 p4 b485 b509 b648) [(.int (f1 p2)), (.int 2), (.ref b657), (.ref b657)]) En := by
        intro t k
        refine go678 _ ?_
        refine XS.dup X676.here hx rfl (hb hby at_293) rfl rfl ?_
        refine XS.iconst X676.here hx rfl (hb hby at_294) ?_
        refine XS.iload X676.here hx rfl (hb hby at_295) rfl ?_
        exact k
      obtain ⟨cl686, Ar686, q686, S686, N686, H686, G686⟩ := id F683
      obtain ⟨T685, h685, X685, e685, W685, st685⟩ := stC X676 hx hZ e676 Ar686 (j := (2 : Int32)) (inb_of S686 ⟨by decide, by decide⟩) (g := (mkF m 297 (L0_48 p0 p1 p2 p3 p4 b485 b509 b648) [(.int (f1 p2)), (.int 2), (.ref b657), (.ref b657)])) rfl rfl (hb hby at_297)
      have go687 := gap go684 st685
      have N685 := Fr.snoc X685 N676 low657
      have K685 : Keep h0 h685 [] := K676.wr W685 (Or.inr fsh657)
      have Zs685 : n0 ≤ h685.size := Nat.le_trans Zs676 (Keep.of_wr W685).1
      have hk685 : s.heap.size ≤ h685.size := Nat.le_trans hk676 (Keep.of_wr W685).1
      have F688 := F679.wr W685
      have F689 := F680.other W685 (Or.inl ne658)
      have F690 := F681.other W685 (Or.inl ne658)
      have F691 := F682.other W685 ne659
      have F692 : Arv Z h685 b657 k657 .char (4 : Int32) [(.int (f1 p0).toUInt32.toUInt16.toUInt32.toInt32), (.int (f1 p1).toUInt32.toUInt16.toUInt32.toInt32), (.int (f1 p2).toUInt32.toUInt16.toUInt32.toInt32), (.int 0)] (.int 0) := Arv.set Ar686 q686 S686 N686 H686 G686 (fits_nar_char _) W685 2 rfl (Nat.le_of_ble_eq_true rfl)
      have go693 : Go p.tables e below T685 (mkF m 302 (L0_48 p0 p1 p2 p3 p4 b485 b509 b648) [(.int (f1 p3)), (.int 3), (.ref b657), (.ref b657)]) En := by
        intro t k
        refine go687 _ ?_
        refine XS.dup X685.here hx rfl (hb hby at_298) rfl rfl ?_
        refine XS.iconst X685.here hx rfl (hb hby at_299) ?_
        refine XS.iload X685.here hx rfl (hb hby at_300) rfl ?_
        exact k
      obtain ⟨cl695, Ar695, q695, S695, N695, H695, G695⟩ := id F692
      obtain ⟨T694, h694, X694, e694, W694, st694⟩ := stC X685 hx hZ e685 Ar695 (j := (3 : Int32)) (inb_of S695 ⟨by decide, by decide⟩) (g := (mkF m 302 (L0_48 p0 p1 p2 p3 p4 b485 b509 b648) [(.int (f1 p3)), (.int 3), (.ref b657), (.ref b657)])) rfl rfl (hb hby at_302)
      have go696 := gap go693 st694
      have N694 := Fr.snoc X694 N685 low657
      have K694 : Keep h0 h694 [] := K685.wr W694 (Or.inr fsh657)
      have Zs694 : n0 ≤ h694.size := Nat.le_trans Zs685 (Keep.of_wr W694).1
      have hk694 : s.heap.size ≤ h694.size := Nat.le_trans hk685 (Keep.of_wr W694).1
      have F697 := F688.wr W694
      have F698 := F689.other W694 (Or.inl ne658)
      have F699 := F690.other W694 (Or.inl ne658)
      have F700 := F691.other W694 ne659
      have F701 : Arv Z h694 b657 k657 .char (4 : Int32) [(.int (f1 p0).toUInt32.toUInt16.toUInt32.toInt32), (.int (f1 p1).toUInt32.toUInt16.toUInt32.toInt32), (.int (f1 p2).toUInt32.toUInt16.toUInt32.toInt32), (.int (f1 p3).toUInt32.toUInt16.toUInt32.toInt32)] (.int 0) := Arv.set Ar695 q695 S695 N695 H695 G695 (fits_nar_char _) W694 3 rfl (Nat.le_of_ble_eq_true rfl)
      have go702 : Go p.tables e below T694 (mkF m 321 (L0_51 p0 p1 p2 p3 p4 b485 b509 b648 b657) [(.int 0), (.ref b648)]) En := by
        intro t k
        refine go696 _ ?_
        refine XS.astore X694.here hx rfl (hb hby at_303) rfl rfl (l' := #[iv p0, iv p1, iv p2, iv p3, iv p4, iv (f1 p0), iv (f1 p1), iv (f1 p2), iv (f1 p3), iv 4, rv b485, rv b509, rv b648, iv 2, iv 1, rv b657, .unset]) rfl ?_
        refine XS.iconst X694.here hx rfl (hb hby at_305) ?_
        refine XS.istore X694.here hx rfl (hb hby at_306) rfl (l' := (L0_51 p0 p1 p2 p3 p4 b485 b509 b648 b657)) rfl ?_
        refine XS.iload X694.here hx rfl (hb hby at_308) rfl ?_
        refine XS.ifNo X694.here hx rfl (hb hby at_310) rfl (XT.i0_le_f (by decide : ((0 : Int32) < (1 : Int32)))) ?_
        show Steps _ _ _ (T694.setTop (mkF m 313 (L0_51 p0 p1 p2 p3 p4 b485 b509 b648 b657) [])) _
        refine XS.iload X694.here hx rfl (hb hby at_313) rfl ?_
        refine XS.ifNo X694.here hx rfl (hb hby at_315) rfl (XT.i0_eq_f (by decide : ¬ ((1 : Int32) = (0 : Int32)))) ?_
        refine XS.aload X694.here hx rfl (hb hby at_318) rfl rfl ?_
        refine XS.iconst X694.here hx rfl (hb hby at_320) ?_
        exact k
      obtain ⟨_, T703, Lc703, X703, hQ703, st703⟩ := own_cv X694 hx hZ hown hml go702 (hb hby at_321) e694 (hw _ (mi 125 rfl)) (own_site413 hw) F697 (rmsca l Z aZ hw [] _ (0 : Int32) _ _ _ _ _ _ (f1 p3).toUInt32.toUInt16.toUInt32.toInt32.toInt8.toInt32.toInt8.toInt32 h694 n0 Zs694 F697 F698 F699 F700 (own_sta_keep S_COMPACT_STRINGS K694 all0) hcs (own_sta_keep S_SIOOBE_FORMATTER K694 all0) rS_SIOOBE_FORMATTER (by decide) (by decide) rfl) (by decide) (argsL := [(.int 0)]) (rest := []) rfl rfl rfl (lenOf pd_404 rfl) (W := 0) rfl (by decide) (by decide) (by decide : 6 + 0 ≤ _) (by decide : 21 + 0 ≤ _)
      obtain ⟨rfl, N703q, e703⟩ := hQ703
      have N703 := Fr.app N694 N703q
      obtain ⟨cl704, Ar704, q704, S704, N704, H704, G704⟩ := id F701
      have go705 : Go p.tables e below T703 (mkF m 411 (L0_51 p0 p1 p2 p3 p4 b485 b509 b648 b657) [(.int 1)]) En := by
        intro t k
        refine st703 _ ?_
        refine XS.aload X703.here hx rfl (hb hby at_324) rfl rfl ?_
        refine XS.iload X703.here hx rfl (hb hby at_326) rfl ?_
        refine XS.iconst X703.here hx rfl (hb hby at_328) ?_
        refine XS.iadd X703.here hx rfl (hb hby at_329) rfl ?_
        refine X703.caload hx (j := (3 : Int32)) (v := (.int (f1 p3).toUInt32.toUInt16.toUInt32.toInt32)) (by rw [e703]; exact Ar704.1) (State.isArrayOf_alike hZ.alike Ar704.2.1) Ar704.2.2 (inb_of S704 ⟨by decide, by decide⟩) (Has.at H704 (inb_of S704 ⟨by decide, by decide⟩) rfl) (g := (mkF m 330 (L0_51 p0 p1 p2 p3 p4 b485 b509 b648 b657) [(.int 3), (.ref b657), (.int (fsca (f1 p3).toUInt32.toUInt16.toUInt32.toInt32.toInt8.toInt32.toInt8.toInt32))])) rfl rfl (hb hby at_330) _ ?_
        show Steps _ _ _ (T703.setTop (mkF m 331 (L0_51 p0 p1 p2 p3 p4 b485 b509 b648 b657) [(.int (f1 p3).toUInt32.toUInt16.toUInt32.toInt32), (.int (fsca (f1 p3).toUInt32.toUInt16.toUInt32.toInt32.toInt8.toInt32.toInt8.toInt32))])) _
        refine XS.icmpNo X703.here hx rfl (hb hby at_331) rfl (XT.ii_ne_f (own_bk414 p3)) ?_
        refine XS.iconst X703.here hx rfl (hb hby at_334) ?_
        refine XS.goto X703.here hx rfl (pc0 := 335) (pc' := 339) rfl (hb hby at_335) (by decide) (by decide) ?_
        refine XS.istore X703.here hx rfl (hb hby at_339) rfl (l' := (L0_51 p0 p1 p2 p3 p4 b485 b509 b648 b657)) rfl ?_
        refine XS.iload X703.here hx rfl (hb hby at_341) rfl ?_
        show Steps _ _ _ (T703.setTop (mkF m 343 (L0_51 p0 p1 p2 p3 p4 b485 b509 b648 b657) [(.int 1)])) _
        refine XS.iconst X703.here hx rfl (hb hby at_343) ?_
        refine XS.icmpYes X703.here hx rfl (pc0 := 344) (pc' := 375) rfl (hb hby at_344) rfl (XT.ii_le_t (by decide : ¬ ((1 : Int32) < (1 : Int32)))) (by decide) (by decide) ?_
        refine XS.iload X703.here hx rfl (hb hby at_375) rfl ?_
        refine XS.iconst X703.here hx rfl (hb hby at_377) ?_
        refine XS.icmpYes X703.here hx rfl (pc0 := 378) (pc' := 409) rfl (hb hby at_378) rfl (XT.ii_le_t (by decide : ¬ ((2 : Int32) < (1 : Int32)))) (by decide) (by decide) ?_
        show Steps _ _ _ (T703.setTop (mkF m 409 (L0_51 p0 p1 p2 p3 p4 b485 b509 b648 b657) [])) _
        refine XS.iload X703.here hx rfl (hb hby at_409) rfl ?_
        exact k
      obtain ⟨fs, hr, hrun, hended, hRW⟩ := X703.leaveW hS0 (by rw [e703]; exact hk694) (v := some (.int 1)) (fun h => by rw [Bd.returns] at h; cases h) Bd.notSynchronized
      subst hEn
      refine ⟨_, _, go705 _ (Jvm.RoadKit.retOut X703 hx Bd.returns rfl (Or.inl ⟨rfl, Or.inr (Or.inl rfl), _, rfl⟩) (hb hby at_411) hr), hrun, hended, _, _, rfl, ?_, hRW.1, hRW.2.1, hRW.2.2.1, hRW.2.2.2.mono (by decide) (by decide)⟩
      show Q0 _ _ p0 p1 p2 p3 p4 s_COMPACT_STRINGS s_SIOOBE_FORMATTER h0 _ (T703.setFrames fs).heap _
      have hE : (T703.setFrames fs).heap = h694 := e703
      rw [hE]
      exact ⟨congrArg (fun z => some (Value.int z)) ((by rw [f0, if_neg hs11, if_neg hs33, if_neg hs117, if_neg hs266, if_pos hs482, if_neg hs520, if_neg hs584, if_pos hs646] : (1 : Int32) = (f0 p0 p1 p2 p3 p4)).trans (f0_one p0 p1 p2 p3 p4)), N703⟩
    by_cases hs706 : (f1 p3) = (63 : Int32)
    · have go707 : Go p.tables e below T516 (mkF m 156 (L0_40 p0 p1 p2 p3 p4 b485 b509) [(.ref b509)]) En := by
        intro t k
        refine go519 _ ?_
        refine XS.aload X516.here hx rfl (hb hby at_154) rfl rfl ?_
        exact k
      obtain ⟨_, _, ⟨T708, L708, k708, n708⟩, -, X708q, hS708q, hg708, ⟨Lc708, hQ708, l708, y708, z708⟩, st708⟩ := callSS X516 hx (y := (⟨"com/example/nephele/nephele/web/internal/RequestPath", "queryString", "(Ljava/lang/String;)Ljava/lang/String;"⟩ : MethodName)) hown (mvT hZ (hw _ (mi 27 rfl))) (mvT hZ (hw _ (mi 28 rfl))) (mvT hZ (hw _ (mi 29 rfl))) (mvT hZ (hw _ (mi 30 rfl))) (by decide) (own_backOfSI (W := 0) (rmqs4_3 l Z aZ hw [] _ _ _ _ _ _ _ _ _ T516.heap n0 Zs516 G516_0 G516_1 GX516 GV516 (own_sta_keep S_COMPACT_STRINGS K516 all0) hcs (by rw [fiz4, fiy4, fix4, fic4, if_neg (own_qf p0 hs520), if_neg (own_qf p1 hs584), if_neg (own_qf p2 hs646), if_pos (own_qt p3 hs706)]) (own_sta_keep S_SIOOBE_FORMATTER K516 all0) rS_SIOOBE_FORMATTER (fun b cl q => K516.2.1 b cl (hkp b cl q) nin0) hcn151 hcw) hZ (hw _ (mi 30 rfl)) (hw _ (mi 29 rfl)) (by decide) (by decide) IB0) (g := (mkF m 156 (L0_40 p0 p1 p2 p3 p4 b485 b509) [(.ref b509)])) rfl (by rw [hml]; rfl) (argsL := [(.ref b509)]) (rest := []) (lenOf pd_408 rfl) rfl (by show 2 * 0 + _ ≤ _; exact Nat.le_of_eq rfl) (hb hby at_156) (fun _ _ => ⟨rfl, rfl, (by decide : 3 + 2 ≤ _), (by decide : 12 + 4 ≤ _)⟩)
      dsimp only [Pt.U, Pt.locs, Pt.cells, Pt.slots] at X708q hS708q hg708 l708 y708 z708 st708 hQ708
      subst l708 y708 z708
      have hk708q : s.heap.size ≤ T516.heap.size := hk516
      obtain ⟨X708, hS708, hZ708, hown708⟩ := rebS hS0 hk708q X708q hS708q hg708 hZ hown
      have hk708r : T708.heap.size ≤ T708.heap.size := Nat.le_refl _
      obtain ⟨b708, bx708, kx708, rfl, N708q, K708q, GE708, GC708, GX708, GV708⟩ := hQ708
      have N708 := Fr.app N516 N708q
      have K708 : Keep h0 T708.heap [] := K516.trans K708q all0
      have Zs708 : n0 ≤ T708.heap.size := Nat.le_trans Zs516 K708q.1
      have hk708 : s.heap.size ≤ T708.heap.size := Nat.le_trans hk516 K708q.1
      have F709 := F517.keep K708q nin0
      have F710 := G516_0.keep K708q
      have F711 := G516_1.keep K708q nin0
      have F712 := GX516.keep K708q nin0
      have F713 := GV516.keep K708q nin0
      have go714 := gapT go707 st708
      have go715 : Go p.tables e below T708 (mkF m 270 (L0_52 p0 p1 p2 p3 p4 b485 b509 b708) [(.ref b708)]) En := by
        intro t k
        refine go714 _ ?_
        refine XS.astore X708.here hx rfl (hb hby at_159) rfl rfl (l' := #[iv p0, iv p1, iv p2, iv p3, iv p4, iv (f1 p0), iv (f1 p1), iv (f1 p2), iv (f1 p3), iv 4, rv b485, rv b509, rv b708, .unset, .unset, .unset, .unset]) rfl ?_
        refine XS.iconst X708.here hx rfl (hb hby at_161) ?_
        refine XS.istore X708.here hx rfl (hb hby at_162) rfl (l' := (L0_53 p0 p1 p2 p3 p4 b485 b509 b708)) rfl ?_
        refine XS.iload X708.here hx rfl (hb hby at_164) rfl ?_
        refine XS.ifNo X708.here hx rfl (hb hby at_166) rfl (XT.i0_le_f (by decide : ((0 : Int32) < (4 : Int32)))) ?_
        show Steps _ _ _ (T708.setTop (mkF m 169 (L0_53 p0 p1 p2 p3 p4 b485 b509 b708) [])) _
        refine XS.iload X708.here hx rfl (hb hby at_169) rfl ?_
        refine XS.bipush X708.here hx rfl (hb hby at_171) ?_
        refine XS.icmpYes X708.here hx rfl (pc0 := 173) (pc' := 182) rfl (hb hby at_173) rfl (XT.ii_ne_t hs520) (by decide) (by decide) ?_
        refine XS.iload X708.here hx rfl (hb hby at_182) rfl ?_
        refine XS.iconst X708.here hx rfl (hb hby at_184) ?_
        show Steps _ _ _ (T708.setTop (mkF m 185 (L0_53 p0 p1 p2 p3 p4 b485 b509 b708) [(.int 1), (.int 4)])) _
        refine XS.icmpNo X708.here hx rfl (hb hby at_185) rfl (XT.ii_le_f (by decide : ((1 : Int32) < (4 : Int32)))) ?_
        refine XS.iload X708.here hx rfl (hb hby at_188) rfl ?_
        refine XS.bipush X708.here hx rfl (hb hby at_190) ?_
        refine XS.icmpYes X708.here hx rfl (pc0 := 192) (pc' := 201) rfl (hb hby at_192) rfl (XT.ii_ne_t hs584) (by decide) (by decide) ?_
        refine XS.iload X708.here hx rfl (hb hby at_201) rfl ?_
        show Steps _ _ _ (T708.setTop (mkF m 203 (L0_53 p0 p1 p2 p3 p4 b485 b509 b708) [(.int 4)])) _
        refine XS.iconst X708.here hx rfl (hb hby at_203) ?_
        refine XS.icmpNo X708.here hx rfl (hb hby at_204) rfl (XT.ii_le_f (by decide : ((2 : Int32) < (4 : Int32)))) ?_
        refine XS.iload X708.here hx rfl (hb hby at_207) rfl ?_
        refine XS.bipush X708.here hx rfl (hb hby at_209) ?_
        refine XS.icmpYes X708.here hx rfl (pc0 := 211) (pc' := 220) rfl (hb hby at_211) rfl (XT.ii_ne_t hs646) (by decide) (by decide) ?_
        show Steps _ _ _ (T708.setTop (mkF m 220 (L0_53 p0 p1 p2 p3 p4 b485 b509 b708) [])) _
        refine XS.iload X708.here hx rfl (hb hby at_220) rfl ?_
        refine XS.iconst X708.here hx rfl (hb hby at_222) ?_
        refine XS.icmpNo X708.here hx rfl (hb hby at_223) rfl (XT.ii_le_f (by decide : ((3 : Int32) < (4 : Int32)))) ?_
        refine XS.iload X708.here hx rfl (hb hby at_226) rfl ?_
        refine XS.bipush X708.here hx rfl (hb hby at_228) ?_
        show Steps _ _ _ (T708.setTop (mkF m 230 (L0_53 p0 p1 p2 p3 p4 b485 b509 b708) [(.int 63), (.int (f1 p3))])) _
        refine XS.icmpNo X708.here hx rfl (hb hby at_230) rfl (XT.ii_ne_f hs706) ?_
        refine XS.iconst X708.here hx rfl (hb hby at_233) ?_
        refine XS.istore X708.here hx rfl (hb hby at_234) rfl (l' := (L0_54 p0 p1 p2 p3 p4 b485 b509 b708)) rfl ?_
        refine XS.iload X708.here hx rfl (hb hby at_236) rfl ?_
        refine XS.ifYes X708.here hx rfl (pc0 := 238) (pc' := 252) rfl (hb hby at_238) rfl (XT.i0_ge_t (by decide : ¬ ((3 : Int32) < (0 : Int32)))) (by decide) (by decide) ?_
        show Steps _ _ _ (T708.setTop (mkF m 252 (L0_54 p0 p1 p2 p3 p4 b485 b509 b708) [])) _
        refine XS.aload X708.here hx rfl (hb hby at_252) rfl rfl ?_
        refine XT.nonnullYes X708.here hx rfl (pc0 := 254) (pc' := 259) rfl (hb hby at_254) rfl rfl (fun q => nomatch q) (by decide) (by decide) ?_
        refine XS.iload X708.here hx rfl (hb hby at_259) rfl ?_
        refine XS.iload X708.here hx rfl (hb hby at_261) rfl ?_
        refine XS.isub X708.here hx rfl (hb hby at_263) rfl ?_
        show Steps _ _ _ (T708.setTop (mkF m 264 (L0_54 p0 p1 p2 p3 p4 b485 b509 b708) [(.int 1)])) _
        refine XS.iconst X708.here hx rfl (hb hby at_264) ?_
        refine XS.isub X708.here hx rfl (hb hby at_265) rfl ?_
        refine XS.istore X708.here hx rfl (hb hby at_266) rfl (l' := (L0_52 p0 p1 p2 p3 p4 b485 b509 b708)) rfl ?_
        refine XS.aload X708.here hx rfl (hb hby at_268) rfl rfl ?_
        exact k
      obtain ⟨_, T716, Lc716, X716, hQ716, st716⟩ := own_cv X708 hx hZ708 hown708 hml go715 (hb hby at_270) rfl (hw _ (mi 124 rfl)) (own_site185 hw) GE708 (rmln l Z aZ hw [] _ _ _ _ [] _ T708.heap n0 Zs708 GE708 GC708 GX708 GV708 (own_sta_keep S_COMPACT_STRINGS K708 all0) hcs) (by decide) (argsL := []) (rest := []) rfl rfl rfl (lenOf pd_186 rfl) (W := 0) rfl (by decide) (by decide) (by decide : 5 + 0 ≤ _) (by decide : 16 + 0 ≤ _)
      obtain ⟨rfl, N716q, e716⟩ := hQ716
      have N716 := Fr.app N708 N716q
      have go717 : Go p.tables e below T716 (mkF m 281 (L0_52 p0 p1 p2 p3 p4 b485 b509 b708) [(.int 4)]) En := by
        intro t k
        refine st716 _ ?_
        refine XS.iload X716.here hx rfl (hb hby at_273) rfl ?_
        refine XS.icmpYes X716.here hx rfl (pc0 := 275) (pc' := 280) rfl (hb hby at_275) rfl (XT.ii_eq_t (by decide : ((0 : Int32) = (0 : Int32)))) (by decide) (by decide) ?_
        refine XS.iconst X716.here hx rfl (hb hby at_280) ?_
        exact k
      obtain ⟨T718, h718, k718, X718, e718, E718, A718, st718⟩ := newP X716 hx hZ708 (hw _ (mi 5 rfl)) e716 (g := (mkF m 281 (L0_52 p0 p1 p2 p3 p4 b485 b509 b708) [(.int 4)])) rfl (hb hby at_281) rfl (by decide) (cap := 4) (by decide) (by decide) (by decide) (by decide)
      obtain ⟨b718, g718⟩ : ∃ z, z = T708.heap.size := ⟨_, rfl⟩
      rw [← g718] at A718 st718
      have ne719 : b708 ≠ b718 := Nat.ne_of_lt (Nat.lt_of_lt_of_le GE708.lt (Nat.le_of_eq g718.symm))
      have ne720 : bx708 ≠ b718 := Nat.ne_of_lt (Nat.lt_of_lt_of_le GV708.lt (Nat.le_of_eq g718.symm))
      have low718 : n0 ≤ b718 := Nat.le_trans Zs708 (Nat.le_of_eq g718.symm)
      have fsh718 : h0.size ≤ b718 := Nat.le_trans K708.1 (Nat.le_of_eq g718.symm)
      have K718 : Keep h0 h718 [] := K708.ext E718
      have Zs718 : n0 ≤ h718.size := Nat.le_trans Zs708 E718.1
      have hk718 : T708.heap.size ≤ h718.size := Nat.le_trans hk708r E718.1
      have go721 := gap go717 st718
      have F722 := GE708.ext E718
      have F723 := GC708.ext E718
      have F724 := GX708.ext E718
      have F725 := GV708.ext E718
      have F726 : Arv Z h718 b718 k718 .char (4 : Int32) [(.int 0), (.int 0), (.int 0), (.int 0)] (.int 0) := (Arv.new A718 (by decide)).pad (pad_rep [] (.int 0) 4)
      have go727 : Go p.tables e below T718 (mkF m 287 (L0_52 p0 p1 p2 p3 p4 b485 b509 b708) [(.int (f1 p0)), (.int 0), (.ref b718), (.ref b718)]) En := by
        intro t k
        refine go721 _ ?_
        refine XS.dup X718.here hx rfl (hb hby at_283) rfl rfl ?_
        refine XS.iconst X718.here hx rfl (hb hby at_284) ?_
        refine XS.iload X718.here hx rfl (hb hby at_285) rfl ?_
        exact k
      obtain ⟨cl729, Ar729, q729, S729, N729, H729, G729⟩ := id F726
      obtain ⟨T728, h728, X728, e728, W728, st728⟩ := stC X718 hx hZ708 e718 Ar729 (j := (0 : Int32)) (inb_of S729 ⟨by decide, by decide⟩) (g := (mkF m 287 (L0_52 p0 p1 p2 p3 p4 b485 b509 b708) [(.int (f1 p0)), (.int 0), (.ref b718), (.ref b718)])) rfl rfl (hb hby at_287)
      have go730 := gap go727 st728
      have N728 := Fr.snoc X728 N716 low718
      have K728 : Keep h0 h728 [] := K718.wr W728 (Or.inr fsh718)
      have Zs728 : n0 ≤ h728.size := Nat.le_trans Zs718 (Keep.of_wr W728).1
      have hk728 : T708.heap.size ≤ h728.size := Nat.le_trans hk718 (Keep.of_wr W728).1
      have F731 := F722.wr W728
      have F732 := F723.other W728 (Or.inl ne719)
      have F733 := F724.other W728 (Or.inl ne719)
      have F734 := F725.other W728 ne720
      have F735 : Arv Z h728 b718 k718 .char (4 : Int32) [(.int (f1 p0).toUInt32.toUInt16.toUInt32.toInt32), (.int 0), (.int 0), (.int 0)] (.int 0) := Arv.set Ar729 q729 S729 N729 H729 G729 (fits_nar_char _) W728 0 rfl (Nat.le_of_ble_eq_true rfl)
      have go736 : Go p.tables e below T728 (mkF m 292 (L0_52 p0 p1 p2 p3 p4 b485 b509 b708) [(.int (f1 p1)), (.int 1), (.ref b718), (.ref b718)]) En := by
        intro t k
        refine go730 _ ?_
        refine XS.dup X728.here hx rfl (hb hby at_288) rfl rfl ?_
        refine XS.iconst X728.here hx rfl (hb hby at_289) ?_
        refine XS.iload X728.here hx rfl (hb hby at_290) rfl ?_
        exact k
      obtain ⟨cl738, Ar738, q738, S738, N738, H738, G738⟩ := id F735
      obtain ⟨T737, h737, X737, e737, W737, st737⟩ := stC X728 hx hZ708 e728 Ar738 (j := (1 : Int32)) (inb_of S738 ⟨by decide, by decide⟩) (g := (mkF m 292 (L0_52 p0 p1 p2 p3 p4 b485 b509 b708) [(.int (f1 p1)), (.int 1), (.ref b718), (.ref b718)])) rfl rfl (hb hby at_292)
      have go739 := gap go736 st737
      have N737 := Fr.snoc X737 N728 low718
      have K737 : Keep h0 h737 [] := K728.wr W737 (Or.inr fsh718)
      have Zs737 : n0 ≤ h737.size := Nat.le_trans Zs728 (Keep.of_wr W737).1
      have hk737 : T708.heap.size ≤ h737.size := Nat.le_trans hk728 (Keep.of_wr W737).1
      have F740 := F731.wr W737
      have F741 := F732.other W737 (Or.inl ne719)
      have F742 := F733.other W737 (Or.inl ne719)
      have F743 := F734.other W737 ne720
      have F744 : Arv Z h737 b718 k718 .char (4 : Int32) [(.int (f1 p0).toUInt32.toUInt16.toUInt32.toInt32), (.int (f1 p1).toUInt32.toUInt16.toUInt32.toInt32), (.int 0), (.int 0)] (.int 0) := Arv.set Ar738 q738 S738 N738 H738 G738 (fits_nar_char _) W737 1 rfl (Nat.le_of_ble_eq_true rfl)
      have go745 : Go p.tables e below T737 (mkF m 297 (L0_52 p0 p1 p2 p3 p4 b485 b509 b708) [(.int (f1 p2)), (.int 2), (.ref b718), (.ref b718)]) En := by
        intro t k
        refine go739 _ ?_
        refine XS.dup X737.here hx rfl (hb hby at_293) rfl rfl ?_
        refine XS.iconst X737.here hx rfl (hb hby at_294) ?_
        refine XS.iload X737.here hx rfl (hb hby at_295) rfl ?_
        exact k
      obtain ⟨cl747, Ar747, q747, S747, N747, H747, G747⟩ := id F744
      obtain ⟨T746, h746, X746, e746, W746, st746⟩ := stC X737 hx hZ708 e737 Ar747 (j := (2 : Int32)) (inb_of S747 ⟨by decide, by decide⟩) (g := (mkF m 297 (L0_52 p0 p1 p2 p3 p4 b485 b509 b708) [(.int (f1 p2)), (.int 2), (.ref b718), (.ref b718)])) rfl rfl (hb hby at_297)
      have go748 := gap go745 st746
      have N746 := Fr.snoc X746 N737 low718
      have K746 : Keep h0 h746 [] := K737.wr W746 (Or.inr fsh718)
      have Zs746 : n0 ≤ h746.size := Nat.le_trans Zs737 (Keep.of_wr W746).1
      have hk746 : T708.heap.size ≤ h746.size := Nat.le_trans hk737 (Keep.of_wr W746).1
      have F749 := F740.wr W746
      have F750 := F741.other W746 (Or.inl ne719)
      have F751 := F742.other W746 (Or.inl ne719)
      have F752 := F743.other W746 ne720
      have F753 : Arv Z h746 b718 k718 .char (4 : Int32) [(.int (f1 p0).toUInt32.toUInt16.toUInt32.toInt32), (.int (f1 p1).toUInt32.toUInt16.toUInt32.toInt32), (.int (f1 p2).toUInt32.toUInt16.toUInt32.toInt32), (.int 0)] (.int 0) := Arv.set Ar747 q747 S747 N747 H747 G747 (fits_nar_char _) W746 2 rfl (Nat.le_of_ble_eq_true rfl)
      have go754 : Go p.tables e below T746 (mkF m 302 (L0_52 p0 p1 p2 p3 p4 b485 b509 b708) [(.int (f1 p3)), (.int 3), (.ref b718), (.ref b718)]) En := by
        intro t k
        refine go748 _ ?_
        refine XS.dup X746.here hx rfl (hb hby at_298) rfl rfl ?_
        refine XS.iconst X746.here hx rfl (hb hby at_299) ?_
        refine XS.iload X746.here hx rfl (hb hby at_300) rfl ?_
        exact k
      obtain ⟨cl756, Ar756, q756, S756, N756, H756, G756⟩ := id F753
      obtain ⟨T755, h755, X755, e755, W755, st755⟩ := stC X746 hx hZ708 e746 Ar756 (j := (3 : Int32)) (inb_of S756 ⟨by decide, by decide⟩) (g := (mkF m 302 (L0_52 p0 p1 p2 p3 p4 b485 b509 b708) [(.int (f1 p3)), (.int 3), (.ref b718), (.ref b718)])) rfl rfl (hb hby at_302)
      have go757 := gap go754 st755
      have N755 := Fr.snoc X755 N746 low718
      have K755 : Keep h0 h755 [] := K746.wr W755 (Or.inr fsh718)
      have Zs755 : n0 ≤ h755.size := Nat.le_trans Zs746 (Keep.of_wr W755).1
      have hk755 : T708.heap.size ≤ h755.size := Nat.le_trans hk746 (Keep.of_wr W755).1
      have F758 := F749.wr W755
      have F759 := F750.other W755 (Or.inl ne719)
      have F760 := F751.other W755 (Or.inl ne719)
      have F761 := F752.other W755 ne720
      have F762 : Arv Z h755 b718 k718 .char (4 : Int32) [(.int (f1 p0).toUInt32.toUInt16.toUInt32.toInt32), (.int (f1 p1).toUInt32.toUInt16.toUInt32.toInt32), (.int (f1 p2).toUInt32.toUInt16.toUInt32.toInt32), (.int (f1 p3).toUInt32.toUInt16.toUInt32.toInt32)] (.int 0) := Arv.set Ar756 q756 S756 N756 H756 G756 (fits_nar_char _) W755 3 rfl (Nat.le_of_ble_eq_true rfl)
      have go763 : Go p.tables e below T755 (mkF m 411 (L0_55 p0 p1 p2 p3 p4 b485 b509 b708 b718) [(.int 1)]) En := by
        intro t k
        refine go757 _ ?_
        refine XS.astore X755.here hx rfl (hb hby at_303) rfl rfl (l' := #[iv p0, iv p1, iv p2, iv p3, iv p4, iv (f1 p0), iv (f1 p1), iv (f1 p2), iv (f1 p3), iv 4, rv b485, rv b509, rv b708, iv 3, iv 0, rv b718, .unset]) rfl ?_
        refine XS.iconst X755.here hx rfl (hb hby at_305) ?_
        refine XS.istore X755.here hx rfl (hb hby at_306) rfl (l' := (L0_55 p0 p1 p2 p3 p4 b485 b509 b708 b718)) rfl ?_
        refine XS.iload X755.here hx rfl (hb hby at_308) rfl ?_
        refine XS.ifYes X755.here hx rfl (pc0 := 310) (pc' := 341) rfl (hb hby at_310) rfl (XT.i0_le_t (by decide : ¬ ((0 : Int32) < (0 : Int32)))) (by decide) (by decide) ?_
        show Steps _ _ _ (T755.setTop (mkF m 341 (L0_55 p0 p1 p2 p3 p4 b485 b509 b708 b718) [])) _
        refine XS.iload X755.here hx rfl (hb hby at_341) rfl ?_
        refine XS.iconst X755.here hx rfl (hb hby at_343) ?_
        refine XS.icmpYes X755.here hx rfl (pc0 := 344) (pc' := 375) rfl (hb hby at_344) rfl (XT.ii_le_t (by decide : ¬ ((1 : Int32) < (0 : Int32)))) (by decide) (by decide) ?_
        refine XS.iload X755.here hx rfl (hb hby at_375) rfl ?_
        refine XS.iconst X755.here hx rfl (hb hby at_377) ?_
        show Steps _ _ _ (T755.setTop (mkF m 378 (L0_55 p0 p1 p2 p3 p4 b485 b509 b708 b718) [(.int 2), (.int 0)])) _
        refine XS.icmpYes X755.here hx rfl (pc0 := 378) (pc' := 409) rfl (hb hby at_378) rfl (XT.ii_le_t (by decide : ¬ ((2 : Int32) < (0 : Int32)))) (by decide) (by decide) ?_
        refine XS.iload X755.here hx rfl (hb hby at_409) rfl ?_
        exact k
      obtain ⟨fs, hr, hrun, hended, hRW⟩ := X755.leaveW hS708 (by rw [e755]; exact hk755) (v := some (.int 1)) (fun h => by rw [Bd.returns] at h; cases h) Bd.notSynchronized
      subst hEn
      refine ⟨_, _, go763 _ (Jvm.RoadKit.retOut X755 hx Bd.returns rfl (Or.inl ⟨rfl, Or.inr (Or.inl rfl), _, rfl⟩) (hb hby at_411) hr), hrun, hended, _, _, rfl, ?_, hRW.1, hRW.2.1, hRW.2.2.1, hRW.2.2.2.mono (by decide) (by decide)⟩
      show Q0 _ _ p0 p1 p2 p3 p4 s_COMPACT_STRINGS s_SIOOBE_FORMATTER h0 _ (T755.setFrames fs).heap _
      have hE : (T755.setFrames fs).heap = h755 := e755
      rw [hE]
      exact ⟨congrArg (fun z => some (Value.int z)) ((by rw [f0, if_neg hs11, if_neg hs33, if_neg hs117, if_neg hs266, if_pos hs482, if_neg hs520, if_neg hs584, if_neg hs646, if_pos hs706] : (1 : Int32) = (f0 p0 p1 p2 p3 p4)).trans (f0_one p0 p1 p2 p3 p4)), N755⟩
    have go764 : Go p.tables e below T516 (mkF m 156 (L0_40 p0 p1 p2 p3 p4 b485 b509) [(.ref b509)]) En := by
      intro t k
      refine go519 _ ?_
      refine XS.aload X516.here hx rfl (hb hby at_154) rfl rfl ?_
      exact k
    obtain ⟨_, T765, Lc765, X765, hQ765, st765⟩ := own_cs X516 hx hZ hown hml go764 (hb hby at_156) rfl (hw _ (mi 27 rfl)) (own_site407 hw) (rmqs4_m l Z aZ hw [] _ _ _ _ _ _ _ _ T516.heap n0 Zs516 G516_0 G516_1 GX516 GV516 (own_sta_keep S_COMPACT_STRINGS K516 all0) hcs (by rw [fiz4, fiy4, fix4, fic4, if_neg (own_qf p0 hs520), if_neg (own_qf p1 hs584), if_neg (own_qf p2 hs646), if_neg (own_qf p3 hs706)])) (by decide) (argsL := [(.ref b509)]) (rest := []) rfl rfl rfl (lenOf pd_408 rfl) (W := 0) rfl (by decide) (by decide) (by decide : 3 + 0 ≤ _) (by decide : 12 + 0 ≤ _)
    obtain ⟨rfl, N765q, e765⟩ := hQ765
    have N765 := Fr.app N516 N765q
    have go766 : Go p.tables e below T765 (mkF m 251 (L0_56 p0 p1 p2 p3 p4 b485 b509) [(.int 1)]) En := by
      intro t k
      refine st765 _ ?_
      refine XS.astore X765.here hx rfl (hb hby at_159) rfl rfl (l' := #[iv p0, iv p1, iv p2, iv p3, iv p4, iv (f1 p0), iv (f1 p1), iv (f1 p2), iv (f1 p3), iv 4, rv b485, rv b509, .val .null, .unset, .unset, .unset, .unset]) rfl ?_
      refine XS.iconst X765.here hx rfl (hb hby at_161) ?_
      refine XS.istore X765.here hx rfl (hb hby at_162) rfl (l' := (L0_56 p0 p1 p2 p3 p4 b485 b509)) rfl ?_
      refine XS.iload X765.here hx rfl (hb hby at_164) rfl ?_
      refine XS.ifNo X765.here hx rfl (hb hby at_166) rfl (XT.i0_le_f (by decide : ((0 : Int32) < (4 : Int32)))) ?_
      show Steps _ _ _ (T765.setTop (mkF m 169 (L0_56 p0 p1 p2 p3 p4 b485 b509) [])) _
      refine XS.iload X765.here hx rfl (hb hby at_169) rfl ?_
      refine XS.bipush X765.here hx rfl (hb hby at_171) ?_
      refine XS.icmpYes X765.here hx rfl (pc0 := 173) (pc' := 182) rfl (hb hby at_173) rfl (XT.ii_ne_t hs520) (by decide) (by decide) ?_
      refine XS.iload X765.here hx rfl (hb hby at_182) rfl ?_
      refine XS.iconst X765.here hx rfl (hb hby at_184) ?_
      show Steps _ _ _ (T765.setTop (mkF m 185 (L0_56 p0 p1 p2 p3 p4 b485 b509) [(.int 1), (.int 4)])) _
      refine XS.icmpNo X765.here hx rfl (hb hby at_185) rfl (XT.ii_le_f (by decide : ((1 : Int32) < (4 : Int32)))) ?_
      refine XS.iload X765.here hx rfl (hb hby at_188) rfl ?_
      refine XS.bipush X765.here hx rfl (hb hby at_190) ?_
      refine XS.icmpYes X765.here hx rfl (pc0 := 192) (pc' := 201) rfl (hb hby at_192) rfl (XT.ii_ne_t hs584) (by decide) (by decide) ?_
      refine XS.iload X765.here hx rfl (hb hby at_201) rfl ?_
      show Steps _ _ _ (T765.setTop (mkF m 203 (L0_56 p0 p1 p2 p3 p4 b485 b509) [(.int 4)])) _
      refine XS.iconst X765.here hx rfl (hb hby at_203) ?_
      refine XS.icmpNo X765.here hx rfl (hb hby at_204) rfl (XT.ii_le_f (by decide : ((2 : Int32) < (4 : Int32)))) ?_
      refine XS.iload X765.here hx rfl (hb hby at_207) rfl ?_
      refine XS.bipush X765.here hx rfl (hb hby at_209) ?_
      refine XS.icmpYes X765.here hx rfl (pc0 := 211) (pc' := 220) rfl (hb hby at_211) rfl (XT.ii_ne_t hs646) (by decide) (by decide) ?_
      show Steps _ _ _ (T765.setTop (mkF m 220 (L0_56 p0 p1 p2 p3 p4 b485 b509) [])) _
      refine XS.iload X765.here hx rfl (hb hby at_220) rfl ?_
      refine XS.iconst X765.here hx rfl (hb hby at_222) ?_
      refine XS.icmpNo X765.here hx rfl (hb hby at_223) rfl (XT.ii_le_f (by decide : ((3 : Int32) < (4 : Int32)))) ?_
      refine XS.iload X765.here hx rfl (hb hby at_226) rfl ?_
      refine XS.bipush X765.here hx rfl (hb hby at_228) ?_
      show Steps _ _ _ (T765.setTop (mkF m 230 (L0_56 p0 p1 p2 p3 p4 b485 b509) [(.int 63), (.int (f1 p3))])) _
      refine XS.icmpYes X765.here hx rfl (pc0 := 230) (pc' := 236) rfl (hb hby at_230) rfl (XT.ii_ne_t hs706) (by decide) (by decide) ?_
      refine XS.iload X765.here hx rfl (hb hby at_236) rfl ?_
      refine XS.ifNo X765.here hx rfl (hb hby at_238) rfl (XT.i0_ge_f (by decide : ((-1 : Int32) < (0 : Int32)))) ?_
      refine XS.aload X765.here hx rfl (hb hby at_241) rfl rfl ?_
      refine XT.nonnullNo X765.here hx rfl (hb hby at_243) rfl rfl ?_
      show Steps _ _ _ (T765.setTop (mkF m 246 (L0_56 p0 p1 p2 p3 p4 b485 b509) [])) _
      refine XS.iconst X765.here hx rfl (hb hby at_246) ?_
      refine XS.goto X765.here hx rfl (pc0 := 247) (pc' := 251) rfl (hb hby at_247) (by decide) (by decide) ?_
      exact k
    obtain ⟨fs, hr, hrun, hended, hRW⟩ := X765.leaveW hS0 (by rw [e765]; exact hk516) (v := some (.int 1)) (fun h => by rw [Bd.returns] at h; cases h) Bd.notSynchronized
    subst hEn
    refine ⟨_, _, go766 _ (Jvm.RoadKit.retOut X765 hx Bd.returns rfl (Or.inl ⟨rfl, Or.inr (Or.inl rfl), _, rfl⟩) (hb hby at_251) hr), hrun, hended, _, _, rfl, ?_, hRW.1, hRW.2.1, hRW.2.2.1, hRW.2.2.2.mono (by decide) (by decide)⟩
    show Q0 _ _ p0 p1 p2 p3 p4 s_COMPACT_STRINGS s_SIOOBE_FORMATTER h0 _ (T765.setFrames fs).heap _
    have hE : (T765.setFrames fs).heap = T516.heap := e765
    rw [hE]
    exact ⟨congrArg (fun z => some (Value.int z)) ((by rw [f0, if_neg hs11, if_neg hs33, if_neg hs117, if_neg hs266, if_pos hs482, if_neg hs520, if_neg hs584, if_neg hs646, if_neg hs706] : (1 : Int32) = (f0 p0 p1 p2 p3 p4)).trans (f0_one p0 p1 p2 p3 p4)), N765⟩
  exact (own_dead5 p4 hs11 hs33 hs117 hs266 hs482).elim
set_option maxRecDepth 65536 in
set_option maxHeartbeats 40000000 in
theorem comes_1 {Post : Tables → Env → Array Value → State → Outcome → State → Prop} (hpost : ∀ tb e args s v u, (limb_1_1.after args s (.returned v) u = true ∧ limb_1_2.after args s (.returned v) u = true ∧ True) → ReturnedEndW s (.returned v) u (Jvm.fieldLocs frame_1_writes args s ++ Jvm.arrayLocs frame_1_arrays args s ++ Jvm.staticLocs frame_1_statics s) 24 2176 → Post tb e args s (.returned v) u) :
    ArmFor flags0 classFile x code maxLocals ret World_1 tables_1 room_1 Calls_1 rest_1 Pre_1 Post := by
  intro l hfl _ _ p e ha hc hk s m args below hf hA hF happ hP
  obtain ⟨hcalls, hrest, hpre⟩ := hP
  obtain ⟨-, -, -, hnamed, -, -, -, hat⟩ := (Spec.applies_iff hf).mp happ
  obtain ⟨hg, hn⟩ := and_e (Cond.before_iff.mp (show (Jvm.Cond.and given_1 narrow_1).before args s = true from hpre))
  obtain ⟨hcount, hg1⟩ := and_e hg
  obtain ⟨ha0, hb0⟩ := and_e hg1
  obtain ⟨ha1, hb1⟩ := and_e hb0
  obtain ⟨ha2, hb2⟩ := and_e hb1
  obtain ⟨ha3, hb3⟩ := and_e hb2
  obtain ⟨w0, w1, w2, w3, w4, rfl⟩ : ∃ w0 w1 w2 w3 w4 : Value, args = #[w0, w1, w2, w3, w4] := by
    have hs : args.size = 5 := by simpa [Cond.value, given_1] using hcount
    obtain ⟨L⟩ := args
    match L, hs with
    | [w0, w1, w2, w3, w4], _ => exact ⟨w0, w1, w2, w3, w4, rfl⟩
  have hw := fun d (hd : d ∈ tables_1) => atoms_spec (ws := Jvm.Cond.code x code maxLocals ret :: tables_1) hat d (List.mem_cons_of_mem _ hd)
  have hfit : Fit s := fun {y c} hc i hi => by
    obtain ⟨ha, rfl⟩ := Array.getElem?_eq_some_iff.mp hc
    have q := List.all_eq_true.mp ((Array.all_eq_true_iff_forall_mem.mp hF) _ (Array.getElem_mem ha)) i (List.mem_range.mpr hi)
    simpa [Array.getElem?_eq_getElem hi] using q
  obtain ⟨hsets, hown0⟩ := atoms_of _ (rest_1_c_eq ▸ (show rest_1_c.before _ s = true from hrest))
  have hr0 := Cond.before_iff.mp hown0
  obtain ⟨i0, ei0⟩ := is_v ha0
  obtain rfl : w0 = (.int i0) := Option.some.inj ei0
  obtain ⟨i1, ei1⟩ := is_v ha1
  obtain rfl : w1 = (.int i1) := Option.some.inj ei1
  obtain ⟨i2, ei2⟩ := is_v ha2
  obtain rfl : w2 = (.int i2) := Option.some.inj ei2
  obtain ⟨i3, ei3⟩ := is_v ha3
  obtain rfl : w3 = (.int i3) := Option.some.inj ei3
  obtain ⟨i4, ei4⟩ := is_v hb3
  obtain rfl : w4 = (.int i4) := Option.some.inj ei4
  obtain ⟨cs, ecs⟩ := is_v (Cond.before_iff.mp (hsets _ (List.mem_of_getElem? (i := 1) rfl)))
  have S_COMPACT_STRINGS : Sta s s.heap "java/lang/String" "COMPACT_STRINGS" "Z" (.int cs) := Sta.start ecs (Or.inl (hsets _ (List.mem_of_getElem? (i := 0) rfl)))
  have hcs : ¬ cs = (0 : Int32) := fun q => by subst q; have z := not_v (Cond.before_iff.mp (hsets _ (List.mem_of_getElem? (i := 2) rfl))); rw [eq_i ecs (Term.int_eval (0 : Int32)) rfl] at z; cases z
  obtain ⟨sf, esf, rsf⟩ := isR_v (Cond.before_iff.mp (hsets _ (List.mem_of_getElem? (i := 8) rfl)))
  have S_SIOOBE_FORMATTER : Sta s s.heap "jdk/internal/util/Preconditions" "SIOOBE_FORMATTER" "Ljava/util/function/BiFunction;" sf := Sta.start esf (Or.inl (hsets _ (List.mem_of_getElem? (i := 7) rfl)))
  have hkp : ∀ (b : Addr) (cl : Cell), s.heap[b]? = some cl → s.heap[b]? = some cl := fun _ _ q => q
  have hcw : Jvm.Lit.compactW.before _ s = true := hsets _ (List.mem_of_getElem? (i := 2) rfl)
  have hcn7 : Jvm.Lit.constHeld s "java/lang/String" 7 := hcalls.1 ("java/lang/String", 7) (by simp [consts_1])
  have hcn151 : Jvm.Lit.constHeld s "java/lang/StringLatin1" 151 := hcalls.1 ("java/lang/StringLatin1", 151) (by simp [consts_1])
  obtain ⟨n, o, h1, h2, h3, _, L, rfl, ⟨rfl, N⟩, hq⟩ := rm0 l s _ hw tables_1 i0 i1 i2 i3 i4 cs sf s.heap s.heap.size (Nat.le_refl _) hkp hcn7 hcn151 hcw S_COMPACT_STRINGS hcs S_SIOOBE_FORMATTER rsf p e ha hc hk s m _ below hf ((Spec.applies_iff_loose hf).mp happ).1 ⟨rfl, State.Warmed39.refl s, rfl, IB.start⟩ trivial
  refine ⟨n, _, h1, h2, h3, hpost _ _ _ _ _ _ ⟨Cond.after_iff.mpr rfl, Cond.after_iff.mpr (eq_i res_at (Term.int_eval (1)) rfl), trivial⟩ ⟨hq.1, hq.2.1, hq.2.2.1, (hq.2.2.2.sift fun y hy => Or.inr (N y hy)).mono (by decide) (by decide)⟩⟩
theorem main_1_1 : Claimed_1_1 := comes_1 fun _ _ _ _ _ _ h hF => ⟨h.1, hF⟩
theorem main_1_2 : Claimed_1_2 := comes_1 fun _ _ _ _ _ _ h hF => ⟨h.2.1, hF⟩
end Jvm.Pilot.@@N@@
namespace Jvm.Pilot.@@N@@
open Jvm Jvm.ClassFile Sem Op Lib Jvm.Free Jvm.Stand Jvm.Pilot.@@N@@.Jvm.D
/-! MADE BY PROGRAM (witnessworld.py) out of the Statement's table words and the real class files: 24 classes; the members and pool entries that the words name. The judged class is class 1, her method 2. -/
namespace start1
open Jvm.ClassFile
def u (s : String) : CpInfo := .utf8 (stringToUtf16 s)
/-- a pool by its gaps: so many unusable entries, then the entry; so many at the end -/
def gap : Nat → List CpInfo → List CpInfo
  | 0, r => r
  | n + 1, r => .unusable :: gap n r
def poolList (es : List (Nat × CpInfo)) (last : Nat) : List CpInfo := es.foldr (fun e r => gap e.1 (e.2 :: r)) (gap last [])
def pool (es : List (Nat × CpInfo)) (last : Nat) : Array CpInfo := ⟨poolList es last⟩
def fileOf (pool : Array CpInfo) (this : Nat) (attrs : Array Attribute := #[]) (ms : Array MethodInfo := #[]) (fl : Nat := 33) (sup : Nat := 0) (ifs : Array Nat := #[]) (fds : Array FieldInfo := #[]) : ClassFile where
  minorVersion := 0
  majorVersion := 65
  constantPool := pool
  accessFlags := fl
  thisClass := this
  superClass := sup
  interfaces := ifs
  fields := fds
  methods := ms
  attributes := attrs
def plain (name : String) (sup : Option ClassId) : Class where
  name := name
  kind := .ordinary
  loader := none
  accessFlags := 33
  super := sup
  interfaces := #[]
  cf := none
  fields := #[]
  methods := #[]
  instanceTypes := #[]
  staticTypes := #[]
  resolved := #[]
  callSites := []
  init := .initialized
  statics := none
  mirror := none

def pool0 : Array CpInfo := pool [(5, u "<init>"), (0, u "()V"), (1, .class_ 10), (1, u "java/lang/Object")] 113

def k0c0 : Code := { maxStack := 0, maxLocals := 1, code := object_method_1_code, exceptionTable := #[], attributes := #[] }
def k0m0 : Method := { name := "<init>", desc := "()V", sig := { parameters := [], returnType := none }, accessFlags := 1, code := some k0c0 }
/-- java/lang/Object -/
def k0 : Class := { plain "java/lang/Object" none with
  accessFlags := 33
  interfaces := #[]
  cf := some (fileOf pool0 8 #[] #[{ accessFlags := 1, nameIndex := 5, descriptorIndex := 6, attributes := #[] }] 33 0 #[] #[])
  fields := #[]
  methods := #[k0m0]
  instanceTypes := #[]
  staticTypes := #[]
  resolved := Array.replicate 124 none
  statics := none }

def pool1 : Array CpInfo := pool [(2, .class_ 4), (1, u "java/lang/Object"), (0, u "<init>"), (0, u "()V"), (0, .methodref 8 9), (0, .class_ 10), (0, .nameAndType 11 12), (0, u "com/example/nephele/nephele/web/internal/RequestPathQueryStringPinLaw"), (0, u "ch"), (0, u "(I)C"), (0, .integer 2147483647), (0, .class_ 15), (0, u "java/lang/String"), (0, .methodref 14 17), (0, .nameAndType 5 18), (0, u "([C)V"), (0, .methodref 20 21), (0, .class_ 22), (0, .nameAndType 23 24), (0, u "com/example/nephele/nephele/web/internal/RequestPath"), (0, u "queryString"), (0, u "(Ljava/lang/String;)Ljava/lang/String;"), (0, .methodref 14 26), (0, .nameAndType 27 28), (0, u "length"), (0, u "()I"), (0, .methodref 14 30), (0, .nameAndType 31 12), (0, u "charAt"), (3, u "law"), (0, u "(IIIII)Z")] 4

def k1m0 : Method := { name := "<init>", desc := "()V", sig := { parameters := [], returnType := none }, accessFlags := 1, code := none }
def k1c1 : Code := { maxStack := 2, maxLocals := 1, code := method_2_code, exceptionTable := #[], attributes := #[] }
def k1m1 : Method := { name := "ch", desc := "(I)C", sig := { parameters := [.int], returnType := some .char }, accessFlags := 10, code := some k1c1 }
def k1c2 : Code := { maxStack := 4, maxLocals := 17, code := code, exceptionTable := #[], attributes := #[] }
def k1m2 : Method := { name := "law", desc := "(IIIII)Z", sig := { parameters := [.int, .int, .int, .int, .int], returnType := some .boolean }, accessFlags := 9, code := some k1c2 }
/-- com/example/nephele/nephele/web/internal/RequestPathQueryStringPinLaw -/
def k1 : Class := { plain "com/example/nephele/nephele/web/internal/RequestPathQueryStringPinLaw" (some 0) with
  accessFlags := 49
  interfaces := #[]
  cf := some (fileOf pool1 8 #[] #[{ accessFlags := 1, nameIndex := 5, descriptorIndex := 6, attributes := #[] }, { accessFlags := 10, nameIndex := 11, descriptorIndex := 12, attributes := #[] }, { accessFlags := 9, nameIndex := 35, descriptorIndex := 36, attributes := #[] }] 49 2 #[] #[])
  fields := #[]
  methods := #[k1m0, k1m1, k1m2]
  instanceTypes := #[]
  staticTypes := #[]
  resolved := Array.replicate 41 none
  statics := none }

def pool2 : Array CpInfo := pool [(1, .class_ 2), (0, u "java/io/Serializable"), (0, .class_ 4), (0, u "java/lang/Object")] 2

/-- java/io/Serializable -/
def k2 : Class := { plain "java/io/Serializable" (some 0) with
  accessFlags := 1537
  interfaces := #[]
  cf := some (fileOf pool2 1 #[] #[] 1537 3 #[] #[])
  fields := #[]
  methods := #[]
  instanceTypes := #[]
  staticTypes := #[]
  resolved := Array.replicate 7 none
  statics := none }

def pool3 : Array CpInfo := pool [(1, .class_ 2), (0, u "java/lang/Comparable"), (0, .class_ 4), (0, u "java/lang/Object")] 7

/-- java/lang/Comparable -/
def k3 : Class := { plain "java/lang/Comparable" (some 0) with
  accessFlags := 1537
  interfaces := #[]
  cf := some (fileOf pool3 1 #[] #[] 1537 3 #[] #[])
  fields := #[]
  methods := #[]
  instanceTypes := #[]
  staticTypes := #[]
  resolved := Array.replicate 12 none
  statics := none }

def pool4 : Array CpInfo := pool [(2, .class_ 4), (1, u "java/lang/CharSequence"), (42, .class_ 48), (0, u "java/lang/CharSequence$1CodePointIterator"), (10, .class_ 60), (0, u "java/lang/CharSequence$1CharIterator"), (5, .class_ 67), (0, u "java/lang/Object")] 63

/-- java/lang/CharSequence -/
def k4 : Class := { plain "java/lang/CharSequence" (some 0) with
  accessFlags := 1537
  interfaces := #[]
  cf := some (fileOf pool4 2 #[.nestMembers #[47, 59]] #[] 1537 66 #[] #[])
  fields := #[]
  methods := #[]
  instanceTypes := #[]
  staticTypes := #[]
  resolved := Array.replicate 131 none
  statics := none }

def pool5 : Array CpInfo := pool [(1, .class_ 2), (0, u "java/lang/constant/Constable"), (0, .class_ 4), (0, u "java/lang/Object")] 6

/-- java/lang/constant/Constable -/
def k5 : Class := { plain "java/lang/constant/Constable" (some 0) with
  accessFlags := 1537
  interfaces := #[]
  cf := some (fileOf pool5 1 #[] #[] 1537 3 #[] #[])
  fields := #[]
  methods := #[]
  instanceTypes := #[]
  staticTypes := #[]
  resolved := Array.replicate 11 none
  statics := none }

def pool6 : Array CpInfo := pool [(1, .class_ 2), (0, u "java/lang/constant/ConstantDesc"), (0, .class_ 4), (0, u "java/lang/Object")] 32

/-- java/lang/constant/ConstantDesc -/
def k6 : Class := { plain "java/lang/constant/ConstantDesc" (some 0) with
  accessFlags := 1537
  interfaces := #[]
  cf := some (fileOf pool6 1 #[] #[] 1537 3 #[] #[])
  fields := #[]
  methods := #[]
  instanceTypes := #[]
  staticTypes := #[]
  resolved := Array.replicate 37 none
  statics := none }

def pool7 : Array CpInfo := pool [(1, .methodref 2 3), (0, .class_ 4), (0, .nameAndType 5 6), (0, u "java/lang/Object"), (0, u "<init>"), (0, u "()V"), (0, .string 8), (0, u ""), (0, .fieldref 10 11), (0, .class_ 12), (0, .nameAndType 13 14), (0, u "java/lang/String"), (0, u "value"), (0, u "[B"), (0, .fieldref 10 16), (0, .nameAndType 17 18), (0, u "coder"), (0, u "B"), (2, u "hash"), (0, u "I"), (2, u "hashIsZero"), (0, u "Z"), (0, .methodref 10 28), (0, .nameAndType 5 29), (0, u "([CIILjava/lang/Void;)V"), (8, .fieldref 10 39), (0, .nameAndType 40 26), (0, u "COMPACT_STRINGS"), (1, .class_ 44), (1, u "java/lang/StringUTF16"), (0, u "compress"), (1, .methodref 42 48), (0, .nameAndType 49 50), (0, u "coderFromArrayLen"), (0, u "([BI)B"), (56, .class_ 109), (1, u "java/lang/StringLatin1"), (32, u "()Z"), (34, .methodref 42 178), (0, .nameAndType 45 179), (0, u "([CII)[B"), (31, u "([BB)V"), (122, u "()I"), (0, .methodref 10 336), (0, .nameAndType 17 337), (0, u "()B"), (25, u "([BI)C"), (27, u "(II)V"), (35, u "(I)C"), (64, .methodref 10 493), (0, .nameAndType 494 142), (0, u "isLatin1"), (0, .methodref 107 496), (0, .nameAndType 497 363), (0, u "charAt"), (3, u "checkIndex"), (3, .methodref 10 506), (0, .nameAndType 507 334), (0, u "length"), (5, u "checkFromToIndex"), (7, .methodref 10 522), (0, .nameAndType 523 524), (0, u "checkBoundsBeginEnd"), (0, u "(III)V"), (50, .class_ 576), (0, u "java/lang/CharSequence"), (22, u "CASE_INSENSITIVE_ORDER"), (0, u "Ljava/util/Comparator;"), (32, .methodref 10 634), (0, .nameAndType 635 636), (0, u "indexOf"), (0, u "(II)I"), (0, .methodref 107 638), (0, .nameAndType 635 639), (0, u "([BIII)I"), (41, .methodref 10 682), (0, .nameAndType 683 684), (0, u "substring"), (0, u "(II)Ljava/lang/String;"), (0, .methodref 107 686), (0, .nameAndType 687 688), (0, u "newString"), (0, u "([BII)Ljava/lang/String;"), (76, u "(I)I"), (126, u "(I)Ljava/lang/String;"), (117, u "([C)V"), (42, .fieldref 1054 1055), (0, .class_ 1056), (0, .nameAndType 1057 1058), (0, u "jdk/internal/util/Preconditions"), (0, u "SIOOBE_FORMATTER"), (0, u "Ljava/util/function/BiFunction;"), (0, .methodref 1054 1060), (0, .nameAndType 501 1061), (0, u "(IILjava/util/function/BiFunction;)I"), (0, .methodref 1054 1063), (0, .nameAndType 513 1064), (0, u "(IIILjava/util/function/BiFunction;)I"), (36, u "serialPersistentFields"), (0, u "[Ljava/io/ObjectStreamField;"), (0, .class_ 1104), (0, u "java/lang/String$CaseInsensitiveComparator"), (1, .class_ 1107), (0, u "java/io/Serializable"), (0, .class_ 1109), (0, u "java/lang/Comparable"), (0, .class_ 1111), (0, u "java/lang/constant/Constable"), (0, .class_ 1113), (0, u "java/lang/constant/ConstantDesc"), (2, u "serialVersionUID"), (0, u "J"), (3, u "REPL"), (0, u "C"), (2, u "LATIN1"), (1, u "UTF16")] 323

def k7m0 : Method := { name := "<init>", desc := "()V", sig := { parameters := [], returnType := none }, accessFlags := 1, code := none }
def k7c1 : Code := { maxStack := 5, maxLocals := 2, code := jdk_42_method_3_code, exceptionTable := #[], attributes := #[] }
def k7m1 : Method := { name := "<init>", desc := "([C)V", sig := { parameters := [(.array .char)], returnType := none }, accessFlags := 1, code := some k7c1 }
def k7c2 : Code := { maxStack := 2, maxLocals := 1, code := jdk_42_method_54_code, exceptionTable := #[], attributes := #[] }
def k7m2 : Method := { name := "length", desc := "()I", sig := { parameters := [], returnType := some .int }, accessFlags := 1, code := some k7c2 }
def k7c3 : Code := { maxStack := 2, maxLocals := 2, code := jdk_42_method_56_code, exceptionTable := #[], attributes := #[] }
def k7m3 : Method := { name := "charAt", desc := "(I)C", sig := { parameters := [.int], returnType := some .char }, accessFlags := 1, code := some k7c3 }
def k7c4 : Code := { maxStack := 3, maxLocals := 2, code := jdk_42_method_79_code, exceptionTable := #[], attributes := #[] }
def k7m4 : Method := { name := "indexOf", desc := "(I)I", sig := { parameters := [.int], returnType := some .int }, accessFlags := 1, code := some k7c4 }
def k7c5 : Code := { maxStack := 4, maxLocals := 3, code := jdk_42_method_80_code, exceptionTable := #[], attributes := #[] }
def k7m5 : Method := { name := "indexOf", desc := "(II)I", sig := { parameters := [.int, .int], returnType := some .int }, accessFlags := 1, code := some k7c5 }
def k7c6 : Code := { maxStack := 3, maxLocals := 2, code := jdk_42_method_91_code, exceptionTable := #[], attributes := #[] }
def k7m6 : Method := { name := "substring", desc := "(I)Ljava/lang/String;", sig := { parameters := [.int], returnType := some (.object "java/lang/String") }, accessFlags := 1, code := some k7c6 }
def k7c7 : Code := { maxStack := 3, maxLocals := 5, code := jdk_42_method_92_code, exceptionTable := #[], attributes := #[] }
def k7m7 : Method := { name := "substring", desc := "(II)Ljava/lang/String;", sig := { parameters := [.int, .int], returnType := some (.object "java/lang/String") }, accessFlags := 1, code := some k7c7 }
def k7c8 : Code := { maxStack := 4, maxLocals := 6, code := jdk_42_method_149_code, exceptionTable := #[], attributes := #[] }
def k7m8 : Method := { name := "<init>", desc := "([CIILjava/lang/Void;)V", sig := { parameters := [(.array .char), .int, .int, (.object "java/lang/Void")], returnType := none }, accessFlags := 2, code := some k7c8 }
def k7c9 : Code := { maxStack := 2, maxLocals := 3, code := jdk_42_method_151_code, exceptionTable := #[], attributes := #[] }
def k7m9 : Method := { name := "<init>", desc := "([BB)V", sig := { parameters := [(.array .byte), .byte], returnType := none }, accessFlags := 0, code := some k7c9 }
def k7c10 : Code := { maxStack := 1, maxLocals := 1, code := jdk_42_method_152_code, exceptionTable := #[], attributes := #[] }
def k7m10 : Method := { name := "coder", desc := "()B", sig := { parameters := [], returnType := some .byte }, accessFlags := 0, code := some k7c10 }
def k7c11 : Code := { maxStack := 1, maxLocals := 1, code := jdk_42_method_154_code, exceptionTable := #[], attributes := #[] }
def k7m11 : Method := { name := "isLatin1", desc := "()Z", sig := { parameters := [], returnType := some .boolean }, accessFlags := 0, code := some k7c11 }
def k7c12 : Code := { maxStack := 3, maxLocals := 2, code := jdk_42_method_155_code, exceptionTable := #[], attributes := #[] }
def k7m12 : Method := { name := "checkIndex", desc := "(II)V", sig := { parameters := [.int, .int], returnType := none }, accessFlags := 8, code := some k7c12 }
def k7c13 : Code := { maxStack := 4, maxLocals := 3, code := jdk_42_method_158_code, exceptionTable := #[], attributes := #[] }
def k7m13 : Method := { name := "checkBoundsBeginEnd", desc := "(III)V", sig := { parameters := [.int, .int, .int], returnType := none }, accessFlags := 8, code := some k7c13 }
/-- java/lang/String -/
def k7 : Class := { plain "java/lang/String" (some 0) with
  accessFlags := 49
  interfaces := #[2, 3, 4, 5, 6]
  cf := some (fileOf pool7 10 #[.nestMembers #[1103]] #[{ accessFlags := 1, nameIndex := 5, descriptorIndex := 6, attributes := #[] }, { accessFlags := 1, nameIndex := 5, descriptorIndex := 1010, attributes := #[] }, { accessFlags := 1, nameIndex := 507, descriptorIndex := 334, attributes := #[] }, { accessFlags := 1, nameIndex := 497, descriptorIndex := 427, attributes := #[] }, { accessFlags := 1, nameIndex := 635, descriptorIndex := 765, attributes := #[] }, { accessFlags := 1, nameIndex := 635, descriptorIndex := 636, attributes := #[] }, { accessFlags := 1, nameIndex := 683, descriptorIndex := 892, attributes := #[] }, { accessFlags := 1, nameIndex := 683, descriptorIndex := 684, attributes := #[] }, { accessFlags := 2, nameIndex := 5, descriptorIndex := 29, attributes := #[] }, { accessFlags := 0, nameIndex := 5, descriptorIndex := 211, attributes := #[] }, { accessFlags := 0, nameIndex := 17, descriptorIndex := 337, attributes := #[] }, { accessFlags := 0, nameIndex := 494, descriptorIndex := 142, attributes := #[] }, { accessFlags := 8, nameIndex := 501, descriptorIndex := 391, attributes := #[] }, { accessFlags := 8, nameIndex := 523, descriptorIndex := 524, attributes := #[] }] 49 2 #[1106, 1108, 575, 1110, 1112] #[{ accessFlags := 18, nameIndex := 13, descriptorIndex := 14, attributes := #[] }, { accessFlags := 18, nameIndex := 17, descriptorIndex := 18, attributes := #[] }, { accessFlags := 2, nameIndex := 21, descriptorIndex := 22, attributes := #[] }, { accessFlags := 2, nameIndex := 25, descriptorIndex := 26, attributes := #[] }, { accessFlags := 26, nameIndex := 1116, descriptorIndex := 1117, attributes := #[] }, { accessFlags := 24, nameIndex := 40, descriptorIndex := 26, attributes := #[] }, { accessFlags := 26, nameIndex := 1101, descriptorIndex := 1102, attributes := #[] }, { accessFlags := 26, nameIndex := 1121, descriptorIndex := 1122, attributes := #[] }, { accessFlags := 25, nameIndex := 599, descriptorIndex := 600, attributes := #[] }, { accessFlags := 24, nameIndex := 1125, descriptorIndex := 18, attributes := #[] }, { accessFlags := 24, nameIndex := 1127, descriptorIndex := 18, attributes := #[] }])
  fields := #[{ name := "value", type := (.array .byte), accessFlags := 18, slot := 0, constantValue := 0 }, { name := "coder", type := .byte, accessFlags := 18, slot := 1, constantValue := 0 }, { name := "hash", type := .int, accessFlags := 2, slot := 2, constantValue := 0 }, { name := "hashIsZero", type := .boolean, accessFlags := 2, slot := 3, constantValue := 0 }, { name := "serialVersionUID", type := .long, accessFlags := 26, slot := 0, constantValue := 0 }, { name := "COMPACT_STRINGS", type := .boolean, accessFlags := 24, slot := 1, constantValue := 0 }, { name := "serialPersistentFields", type := (.array (.object "java/io/ObjectStreamField")), accessFlags := 26, slot := 2, constantValue := 0 }, { name := "REPL", type := .char, accessFlags := 26, slot := 3, constantValue := 0 }, { name := "CASE_INSENSITIVE_ORDER", type := (.object "java/util/Comparator"), accessFlags := 25, slot := 4, constantValue := 0 }, { name := "LATIN1", type := .byte, accessFlags := 24, slot := 5, constantValue := 0 }, { name := "UTF16", type := .byte, accessFlags := 24, slot := 6, constantValue := 0 }]
  methods := #[k7m0, k7m1, k7m2, k7m3, k7m4, k7m5, k7m6, k7m7, k7m8, k7m9, k7m10, k7m11, k7m12, k7m13]
  instanceTypes := #[(.array .byte), .byte, .int, .boolean]
  staticTypes := #[.long, .boolean, (.array (.object "java/io/ObjectStreamField")), .char, (.object "java/util/Comparator"), .byte, .byte]
  resolved := Array.replicate 1451 none
  statics := some 0 }

def pool8 : Array CpInfo := pool [(2, .class_ 4), (1, u "java/lang/Object"), (0, u "<init>"), (0, u "()V"), (0, .class_ 8), (0, u "java/lang/Record")] 13

def k8m0 : Method := { name := "<init>", desc := "()V", sig := { parameters := [], returnType := none }, accessFlags := 4, code := none }
/-- java/lang/Record -/
def k8 : Class := { plain "java/lang/Record" (some 0) with
  accessFlags := 1057
  interfaces := #[]
  cf := some (fileOf pool8 7 #[] #[{ accessFlags := 4, nameIndex := 5, descriptorIndex := 6, attributes := #[] }] 1057 2 #[] #[])
  fields := #[]
  methods := #[k8m0]
  instanceTypes := #[]
  staticTypes := #[]
  resolved := Array.replicate 22 none
  statics := none }

def pool9 : Array CpInfo := pool [(2, .class_ 4), (1, u "java/lang/Record"), (3, .class_ 10), (1, u "com/example/nephele/nephele/web/internal/RequestPath"), (0, u "requestUri"), (0, u "Ljava/lang/String;"), (2, u "contextPath"), (2, u "servletPath"), (2, u "pathInfo"), (2, u "queryString"), (0, .methodref 26 27), (0, .class_ 28), (0, .nameAndType 29 30), (0, u "java/lang/String"), (0, u "indexOf"), (0, u "(I)I"), (2, u "substring"), (3, u "(Ljava/lang/String;)Ljava/lang/String;"), (39, .methodref 26 78), (0, .nameAndType 33 79), (0, u "(I)Ljava/lang/String;")] 72

def k9c0 : Code := { maxStack := 3, maxLocals := 2, code := prog_24_method_3_code, exceptionTable := #[], attributes := #[] }
def k9m0 : Method := { name := "queryString", desc := "(Ljava/lang/String;)Ljava/lang/String;", sig := { parameters := [(.object "java/lang/String")], returnType := some (.object "java/lang/String") }, accessFlags := 9, code := some k9c0 }
/-- com/example/nephele/nephele/web/internal/RequestPath -/
def k9 : Class := { plain "com/example/nephele/nephele/web/internal/RequestPath" (some 8) with
  accessFlags := 49
  interfaces := #[]
  cf := some (fileOf pool9 8 #[] #[{ accessFlags := 9, nameIndex := 24, descriptorIndex := 37, attributes := #[] }] 49 2 #[] #[{ accessFlags := 18, nameIndex := 11, descriptorIndex := 12, attributes := #[] }, { accessFlags := 18, nameIndex := 15, descriptorIndex := 12, attributes := #[] }, { accessFlags := 18, nameIndex := 18, descriptorIndex := 12, attributes := #[] }, { accessFlags := 18, nameIndex := 21, descriptorIndex := 12, attributes := #[] }, { accessFlags := 18, nameIndex := 24, descriptorIndex := 12, attributes := #[] }])
  fields := #[{ name := "requestUri", type := (.object "java/lang/String"), accessFlags := 18, slot := 0, constantValue := 0 }, { name := "contextPath", type := (.object "java/lang/String"), accessFlags := 18, slot := 1, constantValue := 0 }, { name := "servletPath", type := (.object "java/lang/String"), accessFlags := 18, slot := 2, constantValue := 0 }, { name := "pathInfo", type := (.object "java/lang/String"), accessFlags := 18, slot := 3, constantValue := 0 }, { name := "queryString", type := (.object "java/lang/String"), accessFlags := 18, slot := 4, constantValue := 0 }]
  methods := #[k9m0]
  instanceTypes := #[(.object "java/lang/String"), (.object "java/lang/String"), (.object "java/lang/String"), (.object "java/lang/String"), (.object "java/lang/String")]
  staticTypes := #[]
  resolved := Array.replicate 152 none
  statics := none }

def pool10 : Array CpInfo := pool [(1, .class_ 2), (0, u "java/lang/String"), (1, .class_ 6), (1, u "java/lang/Object"), (0, u "<init>"), (0, u "()V"), (0, .methodref 1 10), (0, .nameAndType 11 12), (0, u "checkIndex"), (0, u "(II)V"), (1, .class_ 16), (1, u "java/lang/StringLatin1"), (21, .methodref 39 40), (0, .class_ 41), (0, .nameAndType 42 43), (0, u "java/lang/Math"), (0, u "min"), (0, u "(II)I"), (9, u "([BI)C"), (34, .methodref 14 89), (0, .nameAndType 90 91), (0, u "canEncode"), (0, u "(I)Z"), (0, .methodref 39 93), (0, .nameAndType 94 43), (0, u "max"), (0, .methodref 14 96), (0, .nameAndType 97 98), (0, u "indexOfChar"), (0, u "([BIII)I"), (2, u "indexOf"), (10, .methodref 1 113), (0, .nameAndType 7 114), (0, u "([BB)V"), (6, u "$assertionsDisabled"), (0, u "Z"), (8, .class_ 133), (1, u "java/util/Arrays"), (17, .string 152), (0, u ""), (43, u "newString"), (0, u "([BII)Ljava/lang/String;"), (23, .class_ 223), (1, u "java/lang/StringLatin1$LinesSpliterator"), (8, .methodref 131 233), (0, .nameAndType 234 235), (0, u "copyOfRange"), (0, u "([BII)[B"), (16, u "charAt"), (137, .class_ 391), (0, u "java/lang/StringLatin1$CharsSpliterator")] 3

def k10m0 : Method := { name := "<init>", desc := "()V", sig := { parameters := [], returnType := none }, accessFlags := 0, code := none }
def k10c1 : Code := { maxStack := 2, maxLocals := 2, code := jdk_43_method_2_code, exceptionTable := #[], attributes := #[] }
def k10m1 : Method := { name := "charAt", desc := "([BI)C", sig := { parameters := [(.array .byte), .int], returnType := some .char }, accessFlags := 9, code := some k10c1 }
def k10c2 : Code := { maxStack := 2, maxLocals := 1, code := jdk_43_method_4_code, exceptionTable := #[], attributes := #[] }
def k10m2 : Method := { name := "canEncode", desc := "(I)Z", sig := { parameters := [.int], returnType := some .boolean }, accessFlags := 9, code := some k10c2 }
def k10c3 : Code := { maxStack := 4, maxLocals := 4, code := jdk_43_method_22_code, exceptionTable := #[], attributes := #[] }
def k10m3 : Method := { name := "indexOf", desc := "([BIII)I", sig := { parameters := [(.array .byte), .int, .int, .int], returnType := some .int }, accessFlags := 9, code := some k10c3 }
def k10c4 : Code := { maxStack := 2, maxLocals := 6, code := jdk_43_method_23_code, exceptionTable := #[], attributes := #[] }
def k10m4 : Method := { name := "indexOfChar", desc := "([BIII)I", sig := { parameters := [(.array .byte), .int, .int, .int], returnType := some .int }, accessFlags := 10, code := some k10c4 }
def k10c5 : Code := { maxStack := 6, maxLocals := 3, code := jdk_43_method_47_code, exceptionTable := #[], attributes := #[] }
def k10m5 : Method := { name := "newString", desc := "([BII)Ljava/lang/String;", sig := { parameters := [(.array .byte), .int, .int], returnType := some (.object "java/lang/String") }, accessFlags := 9, code := some k10c5 }
/-- java/lang/StringLatin1 -/
def k10 : Class := { plain "java/lang/StringLatin1" (some 0) with
  accessFlags := 48
  interfaces := #[]
  cf := some (fileOf pool10 14 #[.nestMembers #[390, 221]] #[{ accessFlags := 0, nameIndex := 7, descriptorIndex := 8, attributes := #[] }, { accessFlags := 9, nameIndex := 252, descriptorIndex := 53, attributes := #[] }, { accessFlags := 9, nameIndex := 90, descriptorIndex := 91, attributes := #[] }, { accessFlags := 9, nameIndex := 101, descriptorIndex := 98, attributes := #[] }, { accessFlags := 10, nameIndex := 97, descriptorIndex := 98, attributes := #[] }, { accessFlags := 9, nameIndex := 196, descriptorIndex := 197, attributes := #[] }] 48 4 #[] #[{ accessFlags := 4120, nameIndex := 121, descriptorIndex := 122, attributes := #[] }])
  fields := #[{ name := "$assertionsDisabled", type := .boolean, accessFlags := 4120, slot := 0, constantValue := 0 }]
  methods := #[k10m0, k10m1, k10m2, k10m3, k10m4, k10m5]
  instanceTypes := #[]
  staticTypes := #[.boolean]
  resolved := Array.replicate 395 none
  statics := none }

def pool11 : Array CpInfo := pool [(1, .class_ 2), (0, u "java/lang/Math"), (1, .class_ 6), (1, u "java/lang/Object"), (0, u "<init>"), (0, u "()V"), (89, .class_ 100), (1, u "java/lang/Math$RandomNumberGeneratorHolder"), (71, u "negativeZeroFloatBits"), (0, u "J"), (2, u "negativeZeroDoubleBits"), (21, u "max"), (2, u "min"), (43, u "$assertionsDisabled"), (0, u "Z"), (88, u "(II)I"), (2, u "twoToTheDoubleScaleDown"), (0, u "D"), (4, u "twoToTheDoubleScaleUp"), (9, u "E"), (3, u "PI"), (2, u "TAU"), (2, u "DEGREES_TO_RADIANS"), (0, u "RADIANS_TO_DEGREES")] 94

def k11m0 : Method := { name := "<init>", desc := "()V", sig := { parameters := [], returnType := none }, accessFlags := 2, code := none }
def k11c1 : Code := { maxStack := 2, maxLocals := 2, code := jdk_29_method_65_code, exceptionTable := #[], attributes := #[] }
def k11m1 : Method := { name := "max", desc := "(II)I", sig := { parameters := [.int, .int], returnType := some .int }, accessFlags := 9, code := some k11c1 }
def k11c2 : Code := { maxStack := 2, maxLocals := 2, code := jdk_29_method_69_code, exceptionTable := #[], attributes := #[] }
def k11m2 : Method := { name := "min", desc := "(II)I", sig := { parameters := [.int, .int], returnType := some .int }, accessFlags := 9, code := some k11c2 }
/-- java/lang/Math -/
def k11 : Class := { plain "java/lang/Math" (some 0) with
  accessFlags := 49
  interfaces := #[]
  cf := some (fileOf pool11 1 #[.nestMembers #[98]] #[{ accessFlags := 2, nameIndex := 7, descriptorIndex := 8, attributes := #[] }, { accessFlags := 9, nameIndex := 198, descriptorIndex := 335, attributes := #[] }, { accessFlags := 9, nameIndex := 201, descriptorIndex := 335, attributes := #[] }] 49 4 #[] #[{ accessFlags := 25, nameIndex := 354, descriptorIndex := 339, attributes := #[] }, { accessFlags := 25, nameIndex := 358, descriptorIndex := 339, attributes := #[] }, { accessFlags := 25, nameIndex := 361, descriptorIndex := 339, attributes := #[] }, { accessFlags := 26, nameIndex := 364, descriptorIndex := 339, attributes := #[] }, { accessFlags := 26, nameIndex := 365, descriptorIndex := 339, attributes := #[] }, { accessFlags := 26, nameIndex := 172, descriptorIndex := 173, attributes := #[] }, { accessFlags := 26, nameIndex := 176, descriptorIndex := 173, attributes := #[] }, { accessFlags := 8, nameIndex := 344, descriptorIndex := 339, attributes := #[] }, { accessFlags := 8, nameIndex := 338, descriptorIndex := 339, attributes := #[] }, { accessFlags := 4120, nameIndex := 245, descriptorIndex := 246, attributes := #[] }])
  fields := #[{ name := "E", type := .double, accessFlags := 25, slot := 0, constantValue := 0 }, { name := "PI", type := .double, accessFlags := 25, slot := 1, constantValue := 0 }, { name := "TAU", type := .double, accessFlags := 25, slot := 2, constantValue := 0 }, { name := "DEGREES_TO_RADIANS", type := .double, accessFlags := 26, slot := 3, constantValue := 0 }, { name := "RADIANS_TO_DEGREES", type := .double, accessFlags := 26, slot := 4, constantValue := 0 }, { name := "negativeZeroFloatBits", type := .long, accessFlags := 26, slot := 5, constantValue := 0 }, { name := "negativeZeroDoubleBits", type := .long, accessFlags := 26, slot := 6, constantValue := 0 }, { name := "twoToTheDoubleScaleUp", type := .double, accessFlags := 8, slot := 7, constantValue := 0 }, { name := "twoToTheDoubleScaleDown", type := .double, accessFlags := 8, slot := 8, constantValue := 0 }, { name := "$assertionsDisabled", type := .boolean, accessFlags := 4120, slot := 9, constantValue := 0 }]
  methods := #[k11m0, k11m1, k11m2]
  instanceTypes := #[]
  staticTypes := #[.double, .double, .double, .double, .double, .long, .long, .double, .double, .boolean]
  resolved := Array.replicate 460 none
  statics := none }

def pool12 : Array CpInfo := pool [(6, .class_ 8), (1, u "java/lang/Object"), (0, u "<init>"), (0, u "()V"), (1, .class_ 14), (1, u "java/lang/StringUTF16"), (31, u "$assertionsDisabled"), (0, u "Z"), (13, u "HI_BYTE_SHIFT"), (0, u "I"), (2, u "LO_BYTE_SHIFT"), (49, .methodref 12 116), (0, .nameAndType 117 118), (0, u "compress"), (0, u "([CI[BII)I"), (3, u "([CII)[B"), (138, u "coderFromArrayLen"), (0, u "([BI)B"), (106, .class_ 371), (1, u "java/lang/StringUTF16$LinesSpliterator"), (58, u "MAX_LENGTH"), (196, .class_ 628), (0, u "java/lang/StringUTF16$CodePointsSpliterator"), (0, .class_ 630), (0, u "java/lang/StringUTF16$CharsSpliterator")] 4

def k12m0 : Method := { name := "<init>", desc := "()V", sig := { parameters := [], returnType := none }, accessFlags := 0, code := none }
def k12c1 : Code := { maxStack := 2, maxLocals := 2, code := jdk_52_method_15_code, exceptionTable := #[], attributes := #[] }
def k12m1 : Method := { name := "coderFromArrayLen", desc := "([BI)B", sig := { parameters := [(.array .byte), .int], returnType := some .byte }, accessFlags := 8, code := some k12c1 }
def k12c2 : Code := { maxStack := 5, maxLocals := 6, code := jdk_52_method_16_code, exceptionTable := #[], attributes := #[] }
def k12m2 : Method := { name := "compress", desc := "([CII)[B", sig := { parameters := [(.array .char), .int, .int], returnType := some (.array .byte) }, accessFlags := 9, code := some k12c2 }
def k12c3 : Code := { maxStack := 3, maxLocals := 7, code := jdk_52_method_21_code, exceptionTable := #[], attributes := #[] }
def k12m3 : Method := { name := "compress", desc := "([CI[BII)I", sig := { parameters := [(.array .char), .int, (.array .byte), .int, .int], returnType := some .int }, accessFlags := 9, code := some k12c3 }
/-- java/lang/StringUTF16 -/
def k12 : Class := { plain "java/lang/StringUTF16" (some 0) with
  accessFlags := 48
  interfaces := #[]
  cf := some (fileOf pool12 12 #[.nestMembers #[627, 629, 369]] #[{ accessFlags := 0, nameIndex := 9, descriptorIndex := 10, attributes := #[] }, { accessFlags := 8, nameIndex := 261, descriptorIndex := 262, attributes := #[] }, { accessFlags := 9, nameIndex := 117, descriptorIndex := 122, attributes := #[] }, { accessFlags := 9, nameIndex := 117, descriptorIndex := 118, attributes := #[] }] 48 6 #[] #[{ accessFlags := 26, nameIndex := 61, descriptorIndex := 62, attributes := #[] }, { accessFlags := 26, nameIndex := 65, descriptorIndex := 62, attributes := #[] }, { accessFlags := 24, nameIndex := 430, descriptorIndex := 62, attributes := #[] }, { accessFlags := 4120, nameIndex := 46, descriptorIndex := 47, attributes := #[] }])
  fields := #[{ name := "HI_BYTE_SHIFT", type := .int, accessFlags := 26, slot := 0, constantValue := 0 }, { name := "LO_BYTE_SHIFT", type := .int, accessFlags := 26, slot := 1, constantValue := 0 }, { name := "MAX_LENGTH", type := .int, accessFlags := 24, slot := 2, constantValue := 0 }, { name := "$assertionsDisabled", type := .boolean, accessFlags := 4120, slot := 3, constantValue := 0 }]
  methods := #[k12m0, k12m1, k12m2, k12m3]
  instanceTypes := #[]
  staticTypes := #[.int, .int, .int, .boolean]
  resolved := Array.replicate 635 none
  statics := none }

def pool13 : Array CpInfo := pool [(2, .class_ 4), (1, u "java/lang/Object"), (0, u "<init>"), (0, u "()V"), (17, .class_ 26), (1, u "jdk/internal/util/Preconditions"), (6, u "checkIndex"), (13, u "checkFromToIndex"), (7, .class_ 56), (0, u "jdk/internal/util/Preconditions$4"), (57, .class_ 115), (0, u "jdk/internal/util/Preconditions$1"), (7, u "SIOOBE_FORMATTER"), (0, u "Ljava/util/function/BiFunction;"), (0, .class_ 126), (0, u "jdk/internal/util/Preconditions$2"), (3, u "AIOOBE_FORMATTER"), (0, .class_ 132), (0, u "jdk/internal/util/Preconditions$3"), (3, u "IOOBE_FORMATTER"), (41, u "(IILjava/util/function/BiFunction;)I"), (4, u "(IIILjava/util/function/BiFunction;)I")] 10

def k13m0 : Method := { name := "<init>", desc := "()V", sig := { parameters := [], returnType := none }, accessFlags := 1, code := none }
def k13c1 : Code := { maxStack := 3, maxLocals := 3, code := jdk_41_method_11_code, exceptionTable := #[], attributes := #[] }
def k13m1 : Method := { name := "checkIndex", desc := "(IILjava/util/function/BiFunction;)I", sig := { parameters := [.int, .int, (.object "java/util/function/BiFunction")], returnType := some .int }, accessFlags := 9, code := some k13c1 }
def k13c2 : Code := { maxStack := 4, maxLocals := 4, code := jdk_41_method_12_code, exceptionTable := #[], attributes := #[] }
def k13m2 : Method := { name := "checkFromToIndex", desc := "(IIILjava/util/function/BiFunction;)I", sig := { parameters := [.int, .int, .int, (.object "java/util/function/BiFunction")], returnType := some .int }, accessFlags := 9, code := some k13c2 }
/-- jdk/internal/util/Preconditions -/
def k13 : Class := { plain "jdk/internal/util/Preconditions" (some 0) with
  accessFlags := 33
  interfaces := #[]
  cf := some (fileOf pool13 24 #[.nestMembers #[55, 131, 125, 114]] #[{ accessFlags := 1, nameIndex := 5, descriptorIndex := 6, attributes := #[] }, { accessFlags := 9, nameIndex := 33, descriptorIndex := 178, attributes := #[] }, { accessFlags := 9, nameIndex := 47, descriptorIndex := 183, attributes := #[] }] 33 2 #[] #[{ accessFlags := 25, nameIndex := 123, descriptorIndex := 124, attributes := #[] }, { accessFlags := 25, nameIndex := 130, descriptorIndex := 124, attributes := #[] }, { accessFlags := 25, nameIndex := 136, descriptorIndex := 124, attributes := #[] }])
  fields := #[{ name := "SIOOBE_FORMATTER", type := (.object "java/util/function/BiFunction"), accessFlags := 25, slot := 0, constantValue := 0 }, { name := "AIOOBE_FORMATTER", type := (.object "java/util/function/BiFunction"), accessFlags := 25, slot := 1, constantValue := 0 }, { name := "IOOBE_FORMATTER", type := (.object "java/util/function/BiFunction"), accessFlags := 25, slot := 2, constantValue := 0 }]
  methods := #[k13m0, k13m1, k13m2]
  instanceTypes := #[]
  staticTypes := #[(.object "java/util/function/BiFunction"), (.object "java/util/function/BiFunction"), (.object "java/util/function/BiFunction")]
  resolved := Array.replicate 194 none
  statics := some 1 }

def pool14 : Array CpInfo := pool [(2, .class_ 4), (1, u "java/lang/Object"), (0, u "<init>"), (0, u "()V"), (7, .class_ 16), (1, u "java/util/Arrays"), (57, .class_ 76), (1, u "java/util/Arrays$NaturalOrder"), (36, .class_ 115), (1, u "java/util/Arrays$LegacyMergeSort"), (1, u "Z"), (21, u "copyOfRange"), (10, .methodref 151 152), (0, .class_ 153), (0, .nameAndType 154 155), (0, u "java/lang/System"), (0, u "arraycopy"), (0, u "(Ljava/lang/Object;ILjava/lang/Object;II)V"), (148, .methodref 305 306), (0, .class_ 307), (0, .nameAndType 308 309), (0, u "java/lang/Math"), (0, u "min"), (0, u "(II)I"), (29, .methodref 14 340), (0, .nameAndType 341 342), (0, u "copyOfRangeByte"), (0, u "([BII)[B"), (0, .methodref 14 344), (0, .nameAndType 345 346), (0, u "checkLength"), (0, u "(II)V"), (28, .class_ 376), (0, u "java/util/Arrays$ArrayList"), (68, u "$assertionsDisabled"), (269, u "MIN_ARRAY_SORT_GRAN"), (0, u "I"), (2, u "INSERTIONSORT_THRESHOLD"), (255, .class_ 976), (0, u "java/util/Arrays$ArrayItr")] 52

def k14m0 : Method := { name := "<init>", desc := "()V", sig := { parameters := [], returnType := none }, accessFlags := 2, code := none }
def k14c1 : Code := { maxStack := 4, maxLocals := 2, code := jdk_65_method_131_code, exceptionTable := #[], attributes := #[] }
def k14m1 : Method := { name := "checkLength", desc := "(II)V", sig := { parameters := [.int, .int], returnType := none }, accessFlags := 10, code := some k14c1 }
def k14c2 : Code := { maxStack := 3, maxLocals := 3, code := jdk_65_method_132_code, exceptionTable := #[], attributes := #[] }
def k14m2 : Method := { name := "copyOfRange", desc := "([BII)[B", sig := { parameters := [(.array .byte), .int, .int], returnType := some (.array .byte) }, accessFlags := 9, code := some k14c2 }
def k14c3 : Code := { maxStack := 6, maxLocals := 5, code := jdk_65_method_133_code, exceptionTable := #[], attributes := #[] }
def k14m3 : Method := { name := "copyOfRangeByte", desc := "([BII)[B", sig := { parameters := [(.array .byte), .int, .int], returnType := some (.array .byte) }, accessFlags := 10, code := some k14c3 }
/-- java/util/Arrays -/
def k14 : Class := { plain "java/util/Arrays" (some 0) with
  accessFlags := 49
  interfaces := #[]
  cf := some (fileOf pool14 14 #[.nestMembers #[975, 375, 113, 74]] #[{ accessFlags := 2, nameIndex := 5, descriptorIndex := 6, attributes := #[] }, { accessFlags := 10, nameIndex := 345, descriptorIndex := 346, attributes := #[] }, { accessFlags := 9, nameIndex := 139, descriptorIndex := 342, attributes := #[] }, { accessFlags := 10, nameIndex := 341, descriptorIndex := 342, attributes := #[] }] 49 2 #[] #[{ accessFlags := 26, nameIndex := 715, descriptorIndex := 716, attributes := #[] }, { accessFlags := 26, nameIndex := 719, descriptorIndex := 716, attributes := #[] }, { accessFlags := 4120, nameIndex := 445, descriptorIndex := 117, attributes := #[] }])
  fields := #[{ name := "MIN_ARRAY_SORT_GRAN", type := .int, accessFlags := 26, slot := 0, constantValue := 0 }, { name := "INSERTIONSORT_THRESHOLD", type := .int, accessFlags := 26, slot := 1, constantValue := 0 }, { name := "$assertionsDisabled", type := .boolean, accessFlags := 4120, slot := 2, constantValue := 0 }]
  methods := #[k14m0, k14m1, k14m2, k14m3]
  instanceTypes := #[]
  staticTypes := #[.int, .int, .boolean]
  resolved := Array.replicate 1029 none
  statics := none }

def pool15 : Array CpInfo := pool [(2, .class_ 4), (1, u "java/lang/Object"), (0, u "<init>"), (0, u "()V"), (1, .class_ 10), (1, u "java/lang/System"), (0, u "allowSecurityManager"), (0, u "I"), (16, u "cons"), (0, u "Ljava/io/Console;"), (77, .class_ 110), (1, u "java/lang/System$CallersHolder"), (43, u "initialErrStream"), (0, u "Ljava/io/PrintStream;"), (19, u "security"), (0, u "Ljava/lang/SecurityManager;"), (31, .class_ 209), (0, u "java/lang/System$1"), (7, u "props"), (0, u "Ljava/util/Properties;"), (2, u "lineSeparator"), (0, u "Ljava/lang/String;"), (96, .class_ 321), (1, u "java/lang/System$LoggerFinder"), (5, .class_ 328), (0, u "java/lang/System$Logger"), (67, u "err"), (2, u "out"), (91, u "notSupportedJnuEncoding"), (15, u "in"), (17, u "initialIn"), (0, u "Ljava/io/InputStream;"), (35, u "bootLayer"), (0, u "Ljava/lang/ModuleLayer;"), (99, .class_ 664), (0, u "java/lang/System$2"), (9, u "NEVER"), (2, u "MAYBE"), (49, u "arraycopy"), (0, u "(Ljava/lang/Object;ILjava/lang/Object;II)V"), (72, .class_ 802), (0, u "java/lang/System$Logger$Level")] 31

def k15m0 : Method := { name := "<init>", desc := "()V", sig := { parameters := [], returnType := none }, accessFlags := 2, code := none }
def k15m1 : Method := { name := "arraycopy", desc := "(Ljava/lang/Object;ILjava/lang/Object;II)V", sig := { parameters := [(.object "java/lang/Object"), .int, (.object "java/lang/Object"), .int, .int], returnType := none }, accessFlags := 265, code := none }
/-- java/lang/System -/
def k15 : Class := { plain "java/lang/System" (some 0) with
  accessFlags := 49
  interfaces := #[]
  cf := some (fileOf pool15 8 #[.nestMembers #[319, 327, 801, 108, 663, 208]] #[{ accessFlags := 2, nameIndex := 5, descriptorIndex := 6, attributes := #[] }, { accessFlags := 265, nameIndex := 727, descriptorIndex := 728, attributes := #[] }] 49 2 #[] #[{ accessFlags := 25, nameIndex := 507, descriptorIndex := 526, attributes := #[] }, { accessFlags := 25, nameIndex := 399, descriptorIndex := 155, attributes := #[] }, { accessFlags := 25, nameIndex := 396, descriptorIndex := 155, attributes := #[] }, { accessFlags := 10, nameIndex := 525, descriptorIndex := 526, attributes := #[] }, { accessFlags := 26, nameIndex := 674, descriptorIndex := 12, attributes := #[] }, { accessFlags := 26, nameIndex := 677, descriptorIndex := 12, attributes := #[] }, { accessFlags := 10, nameIndex := 11, descriptorIndex := 12, attributes := #[] }, { accessFlags := 74, nameIndex := 175, descriptorIndex := 176, attributes := #[] }, { accessFlags := 10, nameIndex := 491, descriptorIndex := 222, attributes := #[] }, { accessFlags := 74, nameIndex := 29, descriptorIndex := 30, attributes := #[] }, { accessFlags := 74, nameIndex := 154, descriptorIndex := 155, attributes := #[] }, { accessFlags := 10, nameIndex := 217, descriptorIndex := 218, attributes := #[] }, { accessFlags := 10, nameIndex := 221, descriptorIndex := 222, attributes := #[] }, { accessFlags := 8, nameIndex := 562, descriptorIndex := 563, attributes := #[] }])
  fields := #[{ name := "in", type := (.object "java/io/InputStream"), accessFlags := 25, slot := 0, constantValue := 0 }, { name := "out", type := (.object "java/io/PrintStream"), accessFlags := 25, slot := 1, constantValue := 0 }, { name := "err", type := (.object "java/io/PrintStream"), accessFlags := 25, slot := 2, constantValue := 0 }, { name := "initialIn", type := (.object "java/io/InputStream"), accessFlags := 10, slot := 3, constantValue := 0 }, { name := "NEVER", type := .int, accessFlags := 26, slot := 4, constantValue := 0 }, { name := "MAYBE", type := .int, accessFlags := 26, slot := 5, constantValue := 0 }, { name := "allowSecurityManager", type := .int, accessFlags := 10, slot := 6, constantValue := 0 }, { name := "security", type := (.object "java/lang/SecurityManager"), accessFlags := 74, slot := 7, constantValue := 0 }, { name := "notSupportedJnuEncoding", type := (.object "java/lang/String"), accessFlags := 10, slot := 8, constantValue := 0 }, { name := "cons", type := (.object "java/io/Console"), accessFlags := 74, slot := 9, constantValue := 0 }, { name := "initialErrStream", type := (.object "java/io/PrintStream"), accessFlags := 74, slot := 10, constantValue := 0 }, { name := "props", type := (.object "java/util/Properties"), accessFlags := 10, slot := 11, constantValue := 0 }, { name := "lineSeparator", type := (.object "java/lang/String"), accessFlags := 10, slot := 12, constantValue := 0 }, { name := "bootLayer", type := (.object "java/lang/ModuleLayer"), accessFlags := 8, slot := 13, constantValue := 0 }]
  methods := #[k15m0, k15m1]
  instanceTypes := #[]
  staticTypes := #[(.object "java/io/InputStream"), (.object "java/io/PrintStream"), (.object "java/io/PrintStream"), (.object "java/io/InputStream"), .int, .int, .int, (.object "java/lang/SecurityManager"), (.object "java/lang/String"), (.object "java/io/Console"), (.object "java/io/PrintStream"), (.object "java/util/Properties"), (.object "java/lang/String"), (.object "java/lang/ModuleLayer")]
  resolved := Array.replicate 834 none
  statics := none }

def pool16 : Array CpInfo := pool [(9, u "<init>"), (6, .class_ 18), (1, u "java/lang/Object"), (0, u "()V"), (1, .class_ 23), (1, u "jdk/internal/util/ArraysSupport"), (0, u "LOG2_ARRAY_LONG_INDEX_SCALE"), (0, u "I"), (2, u "U"), (0, u "Ljdk/internal/misc/Unsafe;"), (8, u "BIG_ENDIAN"), (0, u "Z"), (8, u "LOG2_BYTE_BIT_SIZE"), (4, u "LOG2_ARRAY_INT_INDEX_SCALE"), (54, u "JLA"), (0, u "Ljdk/internal/access/JavaLangAccess;"), (11, u "LOG2_ARRAY_BOOLEAN_INDEX_SCALE"), (9, u "LOG2_ARRAY_BYTE_INDEX_SCALE"), (5, u "LOG2_ARRAY_CHAR_INDEX_SCALE"), (5, u "LOG2_ARRAY_SHORT_INDEX_SCALE"), (18, u "LOG2_ARRAY_FLOAT_INDEX_SCALE"), (24, u "LOG2_ARRAY_DOUBLE_INDEX_SCALE"), (89, u "T_BOOLEAN"), (2, u "T_CHAR"), (1, u "T_FLOAT"), (1, u "T_DOUBLE"), (1, u "T_BYTE"), (1, u "T_SHORT"), (1, u "T_INT"), (1, u "T_LONG"), (1, u "SOFT_MAX_ARRAY_LENGTH")] 83

def k16m0 : Method := { name := "<init>", desc := "()V", sig := { parameters := [], returnType := none }, accessFlags := 2, code := none }
/-- jdk/internal/util/ArraysSupport -/
def k16 : Class := { plain "jdk/internal/util/ArraysSupport" (some 0) with
  accessFlags := 33
  interfaces := #[]
  cf := some (fileOf pool16 21 #[] #[{ accessFlags := 2, nameIndex := 9, descriptorIndex := 19, attributes := #[] }] 33 16 #[] #[{ accessFlags := 24, nameIndex := 28, descriptorIndex := 29, attributes := #[] }, { accessFlags := 26, nameIndex := 38, descriptorIndex := 39, attributes := #[] }, { accessFlags := 25, nameIndex := 121, descriptorIndex := 25, attributes := #[] }, { accessFlags := 25, nameIndex := 131, descriptorIndex := 25, attributes := #[] }, { accessFlags := 25, nameIndex := 137, descriptorIndex := 25, attributes := #[] }, { accessFlags := 25, nameIndex := 143, descriptorIndex := 25, attributes := #[] }, { accessFlags := 25, nameIndex := 53, descriptorIndex := 25, attributes := #[] }, { accessFlags := 25, nameIndex := 24, descriptorIndex := 25, attributes := #[] }, { accessFlags := 25, nameIndex := 162, descriptorIndex := 25, attributes := #[] }, { accessFlags := 25, nameIndex := 187, descriptorIndex := 25, attributes := #[] }, { accessFlags := 26, nameIndex := 48, descriptorIndex := 25, attributes := #[] }, { accessFlags := 25, nameIndex := 277, descriptorIndex := 25, attributes := #[] }, { accessFlags := 25, nameIndex := 280, descriptorIndex := 25, attributes := #[] }, { accessFlags := 25, nameIndex := 282, descriptorIndex := 25, attributes := #[] }, { accessFlags := 25, nameIndex := 284, descriptorIndex := 25, attributes := #[] }, { accessFlags := 25, nameIndex := 286, descriptorIndex := 25, attributes := #[] }, { accessFlags := 25, nameIndex := 288, descriptorIndex := 25, attributes := #[] }, { accessFlags := 25, nameIndex := 290, descriptorIndex := 25, attributes := #[] }, { accessFlags := 25, nameIndex := 292, descriptorIndex := 25, attributes := #[] }, { accessFlags := 26, nameIndex := 108, descriptorIndex := 109, attributes := #[] }, { accessFlags := 25, nameIndex := 294, descriptorIndex := 25, attributes := #[] }])
  fields := #[{ name := "U", type := (.object "jdk/internal/misc/Unsafe"), accessFlags := 24, slot := 0, constantValue := 0 }, { name := "BIG_ENDIAN", type := .boolean, accessFlags := 26, slot := 1, constantValue := 0 }, { name := "LOG2_ARRAY_BOOLEAN_INDEX_SCALE", type := .int, accessFlags := 25, slot := 2, constantValue := 0 }, { name := "LOG2_ARRAY_BYTE_INDEX_SCALE", type := .int, accessFlags := 25, slot := 3, constantValue := 0 }, { name := "LOG2_ARRAY_CHAR_INDEX_SCALE", type := .int, accessFlags := 25, slot := 4, constantValue := 0 }, { name := "LOG2_ARRAY_SHORT_INDEX_SCALE", type := .int, accessFlags := 25, slot := 5, constantValue := 0 }, { name := "LOG2_ARRAY_INT_INDEX_SCALE", type := .int, accessFlags := 25, slot := 6, constantValue := 0 }, { name := "LOG2_ARRAY_LONG_INDEX_SCALE", type := .int, accessFlags := 25, slot := 7, constantValue := 0 }, { name := "LOG2_ARRAY_FLOAT_INDEX_SCALE", type := .int, accessFlags := 25, slot := 8, constantValue := 0 }, { name := "LOG2_ARRAY_DOUBLE_INDEX_SCALE", type := .int, accessFlags := 25, slot := 9, constantValue := 0 }, { name := "LOG2_BYTE_BIT_SIZE", type := .int, accessFlags := 26, slot := 10, constantValue := 0 }, { name := "T_BOOLEAN", type := .int, accessFlags := 25, slot := 11, constantValue := 0 }, { name := "T_CHAR", type := .int, accessFlags := 25, slot := 12, constantValue := 0 }, { name := "T_FLOAT", type := .int, accessFlags := 25, slot := 13, constantValue := 0 }, { name := "T_DOUBLE", type := .int, accessFlags := 25, slot := 14, constantValue := 0 }, { name := "T_BYTE", type := .int, accessFlags := 25, slot := 15, constantValue := 0 }, { name := "T_SHORT", type := .int, accessFlags := 25, slot := 16, constantValue := 0 }, { name := "T_INT", type := .int, accessFlags := 25, slot := 17, constantValue := 0 }, { name := "T_LONG", type := .int, accessFlags := 25, slot := 18, constantValue := 0 }, { name := "JLA", type := (.object "jdk/internal/access/JavaLangAccess"), accessFlags := 26, slot := 19, constantValue := 0 }, { name := "SOFT_MAX_ARRAY_LENGTH", type := .int, accessFlags := 25, slot := 20, constantValue := 0 }]
  methods := #[k16m0]
  instanceTypes := #[]
  staticTypes := #[(.object "jdk/internal/misc/Unsafe"), .boolean, .int, .int, .int, .int, .int, .int, .int, .int, .int, .int, .int, .int, .int, .int, .int, .int, .int, (.object "jdk/internal/access/JavaLangAccess"), .int]
  resolved := Array.replicate 378 none
  statics := none }

def pool17 : Array CpInfo := pool [(1, u "java/lang/Cloneable"), (0, .class_ 1), (0, u "java/lang/Object"), (0, .class_ 3)] 3

/-- java/lang/Cloneable -/
def k17 : Class := { plain "java/lang/Cloneable" (some 0) with
  accessFlags := 1537
  interfaces := #[]
  cf := some (fileOf pool17 2 #[] #[] 1537 4 #[] #[])
  fields := #[]
  methods := #[]
  instanceTypes := #[]
  staticTypes := #[]
  resolved := Array.replicate 8 none
  statics := none }

/-- the primitive byte -/
def k18 : Class := { plain "byte" none with kind := .primitive 'B', accessFlags := 0x411 }
/-- [B -/
def k19 : Class := { plain "[B" (some 0) with kind := .array 18 .byte, interfaces := #[17, 2], accessFlags := 1041 }

/-- the primitive char -/
def k20 : Class := { plain "char" none with kind := .primitive 'C', accessFlags := 0x411 }
/-- [C -/
def k21 : Class := { plain "[C" (some 0) with kind := .array 20 .char, interfaces := #[17, 2], accessFlags := 1041 }

/-- the primitive int -/
def k22 : Class := { plain "int" none with kind := .primitive 'I', accessFlags := 0x411 }
/-- [I -/
def k23 : Class := { plain "[I" (some 0) with kind := .array 22 .int, interfaces := #[17, 2], accessFlags := 1041 }

def heap : Heap := #[{ cls := 7, slots := #[.long 0, .int 1, .null, .int 0, .null, .int 0, .int 0], vm := .statics 7 },
  { cls := 13, slots := #[.null, .null, .null], vm := .statics 13 }]
def classes : Array Class := #[k0, k1, k2, k3, k4, k5, k6, k7, k8, k9, k10, k11, k12, k13, k14, k15, k16, k17, k18, k19, k20, k21, k22, k23]
def interned : List (Array UInt16 × Addr) := []
def slotsUsed : Nat := 10
def theMethod : MethodId := ⟨1, 2⟩
def args0 : Array Value := #[.int 768, .int 63, .int 65, .int 66, .int 3]
def aboutOver (below : List Frame) : State where
  vm := { classes := classes, interned := interned.toArray }
  heap := heap
  slotsUsed := slotsUsed
  threads := #[{ frames := .invoking theMethod args0 :: below }]
def below0 : List Frame := [.native { method := ⟨0, 0⟩, args := #[] }]
def about1 : State := aboutOver below0
def p0 : Program := .bare "" "" ""
def e0 : Env := launch0.env 0 0 0
theorem w_frames : about1.frames = Frame.invoking theMethod args0 :: below0 := rfl
set_option maxRecDepth 65536 in
theorem w_args : argsFit about1.vm theMethod args0 = true := by decide +kernel
set_option maxRecDepth 65536 in
theorem w_heap : heapFits about1 = true := by decide +kernel
set_option maxRecDepth 65536 in
theorem w_runnable : about1.curStatus? = some .runnable := by decide +kernel
set_option maxRecDepth 65536 in
theorem w_alone : about1.alone = true := by decide +kernel
set_option maxRecDepth 65536 in
theorem w_named : about1.methodNamed? x = some theMethod := by decide +kernel
set_option maxRecDepth 65536 in
theorem w_hears : about1.hears theMethod below0 = true := by decide +kernel
set_option maxRecDepth 65536 in
theorem w_ripe : about1.ripe theMethod args0 below0 = true := by decide +kernel
theorem w_running : about1.status = .running := rfl
set_option maxRecDepth 65536 in
theorem w_room : about1.hasRoom e0.platform room_1 = true :=
  launch0.hasRoom_least _ room_1 (by decide +kernel) (by decide +kernel) (by decide +kernel) (by decide +kernel) (by decide +kernel) (by decide +kernel)
theorem allAtoms_all (ts : List Jvm.Cond) (a : Array Jvm.Value) (st : Jvm.State) : (allAtoms ts).before a st = ts.all (fun c => c.before a st) := by
  induction ts with
  | nil => rfl
  | cons c t ih =>
    show (Jvm.Cond.and c (allAtoms t)).before a st = _
    rw [Jvm.Cond.before_and, ih, List.all_cons]
def words1 : List Jvm.Cond := Jvm.Cond.code x code maxLocals ret :: tables_1
/-- a 'code' word, met by the world's own term for the bytes: nothing is compared byte by byte -/
theorem code_word {y : MethodName} {bytes : ByteArray} {mx : Nat} {rt : Option FieldType} {a : Array Value} {s : State} {m : MethodId} {meth : Method} {c : Code} (h1 : s.methodNamed? y = some m) (h2 : s.vm.method? m = some meth) (h3 : meth.code = some c) (h4 : c.code = bytes)
    (h5 : (c.maxLocals == mx && c.exceptionTable.isEmpty && decide (c.maxStack ≤ mostOperands) && decide (meth.sig.returnType = rt) && !meth.locks && decide (parseMethodDescriptor y.desc = some meth.sig)) = true) : (Jvm.Cond.code y bytes mx rt).before a s = true := by
  simp only [Bool.and_eq_true, beq_iff_eq, Bool.not_eq_true', decide_eq_true_eq] at h5
  obtain ⟨⟨⟨⟨⟨g1, g2⟩, g3⟩, g4⟩, g5⟩, g6⟩ := h5
  simp [Cond.before, Cond.holds, Cond.value, h1, h2, h3, h4, g1, g2, g3, g4, g5, g6]
def isCode : Jvm.Cond → Bool
  | .code _ _ _ _ => true
  | _ => false
theorem all_split {L : List Jvm.Cond} {P : Jvm.Cond → Bool} (h1 : L.all (fun c => isCode c || P c) = true) (h2 : ∀ c ∈ L.filter isCode, P c = true) : L.all P = true := by
  refine List.all_eq_true.mpr fun c hc => ?_
  have h := List.all_eq_true.mp h1 c hc
  rcases Bool.eq_false_or_eq_true (isCode c) with hi | hi
  · exact h2 c (List.mem_filter.mpr ⟨hc, hi⟩)
  · simpa [hi] using h
set_option maxRecDepth 65536 in
theorem w_c0 : (Jvm.Cond.code x code maxLocals ret).before args0 about1 = true := code_word (m := ⟨1, 2⟩) (meth := k1m2) (c := k1c2) (by decide +kernel) rfl rfl rfl (by decide +kernel)
set_option maxRecDepth 65536 in
theorem w_c1 : (Jvm.Cond.code ({ cls := "com/example/nephele/nephele/web/internal/RequestPathQueryStringPinLaw", name := "ch", desc := "(I)C" } : Jvm.MethodName) method_2_code (1 : Nat) (Option.some Jvm.ClassFile.FieldType.char)).before args0 about1 = true := code_word (m := ⟨1, 1⟩) (meth := k1m1) (c := k1c1) (by decide +kernel) rfl rfl rfl (by decide +kernel)
set_option maxRecDepth 65536 in
theorem w_c2 : (Jvm.Cond.code ({ cls := "java/lang/String", name := "<init>", desc := "([C)V" } : Jvm.MethodName) jdk_42_method_3_code (2 : Nat) (Option.none : Option Jvm.ClassFile.FieldType)).before args0 about1 = true := code_word (m := ⟨7, 1⟩) (meth := k7m1) (c := k7c1) (by decide +kernel) rfl rfl rfl (by decide +kernel)
set_option maxRecDepth 65536 in
theorem w_c3 : (Jvm.Cond.code ({ cls := "java/lang/String", name := "<init>", desc := "([CIILjava/lang/Void;)V" } : Jvm.MethodName) jdk_42_method_149_code (6 : Nat) (Option.none : Option Jvm.ClassFile.FieldType)).before args0 about1 = true := code_word (m := ⟨7, 8⟩) (meth := k7m8) (c := k7c8) (by decide +kernel) rfl rfl rfl (by decide +kernel)
set_option maxRecDepth 65536 in
theorem w_c4 : (Jvm.Cond.code ({ cls := "java/lang/Object", name := "<init>", desc := "()V" } : Jvm.MethodName) object_method_1_code (1 : Nat) (Option.none : Option Jvm.ClassFile.FieldType)).before args0 about1 = true := code_word (m := ⟨0, 0⟩) (meth := k0m0) (c := k0c0) (by decide +kernel) rfl rfl rfl (by decide +kernel)
set_option maxRecDepth 65536 in
theorem w_c5 : (Jvm.Cond.code ({ cls := "com/example/nephele/nephele/web/internal/RequestPath", name := "queryString", desc := "(Ljava/lang/String;)Ljava/lang/String;" } : Jvm.MethodName) prog_24_method_3_code (2 : Nat) (Option.some (Jvm.ClassFile.FieldType.object "java/lang/String"))).before args0 about1 = true := code_word (m := ⟨9, 0⟩) (meth := k9m0) (c := k9c0) (by decide +kernel) rfl rfl rfl (by decide +kernel)
set_option maxRecDepth 65536 in
theorem w_c6 : (Jvm.Cond.code ({ cls := "java/lang/String", name := "indexOf", desc := "(I)I" } : Jvm.MethodName) jdk_42_method_79_code (2 : Nat) (Option.some Jvm.ClassFile.FieldType.int)).before args0 about1 = true := code_word (m := ⟨7, 4⟩) (meth := k7m4) (c := k7c4) (by decide +kernel) rfl rfl rfl (by decide +kernel)
set_option maxRecDepth 65536 in
theorem w_c7 : (Jvm.Cond.code ({ cls := "java/lang/String", name := "indexOf", desc := "(II)I" } : Jvm.MethodName) jdk_42_method_80_code (3 : Nat) (Option.some Jvm.ClassFile.FieldType.int)).before args0 about1 = true := code_word (m := ⟨7, 5⟩) (meth := k7m5) (c := k7c5) (by decide +kernel) rfl rfl rfl (by decide +kernel)
set_option maxRecDepth 65536 in
theorem w_c8 : (Jvm.Cond.code ({ cls := "java/lang/String", name := "isLatin1", desc := "()Z" } : Jvm.MethodName) jdk_42_method_154_code (1 : Nat) (Option.some Jvm.ClassFile.FieldType.boolean)).before args0 about1 = true := code_word (m := ⟨7, 11⟩) (meth := k7m11) (c := k7c11) (by decide +kernel) rfl rfl rfl (by decide +kernel)
set_option maxRecDepth 65536 in
theorem w_c9 : (Jvm.Cond.code ({ cls := "java/lang/String", name := "length", desc := "()I" } : Jvm.MethodName) jdk_42_method_54_code (1 : Nat) (Option.some Jvm.ClassFile.FieldType.int)).before args0 about1 = true := code_word (m := ⟨7, 2⟩) (meth := k7m2) (c := k7c2) (by decide +kernel) rfl rfl rfl (by decide +kernel)
set_option maxRecDepth 65536 in
theorem w_c10 : (Jvm.Cond.code ({ cls := "java/lang/String", name := "coder", desc := "()B" } : Jvm.MethodName) jdk_42_method_152_code (1 : Nat) (Option.some Jvm.ClassFile.FieldType.byte)).before args0 about1 = true := code_word (m := ⟨7, 10⟩) (meth := k7m10) (c := k7c10) (by decide +kernel) rfl rfl rfl (by decide +kernel)
set_option maxRecDepth 65536 in
theorem w_c11 : (Jvm.Cond.code ({ cls := "java/lang/StringLatin1", name := "indexOf", desc := "([BIII)I" } : Jvm.MethodName) jdk_43_method_22_code (4 : Nat) (Option.some Jvm.ClassFile.FieldType.int)).before args0 about1 = true := code_word (m := ⟨10, 3⟩) (meth := k10m3) (c := k10c3) (by decide +kernel) rfl rfl rfl (by decide +kernel)
set_option maxRecDepth 65536 in
theorem w_c12 : (Jvm.Cond.code ({ cls := "java/lang/StringLatin1", name := "canEncode", desc := "(I)Z" } : Jvm.MethodName) jdk_43_method_4_code (1 : Nat) (Option.some Jvm.ClassFile.FieldType.boolean)).before args0 about1 = true := code_word (m := ⟨10, 2⟩) (meth := k10m2) (c := k10c2) (by decide +kernel) rfl rfl rfl (by decide +kernel)
set_option maxRecDepth 65536 in
theorem w_c13 : (Jvm.Cond.code ({ cls := "java/lang/Math", name := "max", desc := "(II)I" } : Jvm.MethodName) jdk_29_method_65_code (2 : Nat) (Option.some Jvm.ClassFile.FieldType.int)).before args0 about1 = true := code_word (m := ⟨11, 1⟩) (meth := k11m1) (c := k11c1) (by decide +kernel) rfl rfl rfl (by decide +kernel)
set_option maxRecDepth 65536 in
theorem w_c14 : (Jvm.Cond.code ({ cls := "java/lang/Math", name := "min", desc := "(II)I" } : Jvm.MethodName) jdk_29_method_69_code (2 : Nat) (Option.some Jvm.ClassFile.FieldType.int)).before args0 about1 = true := code_word (m := ⟨11, 2⟩) (meth := k11m2) (c := k11c2) (by decide +kernel) rfl rfl rfl (by decide +kernel)
set_option maxRecDepth 65536 in
theorem w_c15 : (Jvm.Cond.code ({ cls := "java/lang/StringUTF16", name := "compress", desc := "([CII)[B" } : Jvm.MethodName) jdk_52_method_16_code (6 : Nat) (Option.some (Jvm.ClassFile.FieldType.array Jvm.ClassFile.FieldType.byte))).before args0 about1 = true := code_word (m := ⟨12, 2⟩) (meth := k12m2) (c := k12c2) (by decide +kernel) rfl rfl rfl (by decide +kernel)
set_option maxRecDepth 65536 in
theorem w_c16 : (Jvm.Cond.code ({ cls := "java/lang/StringUTF16", name := "compress", desc := "([CI[BII)I" } : Jvm.MethodName) jdk_52_method_21_code (7 : Nat) (Option.some Jvm.ClassFile.FieldType.int)).before args0 about1 = true := code_word (m := ⟨12, 3⟩) (meth := k12m3) (c := k12c3) (by decide +kernel) rfl rfl rfl (by decide +kernel)
set_option maxRecDepth 65536 in
theorem w_c17 : (Jvm.Cond.code ({ cls := "java/lang/StringUTF16", name := "coderFromArrayLen", desc := "([BI)B" } : Jvm.MethodName) jdk_52_method_15_code (2 : Nat) (Option.some Jvm.ClassFile.FieldType.byte)).before args0 about1 = true := code_word (m := ⟨12, 1⟩) (meth := k12m1) (c := k12c1) (by decide +kernel) rfl rfl rfl (by decide +kernel)
set_option maxRecDepth 65536 in
theorem w_c18 : (Jvm.Cond.code ({ cls := "java/lang/StringLatin1", name := "indexOfChar", desc := "([BIII)I" } : Jvm.MethodName) jdk_43_method_23_code (6 : Nat) (Option.some Jvm.ClassFile.FieldType.int)).before args0 about1 = true := code_word (m := ⟨10, 4⟩) (meth := k10m4) (c := k10c4) (by decide +kernel) rfl rfl rfl (by decide +kernel)
set_option maxRecDepth 65536 in
theorem w_c19 : (Jvm.Cond.code ({ cls := "java/lang/String", name := "substring", desc := "(I)Ljava/lang/String;" } : Jvm.MethodName) jdk_42_method_91_code (2 : Nat) (Option.some (Jvm.ClassFile.FieldType.object "java/lang/String"))).before args0 about1 = true := code_word (m := ⟨7, 6⟩) (meth := k7m6) (c := k7c6) (by decide +kernel) rfl rfl rfl (by decide +kernel)
set_option maxRecDepth 65536 in
theorem w_c20 : (Jvm.Cond.code ({ cls := "java/lang/String", name := "substring", desc := "(II)Ljava/lang/String;" } : Jvm.MethodName) jdk_42_method_92_code (5 : Nat) (Option.some (Jvm.ClassFile.FieldType.object "java/lang/String"))).before args0 about1 = true := code_word (m := ⟨7, 7⟩) (meth := k7m7) (c := k7c7) (by decide +kernel) rfl rfl rfl (by decide +kernel)
set_option maxRecDepth 65536 in
theorem w_c21 : (Jvm.Cond.code ({ cls := "java/lang/String", name := "checkBoundsBeginEnd", desc := "(III)V" } : Jvm.MethodName) jdk_42_method_158_code (3 : Nat) (Option.none : Option Jvm.ClassFile.FieldType)).before args0 about1 = true := code_word (m := ⟨7, 13⟩) (meth := k7m13) (c := k7c13) (by decide +kernel) rfl rfl rfl (by decide +kernel)
set_option maxRecDepth 65536 in
theorem w_c22 : (Jvm.Cond.code ({ cls := "jdk/internal/util/Preconditions", name := "checkFromToIndex", desc := "(IIILjava/util/function/BiFunction;)I" } : Jvm.MethodName) jdk_41_method_12_code (4 : Nat) (Option.some Jvm.ClassFile.FieldType.int)).before args0 about1 = true := code_word (m := ⟨13, 2⟩) (meth := k13m2) (c := k13c2) (by decide +kernel) rfl rfl rfl (by decide +kernel)
set_option maxRecDepth 65536 in
theorem w_c23 : (Jvm.Cond.code ({ cls := "java/lang/StringLatin1", name := "newString", desc := "([BII)Ljava/lang/String;" } : Jvm.MethodName) jdk_43_method_47_code (3 : Nat) (Option.some (Jvm.ClassFile.FieldType.object "java/lang/String"))).before args0 about1 = true := code_word (m := ⟨10, 5⟩) (meth := k10m5) (c := k10c5) (by decide +kernel) rfl rfl rfl (by decide +kernel)
set_option maxRecDepth 65536 in
theorem w_c24 : (Jvm.Cond.code ({ cls := "java/util/Arrays", name := "copyOfRange", desc := "([BII)[B" } : Jvm.MethodName) jdk_65_method_132_code (3 : Nat) (Option.some (Jvm.ClassFile.FieldType.array Jvm.ClassFile.FieldType.byte))).before args0 about1 = true := code_word (m := ⟨14, 2⟩) (meth := k14m2) (c := k14c2) (by decide +kernel) rfl rfl rfl (by decide +kernel)
set_option maxRecDepth 65536 in
theorem w_c25 : (Jvm.Cond.code ({ cls := "java/util/Arrays", name := "copyOfRangeByte", desc := "([BII)[B" } : Jvm.MethodName) jdk_65_method_133_code (5 : Nat) (Option.some (Jvm.ClassFile.FieldType.array Jvm.ClassFile.FieldType.byte))).before args0 about1 = true := code_word (m := ⟨14, 3⟩) (meth := k14m3) (c := k14c3) (by decide +kernel) rfl rfl rfl (by decide +kernel)
set_option maxRecDepth 65536 in
theorem w_c26 : (Jvm.Cond.code ({ cls := "java/util/Arrays", name := "checkLength", desc := "(II)V" } : Jvm.MethodName) jdk_65_method_131_code (2 : Nat) (Option.none : Option Jvm.ClassFile.FieldType)).before args0 about1 = true := code_word (m := ⟨14, 1⟩) (meth := k14m1) (c := k14c1) (by decide +kernel) rfl rfl rfl (by decide +kernel)
set_option maxRecDepth 65536 in
theorem w_c27 : (Jvm.Cond.code ({ cls := "java/lang/String", name := "<init>", desc := "([BB)V" } : Jvm.MethodName) jdk_42_method_151_code (3 : Nat) (Option.none : Option Jvm.ClassFile.FieldType)).before args0 about1 = true := code_word (m := ⟨7, 9⟩) (meth := k7m9) (c := k7c9) (by decide +kernel) rfl rfl rfl (by decide +kernel)
set_option maxRecDepth 65536 in
theorem w_c28 : (Jvm.Cond.code ({ cls := "java/lang/String", name := "charAt", desc := "(I)C" } : Jvm.MethodName) jdk_42_method_56_code (2 : Nat) (Option.some Jvm.ClassFile.FieldType.char)).before args0 about1 = true := code_word (m := ⟨7, 3⟩) (meth := k7m3) (c := k7c3) (by decide +kernel) rfl rfl rfl (by decide +kernel)
set_option maxRecDepth 65536 in
theorem w_c29 : (Jvm.Cond.code ({ cls := "java/lang/StringLatin1", name := "charAt", desc := "([BI)C" } : Jvm.MethodName) jdk_43_method_2_code (2 : Nat) (Option.some Jvm.ClassFile.FieldType.char)).before args0 about1 = true := code_word (m := ⟨10, 1⟩) (meth := k10m1) (c := k10c1) (by decide +kernel) rfl rfl rfl (by decide +kernel)
set_option maxRecDepth 65536 in
theorem w_c30 : (Jvm.Cond.code ({ cls := "java/lang/String", name := "checkIndex", desc := "(II)V" } : Jvm.MethodName) jdk_42_method_155_code (2 : Nat) (Option.none : Option Jvm.ClassFile.FieldType)).before args0 about1 = true := code_word (m := ⟨7, 12⟩) (meth := k7m12) (c := k7c12) (by decide +kernel) rfl rfl rfl (by decide +kernel)
set_option maxRecDepth 65536 in
theorem w_c31 : (Jvm.Cond.code ({ cls := "jdk/internal/util/Preconditions", name := "checkIndex", desc := "(IILjava/util/function/BiFunction;)I" } : Jvm.MethodName) jdk_41_method_11_code (3 : Nat) (Option.some Jvm.ClassFile.FieldType.int)).before args0 about1 = true := code_word (m := ⟨13, 1⟩) (meth := k13m1) (c := k13c1) (by decide +kernel) rfl rfl rfl (by decide +kernel)
def codes1 : List Jvm.Cond := [Jvm.Cond.code x code maxLocals ret, Jvm.Cond.code ({ cls := "com/example/nephele/nephele/web/internal/RequestPathQueryStringPinLaw", name := "ch", desc := "(I)C" } : Jvm.MethodName) method_2_code (1 : Nat) (Option.some Jvm.ClassFile.FieldType.char), Jvm.Cond.code ({ cls := "java/lang/String", name := "<init>", desc := "([C)V" } : Jvm.MethodName) jdk_42_method_3_code (2 : Nat) (Option.none : Option Jvm.ClassFile.FieldType), Jvm.Cond.code ({ cls := "java/lang/String", name := "<init>", desc := "([CIILjava/lang/Void;)V" } : Jvm.MethodName) jdk_42_method_149_code (6 : Nat) (Option.none : Option Jvm.ClassFile.FieldType), Jvm.Cond.code ({ cls := "java/lang/Object", name := "<init>", desc := "()V" } : Jvm.MethodName) object_method_1_code (1 : Nat) (Option.none : Option Jvm.ClassFile.FieldType), Jvm.Cond.code ({ cls := "com/example/nephele/nephele/web/internal/RequestPath", name := "queryString", desc := "(Ljava/lang/String;)Ljava/lang/String;" } : Jvm.MethodName) prog_24_method_3_code (2 : Nat) (Option.some (Jvm.ClassFile.FieldType.object "java/lang/String")), Jvm.Cond.code ({ cls := "java/lang/String", name := "indexOf", desc := "(I)I" } : Jvm.MethodName) jdk_42_method_79_code (2 : Nat) (Option.some Jvm.ClassFile.FieldType.int), Jvm.Cond.code ({ cls := "java/lang/String", name := "indexOf", desc := "(II)I" } : Jvm.MethodName) jdk_42_method_80_code (3 : Nat) (Option.some Jvm.ClassFile.FieldType.int), Jvm.Cond.code ({ cls := "java/lang/String", name := "isLatin1", desc := "()Z" } : Jvm.MethodName) jdk_42_method_154_code (1 : Nat) (Option.some Jvm.ClassFile.FieldType.boolean), Jvm.Cond.code ({ cls := "java/lang/String", name := "length", desc := "()I" } : Jvm.MethodName) jdk_42_method_54_code (1 : Nat) (Option.some Jvm.ClassFile.FieldType.int), Jvm.Cond.code ({ cls := "java/lang/String", name := "coder", desc := "()B" } : Jvm.MethodName) jdk_42_method_152_code (1 : Nat) (Option.some Jvm.ClassFile.FieldType.byte), Jvm.Cond.code ({ cls := "java/lang/StringLatin1", name := "indexOf", desc := "([BIII)I" } : Jvm.MethodName) jdk_43_method_22_code (4 : Nat) (Option.some Jvm.ClassFile.FieldType.int), Jvm.Cond.code ({ cls := "java/lang/StringLatin1", name := "canEncode", desc := "(I)Z" } : Jvm.MethodName) jdk_43_method_4_code (1 : Nat) (Option.some Jvm.ClassFile.FieldType.boolean), Jvm.Cond.code ({ cls := "java/lang/Math", name := "max", desc := "(II)I" } : Jvm.MethodName) jdk_29_method_65_code (2 : Nat) (Option.some Jvm.ClassFile.FieldType.int), Jvm.Cond.code ({ cls := "java/lang/Math", name := "min", desc := "(II)I" } : Jvm.MethodName) jdk_29_method_69_code (2 : Nat) (Option.some Jvm.ClassFile.FieldType.int), Jvm.Cond.code ({ cls := "java/lang/StringUTF16", name := "compress", desc := "([CII)[B" } : Jvm.MethodName) jdk_52_method_16_code (6 : Nat) (Option.some (Jvm.ClassFile.FieldType.array Jvm.ClassFile.FieldType.byte)), Jvm.Cond.code ({ cls := "java/lang/StringUTF16", name := "compress", desc := "([CI[BII)I" } : Jvm.MethodName) jdk_52_method_21_code (7 : Nat) (Option.some Jvm.ClassFile.FieldType.int), Jvm.Cond.code ({ cls := "java/lang/StringUTF16", name := "coderFromArrayLen", desc := "([BI)B" } : Jvm.MethodName) jdk_52_method_15_code (2 : Nat) (Option.some Jvm.ClassFile.FieldType.byte), Jvm.Cond.code ({ cls := "java/lang/StringLatin1", name := "indexOfChar", desc := "([BIII)I" } : Jvm.MethodName) jdk_43_method_23_code (6 : Nat) (Option.some Jvm.ClassFile.FieldType.int), Jvm.Cond.code ({ cls := "java/lang/String", name := "substring", desc := "(I)Ljava/lang/String;" } : Jvm.MethodName) jdk_42_method_91_code (2 : Nat) (Option.some (Jvm.ClassFile.FieldType.object "java/lang/String")), Jvm.Cond.code ({ cls := "java/lang/String", name := "substring", desc := "(II)Ljava/lang/String;" } : Jvm.MethodName) jdk_42_method_92_code (5 : Nat) (Option.some (Jvm.ClassFile.FieldType.object "java/lang/String")), Jvm.Cond.code ({ cls := "java/lang/String", name := "checkBoundsBeginEnd", desc := "(III)V" } : Jvm.MethodName) jdk_42_method_158_code (3 : Nat) (Option.none : Option Jvm.ClassFile.FieldType), Jvm.Cond.code ({ cls := "jdk/internal/util/Preconditions", name := "checkFromToIndex", desc := "(IIILjava/util/function/BiFunction;)I" } : Jvm.MethodName) jdk_41_method_12_code (4 : Nat) (Option.some Jvm.ClassFile.FieldType.int), Jvm.Cond.code ({ cls := "java/lang/StringLatin1", name := "newString", desc := "([BII)Ljava/lang/String;" } : Jvm.MethodName) jdk_43_method_47_code (3 : Nat) (Option.some (Jvm.ClassFile.FieldType.object "java/lang/String")), Jvm.Cond.code ({ cls := "java/util/Arrays", name := "copyOfRange", desc := "([BII)[B" } : Jvm.MethodName) jdk_65_method_132_code (3 : Nat) (Option.some (Jvm.ClassFile.FieldType.array Jvm.ClassFile.FieldType.byte)), Jvm.Cond.code ({ cls := "java/util/Arrays", name := "copyOfRangeByte", desc := "([BII)[B" } : Jvm.MethodName) jdk_65_method_133_code (5 : Nat) (Option.some (Jvm.ClassFile.FieldType.array Jvm.ClassFile.FieldType.byte)), Jvm.Cond.code ({ cls := "java/util/Arrays", name := "checkLength", desc := "(II)V" } : Jvm.MethodName) jdk_65_method_131_code (2 : Nat) (Option.none : Option Jvm.ClassFile.FieldType), Jvm.Cond.code ({ cls := "java/lang/String", name := "<init>", desc := "([BB)V" } : Jvm.MethodName) jdk_42_method_151_code (3 : Nat) (Option.none : Option Jvm.ClassFile.FieldType), Jvm.Cond.code ({ cls := "java/lang/String", name := "charAt", desc := "(I)C" } : Jvm.MethodName) jdk_42_method_56_code (2 : Nat) (Option.some Jvm.ClassFile.FieldType.char), Jvm.Cond.code ({ cls := "java/lang/StringLatin1", name := "charAt", desc := "([BI)C" } : Jvm.MethodName) jdk_43_method_2_code (2 : Nat) (Option.some Jvm.ClassFile.FieldType.char), Jvm.Cond.code ({ cls := "java/lang/String", name := "checkIndex", desc := "(II)V" } : Jvm.MethodName) jdk_42_method_155_code (2 : Nat) (Option.none : Option Jvm.ClassFile.FieldType), Jvm.Cond.code ({ cls := "jdk/internal/util/Preconditions", name := "checkIndex", desc := "(IILjava/util/function/BiFunction;)I" } : Jvm.MethodName) jdk_41_method_11_code (3 : Nat) (Option.some Jvm.ClassFile.FieldType.int)]
set_option maxRecDepth 65536 in
theorem codes_eq : words1.filter isCode = codes1 := rfl
theorem w_codes : ∀ c ∈ words1.filter isCode, c.before args0 about1 = true := by
  rw [codes_eq]
  intro c hc
  simp only [codes1, List.mem_cons, List.not_mem_nil, or_false] at hc
  rcases hc with rfl | rfl | rfl | rfl | rfl | rfl | rfl | rfl | rfl | rfl | rfl | rfl | rfl | rfl | rfl | rfl | rfl | rfl | rfl | rfl | rfl | rfl | rfl | rfl | rfl | rfl | rfl | rfl | rfl | rfl | rfl | rfl
  · exact w_c0
  · exact w_c1
  · exact w_c2
  · exact w_c3
  · exact w_c4
  · exact w_c5
  · exact w_c6
  · exact w_c7
  · exact w_c8
  · exact w_c9
  · exact w_c10
  · exact w_c11
  · exact w_c12
  · exact w_c13
  · exact w_c14
  · exact w_c15
  · exact w_c16
  · exact w_c17
  · exact w_c18
  · exact w_c19
  · exact w_c20
  · exact w_c21
  · exact w_c22
  · exact w_c23
  · exact w_c24
  · exact w_c25
  · exact w_c26
  · exact w_c27
  · exact w_c28
  · exact w_c29
  · exact w_c30
  · exact w_c31
set_option maxRecDepth 65536 in
theorem w_t1 : (words1.take 24).all (fun c => isCode c || c.before args0 about1) = true := by decide +kernel
set_option maxRecDepth 65536 in
theorem w_t2 : ((words1.drop 24).take 24).all (fun c => isCode c || c.before args0 about1) = true := by decide +kernel
set_option maxRecDepth 65536 in
theorem w_t3 : (((words1.drop 24).drop 24).take 24).all (fun c => isCode c || c.before args0 about1) = true := by decide +kernel
set_option maxRecDepth 65536 in
theorem w_t4 : ((((words1.drop 24).drop 24).drop 24).take 24).all (fun c => isCode c || c.before args0 about1) = true := by decide +kernel
set_option maxRecDepth 65536 in
theorem w_t5 : (((((words1.drop 24).drop 24).drop 24).drop 24).take 24).all (fun c => isCode c || c.before args0 about1) = true := by decide +kernel
set_option maxRecDepth 65536 in
theorem w_t6 : (((((words1.drop 24).drop 24).drop 24).drop 24).drop 24).all (fun c => isCode c || c.before args0 about1) = true := by decide +kernel
theorem w_tables : (allAtoms (Jvm.Cond.code x code maxLocals ret :: tables_1)).before args0 about1 = true := by
  rw [allAtoms_all]
  show words1.all (fun c => c.before args0 about1) = true
  refine all_split ?_ w_codes
  rw [← List.take_append_drop 24 words1, List.all_append, w_t1, ← List.take_append_drop 24 (words1.drop 24), List.all_append, w_t2, ← List.take_append_drop 24 ((words1.drop 24).drop 24), List.all_append, w_t3, ← List.take_append_drop 24 (((words1.drop 24).drop 24).drop 24), List.all_append, w_t4, ← List.take_append_drop 24 ((((words1.drop 24).drop 24).drop 24).drop 24), List.all_append, w_t5, w_t6]
  rfl
set_option maxRecDepth 65536 in
theorem w_rest : rest_1_c.before args0 about1 = true := by decide +kernel
set_option maxRecDepth 65536 in
theorem w_case : (Jvm.Cond.and given_1 narrow_1).before args0 about1 = true := by decide +kernel
set_option maxRecDepth 65536 in
theorem w_consts : constsHeld consts_1 about1 := Jvm.Lit.constsHeldB_iff.mp (by decide +kernel)
theorem w_applies : (headSpec (Jvm.Cond.code x code maxLocals ret :: tables_1) room_1).applies x e0.platform about1 = true :=
  (Spec.applies_iff w_frames).mpr ⟨w_running, w_runnable, w_alone, w_named, w_hears, w_ripe, w_room, w_tables⟩
theorem w_held0 : Jvm.D.constHeld about1 "java/lang/String" 7 := by
  intro c k cf i units a h1 h2 h3 h4 h5 h6 h7 h8
  have e1 : about1.vm.findClass "java/lang/String" = some 7 := by decide +kernel
  cases e1.symm.trans h1
  have e2 : about1.vm.classes[7]? = some k7 := rfl
  cases e2.symm.trans h2
  rcases h8 with h8 | ⟨-, h8⟩
  · have e3 : k7.resolved[7]? = some none := by show (Array.replicate 1451 none)[7]? = some none; simp
    rw [e3] at h8; cases h8
  · have n : about1.vm.interned.find? (fun p => p.1 == units) = none := rfl
    rw [n] at h8; cases h8
theorem w_held1 : Jvm.D.constHeld about1 "java/lang/StringLatin1" 151 := by
  intro c k cf i units a h1 h2 h3 h4 h5 h6 h7 h8
  have e1 : about1.vm.findClass "java/lang/StringLatin1" = some 10 := by decide +kernel
  cases e1.symm.trans h1
  have e2 : about1.vm.classes[10]? = some k10 := rfl
  cases e2.symm.trans h2
  rcases h8 with h8 | ⟨-, h8⟩
  · have e3 : k10.resolved[151]? = some none := by show (Array.replicate 395 none)[151]? = some none; simp
    rw [e3] at h8; cases h8
  · have n : about1.vm.interned.find? (fun p => p.1 == units) = none := rfl
    rw [n] at h8; cases h8
theorem w_calls : Calls_1 p0.tables e0 args0 about1 := by
  refine ⟨fun q hq => ?_, trivial⟩
  simp only [consts_1, List.mem_cons, List.not_mem_nil, or_false] at hq
  rcases hq with rfl | rfl
  · exact w_held0
  · exact w_held1
theorem atStart : AtStart classFile x code maxLocals ret World_1 tables_1 room_1 Calls_1 rest_1 Pre_1 launch0 p0 e0 about1 theMethod args0 below0 :=
  ⟨lists_1, trivial, launch0.admits_env _ _ _, launch0.least_env, fairChoices_fair.cas, fairChoices_fair.clock, w_frames, w_args, w_heap, w_applies, ⟨w_consts, trivial⟩, w_rest, w_case⟩
end start1
theorem witness_1 : WitnessClaimed_1 := ⟨start1.p0, start1.e0, start1.about1, start1.theMethod, start1.args0, start1.below0, start1.atStart⟩
end Jvm.Pilot.@@N@@
