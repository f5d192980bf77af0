import JvmDerived
import JvmDerived.Pilot.@@N@@Statement
import JvmDerived.Pilot.@@N@@Code
set_option linter.unusedVariables false
set_option linter.unusedSimpArgs false
namespace Jvm.Pilot.@@N@@
open Jvm Jvm.ClassFile Sem Op Lib Jvm.Free Jvm.Stand Jvm.LawKit Jvm.RoadKit Bundle Jvm.Pilot.@@N@@.Jvm.D
theorem own_exa_ns {Z : State} {h : Heap} {a : Addr} {C : String} (E : Exa Z h a C) : ∀ c : Cell, h[a]? = some c → c.vm.isStatics = false := fun c hc => by
  obtain ⟨cell, k, h1, -, -, h4, -⟩ := E
  rw [h1] at hc; cases hc; exact h4
theorem own_sta_keep {Z : State} {h h' : Heap} {C n d : String} {v : Value} {ws : List Addr} (F : Sta Z h C n d v) (K : Keep h h' ws) (q : ∀ x ∈ ws, ∀ c : Cell, h[x]? = some c → c.vm.isStatics = false) : Sta Z h' C n d v := by
  obtain ⟨cf, i, k, f, st, cell, h1, h2, h3, h4, h5, h6, h7⟩ := F
  exact ⟨cf, i, k, f, st, cell, h1, h2, h3, h4, K.2.1 st cell h5 (fun hm => by have := q st hm cell h5; rw [h6] at this; cases this), h6, h7⟩
theorem own_ins_keep {Z : State} {h h' : Heap} {a : Addr} {C : String} {b : Bool} {ws : List Addr} (F : Ins Z h a C b) (K : Keep h h' ws) : Ins Z h' a C b := by
  obtain ⟨cell, cT, h1, h2, h3⟩ := F
  obtain ⟨c', q1, q2, q3, -⟩ := K.2.2 a cell h1
  exact ⟨c', cT, q1, h2, by rw [q3, q2]; exact h3⟩
theorem own_ne {r c : Int32} (k : Int) (hc : c.toInt = k) (h : ¬ r = c) : ¬ r.toInt = k := fun e => h (Int32.toInt_inj.mp (e.trans hc.symm))
theorem own_cat1 {v : Value} (h : v.isRef = true) : 2 * 0 + ([v].map fun v => v.category).sum ≤ 1 := by simp [XT.cat1 h]
theorem mi {d : Jvm.Cond} (i : Nat) (h : tables_1[i]? = some d) : d ∈ tables_1 := List.mem_of_getElem? h
theorem own_shr0 (x : Int32) : x >>> ((0 : Int32) &&& 31) = x := by
  have e : ((0 : Int32) &&& 31) = 0 := by decide
  rw [e]; first | exact Int32.shiftRight_zero | simp
theorem own_irr (x : Int32) : ¬ x < x := by rw [Int32.lt_iff_toInt_lt]; omega
abbrev MFn (l : Launch) (y : MethodName) (b : ByteArray) (n : Nat) (rt : Option FieldType) (ws : List Jvm.Cond) (R : Room) (A : Array Value) (Z : State) (h0 : Heap) (Q : Option Value → Heap → List Loc → Prop) : Prop :=
  MetFree l y (head1 (Jvm.Cond.code y b n rt :: ws) R) (fun a U => a = A ∧ Z.Warmed39 U.vm ∧ U.heap = h0) (fun _ _ _ _ _ => True) (fun _ U o U' => ∃ v L, o = .returned v ∧ Q v U'.heap L ∧ FrameEnd U o U' L R.cells R.slots)
abbrev Go (tb : Tables) (e : Env) (below : List Frame) (T : State) (F : JFrame) (E : State) : Prop := ∀ t, Steps tb e below (T.setTop F) t → Steps tb e below E t
theorem own_nz {z : Int32} (h : z = 0 ∨ z = 1) : narrow .boolean (.int z) = .int z := by rcases h with rfl | rfl <;> rfl
abbrev Rm (f c s l : Nat) : Room := { frames := f, cells := c, slots := s, locals := l }
abbrev QP (n0 : Nat) (h0 : Heap) (r : Option Value) (v : Option Value) (h : Heap) (L : List Loc) : Prop := v = r ∧ Fr n0 L ∧ h = h0
abbrev Fn (p : Program) (e : Env) (below : List Frame) (s : State) (R : Room) (Q : Option Value → Heap → List Loc → Prop) (En : State) : Prop :=
  ∃ s₂ o, Steps p.tables e below En s₂ ∧ s₂.status = .running ∧ Ended s₂ below o ∧ ∃ v L, o = .returned v ∧ Q v s₂.heap L ∧ FrameEnd s o s₂ L R.cells R.slots
theorem gap {tb : Tables} {e : Env} {below : List Frame} {T T' : State} {F F' : JFrame} {E : State} (g : Go tb e below T F E) (s : ∀ t, Steps tb e below (T'.setTop F') t → Steps tb e below (T.setTop F) t) : Go tb e below T' F' E := fun t k => g t (s t k)
theorem gapT {tb : Tables} {e : Env} {below : List Frame} {T T' : State} {F F' : JFrame} {E : State} (g : Go tb e below T F E) (s : Steps tb e below (T.setTop F) (T'.setTop F')) : Go tb e below T' F' E := fun t k => g t (s.trans k)
theorem own_mf {l : Launch} {y : MethodName} {b : ByteArray} {ml : Nat} {rt : Option FieldType} {ws : List Jvm.Cond} {R : Room} {A : Array Value} {Z : State} {h0 : Heap} {Q : Option Value → Heap → List Loc → Prop} {C : String} {Ls : Array Slot} (hc : y.cls = C) (hpl : plainFor y = true) (ef : ∀ m, entryFrame m A ml = mkF m 0 Ls [])
    (body : ∀ (p : Program) (e : Env) (s : State) (m : MethodId) (below : List Frame) (meth : Method) (c : Code) (s₁ En : State), p.tables.exec = Jvm.exec → c.code = b → c.maxLocals = ml → s.vm.findClass C = some m.cls → meth.name = y.name → Z.Warmed39 s.vm → Stand p l e R s m A below meth c s₁ [] 0 0 → s₁.heap = h0 → meth.locks = false → meth.sig.returnType = rt → Go p.tables e below s₁ (mkF m 0 Ls []) En → Fn p e below s R Q En) :
    MFn l y b ml rt ws R A Z h0 Q := by
  refine MetFree.of_bodySF hpl hisR ?_
  intro p e s m args below meth c s₁ Bd hml0 hP hK
  obtain ⟨hA, hZ, hh⟩ := hP
  subst hA hc
  exact body p e s m below meth c s₁ _ Bd.exec Bd.bytes hml0 (findClass_of_methodNamed Bd.named) (name_of_methodNamed Bd.named Bd.method).1 hZ (Stand.of_body Bd) (by rw [← hh, Bd.state]; rfl) Bd.notSynchronized Bd.returns (fun t k => castTop (ef m) k)
section
variable {l : Launch} {R : Room} {p : Program} {e : Env} {below : List Frame} {s : State} {args : Array Value} {Z : State} {aZ : Array Value} {h : Heap} {m : MethodId} {meth : Method} {c : Code} {T : State} {locs : List Loc} {cells slots : Nat} {pc : Nat} {Ls : Array Slot} {En : State} {Q : Option Value → Heap → List Loc → Prop}
theorem own_out (X : Stand p l e R s m args below meth c T locs cells slots) (hx : p.tables.exec = Jvm.exec) (hlk : meth.locks = false) {w : Value} {rest : List Value} {t : FieldType} {i : Instr} (go : Go p.tables e below T (mkF m pc Ls (w :: rest)) En) (hret : meth.sig.returnType = some t) (hn : narrow t w = w)
    (hi : (i = .ireturn ∧ (t = .int ∨ t = .boolean ∨ t = .byte ∨ t = .char ∨ t = .short) ∧ ∃ z, w = .int z) ∨ (i = .lreturn ∧ t = .long ∧ ∃ z, w = .long z) ∨ (i = .dreturn ∧ t = .double ∧ ∃ z, w = .double z) ∨ (i = .freturn ∧ t = .float ∧ ∃ z, w = .float z) ∨ (i = .areturn ∧ t.isReference = true ∧ w.isRef = true))
    (hd : decode c.code pc = .ok (i, 1)) (eT : T.heap = h) (hc : cells ≤ R.cells) (hs : slots ≤ R.slots) (hq : Q (some w) h locs) : Fn p e below s R Q En := by
  obtain ⟨fs, hr, hrun, hended, hW, hsame⟩ := X.leave (v := some w) (fun h => by rw [hret] at h; cases h) hlk
  exact ⟨_, _, go _ (Jvm.RoadKit.retOut X hx hret hn hi hd hr), hrun, hended, _, _, rfl, (by show Q (some w) T.heap locs; rw [eT]; exact hq), ⟨_, rfl⟩, hW, hsame.mono hc hs⟩
theorem own_outV (X : Stand p l e R s m args below meth c T locs cells slots) (hx : p.tables.exec = Jvm.exec) (hlk : meth.locks = false) (go : Go p.tables e below T (mkF m pc Ls []) En) (hret : meth.sig.returnType = none) (hd : decode c.code pc = .ok (.return_, 1)) (eT : T.heap = h) (hc : cells ≤ R.cells) (hs : slots ≤ R.slots) (hq : Q none h locs) : Fn p e below s R Q En := by
  obtain ⟨fs, hr, hrun, hended, hW, hsame⟩ := X.leave (v := none) (fun _ => rfl) hlk
  exact ⟨_, _, go _ (X.returnOut hx hret hd hr), hrun, hended, _, _, rfl, (by show Q none T.heap locs; rw [eT]; exact hq), ⟨_, rfl⟩, hW, hsame.mono hc hs⟩
abbrev SSt (aZ : Array Value) (Z : State) (y : MethodName) (b : ByteArray) (n : Nat) (rt : Option FieldType) : Prop := ((Jvm.Cond.static y).before aZ Z = true ∧ (Jvm.Cond.initialized y.cls).before aZ Z = true) ∧ (Jvm.Cond.code y b n rt).before aZ Z = true
abbrev SVt (aZ : Array Value) (Z : State) (C : String) (y : MethodName) (b : ByteArray) (n : Nat) (rt : Option FieldType) : Prop := (((Jvm.Cond.declares y).before aZ Z = true ∧ (Jvm.Cond.selects C y y).before aZ Z = true) ∧ (Jvm.Cond.instanceMethod y).before aZ Z = true ∧ (Jvm.Cond.initialized y.cls).before aZ Z = true) ∧ (Jvm.Cond.code y b n rt).before aZ Z = true
abbrev SPt (aZ : Array Value) (Z : State) (y : MethodName) (b : ByteArray) (n : Nat) (rt : Option FieldType) : Prop := (((Jvm.Cond.instanceMethod y).before aZ Z = true ∧ (Jvm.Cond.selects y.cls y y).before aZ Z = true) ∧ (Jvm.Cond.privateMethod y).before aZ Z = true ∧ (Jvm.Cond.initialized y.cls).before aZ Z = true) ∧ (Jvm.Cond.code y b n rt).before aZ Z = true
abbrev SIt (aZ : Array Value) (Z : State) (y : MethodName) (b : ByteArray) (n : Nat) : Prop := ((Jvm.Cond.instanceMethod y).before aZ Z = true ∧ (Jvm.Cond.initialized y.cls).before aZ Z = true) ∧ (Jvm.Cond.code y b n none).before aZ Z = true
variable {own : String} {index : Nat} {y : MethodName} {bytes : ByteArray} {maxL : Nat} {ret : Option FieldType} {rm : Room} {as' : Array Value} {W k : Nat} {S : List Value}
theorem own_cs (X : Stand p l e R s m args below meth c T locs cells slots) (hx : p.tables.exec = Jvm.exec) (hZ : Z.Warmed39 s.vm) (hown : s.vm.findClass own = some m.cls) (hml : c.maxLocals = k) (go : Go p.tables e below T (mkF m pc Ls S) En) (hd : decode c.code pc = .ok (.invokestatic index, 3)) (eT : T.heap = h)
    (wl : (Jvm.Cond.methodLink own index y).before aZ Z = true) (w : SSt aZ Z y bytes maxL ret) (hM : MFn l y bytes maxL ret [] rm as' Z h Q) (hy : y.cls ≠ "java/lang/invoke/MethodHandle" ∧ y.cls ≠ "java/lang/invoke/VarHandle") {argsL rest : List Value} (hst : S = argsL.reverse ++ rest) (has : argsL.toArray = as') (hz : Ls.size = k)
    (hlen : ∀ sig, parseMethodDescriptor y.desc = some sig → argsL.length = sig.parameters.length) (hW : (rest.map fun v => v.category).sum = W) (hf : rm.frames + 1 ≤ R.frames) (hl : W + (maxL + 11) + rm.locals ≤ R.locals) (hc : cells + rm.cells ≤ R.cells) (hs : slots + rm.slots ≤ R.slots) :
    ∃ (v : Option Value) (T' : State) (L : List Loc), Stand p l e R s m args below meth c T' (locs ++ L) (cells + rm.cells) (slots + rm.slots) ∧ Q v T'.heap L ∧ Go p.tables e below T' (mkF m (pc + 3) Ls (v.toList ++ rest)) En := by
  obtain ⟨v, vm₁, ⟨T', L, k', n'⟩, -, X', ⟨Lc, hQ, l1, y1, z1⟩, st⟩ := Jvm.LawKit.callS X hx hown (mvT hZ wl) (mvT hZ w.1.1) (mvT hZ w.1.2) (mvT hZ w.2) hy (backOf (W := W) hM hZ w.2 w.1.2 hf hl) (g := mkF m pc Ls S) rfl (hz.trans hml.symm) (argsL := argsL) (rest := rest) hlen hst (by show 2 * 0 + _ ≤ _; rw [hW]; omega) hd (fun _ _ => ⟨has, eT, hc, hs⟩)
  dsimp only [Pt.U, Pt.locs, Pt.cells, Pt.slots] at X' l1 y1 z1 st hQ
  subst l1 y1 z1
  exact ⟨v, T', Lc, X', hQ, gap go st⟩
theorem own_cv (X : Stand p l e R s m args below meth c T locs cells slots) (hx : p.tables.exec = Jvm.exec) (hZ : Z.Warmed39 s.vm) (hown : s.vm.findClass own = some m.cls) (hml : c.maxLocals = k) (go : Go p.tables e below T (mkF m pc Ls S) En) (hd : decode c.code pc = .ok (.invokevirtual index, 3)) (eT : T.heap = h)
    (wl : (Jvm.Cond.methodLink own index y).before aZ Z = true) {C : String} (w : SVt aZ Z C y bytes maxL ret) {a : Addr} (E : Exa Z h a C) (hM : MFn l y bytes maxL ret [] rm as' Z h Q) (hy : y.cls ≠ "java/lang/invoke/MethodHandle" ∧ y.cls ≠ "java/lang/invoke/VarHandle") {argsL rest : List Value} (hst : S = argsL.reverse ++ .ref a :: rest) (has : (Value.ref a :: argsL).toArray = as') (hz : Ls.size = k)
    (hlen : ∀ sig, parseMethodDescriptor y.desc = some sig → argsL.length = sig.parameters.length) (hW : (rest.map fun v => v.category).sum = W) (hf : rm.frames + 1 ≤ R.frames) (hl : W + (maxL + 11) + rm.locals ≤ R.locals) (hc : cells + rm.cells ≤ R.cells) (hs : slots + rm.slots ≤ R.slots) :
    ∃ (v : Option Value) (T' : State) (L : List Loc), Stand p l e R s m args below meth c T' (locs ++ L) (cells + rm.cells) (slots + rm.slots) ∧ Q v T'.heap L ∧ Go p.tables e below T' (mkF m (pc + 3) Ls (v.toList ++ rest)) En := by
  obtain ⟨cB, kB, qa, qb, qc⟩ := isOf hZ eT E
  obtain ⟨v, vm₁, ⟨T', L, k', n'⟩, -, X', ⟨Lc, hQ, l1, y1, z1⟩, st⟩ := X.virtualBack hx hown (mvT hZ wl) (mvT hZ w.1.1.1) (notFace_of_selects (args := #[]) (mvT hZ w.1.1.2)) (mvT hZ w.1.1.2) (mvT hZ w.1.2.1) hy (backOf (W := W) hM hZ w.2 w.1.2.2 hf hl) qa qc (g := mkF m pc Ls S) rfl (hz.trans hml.symm) (Steps.refl _) (argsL := argsL) (rest := rest) hlen hst (by show 2 * 0 + _ ≤ _; rw [hW]; omega) hd (fun _ _ => ⟨has, eT, hc, hs⟩)
  dsimp only [Pt.U, Pt.locs, Pt.cells, Pt.slots] at X' l1 y1 z1 st hQ
  subst l1 y1 z1
  exact ⟨v, T', Lc, X', hQ, gapT go st⟩
theorem own_selp {n : Nat} (wi : (Jvm.Cond.instantiable y.cls n).before aZ Z = true) (wp : (Jvm.Cond.privateMethod y).before aZ Z = true) (wm : (Jvm.Cond.instanceMethod y).before aZ Z = true) (hy : y.cls ≠ "java/lang/invoke/MethodHandle" ∧ y.cls ≠ "java/lang/invoke/VarHandle") : (Jvm.Cond.selects y.cls y y).before aZ Z = true := by
  obtain ⟨t, k, g0, g2, g5, g6, -, -⟩ := Cond.instantiable_spec wi
  simp only [Bool.or_eq_false_iff] at g6
  exact selects_self_of_private g0 g2 g6.1 (Cond.privateMethod_at wp) wm hy
theorem own_cb (X : Stand p l e R s m args below meth c T locs cells slots) (hx : p.tables.exec = Jvm.exec) (hZ : Z.Warmed39 s.vm) (hown : s.vm.findClass own = some m.cls) (hml : c.maxLocals = k) (go : Go p.tables e below T (mkF m pc Ls S) En) (hd : decode c.code pc = .ok (.invokespecial index, 3)) (eT : T.heap = h)
    (wl : (Jvm.Cond.methodLink own index y).before aZ Z = true) (w : SIt aZ Z y bytes maxL) (hn : y.name = "<init>") {a : Addr} {k1 k2 : Nat}
    (hK : Back l R p e below s args y 3 W (fun P a => a = as' ∧ P.U.heap = h ∧ P.cells + k1 ≤ R.cells ∧ P.slots + k2 ≤ R.slots) (fun P _ v B => ∃ L, Q v B.U.heap L ∧ B.locs = P.locs ++ L ∧ B.cells = P.cells + k1 ∧ B.slots = P.slots + k2))
    (hy : y.cls ≠ "java/lang/invoke/MethodHandle" ∧ y.cls ≠ "java/lang/invoke/VarHandle") {argsL rest : List Value} (hst : S = argsL.reverse ++ .ref a :: rest) (has : (Value.ref a :: argsL).toArray = as') (hz : Ls.size = k)
    (hlen : ∀ sig, parseMethodDescriptor y.desc = some sig → argsL.length = sig.parameters.length) (hW : (rest.map fun v => v.category).sum = W) (hc : cells + k1 ≤ R.cells) (hs : slots + k2 ≤ R.slots) :
    ∃ (v : Option Value) (T' : State) (L : List Loc), Stand p l e R s m args below meth c T' (locs ++ L) (cells + k1) (slots + k2) ∧ Q v T'.heap L ∧ Go p.tables e below T' (mkF m (pc + 3) Ls (v.toList ++ rest)) En := by
  obtain ⟨v, vm₁, ⟨T', L, k', n'⟩, -, X', ⟨Lc, hQ, l1, y1, z1⟩, st⟩ := X.specialBack hx hn hown (mvT hZ wl) (mvT hZ w.1.1) (mvT hZ w.2) hy hK (g := mkF m pc Ls S) rfl (hz.trans hml.symm) (Steps.refl _) (a := a) (argsL := argsL) (rest := rest) hlen hst (by show 2 * 0 + _ ≤ _; rw [hW]; omega) hd (fun _ _ => ⟨has, eT, hc, hs⟩)
  dsimp only [Pt.U, Pt.locs, Pt.cells, Pt.slots] at X' l1 y1 z1 st hQ
  subst l1 y1 z1
  exact ⟨v, T', Lc, X', hQ, gapT go st⟩
theorem own_cp (X : Stand p l e R s m args below meth c T locs cells slots) (hx : p.tables.exec = Jvm.exec) (hZ : Z.Warmed39 s.vm) (hown : s.vm.findClass own = some m.cls) (hml : c.maxLocals = k) (go : Go p.tables e below T (mkF m pc Ls S) En) (hd : decode c.code pc = .ok (.invokevirtual index, 3)) (eT : T.heap = h)
    (wl : (Jvm.Cond.methodLink own index y).before aZ Z = true) (w : SPt aZ Z y bytes maxL ret) {C : String} {a : Addr} (E : Exa Z h a C) (hM : MFn l y bytes maxL ret [] rm as' Z h Q) (hy : y.cls ≠ "java/lang/invoke/MethodHandle" ∧ y.cls ≠ "java/lang/invoke/VarHandle") {argsL rest : List Value} (hst : S = argsL.reverse ++ .ref a :: rest) (has : (Value.ref a :: argsL).toArray = as') (hz : Ls.size = k)
    (hlen : ∀ sig, parseMethodDescriptor y.desc = some sig → argsL.length = sig.parameters.length) (hW : (rest.map fun v => v.category).sum = W) (hf : rm.frames + 1 ≤ R.frames) (hl : W + (maxL + 11) + rm.locals ≤ R.locals) (hc : cells + rm.cells ≤ R.cells) (hs : slots + rm.slots ≤ R.slots) :
    ∃ (v : Option Value) (T' : State) (L : List Loc), Stand p l e R s m args below meth c T' (locs ++ L) (cells + rm.cells) (slots + rm.slots) ∧ Q v T'.heap L ∧ Go p.tables e below T' (mkF m (pc + 3) Ls (v.toList ++ rest)) En := by
  obtain ⟨cq, q1, q2⟩ := E.cell
  obtain ⟨v, vm₁, ⟨T', L, k', n'⟩, -, X', ⟨Lc, hQ, l1, y1, z1⟩, st⟩ := X.privateBack hx hown (mvT hZ wl) (mvT hZ w.1.1.1) (mvT hZ w.1.1.2) (Cond.privateMethod_at (mvP hZ w.1.2.1 (args := #[]))) (mvT hZ w.2) hy (backOf (W := W) hM hZ w.2 w.1.2.2 hf hl) (g := mkF m pc Ls S) rfl (hz.trans hml.symm) (Steps.refl _) (a := a) (by rw [eT]; exact q1) q2 (argsL := argsL) (rest := rest) hlen hst (by show 2 * 0 + _ ≤ _; rw [hW]; omega) hd (fun _ _ => ⟨has, eT, hc, hs⟩)
  dsimp only [Pt.U, Pt.locs, Pt.cells, Pt.slots] at X' l1 y1 z1 st hQ
  subst l1 y1 z1
  exact ⟨v, T', Lc, X', hQ, gapT go st⟩
theorem own_ci (X : Stand p l e R s m args below meth c T locs cells slots) (hx : p.tables.exec = Jvm.exec) (hZ : Z.Warmed39 s.vm) (hown : s.vm.findClass own = some m.cls) (hml : c.maxLocals = k) (go : Go p.tables e below T (mkF m pc Ls S) En) (hd : decode c.code pc = .ok (.invokespecial index, 3)) (eT : T.heap = h)
    (wl : (Jvm.Cond.methodLink own index y).before aZ Z = true) (w : SIt aZ Z y bytes maxL) (hn : y.name = "<init>") {a : Addr} (hM : MFn l y bytes maxL none [] rm as' Z h Q) (hy : y.cls ≠ "java/lang/invoke/MethodHandle" ∧ y.cls ≠ "java/lang/invoke/VarHandle") {argsL rest : List Value} (hst : S = argsL.reverse ++ .ref a :: rest) (has : (Value.ref a :: argsL).toArray = as') (hz : Ls.size = k)
    (hlen : ∀ sig, parseMethodDescriptor y.desc = some sig → argsL.length = sig.parameters.length) (hW : (rest.map fun v => v.category).sum = W) (hf : rm.frames + 1 ≤ R.frames) (hl : W + (maxL + 11) + rm.locals ≤ R.locals) (hc : cells + rm.cells ≤ R.cells) (hs : slots + rm.slots ≤ R.slots) :
    ∃ (v : Option Value) (T' : State) (L : List Loc), Stand p l e R s m args below meth c T' (locs ++ L) (cells + rm.cells) (slots + rm.slots) ∧ Q v T'.heap L ∧ Go p.tables e below T' (mkF m (pc + 3) Ls (v.toList ++ rest)) En := by
  obtain ⟨v, vm₁, ⟨T', L, k', n'⟩, -, X', ⟨Lc, hQ, l1, y1, z1⟩, st⟩ := X.specialBack hx hn hown (mvT hZ wl) (mvT hZ w.1.1) (mvT hZ w.2) hy (backOf (W := W) hM hZ w.2 w.1.2 hf hl) (g := mkF m pc Ls S) rfl (hz.trans hml.symm) (Steps.refl _) (a := a) (argsL := argsL) (rest := rest) hlen hst (by show 2 * 0 + _ ≤ _; rw [hW]; omega) hd (fun _ _ => ⟨has, eT, hc, hs⟩)
  dsimp only [Pt.U, Pt.locs, Pt.cells, Pt.slots] at X' l1 y1 z1 st hQ
  subst l1 y1 z1
  exact ⟨v, T', Lc, X', hQ, gapT go st⟩
end
def BW (Z : State) (h : Heap) (n0 : Nat) (a : Addr) (B c : Int) : Prop := ∃ (ln pb zz : Int32) (bb : Addr) (kc : ClassId) (vs0 : List Value) (pd0 : Int64), Exa Z h a "com/example/mirk/mirk/index/BitWriter" ∧ Fld Z h a "com/example/mirk/mirk/index/BitWriter" "length" "I" (.int ln) ∧ Fld Z h a "com/example/mirk/mirk/index/BitWriter" "pendingBits" "I" (.int pb) ∧ Fld Z h a "com/example/mirk/mirk/index/BitWriter" "pending" "J" (.long pd0) ∧ Fld Z h a "com/example/mirk/mirk/index/BitWriter" "bytes" "[B" (.ref bb) ∧ Arv Z h bb kc .byte zz vs0 (.int 0) ∧ n0 ≤ a ∧ n0 ≤ bb ∧ a ≠ bb ∧ vs0.length = zz.toNatClampNeg ∧ B = 8 * ln.toInt + pb.toInt ∧ c = zz.toInt ∧ 0 ≤ pb.toInt ∧ pb.toInt < 8 ∧ 0 ≤ ln.toInt ∧ ln.toInt ≤ zz.toInt ∧ zz.toInt ≤ 1000
theorem BW.rng {Z : State} {h : Heap} {n0 : Nat} {a : Addr} {B c : Int} (F : BW Z h n0 a B c) : 0 ≤ c ∧ c ≤ 1000 ∧ 0 ≤ B ∧ B / 8 ≤ c := by
  obtain ⟨ln, pb, zz, bb, kc, vs0, pd0, -, -, -, -, -, -, -, -, -, -, h1, h2, h3, h4, h5, h6, h7⟩ := F
  omega
theorem BW.exa {Z : State} {h : Heap} {n0 : Nat} {a : Addr} {B c : Int} (F : BW Z h n0 a B c) : Exa Z h a "com/example/mirk/mirk/index/BitWriter" := by
  obtain ⟨ln, pb, zz, bb, kc, vs0, pd0, E, -⟩ := F
  exact E
def capW (B m c : Int) : Int := if c < (B + m) / 8 then (if 2 * c < (B + m) / 8 then (B + m) / 8 else 2 * c) else c
def sW (B m c : Int) : Nat := (2 * (capW B m c - c)).toNat
theorem own_cap (B m c : Int) (h : 0 ≤ c) : c ≤ capW B m c ∧ (capW B m c ≤ c ∨ capW B m c ≤ 2 * ((B + m) / 8)) := by
  unfold capW; (repeat' split) <;> omega
theorem own_sW (B m c : Int) (h : 0 ≤ c) : (sW B m c : Int) = 2 * (capW B m c - c) := by
  have q := own_cap B m c h
  unfold sW; omega
def capZ (B m c : Int) : Int := if m ≤ 0 then c else if m ≤ 56 then capW B m c else if m ≤ 112 then capW (B + 56) (m - 56) (capW B 56 c) else capW (B + 56 + 56) (m - 112) (capW (B + 56) 56 (capW B 56 c))
def sZ (B m c : Int) : Nat := (2 * (capZ B m c - c)).toNat
theorem own_capZ (B m c : Int) (h : 0 ≤ c) : c ≤ capZ B m c ∧ (capZ B m c ≤ c ∨ capZ B m c ≤ 2 * ((B + m) / 8)) := by
  have q1 := own_cap B m c h
  have q2 := own_cap B 56 c h
  have q3 := own_cap (B + 56) (m - 56) (capW B 56 c) (by omega)
  have q4 := own_cap (B + 56) 56 (capW B 56 c) (by omega)
  have q5 := own_cap (B + 56 + 56) (m - 112) (capW (B + 56) 56 (capW B 56 c)) (by omega)
  unfold capZ; (repeat' split) <;> omega
theorem own_sZ (B m c : Int) (h : 0 ≤ c) : (sZ B m c : Int) = 2 * (capZ B m c - c) := by
  have q := own_capZ B m c h
  unfold sZ; omega
def QW (n0 : Nat) (h0 : Heap) (Z : State) (a : Addr) (B c : Int) (v : Option Value) (h : Heap) (L : List Loc) : Prop := v = none ∧ Fr n0 L ∧ h0.size ≤ h.size ∧ BW Z h n0 a B c
theorem own_tn {x z : Int32} (h : ¬ x < 0 ∧ x < z) : x.toNatClampNeg < z.toNatClampNeg := by
  have a := nat_of h.1
  have l := Int32.lt_iff_toInt_lt.mp h.2
  have b : ¬ z < 0 := fun q => by
    rw [Int32.lt_iff_toInt_lt] at q; have e : (0 : Int32).toInt = 0 := rfl
    omega
  have d := nat_of b
  omega
theorem own_nn {x : Int32} (h : 0 ≤ x.toInt) : ¬ x < 0 := fun q => by
  rw [Int32.lt_iff_toInt_lt] at q; have e : (0 : Int32).toInt = 0 := rfl
  omega
theorem own_cpx {x z : Int32} {c C : Int} {S : Nat} (hc : c = z.toInt) (h : x.toInt = C ∧ (z.toInt < x.toInt ∧ x.toInt ≤ 1000) ∧ 2 * c ≤ C) (hS : 2 * (C - c) ≤ (S : Int)) (h0 : 0 ≤ z.toInt) : ¬ x = z ∧ ¬ x < 0 ∧ ¬ x < z ∧ x.toNatClampNeg ≤ 2000 ∧ x.toNatClampNeg ≤ S := by
  have n : ¬ x < 0 := own_nn (by omega)
  have t := nat_of n
  refine ⟨fun q => by rw [← Int32.toInt_inj] at q; omega, n, fun q => by rw [Int32.lt_iff_toInt_lt] at q; omega, by omega, by omega⟩
theorem own_turn {ln pb p2 x y : Int32} {j : Int} (j' : Int) (hj' : j' = j + 1) (t : x.toInt = ln.toInt + j ∧ y.toInt = pb.toInt + p2.toInt - 8 * j) (h : ¬ y < (8 : Int32)) (hl : 0 ≤ ln.toInt ∧ ln.toInt ≤ 1000) (hj : 0 ≤ j ∧ j ≤ 8) (hp : pb.toInt + p2.toInt ≤ 63) : (x + (1 : Int32)).toInt = ln.toInt + j' ∧ (y - (8 : Int32)).toInt = pb.toInt + p2.toInt - 8 * j' := by
  rw [Int32.lt_iff_toInt_lt] at h
  have e : (8 : Int32).toInt = 8 := rfl
  have e1 : (1 : Int32).toInt = 1 := rfl
  have a := c_iadd x 1
  have b := c_isub y 8
  have ra := rng32 (x + 1)
  have rb := rng32 (y - 8)
  omega
theorem own_sto {ln pb p2 x y z : Int32} {j : Int} (t : x.toInt = ln.toInt + j ∧ y.toInt = pb.toInt + p2.toInt - 8 * j) (h : ¬ y < (8 : Int32)) (hl : 0 ≤ ln.toInt) (hj : 0 ≤ j) (hz : ln.toInt + (pb.toInt + p2.toInt) / 8 ≤ z.toInt) : ¬ x < 0 ∧ x < z := by
  rw [Int32.lt_iff_toInt_lt] at h
  have e : (8 : Int32).toInt = 8 := rfl
  have e0 : (0 : Int32).toInt = 0 := rfl
  simp only [Int32.lt_iff_toInt_lt]; omega
theorem own_out8 {ln pb p2 x y z : Int32} {j B : Int} (t : x.toInt = ln.toInt + j ∧ y.toInt = pb.toInt + p2.toInt - 8 * j) (h : y < (8 : Int32)) (hn : 0 ≤ y.toInt) (hl : 0 ≤ ln.toInt) (hj : 0 ≤ j) (hz : ln.toInt + (pb.toInt + p2.toInt) / 8 ≤ z.toInt) (hz2 : z.toInt ≤ 1000) (hB : B = 8 * ln.toInt + pb.toInt) : B + p2.toInt = 8 * x.toInt + y.toInt ∧ 0 ≤ y.toInt ∧ y.toInt < 8 ∧ 0 ≤ x.toInt ∧ x.toInt ≤ z.toInt ∧ z.toInt ≤ 1000 := by
  rw [Int32.lt_iff_toInt_lt] at h
  have e : (8 : Int32).toInt = 8 := rfl
  omega
theorem own_last {ln pb p2 x y : Int32} (t : x.toInt = ln.toInt + 7 ∧ y.toInt = pb.toInt + p2.toInt - 8 * 7) (h : pb.toInt + p2.toInt ≤ 63) : y < (8 : Int32) := by
  have e : (8 : Int32).toInt = 8 := rfl
  rw [Int32.lt_iff_toInt_lt]; omega
theorem own_nogrow {ln pb p2 zz : Int32} {B c : Int} (hB1 : B = 8 * ln.toInt + pb.toInt) (hB2 : c = zz.toInt) (h : ln.toInt + (pb.toInt + p2.toInt) / 8 ≤ zz.toInt) : capW B p2.toInt c = zz.toInt := by
  unfold capW; rw [if_neg (by omega)]; exact hB2
theorem own_nn8 {ln pb p2 x y : Int32} {j : Int} (j' : Int) (hj' : j' = j + 1) (t : x.toInt = ln.toInt + j ∧ y.toInt = pb.toInt + p2.toInt - 8 * j) (h : ¬ y < (8 : Int32)) : 0 ≤ pb.toInt + p2.toInt - 8 * j' := by
  rw [Int32.lt_iff_toInt_lt] at h
  have e : (8 : Int32).toInt = 8 := rfl
  omega
theorem own_z2 {x S : Nat} (h : x ≤ S) : 0 + 0 + x ≤ S := by omega
theorem own_mul2 (x : Int32) : ((x * (2 : Int32)).toInt - x.toInt * 2) % 4294967296 = 0 := c_imul x 2
theorem own_lmul2 (x : Int64) : (((2 : Int64) * x).toInt - 2 * x.toInt) % 18446744073709551616 = 0 := c_lmul 2 x
theorem own_lmul8 (x : Int64) : (((8 : Int64) * x).toInt - 8 * x.toInt) % 18446744073709551616 = 0 := c_lmul 8 x
theorem own_lmul8' (x : Int64) : ((x * (8 : Int64)).toInt - x.toInt * 8) % 18446744073709551616 = 0 := c_lmul x 8
theorem d11_0 : decode jdk_29_method_65_code 0 = .ok (.iload_n 0, 1) := by decide +kernel
theorem d11_1 : decode jdk_29_method_65_code 1 = .ok (.iload_n 1, 1) := by decide +kernel
theorem d11_2 : decode jdk_29_method_65_code 2 = .ok (.if_icmp .lt 7, 3) := by decide +kernel
theorem d11_9 : decode jdk_29_method_65_code 9 = .ok (.iload_n 1, 1) := by decide +kernel
theorem d11_5 : decode jdk_29_method_65_code 5 = .ok (.iload_n 0, 1) := by decide +kernel
theorem d11_6 : decode jdk_29_method_65_code 6 = .ok (.goto 4, 3) := by decide +kernel
theorem d11_10 : decode jdk_29_method_65_code 10 = .ok (.ireturn, 1) := by decide +kernel
def b11_3 (p0 : Int32) (p1 : Int32) : Int32 := (if p0 < p1 then p1 else p0)
def f11 (p0 : Int32) (p1 : Int32) : Int32 := (b11_3 p0 p1)
theorem ef11 (m : MethodId) (p0 : Int32) (p1 : Int32) : entryFrame m #[(.int p0), (.int p1)] 2 = mkF m 0 #[iv p0, iv p1] [] := by first | (simp [entryFrame, mkF, argsToLocals, Value.category]; done) | rfl
set_option maxRecDepth 65536 in
set_option maxHeartbeats 40000000 in
theorem rm11 (l : Launch) (Z : State) (aZ : Array Value) (hw : ∀ d ∈ tables_1, d.before aZ Z = true) (ws : List Jvm.Cond) (p0 : Int32) (p1 : Int32) (h0 : Heap) (n0 : Nat) (Z0 : n0 ≤ h0.size) :
    MFn l (⟨"java/lang/Math", "max", "(II)I"⟩ : MethodName) jdk_29_method_65_code 2 (some .int) ws (Rm 0 0 0 0) #[(.int p0), (.int p1)] Z h0 (QP n0 h0 (some (.int (f11 p0 p1)))) := by
  refine own_mf (C := "java/lang/Math") rfl (Jvm.Free.JP.mathPlain rfl (by decide +kernel)) (fun m => ef11 m p0 p1) ?_
  intro p e s m below meth cd0 s₁ En hx hby hml hown hnm hZ X0 e0 hlk hrt go0
  have N0 := Fr.nil n0
  have K0 : Keep h0 h0 [] := Keep.refl _ _
  have go2 : Go p.tables e below s₁ (mkF m 10 #[iv p0, iv p1] [(.int (b11_3 p0 p1))]) En := by
    intro t k
    have k : Steps p.tables e below (s₁.setTop (mkF m  10 #[iv p0, iv p1] [(.int (b11_3 p0 p1))])) t := k
    refine go0 _ ?_
    refine XS.iloadN X0.here hx rfl (hb hby d11_0) rfl ?_
    refine XS.iloadN X0.here hx rfl (hb hby d11_1) rfl ?_
    by_cases hc1 : p0 < p1
    · refine XS.icmpYes X0.here hx rfl (pc0 := 2) (pc' := 9) rfl (hb hby d11_2) rfl (XT.ii_lt_t hc1) (by decide) (by decide) ?_
      refine XS.iloadN X0.here hx rfl (hb hby d11_9) rfl ?_
      have hq4 : (b11_3 p0 p1) = p1 := by rw [b11_3, if_pos hc1]
      rw [hq4] at k
      exact k
    · refine XS.icmpNo X0.here hx rfl (hb hby d11_2) rfl (XT.ii_lt_f hc1) ?_
      refine XS.iloadN X0.here hx rfl (hb hby d11_5) rfl ?_
      refine XS.goto X0.here hx rfl (pc0 := 6) (pc' := 10) rfl (hb hby d11_6) (by decide) (by decide) ?_
      have hq5 : (b11_3 p0 p1) = p0 := by rw [b11_3, if_neg hc1]
      rw [hq5] at k
      exact k
  refine own_out (w := (.int (b11_3 p0 p1))) X0 hx hlk go2 hrt rfl (Or.inl ⟨rfl, Or.inl rfl, _, rfl⟩) (hb hby d11_10) e0 (by decide) (by decide) ?_
  exact ⟨by rw [f11], N0, rfl⟩
theorem d13_0 : decode jdk_29_method_69_code 0 = .ok (.iload_n 0, 1) := by decide +kernel
theorem d13_1 : decode jdk_29_method_69_code 1 = .ok (.iload_n 1, 1) := by decide +kernel
theorem d13_2 : decode jdk_29_method_69_code 2 = .ok (.if_icmp .gt 7, 3) := by decide +kernel
theorem d13_9 : decode jdk_29_method_69_code 9 = .ok (.iload_n 1, 1) := by decide +kernel
theorem d13_5 : decode jdk_29_method_69_code 5 = .ok (.iload_n 0, 1) := by decide +kernel
theorem d13_6 : decode jdk_29_method_69_code 6 = .ok (.goto 4, 3) := by decide +kernel
theorem d13_10 : decode jdk_29_method_69_code 10 = .ok (.ireturn, 1) := by decide +kernel
def b13_3 (p0 : Int32) (p1 : Int32) : Int32 := (if p1 < p0 then p1 else p0)
def f13 (p0 : Int32) (p1 : Int32) : Int32 := (b13_3 p0 p1)
theorem ef13 (m : MethodId) (p0 : Int32) (p1 : Int32) : entryFrame m #[(.int p0), (.int p1)] 2 = mkF m 0 #[iv p0, iv p1] [] := by first | (simp [entryFrame, mkF, argsToLocals, Value.category]; done) | rfl
set_option maxRecDepth 65536 in
set_option maxHeartbeats 40000000 in
theorem rm13 (l : Launch) (Z : State) (aZ : Array Value) (hw : ∀ d ∈ tables_1, d.before aZ Z = true) (ws : List Jvm.Cond) (p0 : Int32) (p1 : Int32) (h0 : Heap) (n0 : Nat) (Z0 : n0 ≤ h0.size) :
    MFn l (⟨"java/lang/Math", "min", "(II)I"⟩ : MethodName) jdk_29_method_69_code 2 (some .int) ws (Rm 0 0 0 0) #[(.int p0), (.int p1)] Z h0 (QP n0 h0 (some (.int (f13 p0 p1)))) := by
  refine own_mf (C := "java/lang/Math") rfl (Jvm.Free.JP.mathPlain rfl (by decide +kernel)) (fun m => ef13 m p0 p1) ?_
  intro p e s m below meth cd0 s₁ En hx hby hml hown hnm hZ X0 e0 hlk hrt go0
  have N0 := Fr.nil n0
  have K0 : Keep h0 h0 [] := Keep.refl _ _
  have go2 : Go p.tables e below s₁ (mkF m 10 #[iv p0, iv p1] [(.int (b13_3 p0 p1))]) En := by
    intro t k
    have k : Steps p.tables e below (s₁.setTop (mkF m  10 #[iv p0, iv p1] [(.int (b13_3 p0 p1))])) t := k
    refine go0 _ ?_
    refine XS.iloadN X0.here hx rfl (hb hby d13_0) rfl ?_
    refine XS.iloadN X0.here hx rfl (hb hby d13_1) rfl ?_
    by_cases hc1 : p1 < p0
    · refine XS.icmpYes X0.here hx rfl (pc0 := 2) (pc' := 9) rfl (hb hby d13_2) rfl (XT.ii_gt_t hc1) (by decide) (by decide) ?_
      refine XS.iloadN X0.here hx rfl (hb hby d13_9) rfl ?_
      have hq4 : (b13_3 p0 p1) = p1 := by rw [b13_3, if_pos hc1]
      rw [hq4] at k
      exact k
    · refine XS.icmpNo X0.here hx rfl (hb hby d13_2) rfl (XT.ii_gt_f hc1) ?_
      refine XS.iloadN X0.here hx rfl (hb hby d13_5) rfl ?_
      refine XS.goto X0.here hx rfl (pc0 := 6) (pc' := 10) rfl (hb hby d13_6) (by decide) (by decide) ?_
      have hq5 : (b13_3 p0 p1) = p0 := by rw [b13_3, if_neg hc1]
      rw [hq5] at k
      exact k
  refine own_out (w := (.int (b13_3 p0 p1))) X0 hx hlk go2 hrt rfl (Or.inl ⟨rfl, Or.inl rfl, _, rfl⟩) (hb hby d13_10) e0 (by decide) (by decide) ?_
  exact ⟨by rw [f13], N0, rfl⟩
theorem own_f11 (x y : Int32) : (x.toInt < y.toInt → (f11 x y).toInt = y.toInt) ∧ (y.toInt ≤ x.toInt → (f11 x y).toInt = x.toInt) := by
  unfold f11 b11_3; split <;> rename_i q <;> rw [Int32.lt_iff_toInt_lt] at q <;> constructor <;> intro r <;> omega
theorem own_f13 (x y : Int32) : (x.toInt < y.toInt → (f13 x y).toInt = x.toInt) ∧ (y.toInt ≤ x.toInt → (f13 x y).toInt = y.toInt) := by
  unfold f13 b13_3; split <;> rename_i q <;> rw [Int32.lt_iff_toInt_lt] at q <;> constructor <;> intro r <;> omega
theorem efmnl (m : MethodId) (p0 : Int32) (p1 : Int32) : entryFrame m #[(.int p0), (.int p1)] 2 = mkF m 0 #[iv p0, iv p1] [] := by first | (simp [entryFrame, mkF, argsToLocals, Value.category]; done) | rfl
set_option maxRecDepth 65536 in
set_option maxHeartbeats 40000000 in
theorem rmmnl (l : Launch) (Z : State) (aZ : Array Value) (hw : ∀ d ∈ tables_1, d.before aZ Z = true) (ws : List Jvm.Cond) (p0 : Int32) (p1 : Int32) (h0 : Heap) (n0 : Nat) (Z0 : n0 ≤ h0.size) (hle : ¬ p1 < p0) :
    MFn l (⟨"java/lang/Math", "min", "(II)I"⟩ : MethodName) jdk_29_method_69_code 2 (some .int) ws (Rm 0 0 0 0) #[(.int p0), (.int p1)] Z h0 (QP n0 h0 (some (.int p0))) := by
  refine own_mf (C := "java/lang/Math") rfl (Jvm.Free.JP.mathPlain rfl (by decide +kernel)) (fun m => efmnl m p0 p1) ?_
  intro p e s m below meth cd0 s₁ En hx hby hml hown hnm hZ X0 e0 hlk hrt go0
  have N0 := Fr.nil n0
  have K0 : Keep h0 h0 [] := Keep.refl _ _
  have go1 : Go p.tables e below s₁ (mkF m 10 #[iv p0, iv p1] [(.int p0)]) En := by
    intro t k
    refine go0 _ ?_
    refine XS.iloadN X0.here hx rfl (hb hby d13_0) rfl ?_
    refine XS.iloadN X0.here hx rfl (hb hby d13_1) rfl ?_
    refine XS.icmpNo X0.here hx rfl (hb hby d13_2) rfl (XT.ii_gt_f hle) ?_
    show Steps _ _ _ (s₁.setTop (mkF m 5 #[iv p0, iv p1] [])) _
    refine XS.iloadN X0.here hx rfl (hb hby d13_5) rfl ?_
    refine XS.goto X0.here hx rfl (pc0 := 6) (pc' := 10) rfl (hb hby d13_6) (by decide) (by decide) ?_
    exact k
  refine own_out (w := (.int p0)) X0 hx hlk go1 hrt rfl (Or.inl ⟨rfl, Or.inl rfl, _, rfl⟩) (hb hby d13_10) e0 (by decide) (by decide) ?_
  exact ⟨rfl, N0, rfl⟩
theorem d12_0 : decode jdk_65_method_121_code 0 = .ok (.iload_n 1, 1) := by decide +kernel
theorem d12_1 : decode jdk_65_method_121_code 1 = .ok (.aload_n 0, 1) := by decide +kernel
theorem d12_2 : decode jdk_65_method_121_code 2 = .ok (.arraylength, 1) := by decide +kernel
theorem d12_3 : decode jdk_65_method_121_code 3 = .ok (.if_icmp .ne 11, 3) := by decide +kernel
theorem d12_14 : decode jdk_65_method_121_code 14 = .ok (.iload_n 1, 1) := by decide +kernel
theorem d12_15 : decode jdk_65_method_121_code 15 = .ok (.newarray .byte, 2) := by decide +kernel
theorem d12_17 : decode jdk_65_method_121_code 17 = .ok (.astore_n 2, 1) := by decide +kernel
theorem d12_18 : decode jdk_65_method_121_code 18 = .ok (.aload_n 0, 1) := by decide +kernel
theorem d12_19 : decode jdk_65_method_121_code 19 = .ok (.iconst 0, 1) := by decide +kernel
theorem d12_20 : decode jdk_65_method_121_code 20 = .ok (.aload_n 2, 1) := by decide +kernel
theorem d12_21 : decode jdk_65_method_121_code 21 = .ok (.iconst 0, 1) := by decide +kernel
theorem d12_22 : decode jdk_65_method_121_code 22 = .ok (.aload_n 0, 1) := by decide +kernel
theorem d12_23 : decode jdk_65_method_121_code 23 = .ok (.arraylength, 1) := by decide +kernel
theorem d12_24 : decode jdk_65_method_121_code 24 = .ok (.iload_n 1, 1) := by decide +kernel
theorem d12_25 : decode jdk_65_method_121_code 25 = .ok (.invokestatic 304, 3) := by decide +kernel
theorem own_site31 {Z : State} {aZ : Array Value} (hw : ∀ d ∈ tables_1, d.before aZ Z = true) : SSt aZ Z (⟨"java/lang/Math", "min", "(II)I"⟩ : MethodName) jdk_29_method_69_code 2 (some .int) := ⟨⟨(hw _ (mi 72 rfl)), (hw _ (mi 65 rfl))⟩, (hw _ (mi 73 rfl))⟩
theorem pd_32 : parseMethodDescriptor "(II)I" = some ⟨[.int, .int], some .int⟩ := by decide +kernel
theorem d12_28 : decode jdk_65_method_121_code 28 = .ok (.invokestatic 150, 3) := by decide +kernel
theorem d12_31 : decode jdk_65_method_121_code 31 = .ok (.aload_n 2, 1) := by decide +kernel
theorem d12_32 : decode jdk_65_method_121_code 32 = .ok (.areturn, 1) := by decide +kernel
theorem pn_36 : plainName "java/util/Arrays" = true := by first | (simp [plainName, overriddenIn]; done) | decide +kernel
def Qcp (Z : State) (n0 : Nat) (a0 : Addr) (p1 : Int32) (k_a0 : ClassId) (n_a0 : Int32) (vs_a0 : List Value) (S : Nat) (h0 : Heap) (v : Option Value) (h : Heap) (L : List Loc) : Prop := ∃ (b : Addr) (kx : ClassId) (vx : List Value), v = some (.ref b) ∧ Fr n0 L ∧ Keep h0 h [] ∧ h0.size ≤ b ∧ Arv Z h b kx .byte p1 vx (.int 0) ∧ vx.length = p1.toNatClampNeg
theorem efcp (m : MethodId) (a0 : Addr) (p1 : Int32) : entryFrame m #[(.ref a0), (.int p1)] 3 = mkF m 0 #[rv a0, iv p1, .unset] [] := by first | (simp [entryFrame, mkF, argsToLocals, Value.category]; done) | rfl
set_option maxRecDepth 65536 in
set_option maxHeartbeats 40000000 in
theorem rmcp (l : Launch) (Z : State) (aZ : Array Value) (hw : ∀ d ∈ tables_1, d.before aZ Z = true) (ws : List Jvm.Cond) (a0 : Addr) (p1 : Int32) (k_a0 : ClassId) (n_a0 : Int32) (vs_a0 : List Value) (S : Nat) (h0 : Heap) (n0 : Nat) (Z0 : n0 ≤ h0.size) (V_a0 : Arv Z h0 a0 k_a0 .byte n_a0 vs_a0 (.int 0)) (hne : ¬ p1 = n_a0) (hneg : ¬ p1 < 0) (hle : ¬ p1 < n_a0) (hS : p1.toNatClampNeg ≤ S) (hS2 : S ≤ 2000) :
    MFn l (⟨"java/util/Arrays", "copyOf", "([BI)[B"⟩ : MethodName) jdk_65_method_121_code 3 (some (.array .byte)) ws (Rm 1 1 S 18) #[(.ref a0), (.int p1)] Z h0 (Qcp Z n0 a0 p1 k_a0 n_a0 vs_a0 S h0) := by
  refine own_mf (C := "java/util/Arrays") rfl (plainFor_of_name pn_36) (fun m => efcp m a0 p1) ?_
  intro p e s m below meth cd0 s₁ En hx hby hml hown hnm hZ X0 e0 hlk hrt go0
  have N0 := Fr.nil n0
  have K0 : Keep h0 h0 [] := Keep.refl _ _
  obtain ⟨cl1, Ar1, q1, S1, N1, H1, G1⟩ := id V_a0
  have go2 : Go p.tables e below s₁ (mkF m 15 #[rv a0, iv p1, .unset] [(.int p1)]) En := by
    intro t k
    refine go0 _ ?_
    refine XS.iloadN X0.here hx rfl (hb hby d12_0) rfl ?_
    refine XS.aloadN X0.here hx rfl (hb hby d12_1) rfl rfl ?_
    refine X0.arraylength hx (by rw [e0]; exact Ar1.1) (State.isArrayOf_alike hZ.alike Ar1.2.1) (g := (mkF m 2 #[rv a0, iv p1, .unset] [(.ref a0), (.int p1)])) rfl rfl (hb hby d12_2) _ ?_
    rw [len_of S1 N1]
    show Steps _ _ _ (s₁.setTop (mkF m 3 #[rv a0, iv p1, .unset] [(.int n_a0), (.int p1)])) _
    refine XS.icmpYes X0.here hx rfl (pc0 := 3) (pc' := 14) rfl (hb hby d12_3) rfl (XT.ii_ne_t hne) (by decide) (by decide) ?_
    refine XS.iloadN X0.here hx rfl (hb hby d12_14) rfl ?_
    exact k
  obtain ⟨T3, h3, k3, X3, e3, E3, A3, st3⟩ := newP X0 hx hZ (hw _ (mi 9 rfl)) e0 (g := (mkF m 15 #[rv a0, iv p1, .unset] [(.int p1)])) rfl (hb hby d12_15) rfl hneg (cap := S) hS (by omega) (Nat.le_of_ble_eq_true rfl) (by show 0 + S ≤ S; omega)
  obtain ⟨b3, g3⟩ : ∃ z, z = h0.size := ⟨_, rfl⟩
  rw [← g3] at A3 st3
  have ne4 : a0 ≠ b3 := Nat.ne_of_lt (Nat.lt_of_lt_of_le V_a0.lt (Nat.le_of_eq g3.symm))
  have low3 : n0 ≤ b3 := Nat.le_trans Z0 (Nat.le_of_eq g3.symm)
  have fsh3 : h0.size ≤ b3 := Nat.le_trans K0.1 (Nat.le_of_eq g3.symm)
  have K3 : Keep h0 h3 [] := K0.ext E3
  have Zs3 : n0 ≤ h3.size := Nat.le_trans Z0 E3.1
  have go5 := gap go2 st3
  have F6 : Arv Z h3 b3 k3 .byte p1 ([] : List Value) (.int 0) := Arv.new A3 hneg
  obtain ⟨cl7, Ar7, q7, S7, N7, H7, G7⟩ := id (V_a0.keep K3 nin0)
  have go8 : Go p.tables e below T3 (mkF m 25 #[rv a0, iv p1, rv b3] [(.int p1), (.int n_a0), (.int 0), (.ref b3), (.int 0), (.ref a0)]) En := by
    intro t k
    refine go5 _ ?_
    refine XS.astoreN X3.here hx rfl (hb hby d12_17) rfl rfl (l' := #[rv a0, iv p1, rv b3]) rfl ?_
    refine XS.aloadN X3.here hx rfl (hb hby d12_18) rfl rfl ?_
    refine XS.iconst X3.here hx rfl (hb hby d12_19) ?_
    show Steps _ _ _ (T3.setTop (mkF m 20 #[rv a0, iv p1, rv b3] [(.int 0), (.ref a0)])) _
    refine XS.aloadN X3.here hx rfl (hb hby d12_20) rfl rfl ?_
    refine XS.iconst X3.here hx rfl (hb hby d12_21) ?_
    refine XS.aloadN X3.here hx rfl (hb hby d12_22) rfl rfl ?_
    show Steps _ _ _ (T3.setTop (mkF m 23 #[rv a0, iv p1, rv b3] [(.ref a0), (.int 0), (.ref b3), (.int 0), (.ref a0)])) _
    refine X3.arraylength hx (by rw [e3]; exact Ar7.1) (State.isArrayOf_alike hZ.alike Ar7.2.1) (g := (mkF m 23 #[rv a0, iv p1, rv b3] [(.ref a0), (.int 0), (.ref b3), (.int 0), (.ref a0)])) rfl rfl (hb hby d12_23) _ ?_
    rw [len_of S7 N7]
    refine XS.iloadN X3.here hx rfl (hb hby d12_24) rfl ?_
    show Steps _ _ _ (T3.setTop (mkF m 25 #[rv a0, iv p1, rv b3] [(.int p1), (.int n_a0), (.int 0), (.ref b3), (.int 0), (.ref a0)])) _
    exact k
  obtain ⟨_, T9, Lc9, X9, hQ9, st9⟩ := own_cs X3 hx hZ hown hml go8 (hb hby d12_25) e3 (hw _ (mi 71 rfl)) (own_site31 hw) (rmmnl l Z aZ hw [] n_a0 p1 h3 n0 Zs3 hle) (by decide) (argsL := [(.int n_a0), (.int p1)]) (rest := [(.int 0), (.ref b3), (.int 0), (.ref a0)]) rfl rfl rfl (lenOf pd_32 rfl) (W := 4) rfl (Nat.le_of_ble_eq_true rfl) (Nat.le_of_ble_eq_true rfl) (Nat.le_of_ble_eq_true rfl) (by show 0 + S + 0 ≤ S; omega)
  obtain ⟨rfl, N9q, e9⟩ := hQ9
  have N9 := Fr.app N0 N9q
  have Vp : Arv Z h3 b3 k3 .byte p1 (List.replicate p1.toNatClampNeg (.int 0)) (.int 0) := F6.pad (pad_rep [] _ _)
  have hnn : ¬ n_a0 < 0 := by obtain ⟨_, _, _, _, q, _⟩ := id (V_a0.keep K3 nin0); exact q
  have hzn : (0 : Int32).toNatClampNeg = 0 := rfl
  have hpn : n_a0.toNatClampNeg ≤ p1.toNatClampNeg := by
    have := nat_of hnn
    have := nat_of hneg
    rw [Int32.lt_iff_toInt_lt] at hle
    omega
  obtain ⟨T10, _, L10, X10, rfl, N10q, K10q, AR10, st10⟩ := cpA X9 hx hZ hown (hw _ (mi 74 rfl)) (hw _ (mi 77 rfl)) (hw _ (mi 75 rfl)) (hw _ (mi 76 rfl)) e9 (V_a0.keep K3 nin0) Vp (Or.inl ⟨rfl, rfl⟩) (by decide) (by decide) hnn (by omega) (by omega) rfl (by rw [List.length_replicate]; omega) N9 low3 (g := (mkF m 28 #[rv a0, iv p1, rv b3] [(.int n_a0), (.int 0), (.ref b3), (.int 0), (.ref a0)])) rfl (by rw [hml]; rfl) rfl (hb hby d12_28) (Nat.le_of_ble_eq_true rfl) (W := 0) (by show 2 * 0 + _ ≤ _; exact Nat.le_of_eq rfl) (Nat.le_of_ble_eq_true rfl)
  have K10 : Keep h0 T10.heap [] := K3.trans K10q (allS (Or.inr fsh3) all0)
  have go11 := gap st9 st10
  have Zs10 : n0 ≤ T10.heap.size := Nat.le_trans Zs3 K10q.1
  obtain ⟨vsn, Vn, hln⟩ : ∃ vsn, Arv Z T10.heap b3 k3 .byte p1 vsn (.int 0) ∧ vsn.length = p1.toNatClampNeg := ⟨_, AR10, by simp; omega⟩
  have go12 : Go p.tables e below T10 (mkF m 32 #[rv a0, iv p1, rv b3] [(.ref b3)]) En := by
    intro t k
    refine go11 _ ?_
    refine XS.aloadN X10.here hx rfl (hb hby d12_31) rfl rfl ?_
    exact k
  refine own_out (w := (.ref b3)) X10 hx hlk go12 hrt rfl (Or.inr (Or.inr (Or.inr (Or.inr ⟨rfl, rfl, rfl⟩)))) (hb hby d12_32) rfl (Nat.le_of_ble_eq_true rfl) (by show 0 + S + 0 ≤ S; omega) ?_
  exact ⟨b3, k3, vsn, rfl, N10q, K10, fsh3, Vn, hln⟩
theorem d3_0 : decode prog_12_method_6_code 0 = .ok (.ldc2_w 34, 3) := by decide +kernel
theorem d3_3 : decode prog_12_method_6_code 3 = .ok (.aload_n 0, 1) := by decide +kernel
theorem d3_4 : decode prog_12_method_6_code 4 = .ok (.getfield 31, 3) := by decide +kernel
theorem d3_7 : decode prog_12_method_6_code 7 = .ok (.i2l, 1) := by decide +kernel
theorem d3_8 : decode prog_12_method_6_code 8 = .ok (.lmul, 1) := by decide +kernel
theorem d3_9 : decode prog_12_method_6_code 9 = .ok (.aload_n 0, 1) := by decide +kernel
theorem d3_10 : decode prog_12_method_6_code 10 = .ok (.getfield 27, 3) := by decide +kernel
theorem d3_13 : decode prog_12_method_6_code 13 = .ok (.i2l, 1) := by decide +kernel
theorem d3_14 : decode prog_12_method_6_code 14 = .ok (.ladd, 1) := by decide +kernel
theorem d3_15 : decode prog_12_method_6_code 15 = .ok (.lreturn, 1) := by decide +kernel
theorem pn_48 : plainName "com/example/mirk/mirk/index/BitWriter" = true := by first | (simp [plainName, overriddenIn]; done) | decide +kernel
theorem own_ar47 (ln : Int32) (pb : Int32) (zz : Int32) (B : Int) (c : Int) (hB1 : B = 8 * ln.toInt + pb.toInt) (hB2 : c = zz.toInt) (hk1 : 0 ≤ pb.toInt) (hk2 : pb.toInt < 8) (hn1 : 0 ≤ ln.toInt) (hn2 : ln.toInt ≤ zz.toInt) (hn3 : zz.toInt ≤ 1000) : (((8 : Int64) * ln.toInt64) + pb.toInt64).toInt = B := by
  have : (8 : Int64).toInt = 8 := rfl
  have := c_i2l ln
  have := rng32 ln
  have := rng64 ((8 : Int64) * ln.toInt64)
  have := own_lmul8 ln.toInt64
  have := c_i2l pb
  have := rng32 pb
  have := rng64 (((8 : Int64) * ln.toInt64) + pb.toInt64)
  have := c_ladd ((8 : Int64) * ln.toInt64) pb.toInt64
  omega
def Qbi (Z : State) (n0 : Nat) (a0 : Addr) (B : Int) (c : Int) (h0 : Heap) (v : Option Value) (h : Heap) (L : List Loc) : Prop := ∃ r : Int64, v = some (.long r) ∧ r.toInt = B ∧ Fr n0 L ∧ h = h0
theorem efbi (m : MethodId) (a0 : Addr) : entryFrame m #[(.ref a0)] 1 = mkF m 0 #[rv a0] [] := by first | (simp [entryFrame, mkF, argsToLocals, Value.category]; done) | rfl
set_option maxRecDepth 65536 in
set_option maxHeartbeats 40000000 in
theorem rmbi (l : Launch) (Z : State) (aZ : Array Value) (hw : ∀ d ∈ tables_1, d.before aZ Z = true) (ws : List Jvm.Cond) (a0 : Addr) (B : Int) (c : Int) (h0 : Heap) (n0 : Nat) (Z0 : n0 ≤ h0.size) (hB : BW Z h0 n0 a0 B c) :
    MFn l (⟨"com/example/mirk/mirk/index/BitWriter", "bits", "()J"⟩ : MethodName) prog_12_method_6_code 1 (some .long) ws (Rm 0 0 0 0) #[(.ref a0)] Z h0 (Qbi Z n0 a0 B c h0) := by
  refine own_mf (C := "com/example/mirk/mirk/index/BitWriter") rfl (plainFor_of_name pn_48) (fun m => efbi m a0) ?_
  intro p e s m below meth cd0 s₁ En hx hby hml hown hnm hZ X0 e0 hlk hrt go0
  obtain ⟨ln, pb, zz, bb, kc, vs0, pd0, E0, F1, F2, F3, F4, V0, ga, gb, ne0, hlen, hB1, hB2, hk1, hk2, hn1, hn2, hn3⟩ := hB
  have N0 := Fr.nil n0
  have K0 : Keep h0 h0 [a0, bb] := Keep.refl _ _
  have go1 : Go p.tables e below s₁ (mkF m 4 #[rv a0] [(.ref a0), (.long 8)]) En := by
    intro t k
    refine go0 _ ?_
    refine X0.ldc2Long hx hown (mvT hZ (hw _ (mi 17 rfl))) (g := (mkF m 0 #[rv a0] [])) rfl (hb hby d3_0) _ ?_
    refine XS.aloadN X0.here hx rfl (hb hby d3_3) rfl rfl ?_
    exact k
  obtain ⟨T2, X2, e2, st2⟩ := getF X0 hx hZ hown (host := "") (Or.inl (hw _ (mi 18 rfl))) Via.refl e0 F1 (g := (mkF m 4 #[rv a0] [(.ref a0), (.long 8)])) rfl rfl (hb hby d3_4)
  have go3 := gap go1 st2
  have go4 : Go p.tables e below T2 (mkF m 10 #[rv a0] [(.ref a0), (.long ((8 : Int64) * ln.toInt64))]) En := by
    intro t k
    refine go3 _ ?_
    refine XS.i2l X2.here hx rfl (hb hby d3_7) rfl ?_
    refine XS.lmul X2.here hx rfl (hb hby d3_8) rfl ?_
    refine XS.aloadN X2.here hx rfl (hb hby d3_9) rfl rfl ?_
    show Steps _ _ _ (T2.setTop (mkF m 10 #[rv a0] [(.ref a0), (.long ((8 : Int64) * ln.toInt64))])) _
    exact k
  obtain ⟨T5, X5, e5, st5⟩ := getF X2 hx hZ hown (host := "") (Or.inl (hw _ (mi 20 rfl))) Via.refl e2 F2 (g := (mkF m 10 #[rv a0] [(.ref a0), (.long ((8 : Int64) * ln.toInt64))])) rfl rfl (hb hby d3_10)
  have go6 := gap go4 st5
  have go7 : Go p.tables e below T5 (mkF m 15 #[rv a0] [(.long (((8 : Int64) * ln.toInt64) + pb.toInt64))]) En := by
    intro t k
    refine go6 _ ?_
    refine XS.i2l X5.here hx rfl (hb hby d3_13) rfl ?_
    refine XS.ladd X5.here hx rfl (hb hby d3_14) rfl ?_
    exact k
  refine own_out (w := (.long (((8 : Int64) * ln.toInt64) + pb.toInt64))) X5 hx hlk go7 hrt rfl (Or.inr (Or.inl ⟨rfl, rfl, _, rfl⟩)) (hb hby d3_15) e5 (by decide) (by decide) ?_
  exact ⟨_, rfl, (own_ar47 ln pb zz B c hB1 hB2 hk1 hk2 hn1 hn2 hn3), N0, rfl⟩
theorem d9_0 : decode prog_12_method_5_code 0 = .ok (.aload_n 0, 1) := by decide +kernel
theorem d9_1 : decode prog_12_method_5_code 1 = .ok (.getfield 31, 3) := by decide +kernel
theorem d9_4 : decode prog_12_method_5_code 4 = .ok (.ireturn, 1) := by decide +kernel
def Qle (Z : State) (n0 : Nat) (a0 : Addr) (B : Int) (c : Int) (h0 : Heap) (v : Option Value) (h : Heap) (L : List Loc) : Prop := ∃ r : Int32, v = some (.int r) ∧ (8 * r.toInt ≤ B ∧ B < 8 * r.toInt + 8 ∧ 0 ≤ r.toInt) ∧ Fr n0 L ∧ h = h0
theorem efle (m : MethodId) (a0 : Addr) : entryFrame m #[(.ref a0)] 1 = mkF m 0 #[rv a0] [] := by first | (simp [entryFrame, mkF, argsToLocals, Value.category]; done) | rfl
set_option maxRecDepth 65536 in
set_option maxHeartbeats 40000000 in
theorem rmle (l : Launch) (Z : State) (aZ : Array Value) (hw : ∀ d ∈ tables_1, d.before aZ Z = true) (ws : List Jvm.Cond) (a0 : Addr) (B : Int) (c : Int) (h0 : Heap) (n0 : Nat) (Z0 : n0 ≤ h0.size) (hB : BW Z h0 n0 a0 B c) :
    MFn l (⟨"com/example/mirk/mirk/index/BitWriter", "length", "()I"⟩ : MethodName) prog_12_method_5_code 1 (some .int) ws (Rm 0 0 0 0) #[(.ref a0)] Z h0 (Qle Z n0 a0 B c h0) := by
  refine own_mf (C := "com/example/mirk/mirk/index/BitWriter") rfl (plainFor_of_name pn_48) (fun m => efle m a0) ?_
  intro p e s m below meth cd0 s₁ En hx hby hml hown hnm hZ X0 e0 hlk hrt go0
  obtain ⟨ln, pb, zz, bb, kc, vs0, pd0, E0, F1, F2, F3, F4, V0, ga, gb, ne0, hlen, hB1, hB2, hk1, hk2, hn1, hn2, hn3⟩ := hB
  have N0 := Fr.nil n0
  have K0 : Keep h0 h0 [a0, bb] := Keep.refl _ _
  have go1 : Go p.tables e below s₁ (mkF m 1 #[rv a0] [(.ref a0)]) En := by
    intro t k
    refine go0 _ ?_
    refine XS.aloadN X0.here hx rfl (hb hby d9_0) rfl rfl ?_
    exact k
  obtain ⟨T2, X2, e2, st2⟩ := getF X0 hx hZ hown (host := "") (Or.inl (hw _ (mi 18 rfl))) Via.refl e0 F1 (g := (mkF m 1 #[rv a0] [(.ref a0)])) rfl rfl (hb hby d9_1)
  have go3 := gap go1 st2
  refine own_out (w := (.int ln)) X2 hx hlk go3 hrt rfl (Or.inl ⟨rfl, Or.inl rfl, _, rfl⟩) (hb hby d9_4) e2 (by decide) (by decide) ?_
  exact ⟨_, rfl, ⟨by omega, by omega, by omega⟩, N0, rfl⟩
theorem d1_0 : decode prog_12_method_1_code 0 = .ok (.aload_n 0, 1) := by decide +kernel
theorem d1_1 : decode prog_12_method_1_code 1 = .ok (.invokespecial 1, 3) := by decide +kernel
theorem d1_4 : decode prog_12_method_1_code 4 = .ok (.aload_n 0, 1) := by decide +kernel
theorem d1_5 : decode prog_12_method_1_code 5 = .ok (.iload_n 1, 1) := by decide +kernel
theorem d1_6 : decode prog_12_method_1_code 6 = .ok (.newarray .byte, 2) := by decide +kernel
theorem d1_8 : decode prog_12_method_1_code 8 = .ok (.putfield 7, 3) := by decide +kernel
theorem d1_11 : decode prog_12_method_1_code 11 = .ok (.return_, 1) := by decide +kernel
def Qin (Z : State) (n0 : Nat) (a0 : Addr) (p1 : Int32) (h0 : Heap) (v : Option Value) (h : Heap) (L : List Loc) : Prop := QW n0 h0 Z a0 0 p1.toInt v h L
theorem efin (m : MethodId) (a0 : Addr) (p1 : Int32) : entryFrame m #[(.ref a0), (.int p1)] 2 = mkF m 0 #[rv a0, iv p1] [] := by first | (simp [entryFrame, mkF, argsToLocals, Value.category]; done) | rfl
set_option maxRecDepth 65536 in
set_option maxHeartbeats 40000000 in
theorem rmin (l : Launch) (Z : State) (aZ : Array Value) (hw : ∀ d ∈ tables_1, d.before aZ Z = true) (ws : List Jvm.Cond) (a0 : Addr) (p1 : Int32) (h0 : Heap) (n0 : Nat) (Z0 : n0 ≤ h0.size) (E_a0 : Exa Z h0 a0 "com/example/mirk/mirk/index/BitWriter") (F_a0_bytes : Fld Z h0 a0 "com/example/mirk/mirk/index/BitWriter" "bytes" "[B" .null) (F_a0_length : Fld Z h0 a0 "com/example/mirk/mirk/index/BitWriter" "length" "I" (.int 0)) (F_a0_pendingBits : Fld Z h0 a0 "com/example/mirk/mirk/index/BitWriter" "pendingBits" "I" (.int 0)) (F_a0_pending : Fld Z h0 a0 "com/example/mirk/mirk/index/BitWriter" "pending" "J" (.long 0)) (g_a0 : n0 ≤ a0) (hneg : ¬ p1 < 0) (h15 : p1.toNatClampNeg ≤ 15) :
    MFn l (⟨"com/example/mirk/mirk/index/BitWriter", "<init>", "(I)V"⟩ : MethodName) prog_12_method_1_code 2 none ws (Rm 1 1 15 12) #[(.ref a0), (.int p1)] Z h0 (Qin Z n0 a0 p1 h0) := by
  refine own_mf (C := "com/example/mirk/mirk/index/BitWriter") rfl (plainFor_of_name pn_48) (fun m => efin m a0 p1) ?_
  intro p e s m below meth cd0 s₁ En hx hby hml hown hnm hZ X0 e0 hlk hrt go0
  have N0 := Fr.nil n0
  have K0 : Keep h0 h0 [a0] := Keep.refl _ _
  have go1 : Go p.tables e below s₁ (mkF m 1 #[rv a0, iv p1] [(.ref a0)]) En := by
    intro t k
    refine go0 _ ?_
    refine XS.aloadN X0.here hx rfl (hb hby d1_0) rfl rfl ?_
    exact k
  obtain ⟨T2, X2, e2, st2⟩ := initO X0 hx hZ hown (hw _ (mi 6 rfl)) (hw _ (mi 7 rfl)) (hw _ (mi 8 rfl)) e0 (g := (mkF m 1 #[rv a0, iv p1] [(.ref a0)])) rfl (by rw [hml]; rfl) rfl (hb hby d1_1) (by decide) (W := 0) (by show 2 * 0 + _ ≤ _; exact Nat.le_of_eq rfl) (by decide)
  have go3 := gap go1 st2
  have go4 : Go p.tables e below T2 (mkF m 6 #[rv a0, iv p1] [(.int p1), (.ref a0)]) En := by
    intro t k
    refine go3 _ ?_
    refine XS.aloadN X2.here hx rfl (hb hby d1_4) rfl rfl ?_
    refine XS.iloadN X2.here hx rfl (hb hby d1_5) rfl ?_
    exact k
  obtain ⟨T5, h5, k5, X5, e5, E5, A5, st5⟩ := newP X2 hx hZ (hw _ (mi 9 rfl)) e2 (g := (mkF m 6 #[rv a0, iv p1] [(.int p1), (.ref a0)])) rfl (hb hby d1_6) rfl hneg (cap := 15) h15 (by decide) (by decide) (by decide)
  obtain ⟨b5, g5⟩ : ∃ z, z = h0.size := ⟨_, rfl⟩
  rw [← g5] at A5 st5
  have ne6 : a0 ≠ b5 := Nat.ne_of_lt (Nat.lt_of_lt_of_le E_a0.lt (Nat.le_of_eq g5.symm))
  have low5 : n0 ≤ b5 := Nat.le_trans Z0 (Nat.le_of_eq g5.symm)
  have fsh5 : h0.size ≤ b5 := Nat.le_trans K0.1 (Nat.le_of_eq g5.symm)
  have K5 : Keep h0 h5 [a0] := K0.ext E5
  have Zs5 : n0 ≤ h5.size := Nat.le_trans Z0 E5.1
  have go7 := gap go4 st5
  have F8 := F_a0_bytes.ext E5
  have F9 := F_a0_length.ext E5
  have F10 := F_a0_pendingBits.ext E5
  have F11 := F_a0_pending.ext E5
  have F12 : Arv Z h5 b5 k5 .byte p1 ([] : List Value) (.int 0) := Arv.new A5 hneg
  obtain ⟨T13, h13, X13, e13, W13, st13⟩ := putF X5 hx hZ hown (host := "") (Or.inl (hw _ (mi 10 rfl))) Via.refl e5 F8 (E_a0.keep K5) (Or.inl (hw _ (mi 11 rfl))) (hw _ (mi 1 rfl)) (ty := (.array .byte)) (by decide) rfl rfl (g := (mkF m 8 #[rv a0, iv p1] [(.ref b5), (.ref a0)])) rfl rfl (hb hby d1_8)
  have go14 := gap go7 st13
  have N13 := Fr.snoc X13 N0 g_a0
  have K13 : Keep h0 h13 [a0] := K5.wr W13 (Or.inl (List.mem_of_getElem? (i := 0) rfl))
  have Zs13 : n0 ≤ h13.size := Nat.le_trans Zs5 (Keep.of_wr W13).1
  have F15 : Fld Z h13 a0 "com/example/mirk/mirk/index/BitWriter" "bytes" "[B" (.ref b5) := F8.same W13
  have F16 := F9.other W13 (Or.inr (slot_ne (Or.inl (hw _ (mi 19 rfl))) (Or.inl (hw _ (mi 11 rfl))) (by decide) (t := .int) (t' := (.array .byte)) (by decide) (by decide)))
  have F17 := F10.other W13 (Or.inr (slot_ne (Or.inl (hw _ (mi 21 rfl))) (Or.inl (hw _ (mi 11 rfl))) (by decide) (t := .int) (t' := (.array .byte)) (by decide) (by decide)))
  have F18 := F11.other W13 (Or.inr (slot_ne (Or.inl (hw _ (mi 28 rfl))) (Or.inl (hw _ (mi 11 rfl))) (by decide) (t := .long) (t' := (.array .byte)) (by decide) (by decide)))
  have F19 := F12.other W13 (Ne.symm ne6)
  refine own_outV X13 hx hlk go14 hrt (hb hby d1_11) e13 (by decide) (by decide) ?_
  have hq := nat_of hneg
  have e0 : (0 : Int32).toInt = 0 := rfl
  exact ⟨rfl, N13, K13.1, (0 : Int32), (0 : Int32), p1, b5, _, List.replicate p1.toNatClampNeg (.int 0), (0 : Int64), (E_a0.keep K13), F16, F17, F18, F15, F19.pad (pad_rep [] _ _), g_a0, low5, ne6, List.length_replicate, by omega, rfl, by omega, by omega, by omega, by omega, by omega⟩
theorem d4_0 : decode prog_12_method_11_code 0 = .ok (.aload_n 0, 1) := by decide +kernel
theorem d4_1 : decode prog_12_method_11_code 1 = .ok (.aload_n 0, 1) := by decide +kernel
theorem d4_2 : decode prog_12_method_11_code 2 = .ok (.getfield 53, 3) := by decide +kernel
theorem d4_5 : decode prog_12_method_11_code 5 = .ok (.iload_n 3, 1) := by decide +kernel
theorem d4_6 : decode prog_12_method_11_code 6 = .ok (.lshl, 1) := by decide +kernel
theorem d4_7 : decode prog_12_method_11_code 7 = .ok (.lload_n 1, 1) := by decide +kernel
theorem d4_8 : decode prog_12_method_11_code 8 = .ok (.lconst 1, 1) := by decide +kernel
theorem d4_9 : decode prog_12_method_11_code 9 = .ok (.iload_n 3, 1) := by decide +kernel
theorem d4_10 : decode prog_12_method_11_code 10 = .ok (.lshl, 1) := by decide +kernel
theorem d4_11 : decode prog_12_method_11_code 11 = .ok (.lconst 1, 1) := by decide +kernel
theorem d4_12 : decode prog_12_method_11_code 12 = .ok (.lsub, 1) := by decide +kernel
theorem d4_13 : decode prog_12_method_11_code 13 = .ok (.land, 1) := by decide +kernel
theorem d4_14 : decode prog_12_method_11_code 14 = .ok (.lor, 1) := by decide +kernel
theorem d4_15 : decode prog_12_method_11_code 15 = .ok (.putfield 53, 3) := by decide +kernel
theorem d4_18 : decode prog_12_method_11_code 18 = .ok (.aload_n 0, 1) := by decide +kernel
theorem d4_19 : decode prog_12_method_11_code 19 = .ok (.dup, 1) := by decide +kernel
theorem d4_20 : decode prog_12_method_11_code 20 = .ok (.getfield 27, 3) := by decide +kernel
theorem d4_23 : decode prog_12_method_11_code 23 = .ok (.iload_n 3, 1) := by decide +kernel
theorem d4_24 : decode prog_12_method_11_code 24 = .ok (.iadd, 1) := by decide +kernel
theorem d4_25 : decode prog_12_method_11_code 25 = .ok (.putfield 27, 3) := by decide +kernel
theorem d4_28 : decode prog_12_method_11_code 28 = .ok (.aload_n 0, 1) := by decide +kernel
theorem d4_29 : decode prog_12_method_11_code 29 = .ok (.getfield 7, 3) := by decide +kernel
theorem d4_32 : decode prog_12_method_11_code 32 = .ok (.arraylength, 1) := by decide +kernel
theorem d4_33 : decode prog_12_method_11_code 33 = .ok (.aload_n 0, 1) := by decide +kernel
theorem d4_34 : decode prog_12_method_11_code 34 = .ok (.getfield 31, 3) := by decide +kernel
theorem d4_37 : decode prog_12_method_11_code 37 = .ok (.isub, 1) := by decide +kernel
theorem d4_38 : decode prog_12_method_11_code 38 = .ok (.aload_n 0, 1) := by decide +kernel
theorem d4_39 : decode prog_12_method_11_code 39 = .ok (.getfield 27, 3) := by decide +kernel
theorem d4_42 : decode prog_12_method_11_code 42 = .ok (.bipush 8, 2) := by decide +kernel
theorem d4_44 : decode prog_12_method_11_code 44 = .ok (.idiv, 1) := by decide +kernel
theorem d4_45 : decode prog_12_method_11_code 45 = .ok (.if_icmp .ge 36, 3) := by decide +kernel
theorem d4_48 : decode prog_12_method_11_code 48 = .ok (.aload_n 0, 1) := by decide +kernel
theorem d4_49 : decode prog_12_method_11_code 49 = .ok (.aload_n 0, 1) := by decide +kernel
theorem d4_50 : decode prog_12_method_11_code 50 = .ok (.getfield 7, 3) := by decide +kernel
theorem d4_53 : decode prog_12_method_11_code 53 = .ok (.aload_n 0, 1) := by decide +kernel
theorem d4_54 : decode prog_12_method_11_code 54 = .ok (.getfield 7, 3) := by decide +kernel
theorem d4_57 : decode prog_12_method_11_code 57 = .ok (.arraylength, 1) := by decide +kernel
theorem d4_58 : decode prog_12_method_11_code 58 = .ok (.iconst 2, 1) := by decide +kernel
theorem d4_59 : decode prog_12_method_11_code 59 = .ok (.imul, 1) := by decide +kernel
theorem d4_60 : decode prog_12_method_11_code 60 = .ok (.aload_n 0, 1) := by decide +kernel
theorem d4_61 : decode prog_12_method_11_code 61 = .ok (.getfield 31, 3) := by decide +kernel
theorem d4_64 : decode prog_12_method_11_code 64 = .ok (.aload_n 0, 1) := by decide +kernel
theorem d4_65 : decode prog_12_method_11_code 65 = .ok (.getfield 27, 3) := by decide +kernel
theorem d4_68 : decode prog_12_method_11_code 68 = .ok (.bipush 8, 2) := by decide +kernel
theorem d4_70 : decode prog_12_method_11_code 70 = .ok (.idiv, 1) := by decide +kernel
theorem d4_71 : decode prog_12_method_11_code 71 = .ok (.iadd, 1) := by decide +kernel
theorem d4_72 : decode prog_12_method_11_code 72 = .ok (.invokestatic 57, 3) := by decide +kernel
theorem own_site106 {Z : State} {aZ : Array Value} (hw : ∀ d ∈ tables_1, d.before aZ Z = true) : SSt aZ Z (⟨"java/lang/Math", "max", "(II)I"⟩ : MethodName) jdk_29_method_65_code 2 (some .int) := ⟨⟨(hw _ (mi 64 rfl)), (hw _ (mi 65 rfl))⟩, (hw _ (mi 66 rfl))⟩
theorem d4_75 : decode prog_12_method_11_code 75 = .ok (.invokestatic 60, 3) := by decide +kernel
theorem own_site109 {Z : State} {aZ : Array Value} (hw : ∀ d ∈ tables_1, d.before aZ Z = true) : SSt aZ Z (⟨"java/util/Arrays", "copyOf", "([BI)[B"⟩ : MethodName) jdk_65_method_121_code 3 (some (.array .byte)) := ⟨⟨(hw _ (mi 68 rfl)), (hw _ (mi 69 rfl))⟩, (hw _ (mi 70 rfl))⟩
theorem pd_110 : parseMethodDescriptor "([BI)[B" = some ⟨[(.array .byte), .int], some (.array .byte)⟩ := by decide +kernel
theorem d4_78 : decode prog_12_method_11_code 78 = .ok (.putfield 7, 3) := by decide +kernel
theorem d4_81 : decode prog_12_method_11_code 81 = .ok (.aload_n 0, 1) := by decide +kernel
theorem d4_82 : decode prog_12_method_11_code 82 = .ok (.getfield 27, 3) := by decide +kernel
theorem d4_85 : decode prog_12_method_11_code 85 = .ok (.bipush 8, 2) := by decide +kernel
theorem d4_87 : decode prog_12_method_11_code 87 = .ok (.if_icmp .lt 44, 3) := by decide +kernel
theorem d4_131 : decode prog_12_method_11_code 131 = .ok (.return_, 1) := by decide +kernel
theorem d4_90 : decode prog_12_method_11_code 90 = .ok (.aload_n 0, 1) := by decide +kernel
theorem d4_91 : decode prog_12_method_11_code 91 = .ok (.dup, 1) := by decide +kernel
theorem d4_92 : decode prog_12_method_11_code 92 = .ok (.getfield 27, 3) := by decide +kernel
theorem d4_95 : decode prog_12_method_11_code 95 = .ok (.bipush 8, 2) := by decide +kernel
theorem d4_97 : decode prog_12_method_11_code 97 = .ok (.isub, 1) := by decide +kernel
theorem d4_98 : decode prog_12_method_11_code 98 = .ok (.putfield 27, 3) := by decide +kernel
theorem d4_101 : decode prog_12_method_11_code 101 = .ok (.aload_n 0, 1) := by decide +kernel
theorem d4_102 : decode prog_12_method_11_code 102 = .ok (.getfield 7, 3) := by decide +kernel
theorem d4_105 : decode prog_12_method_11_code 105 = .ok (.aload_n 0, 1) := by decide +kernel
theorem d4_106 : decode prog_12_method_11_code 106 = .ok (.dup, 1) := by decide +kernel
theorem d4_107 : decode prog_12_method_11_code 107 = .ok (.getfield 31, 3) := by decide +kernel
theorem d4_110 : decode prog_12_method_11_code 110 = .ok (.dup_x1, 1) := by decide +kernel
theorem d4_111 : decode prog_12_method_11_code 111 = .ok (.iconst 1, 1) := by decide +kernel
theorem d4_112 : decode prog_12_method_11_code 112 = .ok (.iadd, 1) := by decide +kernel
theorem d4_113 : decode prog_12_method_11_code 113 = .ok (.putfield 31, 3) := by decide +kernel
theorem d4_116 : decode prog_12_method_11_code 116 = .ok (.aload_n 0, 1) := by decide +kernel
theorem d4_117 : decode prog_12_method_11_code 117 = .ok (.getfield 53, 3) := by decide +kernel
theorem d4_120 : decode prog_12_method_11_code 120 = .ok (.aload_n 0, 1) := by decide +kernel
theorem d4_121 : decode prog_12_method_11_code 121 = .ok (.getfield 27, 3) := by decide +kernel
theorem d4_124 : decode prog_12_method_11_code 124 = .ok (.lushr, 1) := by decide +kernel
theorem d4_125 : decode prog_12_method_11_code 125 = .ok (.l2i, 1) := by decide +kernel
theorem d4_126 : decode prog_12_method_11_code 126 = .ok (.i2b, 1) := by decide +kernel
theorem d4_127 : decode prog_12_method_11_code 127 = .ok (.bastore, 1) := by decide +kernel
theorem d4_128 : decode prog_12_method_11_code 128 = .ok (.goto (-47), 3) := by decide +kernel
theorem own_ar108 (ln : Int32) (pb : Int32) (zz : Int32) (B : Int) (c : Int) (p2 : Int32) (hB1 : B = 8 * ln.toInt + pb.toInt) (hB2 : c = zz.toInt) (hk1 : 0 ≤ pb.toInt) (hk2 : pb.toInt < 8) (hn1 : 0 ≤ ln.toInt) (hn2 : ln.toInt ≤ zz.toInt) (hn3 : zz.toInt ≤ 1000) (hm1 : 0 ≤ p2.toInt) (hm2 : p2.toInt ≤ 56) (hb4 : B ≤ 400) (g0 : (zz - ln) < ((pb + p2) / (8 : Int32))) : ((f11 (zz * (2 : Int32)) (ln + ((pb + p2) / (8 : Int32)))).toInt = capW B p2.toInt c ∧ (zz.toInt < (f11 (zz * (2 : Int32)) (ln + ((pb + p2) / (8 : Int32)))).toInt ∧ (f11 (zz * (2 : Int32)) (ln + ((pb + p2) / (8 : Int32)))).toInt ≤ 1000) ∧ 2 * c ≤ capW B p2.toInt c) ∧ ln.toInt + (pb.toInt + p2.toInt) / 8 ≤ (f11 (zz * (2 : Int32)) (ln + ((pb + p2) / (8 : Int32)))).toInt := by
  have := rng32 zz
  have : (2 : Int32).toInt = 2 := rfl
  have := rng32 (zz * (2 : Int32))
  have := own_mul2 zz
  have := rng32 ln
  have := rng32 pb
  have := rng32 p2
  have := rng32 (pb + p2)
  have := c_iadd pb p2
  have : (8 : Int32).toInt = 8 := rfl
  have := rng32 ((pb + p2) / (8 : Int32))
  have := c_idiv (pb + p2) (8 : Int32) 8 rfl (by decide)
  have := rng32 (ln + ((pb + p2) / (8 : Int32)))
  have := c_iadd ln ((pb + p2) / (8 : Int32))
  have := rng32 (f11 (zz * (2 : Int32)) (ln + ((pb + p2) / (8 : Int32))))
  have := own_f11 (zz * (2 : Int32)) (ln + ((pb + p2) / (8 : Int32)))
  have := rng32 (zz - ln)
  have := c_isub zz ln
  have := g0
  rw [Int32.lt_iff_toInt_lt] at this
  unfold capW
  (repeat' split) <;> omega
theorem own_ar112 (ln : Int32) (pb : Int32) (zz : Int32) (B : Int) (c : Int) (p2 : Int32) (hB1 : B = 8 * ln.toInt + pb.toInt) (hB2 : c = zz.toInt) (hk1 : 0 ≤ pb.toInt) (hk2 : pb.toInt < 8) (hn1 : 0 ≤ ln.toInt) (hn2 : ln.toInt ≤ zz.toInt) (hn3 : zz.toInt ≤ 1000) (hm1 : 0 ≤ p2.toInt) (hm2 : p2.toInt ≤ 56) (hb4 : B ≤ 400) : ln.toInt = ln.toInt + 0 ∧ (pb + p2).toInt = pb.toInt + p2.toInt - 8 * 0 := by
  have := rng32 pb
  have := rng32 p2
  have := rng32 (pb + p2)
  have := c_iadd pb p2
  omega
theorem own_ar113 (ln : Int32) (pb : Int32) (zz : Int32) (B : Int) (c : Int) (p2 : Int32) (hB1 : B = 8 * ln.toInt + pb.toInt) (hB2 : c = zz.toInt) (hk1 : 0 ≤ pb.toInt) (hk2 : pb.toInt < 8) (hn1 : 0 ≤ ln.toInt) (hn2 : ln.toInt ≤ zz.toInt) (hn3 : zz.toInt ≤ 1000) (hm1 : 0 ≤ p2.toInt) (hm2 : p2.toInt ≤ 56) (hb4 : B ≤ 400) : pb.toInt + p2.toInt ≤ 63 := by
  omega
theorem own_ar114 (ln : Int32) (pb : Int32) (zz : Int32) (B : Int) (c : Int) (p2 : Int32) (hB1 : B = 8 * ln.toInt + pb.toInt) (hB2 : c = zz.toInt) (hk1 : 0 ≤ pb.toInt) (hk2 : pb.toInt < 8) (hn1 : 0 ≤ ln.toInt) (hn2 : ln.toInt ≤ zz.toInt) (hn3 : zz.toInt ≤ 1000) (hm1 : 0 ≤ p2.toInt) (hm2 : p2.toInt ≤ 56) (hb4 : B ≤ 400) : 0 ≤ pb.toInt + p2.toInt - 8 * 0 := by
  omega
theorem own_ar144 (ln : Int32) (pb : Int32) (zz : Int32) (B : Int) (c : Int) (p2 : Int32) (hB1 : B = 8 * ln.toInt + pb.toInt) (hB2 : c = zz.toInt) (hk1 : 0 ≤ pb.toInt) (hk2 : pb.toInt < 8) (hn1 : 0 ≤ ln.toInt) (hn2 : ln.toInt ≤ zz.toInt) (hn3 : zz.toInt ≤ 1000) (hm1 : 0 ≤ p2.toInt) (hm2 : p2.toInt ≤ 56) (hb4 : B ≤ 400) (g0 : ¬ (zz - ln) < ((pb + p2) / (8 : Int32))) : ln.toInt + (pb.toInt + p2.toInt) / 8 ≤ zz.toInt := by
  have := rng32 ln
  have := rng32 zz
  have := rng32 (zz - ln)
  have := c_isub zz ln
  have := rng32 pb
  have := rng32 p2
  have := rng32 (pb + p2)
  have := c_iadd pb p2
  have : (8 : Int32).toInt = 8 := rfl
  have := rng32 ((pb + p2) / (8 : Int32))
  have := c_idiv (pb + p2) (8 : Int32) 8 rfl (by decide)
  have := g0
  rw [Int32.lt_iff_toInt_lt] at this
  omega
def Qwb (Z : State) (n0 : Nat) (a0 : Addr) (q1 : Int64) (p2 : Int32) (B : Int) (c : Int) (S : Nat) (h0 : Heap) (v : Option Value) (h : Heap) (L : List Loc) : Prop := QW n0 h0 Z a0 (B + p2.toInt) (capW B p2.toInt c) v h L
theorem efwb (m : MethodId) (a0 : Addr) (q1 : Int64) (p2 : Int32) : entryFrame m #[(.ref a0), (.long q1), (.int p2)] 4 = mkF m 0 #[rv a0, .val (.long q1), .second, iv p2] [] := by first | (simp [entryFrame, mkF, argsToLocals, Value.category]; done) | rfl
abbrev Lwb_0 (a0 : Addr) (q1 : Int64) (p2 : Int32) : Array Slot := #[rv a0, .val (.long q1), .second, iv p2]
set_option maxRecDepth 65536 in
set_option maxHeartbeats 40000000 in
theorem rmwb (l : Launch) (Z : State) (aZ : Array Value) (hw : ∀ d ∈ tables_1, d.before aZ Z = true) (ws : List Jvm.Cond) (a0 : Addr) (q1 : Int64) (p2 : Int32) (B : Int) (c : Int) (S : Nat) (h0 : Heap) (n0 : Nat) (Z0 : n0 ≤ h0.size) (hB : BW Z h0 n0 a0 B c) (hm1 : 0 ≤ p2.toInt) (hm2 : p2.toInt ≤ 56) (hb4 : B ≤ 400) (hS : 2 * (capW B p2.toInt c - c) ≤ (S : Int)) :
    MFn l (⟨"com/example/mirk/mirk/index/BitWriter", "writeBits", "(JI)V"⟩ : MethodName) prog_12_method_11_code 4 none ws (Rm 2 1 S 33) #[(.ref a0), (.long q1), (.int p2)] Z h0 (Qwb Z n0 a0 q1 p2 B c S h0) := by
  refine own_mf (C := "com/example/mirk/mirk/index/BitWriter") rfl (plainFor_of_name pn_48) (fun m => efwb m a0 q1 p2) ?_
  intro p e s m below meth cd0 s₁ En hx hby hml hown hnm hZ X0 e0 hlk hrt go0
  obtain ⟨ln, pb, zz, bb, kc, vs0, pd0, E0, F1, F2, F3, F4, V0, ga, gb, ne0, hlen, hB1, hB2, hk1, hk2, hn1, hn2, hn3⟩ := hB
  have N0 := Fr.nil n0
  have K0 : Keep h0 h0 [a0, bb] := Keep.refl _ _
  have go1 : Go p.tables e below s₁ (mkF m 2 (Lwb_0 a0 q1 p2) [(.ref a0), (.ref a0)]) En := by
    intro t k
    refine go0 _ ?_
    refine XS.aloadN X0.here hx rfl (hb hby d4_0) rfl rfl ?_
    refine XS.aloadN X0.here hx rfl (hb hby d4_1) rfl rfl ?_
    exact k
  obtain ⟨T2, X2, e2, st2⟩ := getF X0 hx hZ hown (host := "") (Or.inl (hw _ (mi 27 rfl))) Via.refl e0 F3 (g := (mkF m 2 (Lwb_0 a0 q1 p2) [(.ref a0), (.ref a0)])) rfl rfl (hb hby d4_2)
  have go3 := gap go1 st2
  have go4 : Go p.tables e below T2 (mkF m 15 (Lwb_0 a0 q1 p2) [(.long ((pd0 <<< (p2 &&& 0x3f).toInt64) ||| (q1 &&& (((1 : Int64) <<< (p2 &&& 0x3f).toInt64) - (1 : Int64))))), (.ref a0)]) En := by
    intro t k
    refine go3 _ ?_
    refine XS.iloadN X2.here hx rfl (hb hby d4_5) rfl ?_
    refine XS.lshl X2.here hx rfl (hb hby d4_6) rfl ?_
    refine XS.lloadN X2.here hx rfl (hb hby d4_7) rfl ?_
    show Steps _ _ _ (T2.setTop (mkF m 8 (Lwb_0 a0 q1 p2) [(.long q1), (.long (pd0 <<< (p2 &&& 0x3f).toInt64)), (.ref a0)])) _
    refine XS.lconst X2.here hx rfl (hb hby d4_8) ?_
    refine XS.iloadN X2.here hx rfl (hb hby d4_9) rfl ?_
    refine XS.lshl X2.here hx rfl (hb hby d4_10) rfl ?_
    show Steps _ _ _ (T2.setTop (mkF m 11 (Lwb_0 a0 q1 p2) [(.long ((1 : Int64) <<< (p2 &&& 0x3f).toInt64)), (.long q1), (.long (pd0 <<< (p2 &&& 0x3f).toInt64)), (.ref a0)])) _
    refine XS.lconst X2.here hx rfl (hb hby d4_11) ?_
    refine XS.lsub X2.here hx rfl (hb hby d4_12) rfl ?_
    refine XS.land X2.here hx rfl (hb hby d4_13) rfl ?_
    show Steps _ _ _ (T2.setTop (mkF m 14 (Lwb_0 a0 q1 p2) [(.long (q1 &&& (((1 : Int64) <<< (p2 &&& 0x3f).toInt64) - (1 : Int64)))), (.long (pd0 <<< (p2 &&& 0x3f).toInt64)), (.ref a0)])) _
    refine XS.lor X2.here hx rfl (hb hby d4_14) rfl ?_
    exact k
  obtain ⟨T5, h5, X5, e5, W5, st5⟩ := putF X2 hx hZ hown (host := "") (Or.inl (hw _ (mi 27 rfl))) Via.refl e2 F3 E0 (Or.inl (hw _ (mi 28 rfl))) (hw _ (mi 1 rfl)) (ty := .long) (by decide) rfl rfl (g := (mkF m 15 (Lwb_0 a0 q1 p2) [(.long ((pd0 <<< (p2 &&& 0x3f).toInt64) ||| (q1 &&& (((1 : Int64) <<< (p2 &&& 0x3f).toInt64) - (1 : Int64))))), (.ref a0)])) rfl rfl (hb hby d4_15)
  have go6 := gap go4 st5
  have N5 := Fr.snoc X5 N0 ga
  have K5 : Keep h0 h5 [a0, bb] := K0.wr W5 (Or.inl (List.mem_of_getElem? (i := 0) rfl))
  have Zs5 : n0 ≤ h5.size := Nat.le_trans Z0 (Keep.of_wr W5).1
  have F7 := F1.other W5 (Or.inr (slot_ne (Or.inl (hw _ (mi 19 rfl))) (Or.inl (hw _ (mi 28 rfl))) (by decide) (t := .int) (t' := .long) (by decide) (by decide)))
  have F8 := F2.other W5 (Or.inr (slot_ne (Or.inl (hw _ (mi 21 rfl))) (Or.inl (hw _ (mi 28 rfl))) (by decide) (t := .int) (t' := .long) (by decide) (by decide)))
  have F9 : Fld Z h5 a0 "com/example/mirk/mirk/index/BitWriter" "pending" "J" (.long ((pd0 <<< (p2 &&& 0x3f).toInt64) ||| (q1 &&& (((1 : Int64) <<< (p2 &&& 0x3f).toInt64) - (1 : Int64))))) := F3.same W5
  have F10 := F4.other W5 (Or.inr (slot_ne (Or.inl (hw _ (mi 11 rfl))) (Or.inl (hw _ (mi 28 rfl))) (by decide) (t := (.array .byte)) (t' := .long) (by decide) (by decide)))
  have F11 := V0.other W5 (Ne.symm ne0)
  obtain ⟨pd1, Fp1⟩ : ∃ x : Int64, Fld Z h5 a0 "com/example/mirk/mirk/index/BitWriter" "pending" "J" (.long x) := ⟨_, F9⟩
  have go12 : Go p.tables e below T5 (mkF m 20 (Lwb_0 a0 q1 p2) [(.ref a0), (.ref a0)]) En := by
    intro t k
    refine go6 _ ?_
    refine XS.aloadN X5.here hx rfl (hb hby d4_18) rfl rfl ?_
    refine XS.dup X5.here hx rfl (hb hby d4_19) rfl rfl ?_
    exact k
  obtain ⟨T13, X13, e13, st13⟩ := getF X5 hx hZ hown (host := "") (Or.inl (hw _ (mi 20 rfl))) Via.refl e5 F8 (g := (mkF m 20 (Lwb_0 a0 q1 p2) [(.ref a0), (.ref a0)])) rfl rfl (hb hby d4_20)
  have go14 := gap go12 st13
  have go15 : Go p.tables e below T13 (mkF m 25 (Lwb_0 a0 q1 p2) [(.int (pb + p2)), (.ref a0)]) En := by
    intro t k
    refine go14 _ ?_
    refine XS.iloadN X13.here hx rfl (hb hby d4_23) rfl ?_
    refine XS.iadd X13.here hx rfl (hb hby d4_24) rfl ?_
    exact k
  obtain ⟨T16, h16, X16, e16, W16, st16⟩ := putF X13 hx hZ hown (host := "") (Or.inl (hw _ (mi 20 rfl))) Via.refl e13 F8 (E0.keep K5) (Or.inl (hw _ (mi 21 rfl))) (hw _ (mi 1 rfl)) (ty := .int) (by decide) rfl rfl (g := (mkF m 25 (Lwb_0 a0 q1 p2) [(.int (pb + p2)), (.ref a0)])) rfl rfl (hb hby d4_25)
  have go17 := gap go15 st16
  have N16 := Fr.snoc X16 N5 ga
  have K16 : Keep h0 h16 [a0, bb] := K5.wr W16 (Or.inl (List.mem_of_getElem? (i := 0) rfl))
  have Zs16 : n0 ≤ h16.size := Nat.le_trans Zs5 (Keep.of_wr W16).1
  have F18 := F7.other W16 (Or.inr (slot_ne (Or.inl (hw _ (mi 19 rfl))) (Or.inl (hw _ (mi 21 rfl))) (by decide) (t := .int) (t' := .int) (by decide) (by decide)))
  have F19 : Fld Z h16 a0 "com/example/mirk/mirk/index/BitWriter" "pendingBits" "I" (.int (pb + p2)) := F8.same W16
  have F20 := Fp1.other W16 (Or.inr (slot_ne (Or.inl (hw _ (mi 28 rfl))) (Or.inl (hw _ (mi 21 rfl))) (by decide) (t := .long) (t' := .int) (by decide) (by decide)))
  have F21 := F10.other W16 (Or.inr (slot_ne (Or.inl (hw _ (mi 11 rfl))) (Or.inl (hw _ (mi 21 rfl))) (by decide) (t := (.array .byte)) (t' := .int) (by decide) (by decide)))
  have F22 := F11.other W16 (Ne.symm ne0)
  have go23 : Go p.tables e below T16 (mkF m 29 (Lwb_0 a0 q1 p2) [(.ref a0)]) En := by
    intro t k
    refine go17 _ ?_
    refine XS.aloadN X16.here hx rfl (hb hby d4_28) rfl rfl ?_
    exact k
  obtain ⟨T24, X24, e24, st24⟩ := getF X16 hx hZ hown (host := "") (Or.inl (hw _ (mi 10 rfl))) Via.refl e16 F21 (g := (mkF m 29 (Lwb_0 a0 q1 p2) [(.ref a0)])) rfl rfl (hb hby d4_29)
  have go25 := gap go23 st24
  obtain ⟨cl26, Ar26, q26, S26, N26, H26, G26⟩ := id F22
  have go27 : Go p.tables e below T24 (mkF m 34 (Lwb_0 a0 q1 p2) [(.ref a0), (.int zz)]) En := by
    intro t k
    refine go25 _ ?_
    refine X24.arraylength hx (by rw [e24]; exact Ar26.1) (State.isArrayOf_alike hZ.alike Ar26.2.1) (g := (mkF m 32 (Lwb_0 a0 q1 p2) [(.ref bb)])) rfl rfl (hb hby d4_32) _ ?_
    rw [len_of S26 N26]
    refine XS.aloadN X24.here hx rfl (hb hby d4_33) rfl rfl ?_
    show Steps _ _ _ (T24.setTop (mkF m 34 (Lwb_0 a0 q1 p2) [(.ref a0), (.int zz)])) _
    exact k
  obtain ⟨T28, X28, e28, st28⟩ := getF X24 hx hZ hown (host := "") (Or.inl (hw _ (mi 18 rfl))) Via.refl e24 F18 (g := (mkF m 34 (Lwb_0 a0 q1 p2) [(.ref a0), (.int zz)])) rfl rfl (hb hby d4_34)
  have go29 := gap go27 st28
  have go30 : Go p.tables e below T28 (mkF m 39 (Lwb_0 a0 q1 p2) [(.ref a0), (.int (zz - ln))]) En := by
    intro t k
    refine go29 _ ?_
    refine XS.isub X28.here hx rfl (hb hby d4_37) rfl ?_
    refine XS.aloadN X28.here hx rfl (hb hby d4_38) rfl rfl ?_
    exact k
  obtain ⟨T31, X31, e31, st31⟩ := getF X28 hx hZ hown (host := "") (Or.inl (hw _ (mi 20 rfl))) Via.refl e28 F19 (g := (mkF m 39 (Lwb_0 a0 q1 p2) [(.ref a0), (.int (zz - ln))])) rfl rfl (hb hby d4_39)
  have go32 := gap go30 st31
  have go33 : Go p.tables e below T31 (mkF m 45 (Lwb_0 a0 q1 p2) [(.int ((pb + p2) / (8 : Int32))), (.int (zz - ln))]) En := by
    intro t k
    refine go32 _ ?_
    refine XS.bipush X31.here hx rfl (hb hby d4_42) ?_
    refine XS.idiv X31.here hx rfl (hb hby d4_44) rfl (by decide) ?_
    exact k
  by_cases hs34 : (zz - ln) < ((pb + p2) / (8 : Int32))
  · have go35 : Go p.tables e below T31 (mkF m 50 (Lwb_0 a0 q1 p2) [(.ref a0), (.ref a0)]) En := by
      intro t k
      refine go33 _ ?_
      refine XS.icmpNo X31.here hx rfl (hb hby d4_45) rfl (XT.ii_ge_f hs34) ?_
      refine XS.aloadN X31.here hx rfl (hb hby d4_48) rfl rfl ?_
      refine XS.aloadN X31.here hx rfl (hb hby d4_49) rfl rfl ?_
      show Steps _ _ _ (T31.setTop (mkF m 50 (Lwb_0 a0 q1 p2) [(.ref a0), (.ref a0)])) _
      exact k
    obtain ⟨T36, X36, e36, st36⟩ := getF X31 hx hZ hown (host := "") (Or.inl (hw _ (mi 10 rfl))) Via.refl e31 F21 (g := (mkF m 50 (Lwb_0 a0 q1 p2) [(.ref a0), (.ref a0)])) rfl rfl (hb hby d4_50)
    have go37 := gap go35 st36
    have go38 : Go p.tables e below T36 (mkF m 54 (Lwb_0 a0 q1 p2) [(.ref a0), (.ref bb), (.ref a0)]) En := by
      intro t k
      refine go37 _ ?_
      refine XS.aloadN X36.here hx rfl (hb hby d4_53) rfl rfl ?_
      exact k
    obtain ⟨T39, X39, e39, st39⟩ := getF X36 hx hZ hown (host := "") (Or.inl (hw _ (mi 10 rfl))) Via.refl e36 F21 (g := (mkF m 54 (Lwb_0 a0 q1 p2) [(.ref a0), (.ref bb), (.ref a0)])) rfl rfl (hb hby d4_54)
    have go40 := gap go38 st39
    have go41 : Go p.tables e below T39 (mkF m 61 (Lwb_0 a0 q1 p2) [(.ref a0), (.int (zz * (2 : Int32))), (.ref bb), (.ref a0)]) En := by
      intro t k
      refine go40 _ ?_
      refine X39.arraylength hx (by rw [e39]; exact Ar26.1) (State.isArrayOf_alike hZ.alike Ar26.2.1) (g := (mkF m 57 (Lwb_0 a0 q1 p2) [(.ref bb), (.ref bb), (.ref a0)])) rfl rfl (hb hby d4_57) _ ?_
      rw [len_of S26 N26]
      refine XS.iconst X39.here hx rfl (hb hby d4_58) ?_
      show Steps _ _ _ (T39.setTop (mkF m 59 (Lwb_0 a0 q1 p2) [(.int 2), (.int zz), (.ref bb), (.ref a0)])) _
      refine XS.imul X39.here hx rfl (hb hby d4_59) rfl ?_
      refine XS.aloadN X39.here hx rfl (hb hby d4_60) rfl rfl ?_
      exact k
    obtain ⟨T42, X42, e42, st42⟩ := getF X39 hx hZ hown (host := "") (Or.inl (hw _ (mi 18 rfl))) Via.refl e39 F18 (g := (mkF m 61 (Lwb_0 a0 q1 p2) [(.ref a0), (.int (zz * (2 : Int32))), (.ref bb), (.ref a0)])) rfl rfl (hb hby d4_61)
    have go43 := gap go41 st42
    have go44 : Go p.tables e below T42 (mkF m 65 (Lwb_0 a0 q1 p2) [(.ref a0), (.int ln), (.int (zz * (2 : Int32))), (.ref bb), (.ref a0)]) En := by
      intro t k
      refine go43 _ ?_
      refine XS.aloadN X42.here hx rfl (hb hby d4_64) rfl rfl ?_
      exact k
    obtain ⟨T45, X45, e45, st45⟩ := getF X42 hx hZ hown (host := "") (Or.inl (hw _ (mi 20 rfl))) Via.refl e42 F19 (g := (mkF m 65 (Lwb_0 a0 q1 p2) [(.ref a0), (.int ln), (.int (zz * (2 : Int32))), (.ref bb), (.ref a0)])) rfl rfl (hb hby d4_65)
    have go46 := gap go44 st45
    have go47 : Go p.tables e below T45 (mkF m 72 (Lwb_0 a0 q1 p2) [(.int (ln + ((pb + p2) / (8 : Int32)))), (.int (zz * (2 : Int32))), (.ref bb), (.ref a0)]) En := by
      intro t k
      refine go46 _ ?_
      refine XS.bipush X45.here hx rfl (hb hby d4_68) ?_
      refine XS.idiv X45.here hx rfl (hb hby d4_70) rfl (by decide) ?_
      refine XS.iadd X45.here hx rfl (hb hby d4_71) rfl ?_
      show Steps _ _ _ (T45.setTop (mkF m 72 (Lwb_0 a0 q1 p2) [(.int (ln + ((pb + p2) / (8 : Int32)))), (.int (zz * (2 : Int32))), (.ref bb), (.ref a0)])) _
      exact k
    obtain ⟨_, T48, Lc48, X48, hQ48, st48⟩ := own_cs X45 hx hZ hown hml go47 (hb hby d4_72) e45 (hw _ (mi 63 rfl)) (own_site106 hw) (rm11 l Z aZ hw [] (zz * (2 : Int32)) (ln + ((pb + p2) / (8 : Int32))) h16 n0 Zs16 ) (by decide) (argsL := [(.int (zz * (2 : Int32))), (.int (ln + ((pb + p2) / (8 : Int32))))]) (rest := [(.ref bb), (.ref a0)]) rfl rfl rfl (lenOf pd_32 rfl) (W := 2) rfl (Nat.le_of_ble_eq_true rfl) (Nat.le_of_ble_eq_true rfl) (Nat.le_of_ble_eq_true rfl) (Nat.zero_le _)
    obtain ⟨rfl, N48q, e48⟩ := hQ48
    have N48 := Fr.app N16 N48q
    have hnc := (own_ar108 ln pb zz B c p2 hB1 hB2 hk1 hk2 hn1 hn2 hn3 hm1 hm2 hb4 hs34)
    have hcx := own_cpx hB2 hnc.1 hS (Int.le_trans hn1 hn2)
    obtain ⟨_, T49, Lc49, X49, hQ49, st49⟩ := own_cs X48 hx hZ hown hml st48 (hb hby d4_75) e48 (hw _ (mi 67 rfl)) (own_site109 hw) (rmcp l Z aZ hw [] bb (f11 (zz * (2 : Int32)) (ln + ((pb + p2) / (8 : Int32)))) _ _ _ ((f11 (zz * (2 : Int32)) (ln + ((pb + p2) / (8 : Int32))))).toNatClampNeg h16 n0 Zs16 F22 hcx.1 hcx.2.1 hcx.2.2.1 (Nat.le_refl _) hcx.2.2.2.1) (by decide) (argsL := [(.ref bb), (.int (f11 (zz * (2 : Int32)) (ln + ((pb + p2) / (8 : Int32)))))]) (rest := [(.ref a0)]) rfl rfl rfl (lenOf pd_110 rfl) (W := 1) rfl (Nat.le_of_ble_eq_true rfl) (Nat.le_of_ble_eq_true rfl) (Nat.le_of_ble_eq_true rfl) (own_z2 hcx.2.2.2.2)
    obtain ⟨b49, kx49, vx49, rfl, N49q, K49q, fr49, GV49, hlen1⟩ := hQ49
    have low49 : n0 ≤ b49 := Nat.le_trans Zs16 fr49
    have fsh49 : h0.size ≤ b49 := Nat.le_trans K16.1 fr49
    have ne50 : a0 ≠ b49 := Nat.ne_of_lt (Nat.lt_of_lt_of_le (E0.keep K16).lt fr49)
    have ne51 : bb ≠ b49 := Nat.ne_of_lt (Nat.lt_of_lt_of_le F22.lt fr49)
    have N49 := Fr.app N48 N49q
    have K49 : Keep h0 T49.heap [a0, bb] := K16.trans K49q all0
    have Zs49 : n0 ≤ T49.heap.size := Nat.le_trans Zs16 K49q.1
    have F52 := F18.keep K49q nin0
    have F53 := F19.keep K49q nin0
    have F54 := F20.keep K49q nin0
    have F55 := F21.keep K49q nin0
    have F56 := F22.keep K49q nin0
    obtain ⟨T57, h57, X57, e57, W57, st57⟩ := putF X49 hx hZ hown (host := "") (Or.inl (hw _ (mi 10 rfl))) Via.refl rfl F55 (E0.keep K49) (Or.inl (hw _ (mi 11 rfl))) (hw _ (mi 1 rfl)) (ty := (.array .byte)) (by decide) rfl rfl (g := (mkF m 78 (Lwb_0 a0 q1 p2) [(.ref b49), (.ref a0)])) rfl rfl (hb hby d4_78)
    have go58 := gap st49 st57
    have N57 := Fr.snoc X57 N49 ga
    have K57 : Keep h0 h57 [a0, bb] := K49.wr W57 (Or.inl (List.mem_of_getElem? (i := 0) rfl))
    have Zs57 : n0 ≤ h57.size := Nat.le_trans Zs49 (Keep.of_wr W57).1
    have F59 := F52.other W57 (Or.inr (slot_ne (Or.inl (hw _ (mi 19 rfl))) (Or.inl (hw _ (mi 11 rfl))) (by decide) (t := .int) (t' := (.array .byte)) (by decide) (by decide)))
    have F60 := F53.other W57 (Or.inr (slot_ne (Or.inl (hw _ (mi 21 rfl))) (Or.inl (hw _ (mi 11 rfl))) (by decide) (t := .int) (t' := (.array .byte)) (by decide) (by decide)))
    have F61 := F54.other W57 (Or.inr (slot_ne (Or.inl (hw _ (mi 28 rfl))) (Or.inl (hw _ (mi 11 rfl))) (by decide) (t := .long) (t' := (.array .byte)) (by decide) (by decide)))
    have F62 : Fld Z h57 a0 "com/example/mirk/mirk/index/BitWriter" "bytes" "[B" (.ref b49) := F55.same W57
    have F63 := F56.other W57 (Ne.symm ne0)
    have F64 := GV49.other W57 (Ne.symm ne50)
    have hcap := hnc.2
    have hT0 : ln.toInt = ln.toInt + 0 ∧ (pb + p2).toInt = pb.toInt + p2.toInt - 8 * 0 := (own_ar112 ln pb zz B c p2 hB1 hB2 hk1 hk2 hn1 hn2 hn3 hm1 hm2 hb4)
    have h63 : pb.toInt + p2.toInt ≤ 63 := (own_ar113 ln pb zz B c p2 hB1 hB2 hk1 hk2 hn1 hn2 hn3 hm1 hm2 hb4)
    have hy0 := (own_ar114 ln pb zz B c p2 hB1 hB2 hk1 hk2 hn1 hn2 hn3 hm1 hm2 hb4)
    have go65 : Go p.tables e below T57 (mkF m 82 (Lwb_0 a0 q1 p2) [(.ref a0)]) En := by
      intro t k
      refine go58 _ ?_
      refine XS.aloadN X57.here hx rfl (hb hby d4_81) rfl rfl ?_
      exact k
    obtain ⟨T66, X66, e66, st66⟩ := getF X57 hx hZ hown (host := "") (Or.inl (hw _ (mi 20 rfl))) Via.refl e57 F60 (g := (mkF m 82 (Lwb_0 a0 q1 p2) [(.ref a0)])) rfl rfl (hb hby d4_82)
    have go67 := gap go65 st66
    have go68 : Go p.tables e below T66 (mkF m 87 (Lwb_0 a0 q1 p2) [(.int 8), (.int (pb + p2))]) En := by
      intro t k
      refine go67 _ ?_
      refine XS.bipush X66.here hx rfl (hb hby d4_85) ?_
      exact k
    by_cases hs69 : (pb + p2) < (8 : Int32)
    · have hA := own_out8 (z := (f11 (zz * (2 : Int32)) (ln + ((pb + p2) / (8 : Int32))))) hT0 hs69 (by rw [hT0.2]; exact hy0) hn1 (by decide) hcap hnc.1.2.1.2 hB1
      have hC := hnc.1.1.symm
      have go70 : Go p.tables e below T66 (mkF m 131 (Lwb_0 a0 q1 p2) []) En := by
        intro t k
        refine go68 _ ?_
        refine XS.icmpYes X66.here hx rfl (pc0 := 87) (pc' := 131) rfl (hb hby d4_87) rfl (XT.ii_lt_t hs69) (by decide) (by decide) ?_
        exact k
      refine own_outV X66 hx hlk go70 hrt (hb hby d4_131) e66 (Nat.le_of_ble_eq_true rfl) (own_z2 hcx.2.2.2.2) ?_
      exact ⟨rfl, N57, K57.1, ln, (pb + p2), (f11 (zz * (2 : Int32)) (ln + ((pb + p2) / (8 : Int32)))), b49, _, _, pd1, (E0.keep K57), F59, F60, F61, F62, F64, ga, low49, ne50, hlen1, hA.1, hC, hA.2⟩
    have go71 : Go p.tables e below T66 (mkF m 92 (Lwb_0 a0 q1 p2) [(.ref a0), (.ref a0)]) En := by
      intro t k
      refine go68 _ ?_
      refine XS.icmpNo X66.here hx rfl (hb hby d4_87) rfl (XT.ii_lt_f hs69) ?_
      refine XS.aloadN X66.here hx rfl (hb hby d4_90) rfl rfl ?_
      refine XS.dup X66.here hx rfl (hb hby d4_91) rfl rfl ?_
      show Steps _ _ _ (T66.setTop (mkF m 92 (Lwb_0 a0 q1 p2) [(.ref a0), (.ref a0)])) _
      exact k
    obtain ⟨T72, X72, e72, st72⟩ := getF X66 hx hZ hown (host := "") (Or.inl (hw _ (mi 20 rfl))) Via.refl e66 F60 (g := (mkF m 92 (Lwb_0 a0 q1 p2) [(.ref a0), (.ref a0)])) rfl rfl (hb hby d4_92)
    have go73 := gap go71 st72
    have go74 : Go p.tables e below T72 (mkF m 98 (Lwb_0 a0 q1 p2) [(.int ((pb + p2) - (8 : Int32))), (.ref a0)]) En := by
      intro t k
      refine go73 _ ?_
      refine XS.bipush X72.here hx rfl (hb hby d4_95) ?_
      refine XS.isub X72.here hx rfl (hb hby d4_97) rfl ?_
      exact k
    obtain ⟨T75, h75, X75, e75, W75, st75⟩ := putF X72 hx hZ hown (host := "") (Or.inl (hw _ (mi 20 rfl))) Via.refl e72 F60 (E0.keep K57) (Or.inl (hw _ (mi 21 rfl))) (hw _ (mi 1 rfl)) (ty := .int) (by decide) rfl rfl (g := (mkF m 98 (Lwb_0 a0 q1 p2) [(.int ((pb + p2) - (8 : Int32))), (.ref a0)])) rfl rfl (hb hby d4_98)
    have go76 := gap go74 st75
    have N75 := Fr.snoc X75 N57 ga
    have K75 : Keep h0 h75 [a0, bb] := K57.wr W75 (Or.inl (List.mem_of_getElem? (i := 0) rfl))
    have Zs75 : n0 ≤ h75.size := Nat.le_trans Zs57 (Keep.of_wr W75).1
    have F77 := F59.other W75 (Or.inr (slot_ne (Or.inl (hw _ (mi 19 rfl))) (Or.inl (hw _ (mi 21 rfl))) (by decide) (t := .int) (t' := .int) (by decide) (by decide)))
    have F78 : Fld Z h75 a0 "com/example/mirk/mirk/index/BitWriter" "pendingBits" "I" (.int ((pb + p2) - (8 : Int32))) := F60.same W75
    have F79 := F61.other W75 (Or.inr (slot_ne (Or.inl (hw _ (mi 28 rfl))) (Or.inl (hw _ (mi 21 rfl))) (by decide) (t := .long) (t' := .int) (by decide) (by decide)))
    have F80 := F62.other W75 (Or.inr (slot_ne (Or.inl (hw _ (mi 11 rfl))) (Or.inl (hw _ (mi 21 rfl))) (by decide) (t := (.array .byte)) (t' := .int) (by decide) (by decide)))
    have F81 := F63.other W75 (Ne.symm ne0)
    have F82 := F64.other W75 (Ne.symm ne50)
    have go83 : Go p.tables e below T75 (mkF m 102 (Lwb_0 a0 q1 p2) [(.ref a0)]) En := by
      intro t k
      refine go76 _ ?_
      refine XS.aloadN X75.here hx rfl (hb hby d4_101) rfl rfl ?_
      exact k
    obtain ⟨T84, X84, e84, st84⟩ := getF X75 hx hZ hown (host := "") (Or.inl (hw _ (mi 10 rfl))) Via.refl e75 F80 (g := (mkF m 102 (Lwb_0 a0 q1 p2) [(.ref a0)])) rfl rfl (hb hby d4_102)
    have go85 := gap go83 st84
    have go86 : Go p.tables e below T84 (mkF m 107 (Lwb_0 a0 q1 p2) [(.ref a0), (.ref a0), (.ref b49)]) En := by
      intro t k
      refine go85 _ ?_
      refine XS.aloadN X84.here hx rfl (hb hby d4_105) rfl rfl ?_
      refine XS.dup X84.here hx rfl (hb hby d4_106) rfl rfl ?_
      exact k
    obtain ⟨T87, X87, e87, st87⟩ := getF X84 hx hZ hown (host := "") (Or.inl (hw _ (mi 18 rfl))) Via.refl e84 F77 (g := (mkF m 107 (Lwb_0 a0 q1 p2) [(.ref a0), (.ref a0), (.ref b49)])) rfl rfl (hb hby d4_107)
    have go88 := gap go86 st87
    have go89 : Go p.tables e below T87 (mkF m 113 (Lwb_0 a0 q1 p2) [(.int (ln + (1 : Int32))), (.ref a0), (.int ln), (.ref b49)]) En := by
      intro t k
      refine go88 _ ?_
      refine XS.dupX1 X87.here hx rfl (hb hby d4_110) rfl rfl rfl ?_
      refine XS.iconst X87.here hx rfl (hb hby d4_111) ?_
      refine XS.iadd X87.here hx rfl (hb hby d4_112) rfl ?_
      show Steps _ _ _ (T87.setTop (mkF m 113 (Lwb_0 a0 q1 p2) [(.int (ln + (1 : Int32))), (.ref a0), (.int ln), (.ref b49)])) _
      exact k
    obtain ⟨T90, h90, X90, e90, W90, st90⟩ := putF X87 hx hZ hown (host := "") (Or.inl (hw _ (mi 18 rfl))) Via.refl e87 F77 (E0.keep K75) (Or.inl (hw _ (mi 19 rfl))) (hw _ (mi 1 rfl)) (ty := .int) (by decide) rfl rfl (g := (mkF m 113 (Lwb_0 a0 q1 p2) [(.int (ln + (1 : Int32))), (.ref a0), (.int ln), (.ref b49)])) rfl rfl (hb hby d4_113)
    have go91 := gap go89 st90
    have N90 := Fr.snoc X90 N75 ga
    have K90 : Keep h0 h90 [a0, bb] := K75.wr W90 (Or.inl (List.mem_of_getElem? (i := 0) rfl))
    have Zs90 : n0 ≤ h90.size := Nat.le_trans Zs75 (Keep.of_wr W90).1
    have F92 : Fld Z h90 a0 "com/example/mirk/mirk/index/BitWriter" "length" "I" (.int (ln + (1 : Int32))) := F77.same W90
    have F93 := F78.other W90 (Or.inr (slot_ne (Or.inl (hw _ (mi 21 rfl))) (Or.inl (hw _ (mi 19 rfl))) (by decide) (t := .int) (t' := .int) (by decide) (by decide)))
    have F94 := F79.other W90 (Or.inr (slot_ne (Or.inl (hw _ (mi 28 rfl))) (Or.inl (hw _ (mi 19 rfl))) (by decide) (t := .long) (t' := .int) (by decide) (by decide)))
    have F95 := F80.other W90 (Or.inr (slot_ne (Or.inl (hw _ (mi 11 rfl))) (Or.inl (hw _ (mi 19 rfl))) (by decide) (t := (.array .byte)) (t' := .int) (by decide) (by decide)))
    have F96 := F81.other W90 (Ne.symm ne0)
    have F97 := F82.other W90 (Ne.symm ne50)
    have go98 : Go p.tables e below T90 (mkF m 117 (Lwb_0 a0 q1 p2) [(.ref a0), (.int ln), (.ref b49)]) En := by
      intro t k
      refine go91 _ ?_
      refine XS.aloadN X90.here hx rfl (hb hby d4_116) rfl rfl ?_
      exact k
    obtain ⟨T99, X99, e99, st99⟩ := getF X90 hx hZ hown (host := "") (Or.inl (hw _ (mi 27 rfl))) Via.refl e90 F94 (g := (mkF m 117 (Lwb_0 a0 q1 p2) [(.ref a0), (.int ln), (.ref b49)])) rfl rfl (hb hby d4_117)
    have go100 := gap go98 st99
    have go101 : Go p.tables e below T99 (mkF m 121 (Lwb_0 a0 q1 p2) [(.ref a0), (.long pd1), (.int ln), (.ref b49)]) En := by
      intro t k
      refine go100 _ ?_
      refine XS.aloadN X99.here hx rfl (hb hby d4_120) rfl rfl ?_
      exact k
    obtain ⟨T102, X102, e102, st102⟩ := getF X99 hx hZ hown (host := "") (Or.inl (hw _ (mi 20 rfl))) Via.refl e99 F93 (g := (mkF m 121 (Lwb_0 a0 q1 p2) [(.ref a0), (.long pd1), (.int ln), (.ref b49)])) rfl rfl (hb hby d4_121)
    have go103 := gap go101 st102
    have go104 : Go p.tables e below T102 (mkF m 127 (Lwb_0 a0 q1 p2) [(.int ((pd1.toUInt64 >>> (((pb + p2) - (8 : Int32)) &&& 0x3f).toInt64.toUInt64).toInt64).toInt32.toInt8.toInt32), (.int ln), (.ref b49)]) En := by
      intro t k
      refine go103 _ ?_
      refine XS.lushr X102.here hx rfl (hb hby d4_124) rfl ?_
      refine XS.l2i X102.here hx rfl (hb hby d4_125) rfl ?_
      refine XS.i2b X102.here hx rfl (hb hby d4_126) rfl ?_
      show Steps _ _ _ (T102.setTop (mkF m 127 (Lwb_0 a0 q1 p2) [(.int ((pd1.toUInt64 >>> (((pb + p2) - (8 : Int32)) &&& 0x3f).toInt64.toUInt64).toInt64).toInt32.toInt8.toInt32), (.int ln), (.ref b49)])) _
      exact k
    obtain ⟨cl106, Ar106, q106, S106, N106, H106, G106⟩ := id F97
    have hin107 : ¬ ln < 0 ∧ ln < (f11 (zz * (2 : Int32)) (ln + ((pb + p2) / (8 : Int32)))) := own_sto hT0 hs69 hn1 (by decide) hcap
    obtain ⟨T105, h105, X105, e105, W105, st105⟩ := stB X102 hx hZ e102 Ar106 (j := ln) (inb_of S106 hin107) (g := (mkF m 127 (Lwb_0 a0 q1 p2) [(.int ((pd1.toUInt64 >>> (((pb + p2) - (8 : Int32)) &&& 0x3f).toInt64.toUInt64).toInt64).toInt32.toInt8.toInt32), (.int ln), (.ref b49)])) rfl rfl (hb hby d4_127)
    have go108 := gap go104 st105
    have N105 := Fr.snoc X105 N90 low49
    have K105 : Keep h0 h105 [a0, bb] := K90.wr W105 (Or.inr fsh49)
    have Zs105 : n0 ≤ h105.size := Nat.le_trans Zs90 (Keep.of_wr W105).1
    have F109 := F92.other W105 (Or.inl ne50)
    have F110 := F93.other W105 (Or.inl ne50)
    have F111 := F94.other W105 (Or.inl ne50)
    have F112 := F95.other W105 (Or.inl ne50)
    have F113 := F96.other W105 ne51
    have F114 : Arv Z h105 b49 kx49 .byte (f11 (zz * (2 : Int32)) (ln + ((pb + p2) / (8 : Int32)))) (vx49.set ln.toNatClampNeg (.int ((pd1.toUInt64 >>> (((pb + p2) - (8 : Int32)) &&& 0x3f).toInt64.toUInt64).toInt64).toInt32.toInt8.toInt32.toInt8.toInt32)) (.int 0) := Arv.set Ar106 q106 S106 N106 H106 G106 (fits_nar_byte _) W105 ln.toNatClampNeg rfl (by rw [hlen1]; exact own_tn hin107)
    obtain ⟨vt115, Vt115, hl115⟩ : ∃ w, Arv Z h105 b49 kx49 .byte (f11 (zz * (2 : Int32)) (ln + ((pb + p2) / (8 : Int32)))) w (.int 0) ∧ w.length = (f11 (zz * (2 : Int32)) (ln + ((pb + p2) / (8 : Int32)))).toNatClampNeg := ⟨_, F114, by rw [List.length_set]; exact hlen1⟩
    have hy1 := own_nn8 1 (by decide) hT0 hs69
    have hT1 := own_turn 1 (by decide) hT0 hs69 ⟨hn1, Int.le_trans hn2 hn3⟩ (by decide) h63
    have go116 : Go p.tables e below T105 (mkF m 82 (Lwb_0 a0 q1 p2) [(.ref a0)]) En := by
      intro t k
      refine go108 _ ?_
      refine XS.goto X105.here hx rfl (pc0 := 128) (pc' := 81) rfl (hb hby d4_128) (by decide) (by decide) ?_
      refine XS.aloadN X105.here hx rfl (hb hby d4_81) rfl rfl ?_
      exact k
    obtain ⟨T117, X117, e117, st117⟩ := getF X105 hx hZ hown (host := "") (Or.inl (hw _ (mi 20 rfl))) Via.refl e105 F110 (g := (mkF m 82 (Lwb_0 a0 q1 p2) [(.ref a0)])) rfl rfl (hb hby d4_82)
    have go118 := gap go116 st117
    have go119 : Go p.tables e below T117 (mkF m 87 (Lwb_0 a0 q1 p2) [(.int 8), (.int ((pb + p2) - (8 : Int32)))]) En := by
      intro t k
      refine go118 _ ?_
      refine XS.bipush X117.here hx rfl (hb hby d4_85) ?_
      exact k
    by_cases hs120 : ((pb + p2) - (8 : Int32)) < (8 : Int32)
    · have hA := own_out8 (z := (f11 (zz * (2 : Int32)) (ln + ((pb + p2) / (8 : Int32))))) hT1 hs120 (by rw [hT1.2]; exact hy1) hn1 (by decide) hcap hnc.1.2.1.2 hB1
      have hC := hnc.1.1.symm
      have go121 : Go p.tables e below T117 (mkF m 131 (Lwb_0 a0 q1 p2) []) En := by
        intro t k
        refine go119 _ ?_
        refine XS.icmpYes X117.here hx rfl (pc0 := 87) (pc' := 131) rfl (hb hby d4_87) rfl (XT.ii_lt_t hs120) (by decide) (by decide) ?_
        exact k
      refine own_outV X117 hx hlk go121 hrt (hb hby d4_131) e117 (Nat.le_of_ble_eq_true rfl) (own_z2 hcx.2.2.2.2) ?_
      exact ⟨rfl, N105, K105.1, (ln + (1 : Int32)), ((pb + p2) - (8 : Int32)), (f11 (zz * (2 : Int32)) (ln + ((pb + p2) / (8 : Int32)))), b49, _, _, pd1, (E0.keep K105), F109, F110, F111, F112, Vt115, ga, low49, ne50, hl115, hA.1, hC, hA.2⟩
    have go122 : Go p.tables e below T117 (mkF m 92 (Lwb_0 a0 q1 p2) [(.ref a0), (.ref a0)]) En := by
      intro t k
      refine go119 _ ?_
      refine XS.icmpNo X117.here hx rfl (hb hby d4_87) rfl (XT.ii_lt_f hs120) ?_
      refine XS.aloadN X117.here hx rfl (hb hby d4_90) rfl rfl ?_
      refine XS.dup X117.here hx rfl (hb hby d4_91) rfl rfl ?_
      show Steps _ _ _ (T117.setTop (mkF m 92 (Lwb_0 a0 q1 p2) [(.ref a0), (.ref a0)])) _
      exact k
    obtain ⟨T123, X123, e123, st123⟩ := getF X117 hx hZ hown (host := "") (Or.inl (hw _ (mi 20 rfl))) Via.refl e117 F110 (g := (mkF m 92 (Lwb_0 a0 q1 p2) [(.ref a0), (.ref a0)])) rfl rfl (hb hby d4_92)
    have go124 := gap go122 st123
    have go125 : Go p.tables e below T123 (mkF m 98 (Lwb_0 a0 q1 p2) [(.int (((pb + p2) - (8 : Int32)) - (8 : Int32))), (.ref a0)]) En := by
      intro t k
      refine go124 _ ?_
      refine XS.bipush X123.here hx rfl (hb hby d4_95) ?_
      refine XS.isub X123.here hx rfl (hb hby d4_97) rfl ?_
      exact k
    obtain ⟨T126, h126, X126, e126, W126, st126⟩ := putF X123 hx hZ hown (host := "") (Or.inl (hw _ (mi 20 rfl))) Via.refl e123 F110 (E0.keep K105) (Or.inl (hw _ (mi 21 rfl))) (hw _ (mi 1 rfl)) (ty := .int) (by decide) rfl rfl (g := (mkF m 98 (Lwb_0 a0 q1 p2) [(.int (((pb + p2) - (8 : Int32)) - (8 : Int32))), (.ref a0)])) rfl rfl (hb hby d4_98)
    have go127 := gap go125 st126
    have N126 := Fr.snoc X126 N105 ga
    have K126 : Keep h0 h126 [a0, bb] := K105.wr W126 (Or.inl (List.mem_of_getElem? (i := 0) rfl))
    have Zs126 : n0 ≤ h126.size := Nat.le_trans Zs105 (Keep.of_wr W126).1
    have F128 := F109.other W126 (Or.inr (slot_ne (Or.inl (hw _ (mi 19 rfl))) (Or.inl (hw _ (mi 21 rfl))) (by decide) (t := .int) (t' := .int) (by decide) (by decide)))
    have F129 : Fld Z h126 a0 "com/example/mirk/mirk/index/BitWriter" "pendingBits" "I" (.int (((pb + p2) - (8 : Int32)) - (8 : Int32))) := F110.same W126
    have F130 := F111.other W126 (Or.inr (slot_ne (Or.inl (hw _ (mi 28 rfl))) (Or.inl (hw _ (mi 21 rfl))) (by decide) (t := .long) (t' := .int) (by decide) (by decide)))
    have F131 := F112.other W126 (Or.inr (slot_ne (Or.inl (hw _ (mi 11 rfl))) (Or.inl (hw _ (mi 21 rfl))) (by decide) (t := (.array .byte)) (t' := .int) (by decide) (by decide)))
    have F132 := F113.other W126 (Ne.symm ne0)
    have F133 := Vt115.other W126 (Ne.symm ne50)
    have go134 : Go p.tables e below T126 (mkF m 102 (Lwb_0 a0 q1 p2) [(.ref a0)]) En := by
      intro t k
      refine go127 _ ?_
      refine XS.aloadN X126.here hx rfl (hb hby d4_101) rfl rfl ?_
      exact k
    obtain ⟨T135, X135, e135, st135⟩ := getF X126 hx hZ hown (host := "") (Or.inl (hw _ (mi 10 rfl))) Via.refl e126 F131 (g := (mkF m 102 (Lwb_0 a0 q1 p2) [(.ref a0)])) rfl rfl (hb hby d4_102)
    have go136 := gap go134 st135
    have go137 : Go p.tables e below T135 (mkF m 107 (Lwb_0 a0 q1 p2) [(.ref a0), (.ref a0), (.ref b49)]) En := by
      intro t k
      refine go136 _ ?_
      refine XS.aloadN X135.here hx rfl (hb hby d4_105) rfl rfl ?_
      refine XS.dup X135.here hx rfl (hb hby d4_106) rfl rfl ?_
      exact k
    obtain ⟨T138, X138, e138, st138⟩ := getF X135 hx hZ hown (host := "") (Or.inl (hw _ (mi 18 rfl))) Via.refl e135 F128 (g := (mkF m 107 (Lwb_0 a0 q1 p2) [(.ref a0), (.ref a0), (.ref b49)])) rfl rfl (hb hby d4_107)
    have go139 := gap go137 st138
    have go140 : Go p.tables e below T138 (mkF m 113 (Lwb_0 a0 q1 p2) [(.int ((ln + (1 : Int32)) + (1 : Int32))), (.ref a0), (.int (ln + (1 : Int32))), (.ref b49)]) En := by
      intro t k
      refine go139 _ ?_
      refine XS.dupX1 X138.here hx rfl (hb hby d4_110) rfl rfl rfl ?_
      refine XS.iconst X138.here hx rfl (hb hby d4_111) ?_
      refine XS.iadd X138.here hx rfl (hb hby d4_112) rfl ?_
      show Steps _ _ _ (T138.setTop (mkF m 113 (Lwb_0 a0 q1 p2) [(.int ((ln + (1 : Int32)) + (1 : Int32))), (.ref a0), (.int (ln + (1 : Int32))), (.ref b49)])) _
      exact k
    obtain ⟨T141, h141, X141, e141, W141, st141⟩ := putF X138 hx hZ hown (host := "") (Or.inl (hw _ (mi 18 rfl))) Via.refl e138 F128 (E0.keep K126) (Or.inl (hw _ (mi 19 rfl))) (hw _ (mi 1 rfl)) (ty := .int) (by decide) rfl rfl (g := (mkF m 113 (Lwb_0 a0 q1 p2) [(.int ((ln + (1 : Int32)) + (1 : Int32))), (.ref a0), (.int (ln + (1 : Int32))), (.ref b49)])) rfl rfl (hb hby d4_113)
    have go142 := gap go140 st141
    have N141 := Fr.snoc X141 N126 ga
    have K141 : Keep h0 h141 [a0, bb] := K126.wr W141 (Or.inl (List.mem_of_getElem? (i := 0) rfl))
    have Zs141 : n0 ≤ h141.size := Nat.le_trans Zs126 (Keep.of_wr W141).1
    have F143 : Fld Z h141 a0 "com/example/mirk/mirk/index/BitWriter" "length" "I" (.int ((ln + (1 : Int32)) + (1 : Int32))) := F128.same W141
    have F144 := F129.other W141 (Or.inr (slot_ne (Or.inl (hw _ (mi 21 rfl))) (Or.inl (hw _ (mi 19 rfl))) (by decide) (t := .int) (t' := .int) (by decide) (by decide)))
    have F145 := F130.other W141 (Or.inr (slot_ne (Or.inl (hw _ (mi 28 rfl))) (Or.inl (hw _ (mi 19 rfl))) (by decide) (t := .long) (t' := .int) (by decide) (by decide)))
    have F146 := F131.other W141 (Or.inr (slot_ne (Or.inl (hw _ (mi 11 rfl))) (Or.inl (hw _ (mi 19 rfl))) (by decide) (t := (.array .byte)) (t' := .int) (by decide) (by decide)))
    have F147 := F132.other W141 (Ne.symm ne0)
    have F148 := F133.other W141 (Ne.symm ne50)
    have go149 : Go p.tables e below T141 (mkF m 117 (Lwb_0 a0 q1 p2) [(.ref a0), (.int (ln + (1 : Int32))), (.ref b49)]) En := by
      intro t k
      refine go142 _ ?_
      refine XS.aloadN X141.here hx rfl (hb hby d4_116) rfl rfl ?_
      exact k
    obtain ⟨T150, X150, e150, st150⟩ := getF X141 hx hZ hown (host := "") (Or.inl (hw _ (mi 27 rfl))) Via.refl e141 F145 (g := (mkF m 117 (Lwb_0 a0 q1 p2) [(.ref a0), (.int (ln + (1 : Int32))), (.ref b49)])) rfl rfl (hb hby d4_117)
    have go151 := gap go149 st150
    have go152 : Go p.tables e below T150 (mkF m 121 (Lwb_0 a0 q1 p2) [(.ref a0), (.long pd1), (.int (ln + (1 : Int32))), (.ref b49)]) En := by
      intro t k
      refine go151 _ ?_
      refine XS.aloadN X150.here hx rfl (hb hby d4_120) rfl rfl ?_
      exact k
    obtain ⟨T153, X153, e153, st153⟩ := getF X150 hx hZ hown (host := "") (Or.inl (hw _ (mi 20 rfl))) Via.refl e150 F144 (g := (mkF m 121 (Lwb_0 a0 q1 p2) [(.ref a0), (.long pd1), (.int (ln + (1 : Int32))), (.ref b49)])) rfl rfl (hb hby d4_121)
    have go154 := gap go152 st153
    have go155 : Go p.tables e below T153 (mkF m 127 (Lwb_0 a0 q1 p2) [(.int ((pd1.toUInt64 >>> ((((pb + p2) - (8 : Int32)) - (8 : Int32)) &&& 0x3f).toInt64.toUInt64).toInt64).toInt32.toInt8.toInt32), (.int (ln + (1 : Int32))), (.ref b49)]) En := by
      intro t k
      refine go154 _ ?_
      refine XS.lushr X153.here hx rfl (hb hby d4_124) rfl ?_
      refine XS.l2i X153.here hx rfl (hb hby d4_125) rfl ?_
      refine XS.i2b X153.here hx rfl (hb hby d4_126) rfl ?_
      show Steps _ _ _ (T153.setTop (mkF m 127 (Lwb_0 a0 q1 p2) [(.int ((pd1.toUInt64 >>> ((((pb + p2) - (8 : Int32)) - (8 : Int32)) &&& 0x3f).toInt64.toUInt64).toInt64).toInt32.toInt8.toInt32), (.int (ln + (1 : Int32))), (.ref b49)])) _
      exact k
    obtain ⟨cl157, Ar157, q157, S157, N157, H157, G157⟩ := id F148
    have hin158 : ¬ (ln + (1 : Int32)) < 0 ∧ (ln + (1 : Int32)) < (f11 (zz * (2 : Int32)) (ln + ((pb + p2) / (8 : Int32)))) := own_sto hT1 hs120 hn1 (by decide) hcap
    obtain ⟨T156, h156, X156, e156, W156, st156⟩ := stB X153 hx hZ e153 Ar157 (j := (ln + (1 : Int32))) (inb_of S157 hin158) (g := (mkF m 127 (Lwb_0 a0 q1 p2) [(.int ((pd1.toUInt64 >>> ((((pb + p2) - (8 : Int32)) - (8 : Int32)) &&& 0x3f).toInt64.toUInt64).toInt64).toInt32.toInt8.toInt32), (.int (ln + (1 : Int32))), (.ref b49)])) rfl rfl (hb hby d4_127)
    have go159 := gap go155 st156
    have N156 := Fr.snoc X156 N141 low49
    have K156 : Keep h0 h156 [a0, bb] := K141.wr W156 (Or.inr fsh49)
    have Zs156 : n0 ≤ h156.size := Nat.le_trans Zs141 (Keep.of_wr W156).1
    have F160 := F143.other W156 (Or.inl ne50)
    have F161 := F144.other W156 (Or.inl ne50)
    have F162 := F145.other W156 (Or.inl ne50)
    have F163 := F146.other W156 (Or.inl ne50)
    have F164 := F147.other W156 ne51
    have F165 : Arv Z h156 b49 kx49 .byte (f11 (zz * (2 : Int32)) (ln + ((pb + p2) / (8 : Int32)))) (vt115.set (ln + (1 : Int32)).toNatClampNeg (.int ((pd1.toUInt64 >>> ((((pb + p2) - (8 : Int32)) - (8 : Int32)) &&& 0x3f).toInt64.toUInt64).toInt64).toInt32.toInt8.toInt32.toInt8.toInt32)) (.int 0) := Arv.set Ar157 q157 S157 N157 H157 G157 (fits_nar_byte _) W156 (ln + (1 : Int32)).toNatClampNeg rfl (by rw [hl115]; exact own_tn hin158)
    obtain ⟨vt166, Vt166, hl166⟩ : ∃ w, Arv Z h156 b49 kx49 .byte (f11 (zz * (2 : Int32)) (ln + ((pb + p2) / (8 : Int32)))) w (.int 0) ∧ w.length = (f11 (zz * (2 : Int32)) (ln + ((pb + p2) / (8 : Int32)))).toNatClampNeg := ⟨_, F165, by rw [List.length_set]; exact hl115⟩
    have hy2 := own_nn8 2 (by decide) hT1 hs120
    have hT2 := own_turn 2 (by decide) hT1 hs120 ⟨hn1, Int.le_trans hn2 hn3⟩ (by decide) h63
    have go167 : Go p.tables e below T156 (mkF m 82 (Lwb_0 a0 q1 p2) [(.ref a0)]) En := by
      intro t k
      refine go159 _ ?_
      refine XS.goto X156.here hx rfl (pc0 := 128) (pc' := 81) rfl (hb hby d4_128) (by decide) (by decide) ?_
      refine XS.aloadN X156.here hx rfl (hb hby d4_81) rfl rfl ?_
      exact k
    obtain ⟨T168, X168, e168, st168⟩ := getF X156 hx hZ hown (host := "") (Or.inl (hw _ (mi 20 rfl))) Via.refl e156 F161 (g := (mkF m 82 (Lwb_0 a0 q1 p2) [(.ref a0)])) rfl rfl (hb hby d4_82)
    have go169 := gap go167 st168
    have go170 : Go p.tables e below T168 (mkF m 87 (Lwb_0 a0 q1 p2) [(.int 8), (.int (((pb + p2) - (8 : Int32)) - (8 : Int32)))]) En := by
      intro t k
      refine go169 _ ?_
      refine XS.bipush X168.here hx rfl (hb hby d4_85) ?_
      exact k
    by_cases hs171 : (((pb + p2) - (8 : Int32)) - (8 : Int32)) < (8 : Int32)
    · have hA := own_out8 (z := (f11 (zz * (2 : Int32)) (ln + ((pb + p2) / (8 : Int32))))) hT2 hs171 (by rw [hT2.2]; exact hy2) hn1 (by decide) hcap hnc.1.2.1.2 hB1
      have hC := hnc.1.1.symm
      have go172 : Go p.tables e below T168 (mkF m 131 (Lwb_0 a0 q1 p2) []) En := by
        intro t k
        refine go170 _ ?_
        refine XS.icmpYes X168.here hx rfl (pc0 := 87) (pc' := 131) rfl (hb hby d4_87) rfl (XT.ii_lt_t hs171) (by decide) (by decide) ?_
        exact k
      refine own_outV X168 hx hlk go172 hrt (hb hby d4_131) e168 (Nat.le_of_ble_eq_true rfl) (own_z2 hcx.2.2.2.2) ?_
      exact ⟨rfl, N156, K156.1, ((ln + (1 : Int32)) + (1 : Int32)), (((pb + p2) - (8 : Int32)) - (8 : Int32)), (f11 (zz * (2 : Int32)) (ln + ((pb + p2) / (8 : Int32)))), b49, _, _, pd1, (E0.keep K156), F160, F161, F162, F163, Vt166, ga, low49, ne50, hl166, hA.1, hC, hA.2⟩
    have go173 : Go p.tables e below T168 (mkF m 92 (Lwb_0 a0 q1 p2) [(.ref a0), (.ref a0)]) En := by
      intro t k
      refine go170 _ ?_
      refine XS.icmpNo X168.here hx rfl (hb hby d4_87) rfl (XT.ii_lt_f hs171) ?_
      refine XS.aloadN X168.here hx rfl (hb hby d4_90) rfl rfl ?_
      refine XS.dup X168.here hx rfl (hb hby d4_91) rfl rfl ?_
      show Steps _ _ _ (T168.setTop (mkF m 92 (Lwb_0 a0 q1 p2) [(.ref a0), (.ref a0)])) _
      exact k
    obtain ⟨T174, X174, e174, st174⟩ := getF X168 hx hZ hown (host := "") (Or.inl (hw _ (mi 20 rfl))) Via.refl e168 F161 (g := (mkF m 92 (Lwb_0 a0 q1 p2) [(.ref a0), (.ref a0)])) rfl rfl (hb hby d4_92)
    have go175 := gap go173 st174
    have go176 : Go p.tables e below T174 (mkF m 98 (Lwb_0 a0 q1 p2) [(.int ((((pb + p2) - (8 : Int32)) - (8 : Int32)) - (8 : Int32))), (.ref a0)]) En := by
      intro t k
      refine go175 _ ?_
      refine XS.bipush X174.here hx rfl (hb hby d4_95) ?_
      refine XS.isub X174.here hx rfl (hb hby d4_97) rfl ?_
      exact k
    obtain ⟨T177, h177, X177, e177, W177, st177⟩ := putF X174 hx hZ hown (host := "") (Or.inl (hw _ (mi 20 rfl))) Via.refl e174 F161 (E0.keep K156) (Or.inl (hw _ (mi 21 rfl))) (hw _ (mi 1 rfl)) (ty := .int) (by decide) rfl rfl (g := (mkF m 98 (Lwb_0 a0 q1 p2) [(.int ((((pb + p2) - (8 : Int32)) - (8 : Int32)) - (8 : Int32))), (.ref a0)])) rfl rfl (hb hby d4_98)
    have go178 := gap go176 st177
    have N177 := Fr.snoc X177 N156 ga
    have K177 : Keep h0 h177 [a0, bb] := K156.wr W177 (Or.inl (List.mem_of_getElem? (i := 0) rfl))
    have Zs177 : n0 ≤ h177.size := Nat.le_trans Zs156 (Keep.of_wr W177).1
    have F179 := F160.other W177 (Or.inr (slot_ne (Or.inl (hw _ (mi 19 rfl))) (Or.inl (hw _ (mi 21 rfl))) (by decide) (t := .int) (t' := .int) (by decide) (by decide)))
    have F180 : Fld Z h177 a0 "com/example/mirk/mirk/index/BitWriter" "pendingBits" "I" (.int ((((pb + p2) - (8 : Int32)) - (8 : Int32)) - (8 : Int32))) := F161.same W177
    have F181 := F162.other W177 (Or.inr (slot_ne (Or.inl (hw _ (mi 28 rfl))) (Or.inl (hw _ (mi 21 rfl))) (by decide) (t := .long) (t' := .int) (by decide) (by decide)))
    have F182 := F163.other W177 (Or.inr (slot_ne (Or.inl (hw _ (mi 11 rfl))) (Or.inl (hw _ (mi 21 rfl))) (by decide) (t := (.array .byte)) (t' := .int) (by decide) (by decide)))
    have F183 := F164.other W177 (Ne.symm ne0)
    have F184 := Vt166.other W177 (Ne.symm ne50)
    have go185 : Go p.tables e below T177 (mkF m 102 (Lwb_0 a0 q1 p2) [(.ref a0)]) En := by
      intro t k
      refine go178 _ ?_
      refine XS.aloadN X177.here hx rfl (hb hby d4_101) rfl rfl ?_
      exact k
    obtain ⟨T186, X186, e186, st186⟩ := getF X177 hx hZ hown (host := "") (Or.inl (hw _ (mi 10 rfl))) Via.refl e177 F182 (g := (mkF m 102 (Lwb_0 a0 q1 p2) [(.ref a0)])) rfl rfl (hb hby d4_102)
    have go187 := gap go185 st186
    have go188 : Go p.tables e below T186 (mkF m 107 (Lwb_0 a0 q1 p2) [(.ref a0), (.ref a0), (.ref b49)]) En := by
      intro t k
      refine go187 _ ?_
      refine XS.aloadN X186.here hx rfl (hb hby d4_105) rfl rfl ?_
      refine XS.dup X186.here hx rfl (hb hby d4_106) rfl rfl ?_
      exact k
    obtain ⟨T189, X189, e189, st189⟩ := getF X186 hx hZ hown (host := "") (Or.inl (hw _ (mi 18 rfl))) Via.refl e186 F179 (g := (mkF m 107 (Lwb_0 a0 q1 p2) [(.ref a0), (.ref a0), (.ref b49)])) rfl rfl (hb hby d4_107)
    have go190 := gap go188 st189
    have go191 : Go p.tables e below T189 (mkF m 113 (Lwb_0 a0 q1 p2) [(.int (((ln + (1 : Int32)) + (1 : Int32)) + (1 : Int32))), (.ref a0), (.int ((ln + (1 : Int32)) + (1 : Int32))), (.ref b49)]) En := by
      intro t k
      refine go190 _ ?_
      refine XS.dupX1 X189.here hx rfl (hb hby d4_110) rfl rfl rfl ?_
      refine XS.iconst X189.here hx rfl (hb hby d4_111) ?_
      refine XS.iadd X189.here hx rfl (hb hby d4_112) rfl ?_
      show Steps _ _ _ (T189.setTop (mkF m 113 (Lwb_0 a0 q1 p2) [(.int (((ln + (1 : Int32)) + (1 : Int32)) + (1 : Int32))), (.ref a0), (.int ((ln + (1 : Int32)) + (1 : Int32))), (.ref b49)])) _
      exact k
    obtain ⟨T192, h192, X192, e192, W192, st192⟩ := putF X189 hx hZ hown (host := "") (Or.inl (hw _ (mi 18 rfl))) Via.refl e189 F179 (E0.keep K177) (Or.inl (hw _ (mi 19 rfl))) (hw _ (mi 1 rfl)) (ty := .int) (by decide) rfl rfl (g := (mkF m 113 (Lwb_0 a0 q1 p2) [(.int (((ln + (1 : Int32)) + (1 : Int32)) + (1 : Int32))), (.ref a0), (.int ((ln + (1 : Int32)) + (1 : Int32))), (.ref b49)])) rfl rfl (hb hby d4_113)
    have go193 := gap go191 st192
    have N192 := Fr.snoc X192 N177 ga
    have K192 : Keep h0 h192 [a0, bb] := K177.wr W192 (Or.inl (List.mem_of_getElem? (i := 0) rfl))
    have Zs192 : n0 ≤ h192.size := Nat.le_trans Zs177 (Keep.of_wr W192).1
    have F194 : Fld Z h192 a0 "com/example/mirk/mirk/index/BitWriter" "length" "I" (.int (((ln + (1 : Int32)) + (1 : Int32)) + (1 : Int32))) := F179.same W192
    have F195 := F180.other W192 (Or.inr (slot_ne (Or.inl (hw _ (mi 21 rfl))) (Or.inl (hw _ (mi 19 rfl))) (by decide) (t := .int) (t' := .int) (by decide) (by decide)))
    have F196 := F181.other W192 (Or.inr (slot_ne (Or.inl (hw _ (mi 28 rfl))) (Or.inl (hw _ (mi 19 rfl))) (by decide) (t := .long) (t' := .int) (by decide) (by decide)))
    have F197 := F182.other W192 (Or.inr (slot_ne (Or.inl (hw _ (mi 11 rfl))) (Or.inl (hw _ (mi 19 rfl))) (by decide) (t := (.array .byte)) (t' := .int) (by decide) (by decide)))
    have F198 := F183.other W192 (Ne.symm ne0)
    have F199 := F184.other W192 (Ne.symm ne50)
    have go200 : Go p.tables e below T192 (mkF m 117 (Lwb_0 a0 q1 p2) [(.ref a0), (.int ((ln + (1 : Int32)) + (1 : Int32))), (.ref b49)]) En := by
      intro t k
      refine go193 _ ?_
      refine XS.aloadN X192.here hx rfl (hb hby d4_116) rfl rfl ?_
      exact k
    obtain ⟨T201, X201, e201, st201⟩ := getF X192 hx hZ hown (host := "") (Or.inl (hw _ (mi 27 rfl))) Via.refl e192 F196 (g := (mkF m 117 (Lwb_0 a0 q1 p2) [(.ref a0), (.int ((ln + (1 : Int32)) + (1 : Int32))), (.ref b49)])) rfl rfl (hb hby d4_117)
    have go202 := gap go200 st201
    have go203 : Go p.tables e below T201 (mkF m 121 (Lwb_0 a0 q1 p2) [(.ref a0), (.long pd1), (.int ((ln + (1 : Int32)) + (1 : Int32))), (.ref b49)]) En := by
      intro t k
      refine go202 _ ?_
      refine XS.aloadN X201.here hx rfl (hb hby d4_120) rfl rfl ?_
      exact k
    obtain ⟨T204, X204, e204, st204⟩ := getF X201 hx hZ hown (host := "") (Or.inl (hw _ (mi 20 rfl))) Via.refl e201 F195 (g := (mkF m 121 (Lwb_0 a0 q1 p2) [(.ref a0), (.long pd1), (.int ((ln + (1 : Int32)) + (1 : Int32))), (.ref b49)])) rfl rfl (hb hby d4_121)
    have go205 := gap go203 st204
    have go206 : Go p.tables e below T204 (mkF m 127 (Lwb_0 a0 q1 p2) [(.int ((pd1.toUInt64 >>> (((((pb + p2) - (8 : Int32)) - (8 : Int32)) - (8 : Int32)) &&& 0x3f).toInt64.toUInt64).toInt64).toInt32.toInt8.toInt32), (.int ((ln + (1 : Int32)) + (1 : Int32))), (.ref b49)]) En := by
      intro t k
      refine go205 _ ?_
      refine XS.lushr X204.here hx rfl (hb hby d4_124) rfl ?_
      refine XS.l2i X204.here hx rfl (hb hby d4_125) rfl ?_
      refine XS.i2b X204.here hx rfl (hb hby d4_126) rfl ?_
      show Steps _ _ _ (T204.setTop (mkF m 127 (Lwb_0 a0 q1 p2) [(.int ((pd1.toUInt64 >>> (((((pb + p2) - (8 : Int32)) - (8 : Int32)) - (8 : Int32)) &&& 0x3f).toInt64.toUInt64).toInt64).toInt32.toInt8.toInt32), (.int ((ln + (1 : Int32)) + (1 : Int32))), (.ref b49)])) _
      exact k
    obtain ⟨cl208, Ar208, q208, S208, N208, H208, G208⟩ := id F199
    have hin209 : ¬ ((ln + (1 : Int32)) + (1 : Int32)) < 0 ∧ ((ln + (1 : Int32)) + (1 : Int32)) < (f11 (zz * (2 : Int32)) (ln + ((pb + p2) / (8 : Int32)))) := own_sto hT2 hs171 hn1 (by decide) hcap
    obtain ⟨T207, h207, X207, e207, W207, st207⟩ := stB X204 hx hZ e204 Ar208 (j := ((ln + (1 : Int32)) + (1 : Int32))) (inb_of S208 hin209) (g := (mkF m 127 (Lwb_0 a0 q1 p2) [(.int ((pd1.toUInt64 >>> (((((pb + p2) - (8 : Int32)) - (8 : Int32)) - (8 : Int32)) &&& 0x3f).toInt64.toUInt64).toInt64).toInt32.toInt8.toInt32), (.int ((ln + (1 : Int32)) + (1 : Int32))), (.ref b49)])) rfl rfl (hb hby d4_127)
    have go210 := gap go206 st207
    have N207 := Fr.snoc X207 N192 low49
    have K207 : Keep h0 h207 [a0, bb] := K192.wr W207 (Or.inr fsh49)
    have Zs207 : n0 ≤ h207.size := Nat.le_trans Zs192 (Keep.of_wr W207).1
    have F211 := F194.other W207 (Or.inl ne50)
    have F212 := F195.other W207 (Or.inl ne50)
    have F213 := F196.other W207 (Or.inl ne50)
    have F214 := F197.other W207 (Or.inl ne50)
    have F215 := F198.other W207 ne51
    have F216 : Arv Z h207 b49 kx49 .byte (f11 (zz * (2 : Int32)) (ln + ((pb + p2) / (8 : Int32)))) (vt166.set ((ln + (1 : Int32)) + (1 : Int32)).toNatClampNeg (.int ((pd1.toUInt64 >>> (((((pb + p2) - (8 : Int32)) - (8 : Int32)) - (8 : Int32)) &&& 0x3f).toInt64.toUInt64).toInt64).toInt32.toInt8.toInt32.toInt8.toInt32)) (.int 0) := Arv.set Ar208 q208 S208 N208 H208 G208 (fits_nar_byte _) W207 ((ln + (1 : Int32)) + (1 : Int32)).toNatClampNeg rfl (by rw [hl166]; exact own_tn hin209)
    obtain ⟨vt217, Vt217, hl217⟩ : ∃ w, Arv Z h207 b49 kx49 .byte (f11 (zz * (2 : Int32)) (ln + ((pb + p2) / (8 : Int32)))) w (.int 0) ∧ w.length = (f11 (zz * (2 : Int32)) (ln + ((pb + p2) / (8 : Int32)))).toNatClampNeg := ⟨_, F216, by rw [List.length_set]; exact hl166⟩
    have hy3 := own_nn8 3 (by decide) hT2 hs171
    have hT3 := own_turn 3 (by decide) hT2 hs171 ⟨hn1, Int.le_trans hn2 hn3⟩ (by decide) h63
    have go218 : Go p.tables e below T207 (mkF m 82 (Lwb_0 a0 q1 p2) [(.ref a0)]) En := by
      intro t k
      refine go210 _ ?_
      refine XS.goto X207.here hx rfl (pc0 := 128) (pc' := 81) rfl (hb hby d4_128) (by decide) (by decide) ?_
      refine XS.aloadN X207.here hx rfl (hb hby d4_81) rfl rfl ?_
      exact k
    obtain ⟨T219, X219, e219, st219⟩ := getF X207 hx hZ hown (host := "") (Or.inl (hw _ (mi 20 rfl))) Via.refl e207 F212 (g := (mkF m 82 (Lwb_0 a0 q1 p2) [(.ref a0)])) rfl rfl (hb hby d4_82)
    have go220 := gap go218 st219
    have go221 : Go p.tables e below T219 (mkF m 87 (Lwb_0 a0 q1 p2) [(.int 8), (.int ((((pb + p2) - (8 : Int32)) - (8 : Int32)) - (8 : Int32)))]) En := by
      intro t k
      refine go220 _ ?_
      refine XS.bipush X219.here hx rfl (hb hby d4_85) ?_
      exact k
    by_cases hs222 : ((((pb + p2) - (8 : Int32)) - (8 : Int32)) - (8 : Int32)) < (8 : Int32)
    · have hA := own_out8 (z := (f11 (zz * (2 : Int32)) (ln + ((pb + p2) / (8 : Int32))))) hT3 hs222 (by rw [hT3.2]; exact hy3) hn1 (by decide) hcap hnc.1.2.1.2 hB1
      have hC := hnc.1.1.symm
      have go223 : Go p.tables e below T219 (mkF m 131 (Lwb_0 a0 q1 p2) []) En := by
        intro t k
        refine go221 _ ?_
        refine XS.icmpYes X219.here hx rfl (pc0 := 87) (pc' := 131) rfl (hb hby d4_87) rfl (XT.ii_lt_t hs222) (by decide) (by decide) ?_
        exact k
      refine own_outV X219 hx hlk go223 hrt (hb hby d4_131) e219 (Nat.le_of_ble_eq_true rfl) (own_z2 hcx.2.2.2.2) ?_
      exact ⟨rfl, N207, K207.1, (((ln + (1 : Int32)) + (1 : Int32)) + (1 : Int32)), ((((pb + p2) - (8 : Int32)) - (8 : Int32)) - (8 : Int32)), (f11 (zz * (2 : Int32)) (ln + ((pb + p2) / (8 : Int32)))), b49, _, _, pd1, (E0.keep K207), F211, F212, F213, F214, Vt217, ga, low49, ne50, hl217, hA.1, hC, hA.2⟩
    have go224 : Go p.tables e below T219 (mkF m 92 (Lwb_0 a0 q1 p2) [(.ref a0), (.ref a0)]) En := by
      intro t k
      refine go221 _ ?_
      refine XS.icmpNo X219.here hx rfl (hb hby d4_87) rfl (XT.ii_lt_f hs222) ?_
      refine XS.aloadN X219.here hx rfl (hb hby d4_90) rfl rfl ?_
      refine XS.dup X219.here hx rfl (hb hby d4_91) rfl rfl ?_
      show Steps _ _ _ (T219.setTop (mkF m 92 (Lwb_0 a0 q1 p2) [(.ref a0), (.ref a0)])) _
      exact k
    obtain ⟨T225, X225, e225, st225⟩ := getF X219 hx hZ hown (host := "") (Or.inl (hw _ (mi 20 rfl))) Via.refl e219 F212 (g := (mkF m 92 (Lwb_0 a0 q1 p2) [(.ref a0), (.ref a0)])) rfl rfl (hb hby d4_92)
    have go226 := gap go224 st225
    have go227 : Go p.tables e below T225 (mkF m 98 (Lwb_0 a0 q1 p2) [(.int (((((pb + p2) - (8 : Int32)) - (8 : Int32)) - (8 : Int32)) - (8 : Int32))), (.ref a0)]) En := by
      intro t k
      refine go226 _ ?_
      refine XS.bipush X225.here hx rfl (hb hby d4_95) ?_
      refine XS.isub X225.here hx rfl (hb hby d4_97) rfl ?_
      exact k
    obtain ⟨T228, h228, X228, e228, W228, st228⟩ := putF X225 hx hZ hown (host := "") (Or.inl (hw _ (mi 20 rfl))) Via.refl e225 F212 (E0.keep K207) (Or.inl (hw _ (mi 21 rfl))) (hw _ (mi 1 rfl)) (ty := .int) (by decide) rfl rfl (g := (mkF m 98 (Lwb_0 a0 q1 p2) [(.int (((((pb + p2) - (8 : Int32)) - (8 : Int32)) - (8 : Int32)) - (8 : Int32))), (.ref a0)])) rfl rfl (hb hby d4_98)
    have go229 := gap go227 st228
    have N228 := Fr.snoc X228 N207 ga
    have K228 : Keep h0 h228 [a0, bb] := K207.wr W228 (Or.inl (List.mem_of_getElem? (i := 0) rfl))
    have Zs228 : n0 ≤ h228.size := Nat.le_trans Zs207 (Keep.of_wr W228).1
    have F230 := F211.other W228 (Or.inr (slot_ne (Or.inl (hw _ (mi 19 rfl))) (Or.inl (hw _ (mi 21 rfl))) (by decide) (t := .int) (t' := .int) (by decide) (by decide)))
    have F231 : Fld Z h228 a0 "com/example/mirk/mirk/index/BitWriter" "pendingBits" "I" (.int (((((pb + p2) - (8 : Int32)) - (8 : Int32)) - (8 : Int32)) - (8 : Int32))) := F212.same W228
    have F232 := F213.other W228 (Or.inr (slot_ne (Or.inl (hw _ (mi 28 rfl))) (Or.inl (hw _ (mi 21 rfl))) (by decide) (t := .long) (t' := .int) (by decide) (by decide)))
    have F233 := F214.other W228 (Or.inr (slot_ne (Or.inl (hw _ (mi 11 rfl))) (Or.inl (hw _ (mi 21 rfl))) (by decide) (t := (.array .byte)) (t' := .int) (by decide) (by decide)))
    have F234 := F215.other W228 (Ne.symm ne0)
    have F235 := Vt217.other W228 (Ne.symm ne50)
    have go236 : Go p.tables e below T228 (mkF m 102 (Lwb_0 a0 q1 p2) [(.ref a0)]) En := by
      intro t k
      refine go229 _ ?_
      refine XS.aloadN X228.here hx rfl (hb hby d4_101) rfl rfl ?_
      exact k
    obtain ⟨T237, X237, e237, st237⟩ := getF X228 hx hZ hown (host := "") (Or.inl (hw _ (mi 10 rfl))) Via.refl e228 F233 (g := (mkF m 102 (Lwb_0 a0 q1 p2) [(.ref a0)])) rfl rfl (hb hby d4_102)
    have go238 := gap go236 st237
    have go239 : Go p.tables e below T237 (mkF m 107 (Lwb_0 a0 q1 p2) [(.ref a0), (.ref a0), (.ref b49)]) En := by
      intro t k
      refine go238 _ ?_
      refine XS.aloadN X237.here hx rfl (hb hby d4_105) rfl rfl ?_
      refine XS.dup X237.here hx rfl (hb hby d4_106) rfl rfl ?_
      exact k
    obtain ⟨T240, X240, e240, st240⟩ := getF X237 hx hZ hown (host := "") (Or.inl (hw _ (mi 18 rfl))) Via.refl e237 F230 (g := (mkF m 107 (Lwb_0 a0 q1 p2) [(.ref a0), (.ref a0), (.ref b49)])) rfl rfl (hb hby d4_107)
    have go241 := gap go239 st240
    have go242 : Go p.tables e below T240 (mkF m 113 (Lwb_0 a0 q1 p2) [(.int ((((ln + (1 : Int32)) + (1 : Int32)) + (1 : Int32)) + (1 : Int32))), (.ref a0), (.int (((ln + (1 : Int32)) + (1 : Int32)) + (1 : Int32))), (.ref b49)]) En := by
      intro t k
      refine go241 _ ?_
      refine XS.dupX1 X240.here hx rfl (hb hby d4_110) rfl rfl rfl ?_
      refine XS.iconst X240.here hx rfl (hb hby d4_111) ?_
      refine XS.iadd X240.here hx rfl (hb hby d4_112) rfl ?_
      show Steps _ _ _ (T240.setTop (mkF m 113 (Lwb_0 a0 q1 p2) [(.int ((((ln + (1 : Int32)) + (1 : Int32)) + (1 : Int32)) + (1 : Int32))), (.ref a0), (.int (((ln + (1 : Int32)) + (1 : Int32)) + (1 : Int32))), (.ref b49)])) _
      exact k
    obtain ⟨T243, h243, X243, e243, W243, st243⟩ := putF X240 hx hZ hown (host := "") (Or.inl (hw _ (mi 18 rfl))) Via.refl e240 F230 (E0.keep K228) (Or.inl (hw _ (mi 19 rfl))) (hw _ (mi 1 rfl)) (ty := .int) (by decide) rfl rfl (g := (mkF m 113 (Lwb_0 a0 q1 p2) [(.int ((((ln + (1 : Int32)) + (1 : Int32)) + (1 : Int32)) + (1 : Int32))), (.ref a0), (.int (((ln + (1 : Int32)) + (1 : Int32)) + (1 : Int32))), (.ref b49)])) rfl rfl (hb hby d4_113)
    have go244 := gap go242 st243
    have N243 := Fr.snoc X243 N228 ga
    have K243 : Keep h0 h243 [a0, bb] := K228.wr W243 (Or.inl (List.mem_of_getElem? (i := 0) rfl))
    have Zs243 : n0 ≤ h243.size := Nat.le_trans Zs228 (Keep.of_wr W243).1
    have F245 : Fld Z h243 a0 "com/example/mirk/mirk/index/BitWriter" "length" "I" (.int ((((ln + (1 : Int32)) + (1 : Int32)) + (1 : Int32)) + (1 : Int32))) := F230.same W243
    have F246 := F231.other W243 (Or.inr (slot_ne (Or.inl (hw _ (mi 21 rfl))) (Or.inl (hw _ (mi 19 rfl))) (by decide) (t := .int) (t' := .int) (by decide) (by decide)))
    have F247 := F232.other W243 (Or.inr (slot_ne (Or.inl (hw _ (mi 28 rfl))) (Or.inl (hw _ (mi 19 rfl))) (by decide) (t := .long) (t' := .int) (by decide) (by decide)))
    have F248 := F233.other W243 (Or.inr (slot_ne (Or.inl (hw _ (mi 11 rfl))) (Or.inl (hw _ (mi 19 rfl))) (by decide) (t := (.array .byte)) (t' := .int) (by decide) (by decide)))
    have F249 := F234.other W243 (Ne.symm ne0)
    have F250 := F235.other W243 (Ne.symm ne50)
    have go251 : Go p.tables e below T243 (mkF m 117 (Lwb_0 a0 q1 p2) [(.ref a0), (.int (((ln + (1 : Int32)) + (1 : Int32)) + (1 : Int32))), (.ref b49)]) En := by
      intro t k
      refine go244 _ ?_
      refine XS.aloadN X243.here hx rfl (hb hby d4_116) rfl rfl ?_
      exact k
    obtain ⟨T252, X252, e252, st252⟩ := getF X243 hx hZ hown (host := "") (Or.inl (hw _ (mi 27 rfl))) Via.refl e243 F247 (g := (mkF m 117 (Lwb_0 a0 q1 p2) [(.ref a0), (.int (((ln + (1 : Int32)) + (1 : Int32)) + (1 : Int32))), (.ref b49)])) rfl rfl (hb hby d4_117)
    have go253 := gap go251 st252
    have go254 : Go p.tables e below T252 (mkF m 121 (Lwb_0 a0 q1 p2) [(.ref a0), (.long pd1), (.int (((ln + (1 : Int32)) + (1 : Int32)) + (1 : Int32))), (.ref b49)]) En := by
      intro t k
      refine go253 _ ?_
      refine XS.aloadN X252.here hx rfl (hb hby d4_120) rfl rfl ?_
      exact k
    obtain ⟨T255, X255, e255, st255⟩ := getF X252 hx hZ hown (host := "") (Or.inl (hw _ (mi 20 rfl))) Via.refl e252 F246 (g := (mkF m 121 (Lwb_0 a0 q1 p2) [(.ref a0), (.long pd1), (.int (((ln + (1 : Int32)) + (1 : Int32)) + (1 : Int32))), (.ref b49)])) rfl rfl (hb hby d4_121)
    have go256 := gap go254 st255
    have go257 : Go p.tables e below T255 (mkF m 127 (Lwb_0 a0 q1 p2) [(.int ((pd1.toUInt64 >>> ((((((pb + p2) - (8 : Int32)) - (8 : Int32)) - (8 : Int32)) - (8 : Int32)) &&& 0x3f).toInt64.toUInt64).toInt64).toInt32.toInt8.toInt32), (.int (((ln + (1 : Int32)) + (1 : Int32)) + (1 : Int32))), (.ref b49)]) En := by
      intro t k
      refine go256 _ ?_
      refine XS.lushr X255.here hx rfl (hb hby d4_124) rfl ?_
      refine XS.l2i X255.here hx rfl (hb hby d4_125) rfl ?_
      refine XS.i2b X255.here hx rfl (hb hby d4_126) rfl ?_
      show Steps _ _ _ (T255.setTop (mkF m 127 (Lwb_0 a0 q1 p2) [(.int ((pd1.toUInt64 >>> ((((((pb + p2) - (8 : Int32)) - (8 : Int32)) - (8 : Int32)) - (8 : Int32)) &&& 0x3f).toInt64.toUInt64).toInt64).toInt32.toInt8.toInt32), (.int (((ln + (1 : Int32)) + (1 : Int32)) + (1 : Int32))), (.ref b49)])) _
      exact k
    obtain ⟨cl259, Ar259, q259, S259, N259, H259, G259⟩ := id F250
    have hin260 : ¬ (((ln + (1 : Int32)) + (1 : Int32)) + (1 : Int32)) < 0 ∧ (((ln + (1 : Int32)) + (1 : Int32)) + (1 : Int32)) < (f11 (zz * (2 : Int32)) (ln + ((pb + p2) / (8 : Int32)))) := own_sto hT3 hs222 hn1 (by decide) hcap
    obtain ⟨T258, h258, X258, e258, W258, st258⟩ := stB X255 hx hZ e255 Ar259 (j := (((ln + (1 : Int32)) + (1 : Int32)) + (1 : Int32))) (inb_of S259 hin260) (g := (mkF m 127 (Lwb_0 a0 q1 p2) [(.int ((pd1.toUInt64 >>> ((((((pb + p2) - (8 : Int32)) - (8 : Int32)) - (8 : Int32)) - (8 : Int32)) &&& 0x3f).toInt64.toUInt64).toInt64).toInt32.toInt8.toInt32), (.int (((ln + (1 : Int32)) + (1 : Int32)) + (1 : Int32))), (.ref b49)])) rfl rfl (hb hby d4_127)
    have go261 := gap go257 st258
    have N258 := Fr.snoc X258 N243 low49
    have K258 : Keep h0 h258 [a0, bb] := K243.wr W258 (Or.inr fsh49)
    have Zs258 : n0 ≤ h258.size := Nat.le_trans Zs243 (Keep.of_wr W258).1
    have F262 := F245.other W258 (Or.inl ne50)
    have F263 := F246.other W258 (Or.inl ne50)
    have F264 := F247.other W258 (Or.inl ne50)
    have F265 := F248.other W258 (Or.inl ne50)
    have F266 := F249.other W258 ne51
    have F267 : Arv Z h258 b49 kx49 .byte (f11 (zz * (2 : Int32)) (ln + ((pb + p2) / (8 : Int32)))) (vt217.set (((ln + (1 : Int32)) + (1 : Int32)) + (1 : Int32)).toNatClampNeg (.int ((pd1.toUInt64 >>> ((((((pb + p2) - (8 : Int32)) - (8 : Int32)) - (8 : Int32)) - (8 : Int32)) &&& 0x3f).toInt64.toUInt64).toInt64).toInt32.toInt8.toInt32.toInt8.toInt32)) (.int 0) := Arv.set Ar259 q259 S259 N259 H259 G259 (fits_nar_byte _) W258 (((ln + (1 : Int32)) + (1 : Int32)) + (1 : Int32)).toNatClampNeg rfl (by rw [hl217]; exact own_tn hin260)
    obtain ⟨vt268, Vt268, hl268⟩ : ∃ w, Arv Z h258 b49 kx49 .byte (f11 (zz * (2 : Int32)) (ln + ((pb + p2) / (8 : Int32)))) w (.int 0) ∧ w.length = (f11 (zz * (2 : Int32)) (ln + ((pb + p2) / (8 : Int32)))).toNatClampNeg := ⟨_, F267, by rw [List.length_set]; exact hl217⟩
    have hy4 := own_nn8 4 (by decide) hT3 hs222
    have hT4 := own_turn 4 (by decide) hT3 hs222 ⟨hn1, Int.le_trans hn2 hn3⟩ (by decide) h63
    have go269 : Go p.tables e below T258 (mkF m 82 (Lwb_0 a0 q1 p2) [(.ref a0)]) En := by
      intro t k
      refine go261 _ ?_
      refine XS.goto X258.here hx rfl (pc0 := 128) (pc' := 81) rfl (hb hby d4_128) (by decide) (by decide) ?_
      refine XS.aloadN X258.here hx rfl (hb hby d4_81) rfl rfl ?_
      exact k
    obtain ⟨T270, X270, e270, st270⟩ := getF X258 hx hZ hown (host := "") (Or.inl (hw _ (mi 20 rfl))) Via.refl e258 F263 (g := (mkF m 82 (Lwb_0 a0 q1 p2) [(.ref a0)])) rfl rfl (hb hby d4_82)
    have go271 := gap go269 st270
    have go272 : Go p.tables e below T270 (mkF m 87 (Lwb_0 a0 q1 p2) [(.int 8), (.int (((((pb + p2) - (8 : Int32)) - (8 : Int32)) - (8 : Int32)) - (8 : Int32)))]) En := by
      intro t k
      refine go271 _ ?_
      refine XS.bipush X270.here hx rfl (hb hby d4_85) ?_
      exact k
    by_cases hs273 : (((((pb + p2) - (8 : Int32)) - (8 : Int32)) - (8 : Int32)) - (8 : Int32)) < (8 : Int32)
    · have hA := own_out8 (z := (f11 (zz * (2 : Int32)) (ln + ((pb + p2) / (8 : Int32))))) hT4 hs273 (by rw [hT4.2]; exact hy4) hn1 (by decide) hcap hnc.1.2.1.2 hB1
      have hC := hnc.1.1.symm
      have go274 : Go p.tables e below T270 (mkF m 131 (Lwb_0 a0 q1 p2) []) En := by
        intro t k
        refine go272 _ ?_
        refine XS.icmpYes X270.here hx rfl (pc0 := 87) (pc' := 131) rfl (hb hby d4_87) rfl (XT.ii_lt_t hs273) (by decide) (by decide) ?_
        exact k
      refine own_outV X270 hx hlk go274 hrt (hb hby d4_131) e270 (Nat.le_of_ble_eq_true rfl) (own_z2 hcx.2.2.2.2) ?_
      exact ⟨rfl, N258, K258.1, ((((ln + (1 : Int32)) + (1 : Int32)) + (1 : Int32)) + (1 : Int32)), (((((pb + p2) - (8 : Int32)) - (8 : Int32)) - (8 : Int32)) - (8 : Int32)), (f11 (zz * (2 : Int32)) (ln + ((pb + p2) / (8 : Int32)))), b49, _, _, pd1, (E0.keep K258), F262, F263, F264, F265, Vt268, ga, low49, ne50, hl268, hA.1, hC, hA.2⟩
    have go275 : Go p.tables e below T270 (mkF m 92 (Lwb_0 a0 q1 p2) [(.ref a0), (.ref a0)]) En := by
      intro t k
      refine go272 _ ?_
      refine XS.icmpNo X270.here hx rfl (hb hby d4_87) rfl (XT.ii_lt_f hs273) ?_
      refine XS.aloadN X270.here hx rfl (hb hby d4_90) rfl rfl ?_
      refine XS.dup X270.here hx rfl (hb hby d4_91) rfl rfl ?_
      show Steps _ _ _ (T270.setTop (mkF m 92 (Lwb_0 a0 q1 p2) [(.ref a0), (.ref a0)])) _
      exact k
    obtain ⟨T276, X276, e276, st276⟩ := getF X270 hx hZ hown (host := "") (Or.inl (hw _ (mi 20 rfl))) Via.refl e270 F263 (g := (mkF m 92 (Lwb_0 a0 q1 p2) [(.ref a0), (.ref a0)])) rfl rfl (hb hby d4_92)
    have go277 := gap go275 st276
    have go278 : Go p.tables e below T276 (mkF m 98 (Lwb_0 a0 q1 p2) [(.int ((((((pb + p2) - (8 : Int32)) - (8 : Int32)) - (8 : Int32)) - (8 : Int32)) - (8 : Int32))), (.ref a0)]) En := by
      intro t k
      refine go277 _ ?_
      refine XS.bipush X276.here hx rfl (hb hby d4_95) ?_
      refine XS.isub X276.here hx rfl (hb hby d4_97) rfl ?_
      exact k
    obtain ⟨T279, h279, X279, e279, W279, st279⟩ := putF X276 hx hZ hown (host := "") (Or.inl (hw _ (mi 20 rfl))) Via.refl e276 F263 (E0.keep K258) (Or.inl (hw _ (mi 21 rfl))) (hw _ (mi 1 rfl)) (ty := .int) (by decide) rfl rfl (g := (mkF m 98 (Lwb_0 a0 q1 p2) [(.int ((((((pb + p2) - (8 : Int32)) - (8 : Int32)) - (8 : Int32)) - (8 : Int32)) - (8 : Int32))), (.ref a0)])) rfl rfl (hb hby d4_98)
    have go280 := gap go278 st279
    have N279 := Fr.snoc X279 N258 ga
    have K279 : Keep h0 h279 [a0, bb] := K258.wr W279 (Or.inl (List.mem_of_getElem? (i := 0) rfl))
    have Zs279 : n0 ≤ h279.size := Nat.le_trans Zs258 (Keep.of_wr W279).1
    have F281 := F262.other W279 (Or.inr (slot_ne (Or.inl (hw _ (mi 19 rfl))) (Or.inl (hw _ (mi 21 rfl))) (by decide) (t := .int) (t' := .int) (by decide) (by decide)))
    have F282 : Fld Z h279 a0 "com/example/mirk/mirk/index/BitWriter" "pendingBits" "I" (.int ((((((pb + p2) - (8 : Int32)) - (8 : Int32)) - (8 : Int32)) - (8 : Int32)) - (8 : Int32))) := F263.same W279
    have F283 := F264.other W279 (Or.inr (slot_ne (Or.inl (hw _ (mi 28 rfl))) (Or.inl (hw _ (mi 21 rfl))) (by decide) (t := .long) (t' := .int) (by decide) (by decide)))
    have F284 := F265.other W279 (Or.inr (slot_ne (Or.inl (hw _ (mi 11 rfl))) (Or.inl (hw _ (mi 21 rfl))) (by decide) (t := (.array .byte)) (t' := .int) (by decide) (by decide)))
    have F285 := F266.other W279 (Ne.symm ne0)
    have F286 := Vt268.other W279 (Ne.symm ne50)
    have go287 : Go p.tables e below T279 (mkF m 102 (Lwb_0 a0 q1 p2) [(.ref a0)]) En := by
      intro t k
      refine go280 _ ?_
      refine XS.aloadN X279.here hx rfl (hb hby d4_101) rfl rfl ?_
      exact k
    obtain ⟨T288, X288, e288, st288⟩ := getF X279 hx hZ hown (host := "") (Or.inl (hw _ (mi 10 rfl))) Via.refl e279 F284 (g := (mkF m 102 (Lwb_0 a0 q1 p2) [(.ref a0)])) rfl rfl (hb hby d4_102)
    have go289 := gap go287 st288
    have go290 : Go p.tables e below T288 (mkF m 107 (Lwb_0 a0 q1 p2) [(.ref a0), (.ref a0), (.ref b49)]) En := by
      intro t k
      refine go289 _ ?_
      refine XS.aloadN X288.here hx rfl (hb hby d4_105) rfl rfl ?_
      refine XS.dup X288.here hx rfl (hb hby d4_106) rfl rfl ?_
      exact k
    obtain ⟨T291, X291, e291, st291⟩ := getF X288 hx hZ hown (host := "") (Or.inl (hw _ (mi 18 rfl))) Via.refl e288 F281 (g := (mkF m 107 (Lwb_0 a0 q1 p2) [(.ref a0), (.ref a0), (.ref b49)])) rfl rfl (hb hby d4_107)
    have go292 := gap go290 st291
    have go293 : Go p.tables e below T291 (mkF m 113 (Lwb_0 a0 q1 p2) [(.int (((((ln + (1 : Int32)) + (1 : Int32)) + (1 : Int32)) + (1 : Int32)) + (1 : Int32))), (.ref a0), (.int ((((ln + (1 : Int32)) + (1 : Int32)) + (1 : Int32)) + (1 : Int32))), (.ref b49)]) En := by
      intro t k
      refine go292 _ ?_
      refine XS.dupX1 X291.here hx rfl (hb hby d4_110) rfl rfl rfl ?_
      refine XS.iconst X291.here hx rfl (hb hby d4_111) ?_
      refine XS.iadd X291.here hx rfl (hb hby d4_112) rfl ?_
      show Steps _ _ _ (T291.setTop (mkF m 113 (Lwb_0 a0 q1 p2) [(.int (((((ln + (1 : Int32)) + (1 : Int32)) + (1 : Int32)) + (1 : Int32)) + (1 : Int32))), (.ref a0), (.int ((((ln + (1 : Int32)) + (1 : Int32)) + (1 : Int32)) + (1 : Int32))), (.ref b49)])) _
      exact k
    obtain ⟨T294, h294, X294, e294, W294, st294⟩ := putF X291 hx hZ hown (host := "") (Or.inl (hw _ (mi 18 rfl))) Via.refl e291 F281 (E0.keep K279) (Or.inl (hw _ (mi 19 rfl))) (hw _ (mi 1 rfl)) (ty := .int) (by decide) rfl rfl (g := (mkF m 113 (Lwb_0 a0 q1 p2) [(.int (((((ln + (1 : Int32)) + (1 : Int32)) + (1 : Int32)) + (1 : Int32)) + (1 : Int32))), (.ref a0), (.int ((((ln + (1 : Int32)) + (1 : Int32)) + (1 : Int32)) + (1 : Int32))), (.ref b49)])) rfl rfl (hb hby d4_113)
    have go295 := gap go293 st294
    have N294 := Fr.snoc X294 N279 ga
    have K294 : Keep h0 h294 [a0, bb] := K279.wr W294 (Or.inl (List.mem_of_getElem? (i := 0) rfl))
    have Zs294 : n0 ≤ h294.size := Nat.le_trans Zs279 (Keep.of_wr W294).1
    have F296 : Fld Z h294 a0 "com/example/mirk/mirk/index/BitWriter" "length" "I" (.int (((((ln + (1 : Int32)) + (1 : Int32)) + (1 : Int32)) + (1 : Int32)) + (1 : Int32))) := F281.same W294
    have F297 := F282.other W294 (Or.inr (slot_ne (Or.inl (hw _ (mi 21 rfl))) (Or.inl (hw _ (mi 19 rfl))) (by decide) (t := .int) (t' := .int) (by decide) (by decide)))
    have F298 := F283.other W294 (Or.inr (slot_ne (Or.inl (hw _ (mi 28 rfl))) (Or.inl (hw _ (mi 19 rfl))) (by decide) (t := .long) (t' := .int) (by decide) (by decide)))
    have F299 := F284.other W294 (Or.inr (slot_ne (Or.inl (hw _ (mi 11 rfl))) (Or.inl (hw _ (mi 19 rfl))) (by decide) (t := (.array .byte)) (t' := .int) (by decide) (by decide)))
    have F300 := F285.other W294 (Ne.symm ne0)
    have F301 := F286.other W294 (Ne.symm ne50)
    have go302 : Go p.tables e below T294 (mkF m 117 (Lwb_0 a0 q1 p2) [(.ref a0), (.int ((((ln + (1 : Int32)) + (1 : Int32)) + (1 : Int32)) + (1 : Int32))), (.ref b49)]) En := by
      intro t k
      refine go295 _ ?_
      refine XS.aloadN X294.here hx rfl (hb hby d4_116) rfl rfl ?_
      exact k
    obtain ⟨T303, X303, e303, st303⟩ := getF X294 hx hZ hown (host := "") (Or.inl (hw _ (mi 27 rfl))) Via.refl e294 F298 (g := (mkF m 117 (Lwb_0 a0 q1 p2) [(.ref a0), (.int ((((ln + (1 : Int32)) + (1 : Int32)) + (1 : Int32)) + (1 : Int32))), (.ref b49)])) rfl rfl (hb hby d4_117)
    have go304 := gap go302 st303
    have go305 : Go p.tables e below T303 (mkF m 121 (Lwb_0 a0 q1 p2) [(.ref a0), (.long pd1), (.int ((((ln + (1 : Int32)) + (1 : Int32)) + (1 : Int32)) + (1 : Int32))), (.ref b49)]) En := by
      intro t k
      refine go304 _ ?_
      refine XS.aloadN X303.here hx rfl (hb hby d4_120) rfl rfl ?_
      exact k
    obtain ⟨T306, X306, e306, st306⟩ := getF X303 hx hZ hown (host := "") (Or.inl (hw _ (mi 20 rfl))) Via.refl e303 F297 (g := (mkF m 121 (Lwb_0 a0 q1 p2) [(.ref a0), (.long pd1), (.int ((((ln + (1 : Int32)) + (1 : Int32)) + (1 : Int32)) + (1 : Int32))), (.ref b49)])) rfl rfl (hb hby d4_121)
    have go307 := gap go305 st306
    have go308 : Go p.tables e below T306 (mkF m 127 (Lwb_0 a0 q1 p2) [(.int ((pd1.toUInt64 >>> (((((((pb + p2) - (8 : Int32)) - (8 : Int32)) - (8 : Int32)) - (8 : Int32)) - (8 : Int32)) &&& 0x3f).toInt64.toUInt64).toInt64).toInt32.toInt8.toInt32), (.int ((((ln + (1 : Int32)) + (1 : Int32)) + (1 : Int32)) + (1 : Int32))), (.ref b49)]) En := by
      intro t k
      refine go307 _ ?_
      refine XS.lushr X306.here hx rfl (hb hby d4_124) rfl ?_
      refine XS.l2i X306.here hx rfl (hb hby d4_125) rfl ?_
      refine XS.i2b X306.here hx rfl (hb hby d4_126) rfl ?_
      show Steps _ _ _ (T306.setTop (mkF m 127 (Lwb_0 a0 q1 p2) [(.int ((pd1.toUInt64 >>> (((((((pb + p2) - (8 : Int32)) - (8 : Int32)) - (8 : Int32)) - (8 : Int32)) - (8 : Int32)) &&& 0x3f).toInt64.toUInt64).toInt64).toInt32.toInt8.toInt32), (.int ((((ln + (1 : Int32)) + (1 : Int32)) + (1 : Int32)) + (1 : Int32))), (.ref b49)])) _
      exact k
    obtain ⟨cl310, Ar310, q310, S310, N310, H310, G310⟩ := id F301
    have hin311 : ¬ ((((ln + (1 : Int32)) + (1 : Int32)) + (1 : Int32)) + (1 : Int32)) < 0 ∧ ((((ln + (1 : Int32)) + (1 : Int32)) + (1 : Int32)) + (1 : Int32)) < (f11 (zz * (2 : Int32)) (ln + ((pb + p2) / (8 : Int32)))) := own_sto hT4 hs273 hn1 (by decide) hcap
    obtain ⟨T309, h309, X309, e309, W309, st309⟩ := stB X306 hx hZ e306 Ar310 (j := ((((ln + (1 : Int32)) + (1 : Int32)) + (1 : Int32)) + (1 : Int32))) (inb_of S310 hin311) (g := (mkF m 127 (Lwb_0 a0 q1 p2) [(.int ((pd1.toUInt64 >>> (((((((pb + p2) - (8 : Int32)) - (8 : Int32)) - (8 : Int32)) - (8 : Int32)) - (8 : Int32)) &&& 0x3f).toInt64.toUInt64).toInt64).toInt32.toInt8.toInt32), (.int ((((ln + (1 : Int32)) + (1 : Int32)) + (1 : Int32)) + (1 : Int32))), (.ref b49)])) rfl rfl (hb hby d4_127)
    have go312 := gap go308 st309
    have N309 := Fr.snoc X309 N294 low49
    have K309 : Keep h0 h309 [a0, bb] := K294.wr W309 (Or.inr fsh49)
    have Zs309 : n0 ≤ h309.size := Nat.le_trans Zs294 (Keep.of_wr W309).1
    have F313 := F296.other W309 (Or.inl ne50)
    have F314 := F297.other W309 (Or.inl ne50)
    have F315 := F298.other W309 (Or.inl ne50)
    have F316 := F299.other W309 (Or.inl ne50)
    have F317 := F300.other W309 ne51
    have F318 : Arv Z h309 b49 kx49 .byte (f11 (zz * (2 : Int32)) (ln + ((pb + p2) / (8 : Int32)))) (vt268.set ((((ln + (1 : Int32)) + (1 : Int32)) + (1 : Int32)) + (1 : Int32)).toNatClampNeg (.int ((pd1.toUInt64 >>> (((((((pb + p2) - (8 : Int32)) - (8 : Int32)) - (8 : Int32)) - (8 : Int32)) - (8 : Int32)) &&& 0x3f).toInt64.toUInt64).toInt64).toInt32.toInt8.toInt32.toInt8.toInt32)) (.int 0) := Arv.set Ar310 q310 S310 N310 H310 G310 (fits_nar_byte _) W309 ((((ln + (1 : Int32)) + (1 : Int32)) + (1 : Int32)) + (1 : Int32)).toNatClampNeg rfl (by rw [hl268]; exact own_tn hin311)
    obtain ⟨vt319, Vt319, hl319⟩ : ∃ w, Arv Z h309 b49 kx49 .byte (f11 (zz * (2 : Int32)) (ln + ((pb + p2) / (8 : Int32)))) w (.int 0) ∧ w.length = (f11 (zz * (2 : Int32)) (ln + ((pb + p2) / (8 : Int32)))).toNatClampNeg := ⟨_, F318, by rw [List.length_set]; exact hl268⟩
    have hy5 := own_nn8 5 (by decide) hT4 hs273
    have hT5 := own_turn 5 (by decide) hT4 hs273 ⟨hn1, Int.le_trans hn2 hn3⟩ (by decide) h63
    have go320 : Go p.tables e below T309 (mkF m 82 (Lwb_0 a0 q1 p2) [(.ref a0)]) En := by
      intro t k
      refine go312 _ ?_
      refine XS.goto X309.here hx rfl (pc0 := 128) (pc' := 81) rfl (hb hby d4_128) (by decide) (by decide) ?_
      refine XS.aloadN X309.here hx rfl (hb hby d4_81) rfl rfl ?_
      exact k
    obtain ⟨T321, X321, e321, st321⟩ := getF X309 hx hZ hown (host := "") (Or.inl (hw _ (mi 20 rfl))) Via.refl e309 F314 (g := (mkF m 82 (Lwb_0 a0 q1 p2) [(.ref a0)])) rfl rfl (hb hby d4_82)
    have go322 := gap go320 st321
    have go323 : Go p.tables e below T321 (mkF m 87 (Lwb_0 a0 q1 p2) [(.int 8), (.int ((((((pb + p2) - (8 : Int32)) - (8 : Int32)) - (8 : Int32)) - (8 : Int32)) - (8 : Int32)))]) En := by
      intro t k
      refine go322 _ ?_
      refine XS.bipush X321.here hx rfl (hb hby d4_85) ?_
      exact k
    by_cases hs324 : ((((((pb + p2) - (8 : Int32)) - (8 : Int32)) - (8 : Int32)) - (8 : Int32)) - (8 : Int32)) < (8 : Int32)
    · have hA := own_out8 (z := (f11 (zz * (2 : Int32)) (ln + ((pb + p2) / (8 : Int32))))) hT5 hs324 (by rw [hT5.2]; exact hy5) hn1 (by decide) hcap hnc.1.2.1.2 hB1
      have hC := hnc.1.1.symm
      have go325 : Go p.tables e below T321 (mkF m 131 (Lwb_0 a0 q1 p2) []) En := by
        intro t k
        refine go323 _ ?_
        refine XS.icmpYes X321.here hx rfl (pc0 := 87) (pc' := 131) rfl (hb hby d4_87) rfl (XT.ii_lt_t hs324) (by decide) (by decide) ?_
        exact k
      refine own_outV X321 hx hlk go325 hrt (hb hby d4_131) e321 (Nat.le_of_ble_eq_true rfl) (own_z2 hcx.2.2.2.2) ?_
      exact ⟨rfl, N309, K309.1, (((((ln + (1 : Int32)) + (1 : Int32)) + (1 : Int32)) + (1 : Int32)) + (1 : Int32)), ((((((pb + p2) - (8 : Int32)) - (8 : Int32)) - (8 : Int32)) - (8 : Int32)) - (8 : Int32)), (f11 (zz * (2 : Int32)) (ln + ((pb + p2) / (8 : Int32)))), b49, _, _, pd1, (E0.keep K309), F313, F314, F315, F316, Vt319, ga, low49, ne50, hl319, hA.1, hC, hA.2⟩
    have go326 : Go p.tables e below T321 (mkF m 92 (Lwb_0 a0 q1 p2) [(.ref a0), (.ref a0)]) En := by
      intro t k
      refine go323 _ ?_
      refine XS.icmpNo X321.here hx rfl (hb hby d4_87) rfl (XT.ii_lt_f hs324) ?_
      refine XS.aloadN X321.here hx rfl (hb hby d4_90) rfl rfl ?_
      refine XS.dup X321.here hx rfl (hb hby d4_91) rfl rfl ?_
      show Steps _ _ _ (T321.setTop (mkF m 92 (Lwb_0 a0 q1 p2) [(.ref a0), (.ref a0)])) _
      exact k
    obtain ⟨T327, X327, e327, st327⟩ := getF X321 hx hZ hown (host := "") (Or.inl (hw _ (mi 20 rfl))) Via.refl e321 F314 (g := (mkF m 92 (Lwb_0 a0 q1 p2) [(.ref a0), (.ref a0)])) rfl rfl (hb hby d4_92)
    have go328 := gap go326 st327
    have go329 : Go p.tables e below T327 (mkF m 98 (Lwb_0 a0 q1 p2) [(.int (((((((pb + p2) - (8 : Int32)) - (8 : Int32)) - (8 : Int32)) - (8 : Int32)) - (8 : Int32)) - (8 : Int32))), (.ref a0)]) En := by
      intro t k
      refine go328 _ ?_
      refine XS.bipush X327.here hx rfl (hb hby d4_95) ?_
      refine XS.isub X327.here hx rfl (hb hby d4_97) rfl ?_
      exact k
    obtain ⟨T330, h330, X330, e330, W330, st330⟩ := putF X327 hx hZ hown (host := "") (Or.inl (hw _ (mi 20 rfl))) Via.refl e327 F314 (E0.keep K309) (Or.inl (hw _ (mi 21 rfl))) (hw _ (mi 1 rfl)) (ty := .int) (by decide) rfl rfl (g := (mkF m 98 (Lwb_0 a0 q1 p2) [(.int (((((((pb + p2) - (8 : Int32)) - (8 : Int32)) - (8 : Int32)) - (8 : Int32)) - (8 : Int32)) - (8 : Int32))), (.ref a0)])) rfl rfl (hb hby d4_98)
    have go331 := gap go329 st330
    have N330 := Fr.snoc X330 N309 ga
    have K330 : Keep h0 h330 [a0, bb] := K309.wr W330 (Or.inl (List.mem_of_getElem? (i := 0) rfl))
    have Zs330 : n0 ≤ h330.size := Nat.le_trans Zs309 (Keep.of_wr W330).1
    have F332 := F313.other W330 (Or.inr (slot_ne (Or.inl (hw _ (mi 19 rfl))) (Or.inl (hw _ (mi 21 rfl))) (by decide) (t := .int) (t' := .int) (by decide) (by decide)))
    have F333 : Fld Z h330 a0 "com/example/mirk/mirk/index/BitWriter" "pendingBits" "I" (.int (((((((pb + p2) - (8 : Int32)) - (8 : Int32)) - (8 : Int32)) - (8 : Int32)) - (8 : Int32)) - (8 : Int32))) := F314.same W330
    have F334 := F315.other W330 (Or.inr (slot_ne (Or.inl (hw _ (mi 28 rfl))) (Or.inl (hw _ (mi 21 rfl))) (by decide) (t := .long) (t' := .int) (by decide) (by decide)))
    have F335 := F316.other W330 (Or.inr (slot_ne (Or.inl (hw _ (mi 11 rfl))) (Or.inl (hw _ (mi 21 rfl))) (by decide) (t := (.array .byte)) (t' := .int) (by decide) (by decide)))
    have F336 := F317.other W330 (Ne.symm ne0)
    have F337 := Vt319.other W330 (Ne.symm ne50)
    have go338 : Go p.tables e below T330 (mkF m 102 (Lwb_0 a0 q1 p2) [(.ref a0)]) En := by
      intro t k
      refine go331 _ ?_
      refine XS.aloadN X330.here hx rfl (hb hby d4_101) rfl rfl ?_
      exact k
    obtain ⟨T339, X339, e339, st339⟩ := getF X330 hx hZ hown (host := "") (Or.inl (hw _ (mi 10 rfl))) Via.refl e330 F335 (g := (mkF m 102 (Lwb_0 a0 q1 p2) [(.ref a0)])) rfl rfl (hb hby d4_102)
    have go340 := gap go338 st339
    have go341 : Go p.tables e below T339 (mkF m 107 (Lwb_0 a0 q1 p2) [(.ref a0), (.ref a0), (.ref b49)]) En := by
      intro t k
      refine go340 _ ?_
      refine XS.aloadN X339.here hx rfl (hb hby d4_105) rfl rfl ?_
      refine XS.dup X339.here hx rfl (hb hby d4_106) rfl rfl ?_
      exact k
    obtain ⟨T342, X342, e342, st342⟩ := getF X339 hx hZ hown (host := "") (Or.inl (hw _ (mi 18 rfl))) Via.refl e339 F332 (g := (mkF m 107 (Lwb_0 a0 q1 p2) [(.ref a0), (.ref a0), (.ref b49)])) rfl rfl (hb hby d4_107)
    have go343 := gap go341 st342
    have go344 : Go p.tables e below T342 (mkF m 113 (Lwb_0 a0 q1 p2) [(.int ((((((ln + (1 : Int32)) + (1 : Int32)) + (1 : Int32)) + (1 : Int32)) + (1 : Int32)) + (1 : Int32))), (.ref a0), (.int (((((ln + (1 : Int32)) + (1 : Int32)) + (1 : Int32)) + (1 : Int32)) + (1 : Int32))), (.ref b49)]) En := by
      intro t k
      refine go343 _ ?_
      refine XS.dupX1 X342.here hx rfl (hb hby d4_110) rfl rfl rfl ?_
      refine XS.iconst X342.here hx rfl (hb hby d4_111) ?_
      refine XS.iadd X342.here hx rfl (hb hby d4_112) rfl ?_
      show Steps _ _ _ (T342.setTop (mkF m 113 (Lwb_0 a0 q1 p2) [(.int ((((((ln + (1 : Int32)) + (1 : Int32)) + (1 : Int32)) + (1 : Int32)) + (1 : Int32)) + (1 : Int32))), (.ref a0), (.int (((((ln + (1 : Int32)) + (1 : Int32)) + (1 : Int32)) + (1 : Int32)) + (1 : Int32))), (.ref b49)])) _
      exact k
    obtain ⟨T345, h345, X345, e345, W345, st345⟩ := putF X342 hx hZ hown (host := "") (Or.inl (hw _ (mi 18 rfl))) Via.refl e342 F332 (E0.keep K330) (Or.inl (hw _ (mi 19 rfl))) (hw _ (mi 1 rfl)) (ty := .int) (by decide) rfl rfl (g := (mkF m 113 (Lwb_0 a0 q1 p2) [(.int ((((((ln + (1 : Int32)) + (1 : Int32)) + (1 : Int32)) + (1 : Int32)) + (1 : Int32)) + (1 : Int32))), (.ref a0), (.int (((((ln + (1 : Int32)) + (1 : Int32)) + (1 : Int32)) + (1 : Int32)) + (1 : Int32))), (.ref b49)])) rfl rfl (hb hby d4_113)
    have go346 := gap go344 st345
    have N345 := Fr.snoc X345 N330 ga
    have K345 : Keep h0 h345 [a0, bb] := K330.wr W345 (Or.inl (List.mem_of_getElem? (i := 0) rfl))
    have Zs345 : n0 ≤ h345.size := Nat.le_trans Zs330 (Keep.of_wr W345).1
    have F347 : Fld Z h345 a0 "com/example/mirk/mirk/index/BitWriter" "length" "I" (.int ((((((ln + (1 : Int32)) + (1 : Int32)) + (1 : Int32)) + (1 : Int32)) + (1 : Int32)) + (1 : Int32))) := F332.same W345
    have F348 := F333.other W345 (Or.inr (slot_ne (Or.inl (hw _ (mi 21 rfl))) (Or.inl (hw _ (mi 19 rfl))) (by decide) (t := .int) (t' := .int) (by decide) (by decide)))
    have F349 := F334.other W345 (Or.inr (slot_ne (Or.inl (hw _ (mi 28 rfl))) (Or.inl (hw _ (mi 19 rfl))) (by decide) (t := .long) (t' := .int) (by decide) (by decide)))
    have F350 := F335.other W345 (Or.inr (slot_ne (Or.inl (hw _ (mi 11 rfl))) (Or.inl (hw _ (mi 19 rfl))) (by decide) (t := (.array .byte)) (t' := .int) (by decide) (by decide)))
    have F351 := F336.other W345 (Ne.symm ne0)
    have F352 := F337.other W345 (Ne.symm ne50)
    have go353 : Go p.tables e below T345 (mkF m 117 (Lwb_0 a0 q1 p2) [(.ref a0), (.int (((((ln + (1 : Int32)) + (1 : Int32)) + (1 : Int32)) + (1 : Int32)) + (1 : Int32))), (.ref b49)]) En := by
      intro t k
      refine go346 _ ?_
      refine XS.aloadN X345.here hx rfl (hb hby d4_116) rfl rfl ?_
      exact k
    obtain ⟨T354, X354, e354, st354⟩ := getF X345 hx hZ hown (host := "") (Or.inl (hw _ (mi 27 rfl))) Via.refl e345 F349 (g := (mkF m 117 (Lwb_0 a0 q1 p2) [(.ref a0), (.int (((((ln + (1 : Int32)) + (1 : Int32)) + (1 : Int32)) + (1 : Int32)) + (1 : Int32))), (.ref b49)])) rfl rfl (hb hby d4_117)
    have go355 := gap go353 st354
    have go356 : Go p.tables e below T354 (mkF m 121 (Lwb_0 a0 q1 p2) [(.ref a0), (.long pd1), (.int (((((ln + (1 : Int32)) + (1 : Int32)) + (1 : Int32)) + (1 : Int32)) + (1 : Int32))), (.ref b49)]) En := by
      intro t k
      refine go355 _ ?_
      refine XS.aloadN X354.here hx rfl (hb hby d4_120) rfl rfl ?_
      exact k
    obtain ⟨T357, X357, e357, st357⟩ := getF X354 hx hZ hown (host := "") (Or.inl (hw _ (mi 20 rfl))) Via.refl e354 F348 (g := (mkF m 121 (Lwb_0 a0 q1 p2) [(.ref a0), (.long pd1), (.int (((((ln + (1 : Int32)) + (1 : Int32)) + (1 : Int32)) + (1 : Int32)) + (1 : Int32))), (.ref b49)])) rfl rfl (hb hby d4_121)
    have go358 := gap go356 st357
    have go359 : Go p.tables e below T357 (mkF m 127 (Lwb_0 a0 q1 p2) [(.int ((pd1.toUInt64 >>> ((((((((pb + p2) - (8 : Int32)) - (8 : Int32)) - (8 : Int32)) - (8 : Int32)) - (8 : Int32)) - (8 : Int32)) &&& 0x3f).toInt64.toUInt64).toInt64).toInt32.toInt8.toInt32), (.int (((((ln + (1 : Int32)) + (1 : Int32)) + (1 : Int32)) + (1 : Int32)) + (1 : Int32))), (.ref b49)]) En := by
      intro t k
      refine go358 _ ?_
      refine XS.lushr X357.here hx rfl (hb hby d4_124) rfl ?_
      refine XS.l2i X357.here hx rfl (hb hby d4_125) rfl ?_
      refine XS.i2b X357.here hx rfl (hb hby d4_126) rfl ?_
      show Steps _ _ _ (T357.setTop (mkF m 127 (Lwb_0 a0 q1 p2) [(.int ((pd1.toUInt64 >>> ((((((((pb + p2) - (8 : Int32)) - (8 : Int32)) - (8 : Int32)) - (8 : Int32)) - (8 : Int32)) - (8 : Int32)) &&& 0x3f).toInt64.toUInt64).toInt64).toInt32.toInt8.toInt32), (.int (((((ln + (1 : Int32)) + (1 : Int32)) + (1 : Int32)) + (1 : Int32)) + (1 : Int32))), (.ref b49)])) _
      exact k
    obtain ⟨cl361, Ar361, q361, S361, N361, H361, G361⟩ := id F352
    have hin362 : ¬ (((((ln + (1 : Int32)) + (1 : Int32)) + (1 : Int32)) + (1 : Int32)) + (1 : Int32)) < 0 ∧ (((((ln + (1 : Int32)) + (1 : Int32)) + (1 : Int32)) + (1 : Int32)) + (1 : Int32)) < (f11 (zz * (2 : Int32)) (ln + ((pb + p2) / (8 : Int32)))) := own_sto hT5 hs324 hn1 (by decide) hcap
    obtain ⟨T360, h360, X360, e360, W360, st360⟩ := stB X357 hx hZ e357 Ar361 (j := (((((ln + (1 : Int32)) + (1 : Int32)) + (1 : Int32)) + (1 : Int32)) + (1 : Int32))) (inb_of S361 hin362) (g := (mkF m 127 (Lwb_0 a0 q1 p2) [(.int ((pd1.toUInt64 >>> ((((((((pb + p2) - (8 : Int32)) - (8 : Int32)) - (8 : Int32)) - (8 : Int32)) - (8 : Int32)) - (8 : Int32)) &&& 0x3f).toInt64.toUInt64).toInt64).toInt32.toInt8.toInt32), (.int (((((ln + (1 : Int32)) + (1 : Int32)) + (1 : Int32)) + (1 : Int32)) + (1 : Int32))), (.ref b49)])) rfl rfl (hb hby d4_127)
    have go363 := gap go359 st360
    have N360 := Fr.snoc X360 N345 low49
    have K360 : Keep h0 h360 [a0, bb] := K345.wr W360 (Or.inr fsh49)
    have Zs360 : n0 ≤ h360.size := Nat.le_trans Zs345 (Keep.of_wr W360).1
    have F364 := F347.other W360 (Or.inl ne50)
    have F365 := F348.other W360 (Or.inl ne50)
    have F366 := F349.other W360 (Or.inl ne50)
    have F367 := F350.other W360 (Or.inl ne50)
    have F368 := F351.other W360 ne51
    have F369 : Arv Z h360 b49 kx49 .byte (f11 (zz * (2 : Int32)) (ln + ((pb + p2) / (8 : Int32)))) (vt319.set (((((ln + (1 : Int32)) + (1 : Int32)) + (1 : Int32)) + (1 : Int32)) + (1 : Int32)).toNatClampNeg (.int ((pd1.toUInt64 >>> ((((((((pb + p2) - (8 : Int32)) - (8 : Int32)) - (8 : Int32)) - (8 : Int32)) - (8 : Int32)) - (8 : Int32)) &&& 0x3f).toInt64.toUInt64).toInt64).toInt32.toInt8.toInt32.toInt8.toInt32)) (.int 0) := Arv.set Ar361 q361 S361 N361 H361 G361 (fits_nar_byte _) W360 (((((ln + (1 : Int32)) + (1 : Int32)) + (1 : Int32)) + (1 : Int32)) + (1 : Int32)).toNatClampNeg rfl (by rw [hl319]; exact own_tn hin362)
    obtain ⟨vt370, Vt370, hl370⟩ : ∃ w, Arv Z h360 b49 kx49 .byte (f11 (zz * (2 : Int32)) (ln + ((pb + p2) / (8 : Int32)))) w (.int 0) ∧ w.length = (f11 (zz * (2 : Int32)) (ln + ((pb + p2) / (8 : Int32)))).toNatClampNeg := ⟨_, F369, by rw [List.length_set]; exact hl319⟩
    have hy6 := own_nn8 6 (by decide) hT5 hs324
    have hT6 := own_turn 6 (by decide) hT5 hs324 ⟨hn1, Int.le_trans hn2 hn3⟩ (by decide) h63
    have go371 : Go p.tables e below T360 (mkF m 82 (Lwb_0 a0 q1 p2) [(.ref a0)]) En := by
      intro t k
      refine go363 _ ?_
      refine XS.goto X360.here hx rfl (pc0 := 128) (pc' := 81) rfl (hb hby d4_128) (by decide) (by decide) ?_
      refine XS.aloadN X360.here hx rfl (hb hby d4_81) rfl rfl ?_
      exact k
    obtain ⟨T372, X372, e372, st372⟩ := getF X360 hx hZ hown (host := "") (Or.inl (hw _ (mi 20 rfl))) Via.refl e360 F365 (g := (mkF m 82 (Lwb_0 a0 q1 p2) [(.ref a0)])) rfl rfl (hb hby d4_82)
    have go373 := gap go371 st372
    have go374 : Go p.tables e below T372 (mkF m 87 (Lwb_0 a0 q1 p2) [(.int 8), (.int (((((((pb + p2) - (8 : Int32)) - (8 : Int32)) - (8 : Int32)) - (8 : Int32)) - (8 : Int32)) - (8 : Int32)))]) En := by
      intro t k
      refine go373 _ ?_
      refine XS.bipush X372.here hx rfl (hb hby d4_85) ?_
      exact k
    by_cases hs375 : (((((((pb + p2) - (8 : Int32)) - (8 : Int32)) - (8 : Int32)) - (8 : Int32)) - (8 : Int32)) - (8 : Int32)) < (8 : Int32)
    · have hA := own_out8 (z := (f11 (zz * (2 : Int32)) (ln + ((pb + p2) / (8 : Int32))))) hT6 hs375 (by rw [hT6.2]; exact hy6) hn1 (by decide) hcap hnc.1.2.1.2 hB1
      have hC := hnc.1.1.symm
      have go376 : Go p.tables e below T372 (mkF m 131 (Lwb_0 a0 q1 p2) []) En := by
        intro t k
        refine go374 _ ?_
        refine XS.icmpYes X372.here hx rfl (pc0 := 87) (pc' := 131) rfl (hb hby d4_87) rfl (XT.ii_lt_t hs375) (by decide) (by decide) ?_
        exact k
      refine own_outV X372 hx hlk go376 hrt (hb hby d4_131) e372 (Nat.le_of_ble_eq_true rfl) (own_z2 hcx.2.2.2.2) ?_
      exact ⟨rfl, N360, K360.1, ((((((ln + (1 : Int32)) + (1 : Int32)) + (1 : Int32)) + (1 : Int32)) + (1 : Int32)) + (1 : Int32)), (((((((pb + p2) - (8 : Int32)) - (8 : Int32)) - (8 : Int32)) - (8 : Int32)) - (8 : Int32)) - (8 : Int32)), (f11 (zz * (2 : Int32)) (ln + ((pb + p2) / (8 : Int32)))), b49, _, _, pd1, (E0.keep K360), F364, F365, F366, F367, Vt370, ga, low49, ne50, hl370, hA.1, hC, hA.2⟩
    have go377 : Go p.tables e below T372 (mkF m 92 (Lwb_0 a0 q1 p2) [(.ref a0), (.ref a0)]) En := by
      intro t k
      refine go374 _ ?_
      refine XS.icmpNo X372.here hx rfl (hb hby d4_87) rfl (XT.ii_lt_f hs375) ?_
      refine XS.aloadN X372.here hx rfl (hb hby d4_90) rfl rfl ?_
      refine XS.dup X372.here hx rfl (hb hby d4_91) rfl rfl ?_
      show Steps _ _ _ (T372.setTop (mkF m 92 (Lwb_0 a0 q1 p2) [(.ref a0), (.ref a0)])) _
      exact k
    obtain ⟨T378, X378, e378, st378⟩ := getF X372 hx hZ hown (host := "") (Or.inl (hw _ (mi 20 rfl))) Via.refl e372 F365 (g := (mkF m 92 (Lwb_0 a0 q1 p2) [(.ref a0), (.ref a0)])) rfl rfl (hb hby d4_92)
    have go379 := gap go377 st378
    have go380 : Go p.tables e below T378 (mkF m 98 (Lwb_0 a0 q1 p2) [(.int ((((((((pb + p2) - (8 : Int32)) - (8 : Int32)) - (8 : Int32)) - (8 : Int32)) - (8 : Int32)) - (8 : Int32)) - (8 : Int32))), (.ref a0)]) En := by
      intro t k
      refine go379 _ ?_
      refine XS.bipush X378.here hx rfl (hb hby d4_95) ?_
      refine XS.isub X378.here hx rfl (hb hby d4_97) rfl ?_
      exact k
    obtain ⟨T381, h381, X381, e381, W381, st381⟩ := putF X378 hx hZ hown (host := "") (Or.inl (hw _ (mi 20 rfl))) Via.refl e378 F365 (E0.keep K360) (Or.inl (hw _ (mi 21 rfl))) (hw _ (mi 1 rfl)) (ty := .int) (by decide) rfl rfl (g := (mkF m 98 (Lwb_0 a0 q1 p2) [(.int ((((((((pb + p2) - (8 : Int32)) - (8 : Int32)) - (8 : Int32)) - (8 : Int32)) - (8 : Int32)) - (8 : Int32)) - (8 : Int32))), (.ref a0)])) rfl rfl (hb hby d4_98)
    have go382 := gap go380 st381
    have N381 := Fr.snoc X381 N360 ga
    have K381 : Keep h0 h381 [a0, bb] := K360.wr W381 (Or.inl (List.mem_of_getElem? (i := 0) rfl))
    have Zs381 : n0 ≤ h381.size := Nat.le_trans Zs360 (Keep.of_wr W381).1
    have F383 := F364.other W381 (Or.inr (slot_ne (Or.inl (hw _ (mi 19 rfl))) (Or.inl (hw _ (mi 21 rfl))) (by decide) (t := .int) (t' := .int) (by decide) (by decide)))
    have F384 : Fld Z h381 a0 "com/example/mirk/mirk/index/BitWriter" "pendingBits" "I" (.int ((((((((pb + p2) - (8 : Int32)) - (8 : Int32)) - (8 : Int32)) - (8 : Int32)) - (8 : Int32)) - (8 : Int32)) - (8 : Int32))) := F365.same W381
    have F385 := F366.other W381 (Or.inr (slot_ne (Or.inl (hw _ (mi 28 rfl))) (Or.inl (hw _ (mi 21 rfl))) (by decide) (t := .long) (t' := .int) (by decide) (by decide)))
    have F386 := F367.other W381 (Or.inr (slot_ne (Or.inl (hw _ (mi 11 rfl))) (Or.inl (hw _ (mi 21 rfl))) (by decide) (t := (.array .byte)) (t' := .int) (by decide) (by decide)))
    have F387 := F368.other W381 (Ne.symm ne0)
    have F388 := Vt370.other W381 (Ne.symm ne50)
    have go389 : Go p.tables e below T381 (mkF m 102 (Lwb_0 a0 q1 p2) [(.ref a0)]) En := by
      intro t k
      refine go382 _ ?_
      refine XS.aloadN X381.here hx rfl (hb hby d4_101) rfl rfl ?_
      exact k
    obtain ⟨T390, X390, e390, st390⟩ := getF X381 hx hZ hown (host := "") (Or.inl (hw _ (mi 10 rfl))) Via.refl e381 F386 (g := (mkF m 102 (Lwb_0 a0 q1 p2) [(.ref a0)])) rfl rfl (hb hby d4_102)
    have go391 := gap go389 st390
    have go392 : Go p.tables e below T390 (mkF m 107 (Lwb_0 a0 q1 p2) [(.ref a0), (.ref a0), (.ref b49)]) En := by
      intro t k
      refine go391 _ ?_
      refine XS.aloadN X390.here hx rfl (hb hby d4_105) rfl rfl ?_
      refine XS.dup X390.here hx rfl (hb hby d4_106) rfl rfl ?_
      exact k
    obtain ⟨T393, X393, e393, st393⟩ := getF X390 hx hZ hown (host := "") (Or.inl (hw _ (mi 18 rfl))) Via.refl e390 F383 (g := (mkF m 107 (Lwb_0 a0 q1 p2) [(.ref a0), (.ref a0), (.ref b49)])) rfl rfl (hb hby d4_107)
    have go394 := gap go392 st393
    have go395 : Go p.tables e below T393 (mkF m 113 (Lwb_0 a0 q1 p2) [(.int (((((((ln + (1 : Int32)) + (1 : Int32)) + (1 : Int32)) + (1 : Int32)) + (1 : Int32)) + (1 : Int32)) + (1 : Int32))), (.ref a0), (.int ((((((ln + (1 : Int32)) + (1 : Int32)) + (1 : Int32)) + (1 : Int32)) + (1 : Int32)) + (1 : Int32))), (.ref b49)]) En := by
      intro t k
      refine go394 _ ?_
      refine XS.dupX1 X393.here hx rfl (hb hby d4_110) rfl rfl rfl ?_
      refine XS.iconst X393.here hx rfl (hb hby d4_111) ?_
      refine XS.iadd X393.here hx rfl (hb hby d4_112) rfl ?_
      show Steps _ _ _ (T393.setTop (mkF m 113 (Lwb_0 a0 q1 p2) [(.int (((((((ln + (1 : Int32)) + (1 : Int32)) + (1 : Int32)) + (1 : Int32)) + (1 : Int32)) + (1 : Int32)) + (1 : Int32))), (.ref a0), (.int ((((((ln + (1 : Int32)) + (1 : Int32)) + (1 : Int32)) + (1 : Int32)) + (1 : Int32)) + (1 : Int32))), (.ref b49)])) _
      exact k
    obtain ⟨T396, h396, X396, e396, W396, st396⟩ := putF X393 hx hZ hown (host := "") (Or.inl (hw _ (mi 18 rfl))) Via.refl e393 F383 (E0.keep K381) (Or.inl (hw _ (mi 19 rfl))) (hw _ (mi 1 rfl)) (ty := .int) (by decide) rfl rfl (g := (mkF m 113 (Lwb_0 a0 q1 p2) [(.int (((((((ln + (1 : Int32)) + (1 : Int32)) + (1 : Int32)) + (1 : Int32)) + (1 : Int32)) + (1 : Int32)) + (1 : Int32))), (.ref a0), (.int ((((((ln + (1 : Int32)) + (1 : Int32)) + (1 : Int32)) + (1 : Int32)) + (1 : Int32)) + (1 : Int32))), (.ref b49)])) rfl rfl (hb hby d4_113)
    have go397 := gap go395 st396
    have N396 := Fr.snoc X396 N381 ga
    have K396 : Keep h0 h396 [a0, bb] := K381.wr W396 (Or.inl (List.mem_of_getElem? (i := 0) rfl))
    have Zs396 : n0 ≤ h396.size := Nat.le_trans Zs381 (Keep.of_wr W396).1
    have F398 : Fld Z h396 a0 "com/example/mirk/mirk/index/BitWriter" "length" "I" (.int (((((((ln + (1 : Int32)) + (1 : Int32)) + (1 : Int32)) + (1 : Int32)) + (1 : Int32)) + (1 : Int32)) + (1 : Int32))) := F383.same W396
    have F399 := F384.other W396 (Or.inr (slot_ne (Or.inl (hw _ (mi 21 rfl))) (Or.inl (hw _ (mi 19 rfl))) (by decide) (t := .int) (t' := .int) (by decide) (by decide)))
    have F400 := F385.other W396 (Or.inr (slot_ne (Or.inl (hw _ (mi 28 rfl))) (Or.inl (hw _ (mi 19 rfl))) (by decide) (t := .long) (t' := .int) (by decide) (by decide)))
    have F401 := F386.other W396 (Or.inr (slot_ne (Or.inl (hw _ (mi 11 rfl))) (Or.inl (hw _ (mi 19 rfl))) (by decide) (t := (.array .byte)) (t' := .int) (by decide) (by decide)))
    have F402 := F387.other W396 (Ne.symm ne0)
    have F403 := F388.other W396 (Ne.symm ne50)
    have go404 : Go p.tables e below T396 (mkF m 117 (Lwb_0 a0 q1 p2) [(.ref a0), (.int ((((((ln + (1 : Int32)) + (1 : Int32)) + (1 : Int32)) + (1 : Int32)) + (1 : Int32)) + (1 : Int32))), (.ref b49)]) En := by
      intro t k
      refine go397 _ ?_
      refine XS.aloadN X396.here hx rfl (hb hby d4_116) rfl rfl ?_
      exact k
    obtain ⟨T405, X405, e405, st405⟩ := getF X396 hx hZ hown (host := "") (Or.inl (hw _ (mi 27 rfl))) Via.refl e396 F400 (g := (mkF m 117 (Lwb_0 a0 q1 p2) [(.ref a0), (.int ((((((ln + (1 : Int32)) + (1 : Int32)) + (1 : Int32)) + (1 : Int32)) + (1 : Int32)) + (1 : Int32))), (.ref b49)])) rfl rfl (hb hby d4_117)
    have go406 := gap go404 st405
    have go407 : Go p.tables e below T405 (mkF m 121 (Lwb_0 a0 q1 p2) [(.ref a0), (.long pd1), (.int ((((((ln + (1 : Int32)) + (1 : Int32)) + (1 : Int32)) + (1 : Int32)) + (1 : Int32)) + (1 : Int32))), (.ref b49)]) En := by
      intro t k
      refine go406 _ ?_
      refine XS.aloadN X405.here hx rfl (hb hby d4_120) rfl rfl ?_
      exact k
    obtain ⟨T408, X408, e408, st408⟩ := getF X405 hx hZ hown (host := "") (Or.inl (hw _ (mi 20 rfl))) Via.refl e405 F399 (g := (mkF m 121 (Lwb_0 a0 q1 p2) [(.ref a0), (.long pd1), (.int ((((((ln + (1 : Int32)) + (1 : Int32)) + (1 : Int32)) + (1 : Int32)) + (1 : Int32)) + (1 : Int32))), (.ref b49)])) rfl rfl (hb hby d4_121)
    have go409 := gap go407 st408
    have go410 : Go p.tables e below T408 (mkF m 127 (Lwb_0 a0 q1 p2) [(.int ((pd1.toUInt64 >>> (((((((((pb + p2) - (8 : Int32)) - (8 : Int32)) - (8 : Int32)) - (8 : Int32)) - (8 : Int32)) - (8 : Int32)) - (8 : Int32)) &&& 0x3f).toInt64.toUInt64).toInt64).toInt32.toInt8.toInt32), (.int ((((((ln + (1 : Int32)) + (1 : Int32)) + (1 : Int32)) + (1 : Int32)) + (1 : Int32)) + (1 : Int32))), (.ref b49)]) En := by
      intro t k
      refine go409 _ ?_
      refine XS.lushr X408.here hx rfl (hb hby d4_124) rfl ?_
      refine XS.l2i X408.here hx rfl (hb hby d4_125) rfl ?_
      refine XS.i2b X408.here hx rfl (hb hby d4_126) rfl ?_
      show Steps _ _ _ (T408.setTop (mkF m 127 (Lwb_0 a0 q1 p2) [(.int ((pd1.toUInt64 >>> (((((((((pb + p2) - (8 : Int32)) - (8 : Int32)) - (8 : Int32)) - (8 : Int32)) - (8 : Int32)) - (8 : Int32)) - (8 : Int32)) &&& 0x3f).toInt64.toUInt64).toInt64).toInt32.toInt8.toInt32), (.int ((((((ln + (1 : Int32)) + (1 : Int32)) + (1 : Int32)) + (1 : Int32)) + (1 : Int32)) + (1 : Int32))), (.ref b49)])) _
      exact k
    obtain ⟨cl412, Ar412, q412, S412, N412, H412, G412⟩ := id F403
    have hin413 : ¬ ((((((ln + (1 : Int32)) + (1 : Int32)) + (1 : Int32)) + (1 : Int32)) + (1 : Int32)) + (1 : Int32)) < 0 ∧ ((((((ln + (1 : Int32)) + (1 : Int32)) + (1 : Int32)) + (1 : Int32)) + (1 : Int32)) + (1 : Int32)) < (f11 (zz * (2 : Int32)) (ln + ((pb + p2) / (8 : Int32)))) := own_sto hT6 hs375 hn1 (by decide) hcap
    obtain ⟨T411, h411, X411, e411, W411, st411⟩ := stB X408 hx hZ e408 Ar412 (j := ((((((ln + (1 : Int32)) + (1 : Int32)) + (1 : Int32)) + (1 : Int32)) + (1 : Int32)) + (1 : Int32))) (inb_of S412 hin413) (g := (mkF m 127 (Lwb_0 a0 q1 p2) [(.int ((pd1.toUInt64 >>> (((((((((pb + p2) - (8 : Int32)) - (8 : Int32)) - (8 : Int32)) - (8 : Int32)) - (8 : Int32)) - (8 : Int32)) - (8 : Int32)) &&& 0x3f).toInt64.toUInt64).toInt64).toInt32.toInt8.toInt32), (.int ((((((ln + (1 : Int32)) + (1 : Int32)) + (1 : Int32)) + (1 : Int32)) + (1 : Int32)) + (1 : Int32))), (.ref b49)])) rfl rfl (hb hby d4_127)
    have go414 := gap go410 st411
    have N411 := Fr.snoc X411 N396 low49
    have K411 : Keep h0 h411 [a0, bb] := K396.wr W411 (Or.inr fsh49)
    have Zs411 : n0 ≤ h411.size := Nat.le_trans Zs396 (Keep.of_wr W411).1
    have F415 := F398.other W411 (Or.inl ne50)
    have F416 := F399.other W411 (Or.inl ne50)
    have F417 := F400.other W411 (Or.inl ne50)
    have F418 := F401.other W411 (Or.inl ne50)
    have F419 := F402.other W411 ne51
    have F420 : Arv Z h411 b49 kx49 .byte (f11 (zz * (2 : Int32)) (ln + ((pb + p2) / (8 : Int32)))) (vt370.set ((((((ln + (1 : Int32)) + (1 : Int32)) + (1 : Int32)) + (1 : Int32)) + (1 : Int32)) + (1 : Int32)).toNatClampNeg (.int ((pd1.toUInt64 >>> (((((((((pb + p2) - (8 : Int32)) - (8 : Int32)) - (8 : Int32)) - (8 : Int32)) - (8 : Int32)) - (8 : Int32)) - (8 : Int32)) &&& 0x3f).toInt64.toUInt64).toInt64).toInt32.toInt8.toInt32.toInt8.toInt32)) (.int 0) := Arv.set Ar412 q412 S412 N412 H412 G412 (fits_nar_byte _) W411 ((((((ln + (1 : Int32)) + (1 : Int32)) + (1 : Int32)) + (1 : Int32)) + (1 : Int32)) + (1 : Int32)).toNatClampNeg rfl (by rw [hl370]; exact own_tn hin413)
    obtain ⟨vt421, Vt421, hl421⟩ : ∃ w, Arv Z h411 b49 kx49 .byte (f11 (zz * (2 : Int32)) (ln + ((pb + p2) / (8 : Int32)))) w (.int 0) ∧ w.length = (f11 (zz * (2 : Int32)) (ln + ((pb + p2) / (8 : Int32)))).toNatClampNeg := ⟨_, F420, by rw [List.length_set]; exact hl370⟩
    have hy7 := own_nn8 7 (by decide) hT6 hs375
    have hT7 := own_turn 7 (by decide) hT6 hs375 ⟨hn1, Int.le_trans hn2 hn3⟩ (by decide) h63
    have go422 : Go p.tables e below T411 (mkF m 82 (Lwb_0 a0 q1 p2) [(.ref a0)]) En := by
      intro t k
      refine go414 _ ?_
      refine XS.goto X411.here hx rfl (pc0 := 128) (pc' := 81) rfl (hb hby d4_128) (by decide) (by decide) ?_
      refine XS.aloadN X411.here hx rfl (hb hby d4_81) rfl rfl ?_
      exact k
    obtain ⟨T423, X423, e423, st423⟩ := getF X411 hx hZ hown (host := "") (Or.inl (hw _ (mi 20 rfl))) Via.refl e411 F416 (g := (mkF m 82 (Lwb_0 a0 q1 p2) [(.ref a0)])) rfl rfl (hb hby d4_82)
    have go424 := gap go422 st423
    have hlast : ((((((((pb + p2) - (8 : Int32)) - (8 : Int32)) - (8 : Int32)) - (8 : Int32)) - (8 : Int32)) - (8 : Int32)) - (8 : Int32)) < (8 : Int32) := own_last hT7 h63
    have hA := own_out8 (z := (f11 (zz * (2 : Int32)) (ln + ((pb + p2) / (8 : Int32))))) hT7 hlast (by rw [hT7.2]; exact hy7) hn1 (by decide) hcap hnc.1.2.1.2 hB1
    have hC := hnc.1.1.symm
    have go425 : Go p.tables e below T423 (mkF m 131 (Lwb_0 a0 q1 p2) []) En := by
      intro t k
      refine go424 _ ?_
      refine XS.bipush X423.here hx rfl (hb hby d4_85) ?_
      refine XS.icmpYes X423.here hx rfl (pc0 := 87) (pc' := 131) rfl (hb hby d4_87) rfl (XT.ii_lt_t hlast) (by decide) (by decide) ?_
      exact k
    refine own_outV X423 hx hlk go425 hrt (hb hby d4_131) e423 (Nat.le_of_ble_eq_true rfl) (own_z2 hcx.2.2.2.2) ?_
    exact ⟨rfl, N411, K411.1, (((((((ln + (1 : Int32)) + (1 : Int32)) + (1 : Int32)) + (1 : Int32)) + (1 : Int32)) + (1 : Int32)) + (1 : Int32)), ((((((((pb + p2) - (8 : Int32)) - (8 : Int32)) - (8 : Int32)) - (8 : Int32)) - (8 : Int32)) - (8 : Int32)) - (8 : Int32)), (f11 (zz * (2 : Int32)) (ln + ((pb + p2) / (8 : Int32)))), b49, _, _, pd1, (E0.keep K411), F415, F416, F417, F418, Vt421, ga, low49, ne50, hl421, hA.1, hC, hA.2⟩
  have hcap := (own_ar144 ln pb zz B c p2 hB1 hB2 hk1 hk2 hn1 hn2 hn3 hm1 hm2 hb4 hs34)
  have hT0 : ln.toInt = ln.toInt + 0 ∧ (pb + p2).toInt = pb.toInt + p2.toInt - 8 * 0 := (own_ar112 ln pb zz B c p2 hB1 hB2 hk1 hk2 hn1 hn2 hn3 hm1 hm2 hb4)
  have h63 : pb.toInt + p2.toInt ≤ 63 := (own_ar113 ln pb zz B c p2 hB1 hB2 hk1 hk2 hn1 hn2 hn3 hm1 hm2 hb4)
  have hy0 := (own_ar114 ln pb zz B c p2 hB1 hB2 hk1 hk2 hn1 hn2 hn3 hm1 hm2 hb4)
  have go426 : Go p.tables e below T31 (mkF m 82 (Lwb_0 a0 q1 p2) [(.ref a0)]) En := by
    intro t k
    refine go33 _ ?_
    refine XS.icmpYes X31.here hx rfl (pc0 := 45) (pc' := 81) rfl (hb hby d4_45) rfl (XT.ii_ge_t hs34) (by decide) (by decide) ?_
    refine XS.aloadN X31.here hx rfl (hb hby d4_81) rfl rfl ?_
    exact k
  obtain ⟨T427, X427, e427, st427⟩ := getF X31 hx hZ hown (host := "") (Or.inl (hw _ (mi 20 rfl))) Via.refl e31 F19 (g := (mkF m 82 (Lwb_0 a0 q1 p2) [(.ref a0)])) rfl rfl (hb hby d4_82)
  have go428 := gap go426 st427
  have go429 : Go p.tables e below T427 (mkF m 87 (Lwb_0 a0 q1 p2) [(.int 8), (.int (pb + p2))]) En := by
    intro t k
    refine go428 _ ?_
    refine XS.bipush X427.here hx rfl (hb hby d4_85) ?_
    exact k
  by_cases hs430 : (pb + p2) < (8 : Int32)
  · have hA := own_out8 (z := zz) hT0 hs430 (by rw [hT0.2]; exact hy0) hn1 (by decide) hcap hn3 hB1
    have hC : capW B p2.toInt c = zz.toInt := own_nogrow hB1 hB2 hcap
    have go431 : Go p.tables e below T427 (mkF m 131 (Lwb_0 a0 q1 p2) []) En := by
      intro t k
      refine go429 _ ?_
      refine XS.icmpYes X427.here hx rfl (pc0 := 87) (pc' := 131) rfl (hb hby d4_87) rfl (XT.ii_lt_t hs430) (by decide) (by decide) ?_
      exact k
    refine own_outV X427 hx hlk go431 hrt (hb hby d4_131) e427 (Nat.le_of_ble_eq_true rfl) (Nat.zero_le _) ?_
    exact ⟨rfl, N16, K16.1, ln, (pb + p2), zz, bb, _, _, pd1, (E0.keep K16), F18, F19, F20, F21, F22, ga, gb, ne0, hlen, hA.1, hC, hA.2⟩
  have go432 : Go p.tables e below T427 (mkF m 92 (Lwb_0 a0 q1 p2) [(.ref a0), (.ref a0)]) En := by
    intro t k
    refine go429 _ ?_
    refine XS.icmpNo X427.here hx rfl (hb hby d4_87) rfl (XT.ii_lt_f hs430) ?_
    refine XS.aloadN X427.here hx rfl (hb hby d4_90) rfl rfl ?_
    refine XS.dup X427.here hx rfl (hb hby d4_91) rfl rfl ?_
    show Steps _ _ _ (T427.setTop (mkF m 92 (Lwb_0 a0 q1 p2) [(.ref a0), (.ref a0)])) _
    exact k
  obtain ⟨T433, X433, e433, st433⟩ := getF X427 hx hZ hown (host := "") (Or.inl (hw _ (mi 20 rfl))) Via.refl e427 F19 (g := (mkF m 92 (Lwb_0 a0 q1 p2) [(.ref a0), (.ref a0)])) rfl rfl (hb hby d4_92)
  have go434 := gap go432 st433
  have go435 : Go p.tables e below T433 (mkF m 98 (Lwb_0 a0 q1 p2) [(.int ((pb + p2) - (8 : Int32))), (.ref a0)]) En := by
    intro t k
    refine go434 _ ?_
    refine XS.bipush X433.here hx rfl (hb hby d4_95) ?_
    refine XS.isub X433.here hx rfl (hb hby d4_97) rfl ?_
    exact k
  obtain ⟨T436, h436, X436, e436, W436, st436⟩ := putF X433 hx hZ hown (host := "") (Or.inl (hw _ (mi 20 rfl))) Via.refl e433 F19 (E0.keep K16) (Or.inl (hw _ (mi 21 rfl))) (hw _ (mi 1 rfl)) (ty := .int) (by decide) rfl rfl (g := (mkF m 98 (Lwb_0 a0 q1 p2) [(.int ((pb + p2) - (8 : Int32))), (.ref a0)])) rfl rfl (hb hby d4_98)
  have go437 := gap go435 st436
  have N436 := Fr.snoc X436 N16 ga
  have K436 : Keep h0 h436 [a0, bb] := K16.wr W436 (Or.inl (List.mem_of_getElem? (i := 0) rfl))
  have Zs436 : n0 ≤ h436.size := Nat.le_trans Zs16 (Keep.of_wr W436).1
  have F438 := F18.other W436 (Or.inr (slot_ne (Or.inl (hw _ (mi 19 rfl))) (Or.inl (hw _ (mi 21 rfl))) (by decide) (t := .int) (t' := .int) (by decide) (by decide)))
  have F439 : Fld Z h436 a0 "com/example/mirk/mirk/index/BitWriter" "pendingBits" "I" (.int ((pb + p2) - (8 : Int32))) := F19.same W436
  have F440 := F20.other W436 (Or.inr (slot_ne (Or.inl (hw _ (mi 28 rfl))) (Or.inl (hw _ (mi 21 rfl))) (by decide) (t := .long) (t' := .int) (by decide) (by decide)))
  have F441 := F21.other W436 (Or.inr (slot_ne (Or.inl (hw _ (mi 11 rfl))) (Or.inl (hw _ (mi 21 rfl))) (by decide) (t := (.array .byte)) (t' := .int) (by decide) (by decide)))
  have F442 := F22.other W436 (Ne.symm ne0)
  have go443 : Go p.tables e below T436 (mkF m 102 (Lwb_0 a0 q1 p2) [(.ref a0)]) En := by
    intro t k
    refine go437 _ ?_
    refine XS.aloadN X436.here hx rfl (hb hby d4_101) rfl rfl ?_
    exact k
  obtain ⟨T444, X444, e444, st444⟩ := getF X436 hx hZ hown (host := "") (Or.inl (hw _ (mi 10 rfl))) Via.refl e436 F441 (g := (mkF m 102 (Lwb_0 a0 q1 p2) [(.ref a0)])) rfl rfl (hb hby d4_102)
  have go445 := gap go443 st444
  have go446 : Go p.tables e below T444 (mkF m 107 (Lwb_0 a0 q1 p2) [(.ref a0), (.ref a0), (.ref bb)]) En := by
    intro t k
    refine go445 _ ?_
    refine XS.aloadN X444.here hx rfl (hb hby d4_105) rfl rfl ?_
    refine XS.dup X444.here hx rfl (hb hby d4_106) rfl rfl ?_
    exact k
  obtain ⟨T447, X447, e447, st447⟩ := getF X444 hx hZ hown (host := "") (Or.inl (hw _ (mi 18 rfl))) Via.refl e444 F438 (g := (mkF m 107 (Lwb_0 a0 q1 p2) [(.ref a0), (.ref a0), (.ref bb)])) rfl rfl (hb hby d4_107)
  have go448 := gap go446 st447
  have go449 : Go p.tables e below T447 (mkF m 113 (Lwb_0 a0 q1 p2) [(.int (ln + (1 : Int32))), (.ref a0), (.int ln), (.ref bb)]) En := by
    intro t k
    refine go448 _ ?_
    refine XS.dupX1 X447.here hx rfl (hb hby d4_110) rfl rfl rfl ?_
    refine XS.iconst X447.here hx rfl (hb hby d4_111) ?_
    refine XS.iadd X447.here hx rfl (hb hby d4_112) rfl ?_
    show Steps _ _ _ (T447.setTop (mkF m 113 (Lwb_0 a0 q1 p2) [(.int (ln + (1 : Int32))), (.ref a0), (.int ln), (.ref bb)])) _
    exact k
  obtain ⟨T450, h450, X450, e450, W450, st450⟩ := putF X447 hx hZ hown (host := "") (Or.inl (hw _ (mi 18 rfl))) Via.refl e447 F438 (E0.keep K436) (Or.inl (hw _ (mi 19 rfl))) (hw _ (mi 1 rfl)) (ty := .int) (by decide) rfl rfl (g := (mkF m 113 (Lwb_0 a0 q1 p2) [(.int (ln + (1 : Int32))), (.ref a0), (.int ln), (.ref bb)])) rfl rfl (hb hby d4_113)
  have go451 := gap go449 st450
  have N450 := Fr.snoc X450 N436 ga
  have K450 : Keep h0 h450 [a0, bb] := K436.wr W450 (Or.inl (List.mem_of_getElem? (i := 0) rfl))
  have Zs450 : n0 ≤ h450.size := Nat.le_trans Zs436 (Keep.of_wr W450).1
  have F452 : Fld Z h450 a0 "com/example/mirk/mirk/index/BitWriter" "length" "I" (.int (ln + (1 : Int32))) := F438.same W450
  have F453 := F439.other W450 (Or.inr (slot_ne (Or.inl (hw _ (mi 21 rfl))) (Or.inl (hw _ (mi 19 rfl))) (by decide) (t := .int) (t' := .int) (by decide) (by decide)))
  have F454 := F440.other W450 (Or.inr (slot_ne (Or.inl (hw _ (mi 28 rfl))) (Or.inl (hw _ (mi 19 rfl))) (by decide) (t := .long) (t' := .int) (by decide) (by decide)))
  have F455 := F441.other W450 (Or.inr (slot_ne (Or.inl (hw _ (mi 11 rfl))) (Or.inl (hw _ (mi 19 rfl))) (by decide) (t := (.array .byte)) (t' := .int) (by decide) (by decide)))
  have F456 := F442.other W450 (Ne.symm ne0)
  have go457 : Go p.tables e below T450 (mkF m 117 (Lwb_0 a0 q1 p2) [(.ref a0), (.int ln), (.ref bb)]) En := by
    intro t k
    refine go451 _ ?_
    refine XS.aloadN X450.here hx rfl (hb hby d4_116) rfl rfl ?_
    exact k
  obtain ⟨T458, X458, e458, st458⟩ := getF X450 hx hZ hown (host := "") (Or.inl (hw _ (mi 27 rfl))) Via.refl e450 F454 (g := (mkF m 117 (Lwb_0 a0 q1 p2) [(.ref a0), (.int ln), (.ref bb)])) rfl rfl (hb hby d4_117)
  have go459 := gap go457 st458
  have go460 : Go p.tables e below T458 (mkF m 121 (Lwb_0 a0 q1 p2) [(.ref a0), (.long pd1), (.int ln), (.ref bb)]) En := by
    intro t k
    refine go459 _ ?_
    refine XS.aloadN X458.here hx rfl (hb hby d4_120) rfl rfl ?_
    exact k
  obtain ⟨T461, X461, e461, st461⟩ := getF X458 hx hZ hown (host := "") (Or.inl (hw _ (mi 20 rfl))) Via.refl e458 F453 (g := (mkF m 121 (Lwb_0 a0 q1 p2) [(.ref a0), (.long pd1), (.int ln), (.ref bb)])) rfl rfl (hb hby d4_121)
  have go462 := gap go460 st461
  have go463 : Go p.tables e below T461 (mkF m 127 (Lwb_0 a0 q1 p2) [(.int ((pd1.toUInt64 >>> (((pb + p2) - (8 : Int32)) &&& 0x3f).toInt64.toUInt64).toInt64).toInt32.toInt8.toInt32), (.int ln), (.ref bb)]) En := by
    intro t k
    refine go462 _ ?_
    refine XS.lushr X461.here hx rfl (hb hby d4_124) rfl ?_
    refine XS.l2i X461.here hx rfl (hb hby d4_125) rfl ?_
    refine XS.i2b X461.here hx rfl (hb hby d4_126) rfl ?_
    show Steps _ _ _ (T461.setTop (mkF m 127 (Lwb_0 a0 q1 p2) [(.int ((pd1.toUInt64 >>> (((pb + p2) - (8 : Int32)) &&& 0x3f).toInt64.toUInt64).toInt64).toInt32.toInt8.toInt32), (.int ln), (.ref bb)])) _
    exact k
  obtain ⟨cl465, Ar465, q465, S465, N465, H465, G465⟩ := id F456
  have hin466 : ¬ ln < 0 ∧ ln < zz := own_sto hT0 hs430 hn1 (by decide) hcap
  obtain ⟨T464, h464, X464, e464, W464, st464⟩ := stB X461 hx hZ e461 Ar465 (j := ln) (inb_of S465 hin466) (g := (mkF m 127 (Lwb_0 a0 q1 p2) [(.int ((pd1.toUInt64 >>> (((pb + p2) - (8 : Int32)) &&& 0x3f).toInt64.toUInt64).toInt64).toInt32.toInt8.toInt32), (.int ln), (.ref bb)])) rfl rfl (hb hby d4_127)
  have go467 := gap go463 st464
  have N464 := Fr.snoc X464 N450 gb
  have K464 : Keep h0 h464 [a0, bb] := K450.wr W464 (Or.inl (List.mem_of_getElem? (i := 1) rfl))
  have Zs464 : n0 ≤ h464.size := Nat.le_trans Zs450 (Keep.of_wr W464).1
  have F468 := F452.other W464 (Or.inl ne0)
  have F469 := F453.other W464 (Or.inl ne0)
  have F470 := F454.other W464 (Or.inl ne0)
  have F471 := F455.other W464 (Or.inl ne0)
  have F472 : Arv Z h464 bb kc .byte zz (vs0.set ln.toNatClampNeg (.int ((pd1.toUInt64 >>> (((pb + p2) - (8 : Int32)) &&& 0x3f).toInt64.toUInt64).toInt64).toInt32.toInt8.toInt32.toInt8.toInt32)) (.int 0) := Arv.set Ar465 q465 S465 N465 H465 G465 (fits_nar_byte _) W464 ln.toNatClampNeg rfl (by rw [hlen]; exact own_tn hin466)
  obtain ⟨vt473, Vt473, hl473⟩ : ∃ w, Arv Z h464 bb kc .byte zz w (.int 0) ∧ w.length = zz.toNatClampNeg := ⟨_, F472, by rw [List.length_set]; exact hlen⟩
  have hy1 := own_nn8 1 (by decide) hT0 hs430
  have hT1 := own_turn 1 (by decide) hT0 hs430 ⟨hn1, Int.le_trans hn2 hn3⟩ (by decide) h63
  have go474 : Go p.tables e below T464 (mkF m 82 (Lwb_0 a0 q1 p2) [(.ref a0)]) En := by
    intro t k
    refine go467 _ ?_
    refine XS.goto X464.here hx rfl (pc0 := 128) (pc' := 81) rfl (hb hby d4_128) (by decide) (by decide) ?_
    refine XS.aloadN X464.here hx rfl (hb hby d4_81) rfl rfl ?_
    exact k
  obtain ⟨T475, X475, e475, st475⟩ := getF X464 hx hZ hown (host := "") (Or.inl (hw _ (mi 20 rfl))) Via.refl e464 F469 (g := (mkF m 82 (Lwb_0 a0 q1 p2) [(.ref a0)])) rfl rfl (hb hby d4_82)
  have go476 := gap go474 st475
  have go477 : Go p.tables e below T475 (mkF m 87 (Lwb_0 a0 q1 p2) [(.int 8), (.int ((pb + p2) - (8 : Int32)))]) En := by
    intro t k
    refine go476 _ ?_
    refine XS.bipush X475.here hx rfl (hb hby d4_85) ?_
    exact k
  by_cases hs478 : ((pb + p2) - (8 : Int32)) < (8 : Int32)
  · have hA := own_out8 (z := zz) hT1 hs478 (by rw [hT1.2]; exact hy1) hn1 (by decide) hcap hn3 hB1
    have hC : capW B p2.toInt c = zz.toInt := own_nogrow hB1 hB2 hcap
    have go479 : Go p.tables e below T475 (mkF m 131 (Lwb_0 a0 q1 p2) []) En := by
      intro t k
      refine go477 _ ?_
      refine XS.icmpYes X475.here hx rfl (pc0 := 87) (pc' := 131) rfl (hb hby d4_87) rfl (XT.ii_lt_t hs478) (by decide) (by decide) ?_
      exact k
    refine own_outV X475 hx hlk go479 hrt (hb hby d4_131) e475 (Nat.le_of_ble_eq_true rfl) (Nat.zero_le _) ?_
    exact ⟨rfl, N464, K464.1, (ln + (1 : Int32)), ((pb + p2) - (8 : Int32)), zz, bb, _, _, pd1, (E0.keep K464), F468, F469, F470, F471, Vt473, ga, gb, ne0, hl473, hA.1, hC, hA.2⟩
  have go480 : Go p.tables e below T475 (mkF m 92 (Lwb_0 a0 q1 p2) [(.ref a0), (.ref a0)]) En := by
    intro t k
    refine go477 _ ?_
    refine XS.icmpNo X475.here hx rfl (hb hby d4_87) rfl (XT.ii_lt_f hs478) ?_
    refine XS.aloadN X475.here hx rfl (hb hby d4_90) rfl rfl ?_
    refine XS.dup X475.here hx rfl (hb hby d4_91) rfl rfl ?_
    show Steps _ _ _ (T475.setTop (mkF m 92 (Lwb_0 a0 q1 p2) [(.ref a0), (.ref a0)])) _
    exact k
  obtain ⟨T481, X481, e481, st481⟩ := getF X475 hx hZ hown (host := "") (Or.inl (hw _ (mi 20 rfl))) Via.refl e475 F469 (g := (mkF m 92 (Lwb_0 a0 q1 p2) [(.ref a0), (.ref a0)])) rfl rfl (hb hby d4_92)
  have go482 := gap go480 st481
  have go483 : Go p.tables e below T481 (mkF m 98 (Lwb_0 a0 q1 p2) [(.int (((pb + p2) - (8 : Int32)) - (8 : Int32))), (.ref a0)]) En := by
    intro t k
    refine go482 _ ?_
    refine XS.bipush X481.here hx rfl (hb hby d4_95) ?_
    refine XS.isub X481.here hx rfl (hb hby d4_97) rfl ?_
    exact k
  obtain ⟨T484, h484, X484, e484, W484, st484⟩ := putF X481 hx hZ hown (host := "") (Or.inl (hw _ (mi 20 rfl))) Via.refl e481 F469 (E0.keep K464) (Or.inl (hw _ (mi 21 rfl))) (hw _ (mi 1 rfl)) (ty := .int) (by decide) rfl rfl (g := (mkF m 98 (Lwb_0 a0 q1 p2) [(.int (((pb + p2) - (8 : Int32)) - (8 : Int32))), (.ref a0)])) rfl rfl (hb hby d4_98)
  have go485 := gap go483 st484
  have N484 := Fr.snoc X484 N464 ga
  have K484 : Keep h0 h484 [a0, bb] := K464.wr W484 (Or.inl (List.mem_of_getElem? (i := 0) rfl))
  have Zs484 : n0 ≤ h484.size := Nat.le_trans Zs464 (Keep.of_wr W484).1
  have F486 := F468.other W484 (Or.inr (slot_ne (Or.inl (hw _ (mi 19 rfl))) (Or.inl (hw _ (mi 21 rfl))) (by decide) (t := .int) (t' := .int) (by decide) (by decide)))
  have F487 : Fld Z h484 a0 "com/example/mirk/mirk/index/BitWriter" "pendingBits" "I" (.int (((pb + p2) - (8 : Int32)) - (8 : Int32))) := F469.same W484
  have F488 := F470.other W484 (Or.inr (slot_ne (Or.inl (hw _ (mi 28 rfl))) (Or.inl (hw _ (mi 21 rfl))) (by decide) (t := .long) (t' := .int) (by decide) (by decide)))
  have F489 := F471.other W484 (Or.inr (slot_ne (Or.inl (hw _ (mi 11 rfl))) (Or.inl (hw _ (mi 21 rfl))) (by decide) (t := (.array .byte)) (t' := .int) (by decide) (by decide)))
  have F490 := Vt473.other W484 (Ne.symm ne0)
  have go491 : Go p.tables e below T484 (mkF m 102 (Lwb_0 a0 q1 p2) [(.ref a0)]) En := by
    intro t k
    refine go485 _ ?_
    refine XS.aloadN X484.here hx rfl (hb hby d4_101) rfl rfl ?_
    exact k
  obtain ⟨T492, X492, e492, st492⟩ := getF X484 hx hZ hown (host := "") (Or.inl (hw _ (mi 10 rfl))) Via.refl e484 F489 (g := (mkF m 102 (Lwb_0 a0 q1 p2) [(.ref a0)])) rfl rfl (hb hby d4_102)
  have go493 := gap go491 st492
  have go494 : Go p.tables e below T492 (mkF m 107 (Lwb_0 a0 q1 p2) [(.ref a0), (.ref a0), (.ref bb)]) En := by
    intro t k
    refine go493 _ ?_
    refine XS.aloadN X492.here hx rfl (hb hby d4_105) rfl rfl ?_
    refine XS.dup X492.here hx rfl (hb hby d4_106) rfl rfl ?_
    exact k
  obtain ⟨T495, X495, e495, st495⟩ := getF X492 hx hZ hown (host := "") (Or.inl (hw _ (mi 18 rfl))) Via.refl e492 F486 (g := (mkF m 107 (Lwb_0 a0 q1 p2) [(.ref a0), (.ref a0), (.ref bb)])) rfl rfl (hb hby d4_107)
  have go496 := gap go494 st495
  have go497 : Go p.tables e below T495 (mkF m 113 (Lwb_0 a0 q1 p2) [(.int ((ln + (1 : Int32)) + (1 : Int32))), (.ref a0), (.int (ln + (1 : Int32))), (.ref bb)]) En := by
    intro t k
    refine go496 _ ?_
    refine XS.dupX1 X495.here hx rfl (hb hby d4_110) rfl rfl rfl ?_
    refine XS.iconst X495.here hx rfl (hb hby d4_111) ?_
    refine XS.iadd X495.here hx rfl (hb hby d4_112) rfl ?_
    show Steps _ _ _ (T495.setTop (mkF m 113 (Lwb_0 a0 q1 p2) [(.int ((ln + (1 : Int32)) + (1 : Int32))), (.ref a0), (.int (ln + (1 : Int32))), (.ref bb)])) _
    exact k
  obtain ⟨T498, h498, X498, e498, W498, st498⟩ := putF X495 hx hZ hown (host := "") (Or.inl (hw _ (mi 18 rfl))) Via.refl e495 F486 (E0.keep K484) (Or.inl (hw _ (mi 19 rfl))) (hw _ (mi 1 rfl)) (ty := .int) (by decide) rfl rfl (g := (mkF m 113 (Lwb_0 a0 q1 p2) [(.int ((ln + (1 : Int32)) + (1 : Int32))), (.ref a0), (.int (ln + (1 : Int32))), (.ref bb)])) rfl rfl (hb hby d4_113)
  have go499 := gap go497 st498
  have N498 := Fr.snoc X498 N484 ga
  have K498 : Keep h0 h498 [a0, bb] := K484.wr W498 (Or.inl (List.mem_of_getElem? (i := 0) rfl))
  have Zs498 : n0 ≤ h498.size := Nat.le_trans Zs484 (Keep.of_wr W498).1
  have F500 : Fld Z h498 a0 "com/example/mirk/mirk/index/BitWriter" "length" "I" (.int ((ln + (1 : Int32)) + (1 : Int32))) := F486.same W498
  have F501 := F487.other W498 (Or.inr (slot_ne (Or.inl (hw _ (mi 21 rfl))) (Or.inl (hw _ (mi 19 rfl))) (by decide) (t := .int) (t' := .int) (by decide) (by decide)))
  have F502 := F488.other W498 (Or.inr (slot_ne (Or.inl (hw _ (mi 28 rfl))) (Or.inl (hw _ (mi 19 rfl))) (by decide) (t := .long) (t' := .int) (by decide) (by decide)))
  have F503 := F489.other W498 (Or.inr (slot_ne (Or.inl (hw _ (mi 11 rfl))) (Or.inl (hw _ (mi 19 rfl))) (by decide) (t := (.array .byte)) (t' := .int) (by decide) (by decide)))
  have F504 := F490.other W498 (Ne.symm ne0)
  have go505 : Go p.tables e below T498 (mkF m 117 (Lwb_0 a0 q1 p2) [(.ref a0), (.int (ln + (1 : Int32))), (.ref bb)]) En := by
    intro t k
    refine go499 _ ?_
    refine XS.aloadN X498.here hx rfl (hb hby d4_116) rfl rfl ?_
    exact k
  obtain ⟨T506, X506, e506, st506⟩ := getF X498 hx hZ hown (host := "") (Or.inl (hw _ (mi 27 rfl))) Via.refl e498 F502 (g := (mkF m 117 (Lwb_0 a0 q1 p2) [(.ref a0), (.int (ln + (1 : Int32))), (.ref bb)])) rfl rfl (hb hby d4_117)
  have go507 := gap go505 st506
  have go508 : Go p.tables e below T506 (mkF m 121 (Lwb_0 a0 q1 p2) [(.ref a0), (.long pd1), (.int (ln + (1 : Int32))), (.ref bb)]) En := by
    intro t k
    refine go507 _ ?_
    refine XS.aloadN X506.here hx rfl (hb hby d4_120) rfl rfl ?_
    exact k
  obtain ⟨T509, X509, e509, st509⟩ := getF X506 hx hZ hown (host := "") (Or.inl (hw _ (mi 20 rfl))) Via.refl e506 F501 (g := (mkF m 121 (Lwb_0 a0 q1 p2) [(.ref a0), (.long pd1), (.int (ln + (1 : Int32))), (.ref bb)])) rfl rfl (hb hby d4_121)
  have go510 := gap go508 st509
  have go511 : Go p.tables e below T509 (mkF m 127 (Lwb_0 a0 q1 p2) [(.int ((pd1.toUInt64 >>> ((((pb + p2) - (8 : Int32)) - (8 : Int32)) &&& 0x3f).toInt64.toUInt64).toInt64).toInt32.toInt8.toInt32), (.int (ln + (1 : Int32))), (.ref bb)]) En := by
    intro t k
    refine go510 _ ?_
    refine XS.lushr X509.here hx rfl (hb hby d4_124) rfl ?_
    refine XS.l2i X509.here hx rfl (hb hby d4_125) rfl ?_
    refine XS.i2b X509.here hx rfl (hb hby d4_126) rfl ?_
    show Steps _ _ _ (T509.setTop (mkF m 127 (Lwb_0 a0 q1 p2) [(.int ((pd1.toUInt64 >>> ((((pb + p2) - (8 : Int32)) - (8 : Int32)) &&& 0x3f).toInt64.toUInt64).toInt64).toInt32.toInt8.toInt32), (.int (ln + (1 : Int32))), (.ref bb)])) _
    exact k
  obtain ⟨cl513, Ar513, q513, S513, N513, H513, G513⟩ := id F504
  have hin514 : ¬ (ln + (1 : Int32)) < 0 ∧ (ln + (1 : Int32)) < zz := own_sto hT1 hs478 hn1 (by decide) hcap
  obtain ⟨T512, h512, X512, e512, W512, st512⟩ := stB X509 hx hZ e509 Ar513 (j := (ln + (1 : Int32))) (inb_of S513 hin514) (g := (mkF m 127 (Lwb_0 a0 q1 p2) [(.int ((pd1.toUInt64 >>> ((((pb + p2) - (8 : Int32)) - (8 : Int32)) &&& 0x3f).toInt64.toUInt64).toInt64).toInt32.toInt8.toInt32), (.int (ln + (1 : Int32))), (.ref bb)])) rfl rfl (hb hby d4_127)
  have go515 := gap go511 st512
  have N512 := Fr.snoc X512 N498 gb
  have K512 : Keep h0 h512 [a0, bb] := K498.wr W512 (Or.inl (List.mem_of_getElem? (i := 1) rfl))
  have Zs512 : n0 ≤ h512.size := Nat.le_trans Zs498 (Keep.of_wr W512).1
  have F516 := F500.other W512 (Or.inl ne0)
  have F517 := F501.other W512 (Or.inl ne0)
  have F518 := F502.other W512 (Or.inl ne0)
  have F519 := F503.other W512 (Or.inl ne0)
  have F520 : Arv Z h512 bb kc .byte zz (vt473.set (ln + (1 : Int32)).toNatClampNeg (.int ((pd1.toUInt64 >>> ((((pb + p2) - (8 : Int32)) - (8 : Int32)) &&& 0x3f).toInt64.toUInt64).toInt64).toInt32.toInt8.toInt32.toInt8.toInt32)) (.int 0) := Arv.set Ar513 q513 S513 N513 H513 G513 (fits_nar_byte _) W512 (ln + (1 : Int32)).toNatClampNeg rfl (by rw [hl473]; exact own_tn hin514)
  obtain ⟨vt521, Vt521, hl521⟩ : ∃ w, Arv Z h512 bb kc .byte zz w (.int 0) ∧ w.length = zz.toNatClampNeg := ⟨_, F520, by rw [List.length_set]; exact hl473⟩
  have hy2 := own_nn8 2 (by decide) hT1 hs478
  have hT2 := own_turn 2 (by decide) hT1 hs478 ⟨hn1, Int.le_trans hn2 hn3⟩ (by decide) h63
  have go522 : Go p.tables e below T512 (mkF m 82 (Lwb_0 a0 q1 p2) [(.ref a0)]) En := by
    intro t k
    refine go515 _ ?_
    refine XS.goto X512.here hx rfl (pc0 := 128) (pc' := 81) rfl (hb hby d4_128) (by decide) (by decide) ?_
    refine XS.aloadN X512.here hx rfl (hb hby d4_81) rfl rfl ?_
    exact k
  obtain ⟨T523, X523, e523, st523⟩ := getF X512 hx hZ hown (host := "") (Or.inl (hw _ (mi 20 rfl))) Via.refl e512 F517 (g := (mkF m 82 (Lwb_0 a0 q1 p2) [(.ref a0)])) rfl rfl (hb hby d4_82)
  have go524 := gap go522 st523
  have go525 : Go p.tables e below T523 (mkF m 87 (Lwb_0 a0 q1 p2) [(.int 8), (.int (((pb + p2) - (8 : Int32)) - (8 : Int32)))]) En := by
    intro t k
    refine go524 _ ?_
    refine XS.bipush X523.here hx rfl (hb hby d4_85) ?_
    exact k
  by_cases hs526 : (((pb + p2) - (8 : Int32)) - (8 : Int32)) < (8 : Int32)
  · have hA := own_out8 (z := zz) hT2 hs526 (by rw [hT2.2]; exact hy2) hn1 (by decide) hcap hn3 hB1
    have hC : capW B p2.toInt c = zz.toInt := own_nogrow hB1 hB2 hcap
    have go527 : Go p.tables e below T523 (mkF m 131 (Lwb_0 a0 q1 p2) []) En := by
      intro t k
      refine go525 _ ?_
      refine XS.icmpYes X523.here hx rfl (pc0 := 87) (pc' := 131) rfl (hb hby d4_87) rfl (XT.ii_lt_t hs526) (by decide) (by decide) ?_
      exact k
    refine own_outV X523 hx hlk go527 hrt (hb hby d4_131) e523 (Nat.le_of_ble_eq_true rfl) (Nat.zero_le _) ?_
    exact ⟨rfl, N512, K512.1, ((ln + (1 : Int32)) + (1 : Int32)), (((pb + p2) - (8 : Int32)) - (8 : Int32)), zz, bb, _, _, pd1, (E0.keep K512), F516, F517, F518, F519, Vt521, ga, gb, ne0, hl521, hA.1, hC, hA.2⟩
  have go528 : Go p.tables e below T523 (mkF m 92 (Lwb_0 a0 q1 p2) [(.ref a0), (.ref a0)]) En := by
    intro t k
    refine go525 _ ?_
    refine XS.icmpNo X523.here hx rfl (hb hby d4_87) rfl (XT.ii_lt_f hs526) ?_
    refine XS.aloadN X523.here hx rfl (hb hby d4_90) rfl rfl ?_
    refine XS.dup X523.here hx rfl (hb hby d4_91) rfl rfl ?_
    show Steps _ _ _ (T523.setTop (mkF m 92 (Lwb_0 a0 q1 p2) [(.ref a0), (.ref a0)])) _
    exact k
  obtain ⟨T529, X529, e529, st529⟩ := getF X523 hx hZ hown (host := "") (Or.inl (hw _ (mi 20 rfl))) Via.refl e523 F517 (g := (mkF m 92 (Lwb_0 a0 q1 p2) [(.ref a0), (.ref a0)])) rfl rfl (hb hby d4_92)
  have go530 := gap go528 st529
  have go531 : Go p.tables e below T529 (mkF m 98 (Lwb_0 a0 q1 p2) [(.int ((((pb + p2) - (8 : Int32)) - (8 : Int32)) - (8 : Int32))), (.ref a0)]) En := by
    intro t k
    refine go530 _ ?_
    refine XS.bipush X529.here hx rfl (hb hby d4_95) ?_
    refine XS.isub X529.here hx rfl (hb hby d4_97) rfl ?_
    exact k
  obtain ⟨T532, h532, X532, e532, W532, st532⟩ := putF X529 hx hZ hown (host := "") (Or.inl (hw _ (mi 20 rfl))) Via.refl e529 F517 (E0.keep K512) (Or.inl (hw _ (mi 21 rfl))) (hw _ (mi 1 rfl)) (ty := .int) (by decide) rfl rfl (g := (mkF m 98 (Lwb_0 a0 q1 p2) [(.int ((((pb + p2) - (8 : Int32)) - (8 : Int32)) - (8 : Int32))), (.ref a0)])) rfl rfl (hb hby d4_98)
  have go533 := gap go531 st532
  have N532 := Fr.snoc X532 N512 ga
  have K532 : Keep h0 h532 [a0, bb] := K512.wr W532 (Or.inl (List.mem_of_getElem? (i := 0) rfl))
  have Zs532 : n0 ≤ h532.size := Nat.le_trans Zs512 (Keep.of_wr W532).1
  have F534 := F516.other W532 (Or.inr (slot_ne (Or.inl (hw _ (mi 19 rfl))) (Or.inl (hw _ (mi 21 rfl))) (by decide) (t := .int) (t' := .int) (by decide) (by decide)))
  have F535 : Fld Z h532 a0 "com/example/mirk/mirk/index/BitWriter" "pendingBits" "I" (.int ((((pb + p2) - (8 : Int32)) - (8 : Int32)) - (8 : Int32))) := F517.same W532
  have F536 := F518.other W532 (Or.inr (slot_ne (Or.inl (hw _ (mi 28 rfl))) (Or.inl (hw _ (mi 21 rfl))) (by decide) (t := .long) (t' := .int) (by decide) (by decide)))
  have F537 := F519.other W532 (Or.inr (slot_ne (Or.inl (hw _ (mi 11 rfl))) (Or.inl (hw _ (mi 21 rfl))) (by decide) (t := (.array .byte)) (t' := .int) (by decide) (by decide)))
  have F538 := Vt521.other W532 (Ne.symm ne0)
  have go539 : Go p.tables e below T532 (mkF m 102 (Lwb_0 a0 q1 p2) [(.ref a0)]) En := by
    intro t k
    refine go533 _ ?_
    refine XS.aloadN X532.here hx rfl (hb hby d4_101) rfl rfl ?_
    exact k
  obtain ⟨T540, X540, e540, st540⟩ := getF X532 hx hZ hown (host := "") (Or.inl (hw _ (mi 10 rfl))) Via.refl e532 F537 (g := (mkF m 102 (Lwb_0 a0 q1 p2) [(.ref a0)])) rfl rfl (hb hby d4_102)
  have go541 := gap go539 st540
  have go542 : Go p.tables e below T540 (mkF m 107 (Lwb_0 a0 q1 p2) [(.ref a0), (.ref a0), (.ref bb)]) En := by
    intro t k
    refine go541 _ ?_
    refine XS.aloadN X540.here hx rfl (hb hby d4_105) rfl rfl ?_
    refine XS.dup X540.here hx rfl (hb hby d4_106) rfl rfl ?_
    exact k
  obtain ⟨T543, X543, e543, st543⟩ := getF X540 hx hZ hown (host := "") (Or.inl (hw _ (mi 18 rfl))) Via.refl e540 F534 (g := (mkF m 107 (Lwb_0 a0 q1 p2) [(.ref a0), (.ref a0), (.ref bb)])) rfl rfl (hb hby d4_107)
  have go544 := gap go542 st543
  have go545 : Go p.tables e below T543 (mkF m 113 (Lwb_0 a0 q1 p2) [(.int (((ln + (1 : Int32)) + (1 : Int32)) + (1 : Int32))), (.ref a0), (.int ((ln + (1 : Int32)) + (1 : Int32))), (.ref bb)]) En := by
    intro t k
    refine go544 _ ?_
    refine XS.dupX1 X543.here hx rfl (hb hby d4_110) rfl rfl rfl ?_
    refine XS.iconst X543.here hx rfl (hb hby d4_111) ?_
    refine XS.iadd X543.here hx rfl (hb hby d4_112) rfl ?_
    show Steps _ _ _ (T543.setTop (mkF m 113 (Lwb_0 a0 q1 p2) [(.int (((ln + (1 : Int32)) + (1 : Int32)) + (1 : Int32))), (.ref a0), (.int ((ln + (1 : Int32)) + (1 : Int32))), (.ref bb)])) _
    exact k
  obtain ⟨T546, h546, X546, e546, W546, st546⟩ := putF X543 hx hZ hown (host := "") (Or.inl (hw _ (mi 18 rfl))) Via.refl e543 F534 (E0.keep K532) (Or.inl (hw _ (mi 19 rfl))) (hw _ (mi 1 rfl)) (ty := .int) (by decide) rfl rfl (g := (mkF m 113 (Lwb_0 a0 q1 p2) [(.int (((ln + (1 : Int32)) + (1 : Int32)) + (1 : Int32))), (.ref a0), (.int ((ln + (1 : Int32)) + (1 : Int32))), (.ref bb)])) rfl rfl (hb hby d4_113)
  have go547 := gap go545 st546
  have N546 := Fr.snoc X546 N532 ga
  have K546 : Keep h0 h546 [a0, bb] := K532.wr W546 (Or.inl (List.mem_of_getElem? (i := 0) rfl))
  have Zs546 : n0 ≤ h546.size := Nat.le_trans Zs532 (Keep.of_wr W546).1
  have F548 : Fld Z h546 a0 "com/example/mirk/mirk/index/BitWriter" "length" "I" (.int (((ln + (1 : Int32)) + (1 : Int32)) + (1 : Int32))) := F534.same W546
  have F549 := F535.other W546 (Or.inr (slot_ne (Or.inl (hw _ (mi 21 rfl))) (Or.inl (hw _ (mi 19 rfl))) (by decide) (t := .int) (t' := .int) (by decide) (by decide)))
  have F550 := F536.other W546 (Or.inr (slot_ne (Or.inl (hw _ (mi 28 rfl))) (Or.inl (hw _ (mi 19 rfl))) (by decide) (t := .long) (t' := .int) (by decide) (by decide)))
  have F551 := F537.other W546 (Or.inr (slot_ne (Or.inl (hw _ (mi 11 rfl))) (Or.inl (hw _ (mi 19 rfl))) (by decide) (t := (.array .byte)) (t' := .int) (by decide) (by decide)))
  have F552 := F538.other W546 (Ne.symm ne0)
  have go553 : Go p.tables e below T546 (mkF m 117 (Lwb_0 a0 q1 p2) [(.ref a0), (.int ((ln + (1 : Int32)) + (1 : Int32))), (.ref bb)]) En := by
    intro t k
    refine go547 _ ?_
    refine XS.aloadN X546.here hx rfl (hb hby d4_116) rfl rfl ?_
    exact k
  obtain ⟨T554, X554, e554, st554⟩ := getF X546 hx hZ hown (host := "") (Or.inl (hw _ (mi 27 rfl))) Via.refl e546 F550 (g := (mkF m 117 (Lwb_0 a0 q1 p2) [(.ref a0), (.int ((ln + (1 : Int32)) + (1 : Int32))), (.ref bb)])) rfl rfl (hb hby d4_117)
  have go555 := gap go553 st554
  have go556 : Go p.tables e below T554 (mkF m 121 (Lwb_0 a0 q1 p2) [(.ref a0), (.long pd1), (.int ((ln + (1 : Int32)) + (1 : Int32))), (.ref bb)]) En := by
    intro t k
    refine go555 _ ?_
    refine XS.aloadN X554.here hx rfl (hb hby d4_120) rfl rfl ?_
    exact k
  obtain ⟨T557, X557, e557, st557⟩ := getF X554 hx hZ hown (host := "") (Or.inl (hw _ (mi 20 rfl))) Via.refl e554 F549 (g := (mkF m 121 (Lwb_0 a0 q1 p2) [(.ref a0), (.long pd1), (.int ((ln + (1 : Int32)) + (1 : Int32))), (.ref bb)])) rfl rfl (hb hby d4_121)
  have go558 := gap go556 st557
  have go559 : Go p.tables e below T557 (mkF m 127 (Lwb_0 a0 q1 p2) [(.int ((pd1.toUInt64 >>> (((((pb + p2) - (8 : Int32)) - (8 : Int32)) - (8 : Int32)) &&& 0x3f).toInt64.toUInt64).toInt64).toInt32.toInt8.toInt32), (.int ((ln + (1 : Int32)) + (1 : Int32))), (.ref bb)]) En := by
    intro t k
    refine go558 _ ?_
    refine XS.lushr X557.here hx rfl (hb hby d4_124) rfl ?_
    refine XS.l2i X557.here hx rfl (hb hby d4_125) rfl ?_
    refine XS.i2b X557.here hx rfl (hb hby d4_126) rfl ?_
    show Steps _ _ _ (T557.setTop (mkF m 127 (Lwb_0 a0 q1 p2) [(.int ((pd1.toUInt64 >>> (((((pb + p2) - (8 : Int32)) - (8 : Int32)) - (8 : Int32)) &&& 0x3f).toInt64.toUInt64).toInt64).toInt32.toInt8.toInt32), (.int ((ln + (1 : Int32)) + (1 : Int32))), (.ref bb)])) _
    exact k
  obtain ⟨cl561, Ar561, q561, S561, N561, H561, G561⟩ := id F552
  have hin562 : ¬ ((ln + (1 : Int32)) + (1 : Int32)) < 0 ∧ ((ln + (1 : Int32)) + (1 : Int32)) < zz := own_sto hT2 hs526 hn1 (by decide) hcap
  obtain ⟨T560, h560, X560, e560, W560, st560⟩ := stB X557 hx hZ e557 Ar561 (j := ((ln + (1 : Int32)) + (1 : Int32))) (inb_of S561 hin562) (g := (mkF m 127 (Lwb_0 a0 q1 p2) [(.int ((pd1.toUInt64 >>> (((((pb + p2) - (8 : Int32)) - (8 : Int32)) - (8 : Int32)) &&& 0x3f).toInt64.toUInt64).toInt64).toInt32.toInt8.toInt32), (.int ((ln + (1 : Int32)) + (1 : Int32))), (.ref bb)])) rfl rfl (hb hby d4_127)
  have go563 := gap go559 st560
  have N560 := Fr.snoc X560 N546 gb
  have K560 : Keep h0 h560 [a0, bb] := K546.wr W560 (Or.inl (List.mem_of_getElem? (i := 1) rfl))
  have Zs560 : n0 ≤ h560.size := Nat.le_trans Zs546 (Keep.of_wr W560).1
  have F564 := F548.other W560 (Or.inl ne0)
  have F565 := F549.other W560 (Or.inl ne0)
  have F566 := F550.other W560 (Or.inl ne0)
  have F567 := F551.other W560 (Or.inl ne0)
  have F568 : Arv Z h560 bb kc .byte zz (vt521.set ((ln + (1 : Int32)) + (1 : Int32)).toNatClampNeg (.int ((pd1.toUInt64 >>> (((((pb + p2) - (8 : Int32)) - (8 : Int32)) - (8 : Int32)) &&& 0x3f).toInt64.toUInt64).toInt64).toInt32.toInt8.toInt32.toInt8.toInt32)) (.int 0) := Arv.set Ar561 q561 S561 N561 H561 G561 (fits_nar_byte _) W560 ((ln + (1 : Int32)) + (1 : Int32)).toNatClampNeg rfl (by rw [hl521]; exact own_tn hin562)
  obtain ⟨vt569, Vt569, hl569⟩ : ∃ w, Arv Z h560 bb kc .byte zz w (.int 0) ∧ w.length = zz.toNatClampNeg := ⟨_, F568, by rw [List.length_set]; exact hl521⟩
  have hy3 := own_nn8 3 (by decide) hT2 hs526
  have hT3 := own_turn 3 (by decide) hT2 hs526 ⟨hn1, Int.le_trans hn2 hn3⟩ (by decide) h63
  have go570 : Go p.tables e below T560 (mkF m 82 (Lwb_0 a0 q1 p2) [(.ref a0)]) En := by
    intro t k
    refine go563 _ ?_
    refine XS.goto X560.here hx rfl (pc0 := 128) (pc' := 81) rfl (hb hby d4_128) (by decide) (by decide) ?_
    refine XS.aloadN X560.here hx rfl (hb hby d4_81) rfl rfl ?_
    exact k
  obtain ⟨T571, X571, e571, st571⟩ := getF X560 hx hZ hown (host := "") (Or.inl (hw _ (mi 20 rfl))) Via.refl e560 F565 (g := (mkF m 82 (Lwb_0 a0 q1 p2) [(.ref a0)])) rfl rfl (hb hby d4_82)
  have go572 := gap go570 st571
  have go573 : Go p.tables e below T571 (mkF m 87 (Lwb_0 a0 q1 p2) [(.int 8), (.int ((((pb + p2) - (8 : Int32)) - (8 : Int32)) - (8 : Int32)))]) En := by
    intro t k
    refine go572 _ ?_
    refine XS.bipush X571.here hx rfl (hb hby d4_85) ?_
    exact k
  by_cases hs574 : ((((pb + p2) - (8 : Int32)) - (8 : Int32)) - (8 : Int32)) < (8 : Int32)
  · have hA := own_out8 (z := zz) hT3 hs574 (by rw [hT3.2]; exact hy3) hn1 (by decide) hcap hn3 hB1
    have hC : capW B p2.toInt c = zz.toInt := own_nogrow hB1 hB2 hcap
    have go575 : Go p.tables e below T571 (mkF m 131 (Lwb_0 a0 q1 p2) []) En := by
      intro t k
      refine go573 _ ?_
      refine XS.icmpYes X571.here hx rfl (pc0 := 87) (pc' := 131) rfl (hb hby d4_87) rfl (XT.ii_lt_t hs574) (by decide) (by decide) ?_
      exact k
    refine own_outV X571 hx hlk go575 hrt (hb hby d4_131) e571 (Nat.le_of_ble_eq_true rfl) (Nat.zero_le _) ?_
    exact ⟨rfl, N560, K560.1, (((ln + (1 : Int32)) + (1 : Int32)) + (1 : Int32)), ((((pb + p2) - (8 : Int32)) - (8 : Int32)) - (8 : Int32)), zz, bb, _, _, pd1, (E0.keep K560), F564, F565, F566, F567, Vt569, ga, gb, ne0, hl569, hA.1, hC, hA.2⟩
  have go576 : Go p.tables e below T571 (mkF m 92 (Lwb_0 a0 q1 p2) [(.ref a0), (.ref a0)]) En := by
    intro t k
    refine go573 _ ?_
    refine XS.icmpNo X571.here hx rfl (hb hby d4_87) rfl (XT.ii_lt_f hs574) ?_
    refine XS.aloadN X571.here hx rfl (hb hby d4_90) rfl rfl ?_
    refine XS.dup X571.here hx rfl (hb hby d4_91) rfl rfl ?_
    show Steps _ _ _ (T571.setTop (mkF m 92 (Lwb_0 a0 q1 p2) [(.ref a0), (.ref a0)])) _
    exact k
  obtain ⟨T577, X577, e577, st577⟩ := getF X571 hx hZ hown (host := "") (Or.inl (hw _ (mi 20 rfl))) Via.refl e571 F565 (g := (mkF m 92 (Lwb_0 a0 q1 p2) [(.ref a0), (.ref a0)])) rfl rfl (hb hby d4_92)
  have go578 := gap go576 st577
  have go579 : Go p.tables e below T577 (mkF m 98 (Lwb_0 a0 q1 p2) [(.int (((((pb + p2) - (8 : Int32)) - (8 : Int32)) - (8 : Int32)) - (8 : Int32))), (.ref a0)]) En := by
    intro t k
    refine go578 _ ?_
    refine XS.bipush X577.here hx rfl (hb hby d4_95) ?_
    refine XS.isub X577.here hx rfl (hb hby d4_97) rfl ?_
    exact k
  obtain ⟨T580, h580, X580, e580, W580, st580⟩ := putF X577 hx hZ hown (host := "") (Or.inl (hw _ (mi 20 rfl))) Via.refl e577 F565 (E0.keep K560) (Or.inl (hw _ (mi 21 rfl))) (hw _ (mi 1 rfl)) (ty := .int) (by decide) rfl rfl (g := (mkF m 98 (Lwb_0 a0 q1 p2) [(.int (((((pb + p2) - (8 : Int32)) - (8 : Int32)) - (8 : Int32)) - (8 : Int32))), (.ref a0)])) rfl rfl (hb hby d4_98)
  have go581 := gap go579 st580
  have N580 := Fr.snoc X580 N560 ga
  have K580 : Keep h0 h580 [a0, bb] := K560.wr W580 (Or.inl (List.mem_of_getElem? (i := 0) rfl))
  have Zs580 : n0 ≤ h580.size := Nat.le_trans Zs560 (Keep.of_wr W580).1
  have F582 := F564.other W580 (Or.inr (slot_ne (Or.inl (hw _ (mi 19 rfl))) (Or.inl (hw _ (mi 21 rfl))) (by decide) (t := .int) (t' := .int) (by decide) (by decide)))
  have F583 : Fld Z h580 a0 "com/example/mirk/mirk/index/BitWriter" "pendingBits" "I" (.int (((((pb + p2) - (8 : Int32)) - (8 : Int32)) - (8 : Int32)) - (8 : Int32))) := F565.same W580
  have F584 := F566.other W580 (Or.inr (slot_ne (Or.inl (hw _ (mi 28 rfl))) (Or.inl (hw _ (mi 21 rfl))) (by decide) (t := .long) (t' := .int) (by decide) (by decide)))
  have F585 := F567.other W580 (Or.inr (slot_ne (Or.inl (hw _ (mi 11 rfl))) (Or.inl (hw _ (mi 21 rfl))) (by decide) (t := (.array .byte)) (t' := .int) (by decide) (by decide)))
  have F586 := Vt569.other W580 (Ne.symm ne0)
  have go587 : Go p.tables e below T580 (mkF m 102 (Lwb_0 a0 q1 p2) [(.ref a0)]) En := by
    intro t k
    refine go581 _ ?_
    refine XS.aloadN X580.here hx rfl (hb hby d4_101) rfl rfl ?_
    exact k
  obtain ⟨T588, X588, e588, st588⟩ := getF X580 hx hZ hown (host := "") (Or.inl (hw _ (mi 10 rfl))) Via.refl e580 F585 (g := (mkF m 102 (Lwb_0 a0 q1 p2) [(.ref a0)])) rfl rfl (hb hby d4_102)
  have go589 := gap go587 st588
  have go590 : Go p.tables e below T588 (mkF m 107 (Lwb_0 a0 q1 p2) [(.ref a0), (.ref a0), (.ref bb)]) En := by
    intro t k
    refine go589 _ ?_
    refine XS.aloadN X588.here hx rfl (hb hby d4_105) rfl rfl ?_
    refine XS.dup X588.here hx rfl (hb hby d4_106) rfl rfl ?_
    exact k
  obtain ⟨T591, X591, e591, st591⟩ := getF X588 hx hZ hown (host := "") (Or.inl (hw _ (mi 18 rfl))) Via.refl e588 F582 (g := (mkF m 107 (Lwb_0 a0 q1 p2) [(.ref a0), (.ref a0), (.ref bb)])) rfl rfl (hb hby d4_107)
  have go592 := gap go590 st591
  have go593 : Go p.tables e below T591 (mkF m 113 (Lwb_0 a0 q1 p2) [(.int ((((ln + (1 : Int32)) + (1 : Int32)) + (1 : Int32)) + (1 : Int32))), (.ref a0), (.int (((ln + (1 : Int32)) + (1 : Int32)) + (1 : Int32))), (.ref bb)]) En := by
    intro t k
    refine go592 _ ?_
    refine XS.dupX1 X591.here hx rfl (hb hby d4_110) rfl rfl rfl ?_
    refine XS.iconst X591.here hx rfl (hb hby d4_111) ?_
    refine XS.iadd X591.here hx rfl (hb hby d4_112) rfl ?_
    show Steps _ _ _ (T591.setTop (mkF m 113 (Lwb_0 a0 q1 p2) [(.int ((((ln + (1 : Int32)) + (1 : Int32)) + (1 : Int32)) + (1 : Int32))), (.ref a0), (.int (((ln + (1 : Int32)) + (1 : Int32)) + (1 : Int32))), (.ref bb)])) _
    exact k
  obtain ⟨T594, h594, X594, e594, W594, st594⟩ := putF X591 hx hZ hown (host := "") (Or.inl (hw _ (mi 18 rfl))) Via.refl e591 F582 (E0.keep K580) (Or.inl (hw _ (mi 19 rfl))) (hw _ (mi 1 rfl)) (ty := .int) (by decide) rfl rfl (g := (mkF m 113 (Lwb_0 a0 q1 p2) [(.int ((((ln + (1 : Int32)) + (1 : Int32)) + (1 : Int32)) + (1 : Int32))), (.ref a0), (.int (((ln + (1 : Int32)) + (1 : Int32)) + (1 : Int32))), (.ref bb)])) rfl rfl (hb hby d4_113)
  have go595 := gap go593 st594
  have N594 := Fr.snoc X594 N580 ga
  have K594 : Keep h0 h594 [a0, bb] := K580.wr W594 (Or.inl (List.mem_of_getElem? (i := 0) rfl))
  have Zs594 : n0 ≤ h594.size := Nat.le_trans Zs580 (Keep.of_wr W594).1
  have F596 : Fld Z h594 a0 "com/example/mirk/mirk/index/BitWriter" "length" "I" (.int ((((ln + (1 : Int32)) + (1 : Int32)) + (1 : Int32)) + (1 : Int32))) := F582.same W594
  have F597 := F583.other W594 (Or.inr (slot_ne (Or.inl (hw _ (mi 21 rfl))) (Or.inl (hw _ (mi 19 rfl))) (by decide) (t := .int) (t' := .int) (by decide) (by decide)))
  have F598 := F584.other W594 (Or.inr (slot_ne (Or.inl (hw _ (mi 28 rfl))) (Or.inl (hw _ (mi 19 rfl))) (by decide) (t := .long) (t' := .int) (by decide) (by decide)))
  have F599 := F585.other W594 (Or.inr (slot_ne (Or.inl (hw _ (mi 11 rfl))) (Or.inl (hw _ (mi 19 rfl))) (by decide) (t := (.array .byte)) (t' := .int) (by decide) (by decide)))
  have F600 := F586.other W594 (Ne.symm ne0)
  have go601 : Go p.tables e below T594 (mkF m 117 (Lwb_0 a0 q1 p2) [(.ref a0), (.int (((ln + (1 : Int32)) + (1 : Int32)) + (1 : Int32))), (.ref bb)]) En := by
    intro t k
    refine go595 _ ?_
    refine XS.aloadN X594.here hx rfl (hb hby d4_116) rfl rfl ?_
    exact k
  obtain ⟨T602, X602, e602, st602⟩ := getF X594 hx hZ hown (host := "") (Or.inl (hw _ (mi 27 rfl))) Via.refl e594 F598 (g := (mkF m 117 (Lwb_0 a0 q1 p2) [(.ref a0), (.int (((ln + (1 : Int32)) + (1 : Int32)) + (1 : Int32))), (.ref bb)])) rfl rfl (hb hby d4_117)
  have go603 := gap go601 st602
  have go604 : Go p.tables e below T602 (mkF m 121 (Lwb_0 a0 q1 p2) [(.ref a0), (.long pd1), (.int (((ln + (1 : Int32)) + (1 : Int32)) + (1 : Int32))), (.ref bb)]) En := by
    intro t k
    refine go603 _ ?_
    refine XS.aloadN X602.here hx rfl (hb hby d4_120) rfl rfl ?_
    exact k
  obtain ⟨T605, X605, e605, st605⟩ := getF X602 hx hZ hown (host := "") (Or.inl (hw _ (mi 20 rfl))) Via.refl e602 F597 (g := (mkF m 121 (Lwb_0 a0 q1 p2) [(.ref a0), (.long pd1), (.int (((ln + (1 : Int32)) + (1 : Int32)) + (1 : Int32))), (.ref bb)])) rfl rfl (hb hby d4_121)
  have go606 := gap go604 st605
  have go607 : Go p.tables e below T605 (mkF m 127 (Lwb_0 a0 q1 p2) [(.int ((pd1.toUInt64 >>> ((((((pb + p2) - (8 : Int32)) - (8 : Int32)) - (8 : Int32)) - (8 : Int32)) &&& 0x3f).toInt64.toUInt64).toInt64).toInt32.toInt8.toInt32), (.int (((ln + (1 : Int32)) + (1 : Int32)) + (1 : Int32))), (.ref bb)]) En := by
    intro t k
    refine go606 _ ?_
    refine XS.lushr X605.here hx rfl (hb hby d4_124) rfl ?_
    refine XS.l2i X605.here hx rfl (hb hby d4_125) rfl ?_
    refine XS.i2b X605.here hx rfl (hb hby d4_126) rfl ?_
    show Steps _ _ _ (T605.setTop (mkF m 127 (Lwb_0 a0 q1 p2) [(.int ((pd1.toUInt64 >>> ((((((pb + p2) - (8 : Int32)) - (8 : Int32)) - (8 : Int32)) - (8 : Int32)) &&& 0x3f).toInt64.toUInt64).toInt64).toInt32.toInt8.toInt32), (.int (((ln + (1 : Int32)) + (1 : Int32)) + (1 : Int32))), (.ref bb)])) _
    exact k
  obtain ⟨cl609, Ar609, q609, S609, N609, H609, G609⟩ := id F600
  have hin610 : ¬ (((ln + (1 : Int32)) + (1 : Int32)) + (1 : Int32)) < 0 ∧ (((ln + (1 : Int32)) + (1 : Int32)) + (1 : Int32)) < zz := own_sto hT3 hs574 hn1 (by decide) hcap
  obtain ⟨T608, h608, X608, e608, W608, st608⟩ := stB X605 hx hZ e605 Ar609 (j := (((ln + (1 : Int32)) + (1 : Int32)) + (1 : Int32))) (inb_of S609 hin610) (g := (mkF m 127 (Lwb_0 a0 q1 p2) [(.int ((pd1.toUInt64 >>> ((((((pb + p2) - (8 : Int32)) - (8 : Int32)) - (8 : Int32)) - (8 : Int32)) &&& 0x3f).toInt64.toUInt64).toInt64).toInt32.toInt8.toInt32), (.int (((ln + (1 : Int32)) + (1 : Int32)) + (1 : Int32))), (.ref bb)])) rfl rfl (hb hby d4_127)
  have go611 := gap go607 st608
  have N608 := Fr.snoc X608 N594 gb
  have K608 : Keep h0 h608 [a0, bb] := K594.wr W608 (Or.inl (List.mem_of_getElem? (i := 1) rfl))
  have Zs608 : n0 ≤ h608.size := Nat.le_trans Zs594 (Keep.of_wr W608).1
  have F612 := F596.other W608 (Or.inl ne0)
  have F613 := F597.other W608 (Or.inl ne0)
  have F614 := F598.other W608 (Or.inl ne0)
  have F615 := F599.other W608 (Or.inl ne0)
  have F616 : Arv Z h608 bb kc .byte zz (vt569.set (((ln + (1 : Int32)) + (1 : Int32)) + (1 : Int32)).toNatClampNeg (.int ((pd1.toUInt64 >>> ((((((pb + p2) - (8 : Int32)) - (8 : Int32)) - (8 : Int32)) - (8 : Int32)) &&& 0x3f).toInt64.toUInt64).toInt64).toInt32.toInt8.toInt32.toInt8.toInt32)) (.int 0) := Arv.set Ar609 q609 S609 N609 H609 G609 (fits_nar_byte _) W608 (((ln + (1 : Int32)) + (1 : Int32)) + (1 : Int32)).toNatClampNeg rfl (by rw [hl569]; exact own_tn hin610)
  obtain ⟨vt617, Vt617, hl617⟩ : ∃ w, Arv Z h608 bb kc .byte zz w (.int 0) ∧ w.length = zz.toNatClampNeg := ⟨_, F616, by rw [List.length_set]; exact hl569⟩
  have hy4 := own_nn8 4 (by decide) hT3 hs574
  have hT4 := own_turn 4 (by decide) hT3 hs574 ⟨hn1, Int.le_trans hn2 hn3⟩ (by decide) h63
  have go618 : Go p.tables e below T608 (mkF m 82 (Lwb_0 a0 q1 p2) [(.ref a0)]) En := by
    intro t k
    refine go611 _ ?_
    refine XS.goto X608.here hx rfl (pc0 := 128) (pc' := 81) rfl (hb hby d4_128) (by decide) (by decide) ?_
    refine XS.aloadN X608.here hx rfl (hb hby d4_81) rfl rfl ?_
    exact k
  obtain ⟨T619, X619, e619, st619⟩ := getF X608 hx hZ hown (host := "") (Or.inl (hw _ (mi 20 rfl))) Via.refl e608 F613 (g := (mkF m 82 (Lwb_0 a0 q1 p2) [(.ref a0)])) rfl rfl (hb hby d4_82)
  have go620 := gap go618 st619
  have go621 : Go p.tables e below T619 (mkF m 87 (Lwb_0 a0 q1 p2) [(.int 8), (.int (((((pb + p2) - (8 : Int32)) - (8 : Int32)) - (8 : Int32)) - (8 : Int32)))]) En := by
    intro t k
    refine go620 _ ?_
    refine XS.bipush X619.here hx rfl (hb hby d4_85) ?_
    exact k
  by_cases hs622 : (((((pb + p2) - (8 : Int32)) - (8 : Int32)) - (8 : Int32)) - (8 : Int32)) < (8 : Int32)
  · have hA := own_out8 (z := zz) hT4 hs622 (by rw [hT4.2]; exact hy4) hn1 (by decide) hcap hn3 hB1
    have hC : capW B p2.toInt c = zz.toInt := own_nogrow hB1 hB2 hcap
    have go623 : Go p.tables e below T619 (mkF m 131 (Lwb_0 a0 q1 p2) []) En := by
      intro t k
      refine go621 _ ?_
      refine XS.icmpYes X619.here hx rfl (pc0 := 87) (pc' := 131) rfl (hb hby d4_87) rfl (XT.ii_lt_t hs622) (by decide) (by decide) ?_
      exact k
    refine own_outV X619 hx hlk go623 hrt (hb hby d4_131) e619 (Nat.le_of_ble_eq_true rfl) (Nat.zero_le _) ?_
    exact ⟨rfl, N608, K608.1, ((((ln + (1 : Int32)) + (1 : Int32)) + (1 : Int32)) + (1 : Int32)), (((((pb + p2) - (8 : Int32)) - (8 : Int32)) - (8 : Int32)) - (8 : Int32)), zz, bb, _, _, pd1, (E0.keep K608), F612, F613, F614, F615, Vt617, ga, gb, ne0, hl617, hA.1, hC, hA.2⟩
  have go624 : Go p.tables e below T619 (mkF m 92 (Lwb_0 a0 q1 p2) [(.ref a0), (.ref a0)]) En := by
    intro t k
    refine go621 _ ?_
    refine XS.icmpNo X619.here hx rfl (hb hby d4_87) rfl (XT.ii_lt_f hs622) ?_
    refine XS.aloadN X619.here hx rfl (hb hby d4_90) rfl rfl ?_
    refine XS.dup X619.here hx rfl (hb hby d4_91) rfl rfl ?_
    show Steps _ _ _ (T619.setTop (mkF m 92 (Lwb_0 a0 q1 p2) [(.ref a0), (.ref a0)])) _
    exact k
  obtain ⟨T625, X625, e625, st625⟩ := getF X619 hx hZ hown (host := "") (Or.inl (hw _ (mi 20 rfl))) Via.refl e619 F613 (g := (mkF m 92 (Lwb_0 a0 q1 p2) [(.ref a0), (.ref a0)])) rfl rfl (hb hby d4_92)
  have go626 := gap go624 st625
  have go627 : Go p.tables e below T625 (mkF m 98 (Lwb_0 a0 q1 p2) [(.int ((((((pb + p2) - (8 : Int32)) - (8 : Int32)) - (8 : Int32)) - (8 : Int32)) - (8 : Int32))), (.ref a0)]) En := by
    intro t k
    refine go626 _ ?_
    refine XS.bipush X625.here hx rfl (hb hby d4_95) ?_
    refine XS.isub X625.here hx rfl (hb hby d4_97) rfl ?_
    exact k
  obtain ⟨T628, h628, X628, e628, W628, st628⟩ := putF X625 hx hZ hown (host := "") (Or.inl (hw _ (mi 20 rfl))) Via.refl e625 F613 (E0.keep K608) (Or.inl (hw _ (mi 21 rfl))) (hw _ (mi 1 rfl)) (ty := .int) (by decide) rfl rfl (g := (mkF m 98 (Lwb_0 a0 q1 p2) [(.int ((((((pb + p2) - (8 : Int32)) - (8 : Int32)) - (8 : Int32)) - (8 : Int32)) - (8 : Int32))), (.ref a0)])) rfl rfl (hb hby d4_98)
  have go629 := gap go627 st628
  have N628 := Fr.snoc X628 N608 ga
  have K628 : Keep h0 h628 [a0, bb] := K608.wr W628 (Or.inl (List.mem_of_getElem? (i := 0) rfl))
  have Zs628 : n0 ≤ h628.size := Nat.le_trans Zs608 (Keep.of_wr W628).1
  have F630 := F612.other W628 (Or.inr (slot_ne (Or.inl (hw _ (mi 19 rfl))) (Or.inl (hw _ (mi 21 rfl))) (by decide) (t := .int) (t' := .int) (by decide) (by decide)))
  have F631 : Fld Z h628 a0 "com/example/mirk/mirk/index/BitWriter" "pendingBits" "I" (.int ((((((pb + p2) - (8 : Int32)) - (8 : Int32)) - (8 : Int32)) - (8 : Int32)) - (8 : Int32))) := F613.same W628
  have F632 := F614.other W628 (Or.inr (slot_ne (Or.inl (hw _ (mi 28 rfl))) (Or.inl (hw _ (mi 21 rfl))) (by decide) (t := .long) (t' := .int) (by decide) (by decide)))
  have F633 := F615.other W628 (Or.inr (slot_ne (Or.inl (hw _ (mi 11 rfl))) (Or.inl (hw _ (mi 21 rfl))) (by decide) (t := (.array .byte)) (t' := .int) (by decide) (by decide)))
  have F634 := Vt617.other W628 (Ne.symm ne0)
  have go635 : Go p.tables e below T628 (mkF m 102 (Lwb_0 a0 q1 p2) [(.ref a0)]) En := by
    intro t k
    refine go629 _ ?_
    refine XS.aloadN X628.here hx rfl (hb hby d4_101) rfl rfl ?_
    exact k
  obtain ⟨T636, X636, e636, st636⟩ := getF X628 hx hZ hown (host := "") (Or.inl (hw _ (mi 10 rfl))) Via.refl e628 F633 (g := (mkF m 102 (Lwb_0 a0 q1 p2) [(.ref a0)])) rfl rfl (hb hby d4_102)
  have go637 := gap go635 st636
  have go638 : Go p.tables e below T636 (mkF m 107 (Lwb_0 a0 q1 p2) [(.ref a0), (.ref a0), (.ref bb)]) En := by
    intro t k
    refine go637 _ ?_
    refine XS.aloadN X636.here hx rfl (hb hby d4_105) rfl rfl ?_
    refine XS.dup X636.here hx rfl (hb hby d4_106) rfl rfl ?_
    exact k
  obtain ⟨T639, X639, e639, st639⟩ := getF X636 hx hZ hown (host := "") (Or.inl (hw _ (mi 18 rfl))) Via.refl e636 F630 (g := (mkF m 107 (Lwb_0 a0 q1 p2) [(.ref a0), (.ref a0), (.ref bb)])) rfl rfl (hb hby d4_107)
  have go640 := gap go638 st639
  have go641 : Go p.tables e below T639 (mkF m 113 (Lwb_0 a0 q1 p2) [(.int (((((ln + (1 : Int32)) + (1 : Int32)) + (1 : Int32)) + (1 : Int32)) + (1 : Int32))), (.ref a0), (.int ((((ln + (1 : Int32)) + (1 : Int32)) + (1 : Int32)) + (1 : Int32))), (.ref bb)]) En := by
    intro t k
    refine go640 _ ?_
    refine XS.dupX1 X639.here hx rfl (hb hby d4_110) rfl rfl rfl ?_
    refine XS.iconst X639.here hx rfl (hb hby d4_111) ?_
    refine XS.iadd X639.here hx rfl (hb hby d4_112) rfl ?_
    show Steps _ _ _ (T639.setTop (mkF m 113 (Lwb_0 a0 q1 p2) [(.int (((((ln + (1 : Int32)) + (1 : Int32)) + (1 : Int32)) + (1 : Int32)) + (1 : Int32))), (.ref a0), (.int ((((ln + (1 : Int32)) + (1 : Int32)) + (1 : Int32)) + (1 : Int32))), (.ref bb)])) _
    exact k
  obtain ⟨T642, h642, X642, e642, W642, st642⟩ := putF X639 hx hZ hown (host := "") (Or.inl (hw _ (mi 18 rfl))) Via.refl e639 F630 (E0.keep K628) (Or.inl (hw _ (mi 19 rfl))) (hw _ (mi 1 rfl)) (ty := .int) (by decide) rfl rfl (g := (mkF m 113 (Lwb_0 a0 q1 p2) [(.int (((((ln + (1 : Int32)) + (1 : Int32)) + (1 : Int32)) + (1 : Int32)) + (1 : Int32))), (.ref a0), (.int ((((ln + (1 : Int32)) + (1 : Int32)) + (1 : Int32)) + (1 : Int32))), (.ref bb)])) rfl rfl (hb hby d4_113)
  have go643 := gap go641 st642
  have N642 := Fr.snoc X642 N628 ga
  have K642 : Keep h0 h642 [a0, bb] := K628.wr W642 (Or.inl (List.mem_of_getElem? (i := 0) rfl))
  have Zs642 : n0 ≤ h642.size := Nat.le_trans Zs628 (Keep.of_wr W642).1
  have F644 : Fld Z h642 a0 "com/example/mirk/mirk/index/BitWriter" "length" "I" (.int (((((ln + (1 : Int32)) + (1 : Int32)) + (1 : Int32)) + (1 : Int32)) + (1 : Int32))) := F630.same W642
  have F645 := F631.other W642 (Or.inr (slot_ne (Or.inl (hw _ (mi 21 rfl))) (Or.inl (hw _ (mi 19 rfl))) (by decide) (t := .int) (t' := .int) (by decide) (by decide)))
  have F646 := F632.other W642 (Or.inr (slot_ne (Or.inl (hw _ (mi 28 rfl))) (Or.inl (hw _ (mi 19 rfl))) (by decide) (t := .long) (t' := .int) (by decide) (by decide)))
  have F647 := F633.other W642 (Or.inr (slot_ne (Or.inl (hw _ (mi 11 rfl))) (Or.inl (hw _ (mi 19 rfl))) (by decide) (t := (.array .byte)) (t' := .int) (by decide) (by decide)))
  have F648 := F634.other W642 (Ne.symm ne0)
  have go649 : Go p.tables e below T642 (mkF m 117 (Lwb_0 a0 q1 p2) [(.ref a0), (.int ((((ln + (1 : Int32)) + (1 : Int32)) + (1 : Int32)) + (1 : Int32))), (.ref bb)]) En := by
    intro t k
    refine go643 _ ?_
    refine XS.aloadN X642.here hx rfl (hb hby d4_116) rfl rfl ?_
    exact k
  obtain ⟨T650, X650, e650, st650⟩ := getF X642 hx hZ hown (host := "") (Or.inl (hw _ (mi 27 rfl))) Via.refl e642 F646 (g := (mkF m 117 (Lwb_0 a0 q1 p2) [(.ref a0), (.int ((((ln + (1 : Int32)) + (1 : Int32)) + (1 : Int32)) + (1 : Int32))), (.ref bb)])) rfl rfl (hb hby d4_117)
  have go651 := gap go649 st650
  have go652 : Go p.tables e below T650 (mkF m 121 (Lwb_0 a0 q1 p2) [(.ref a0), (.long pd1), (.int ((((ln + (1 : Int32)) + (1 : Int32)) + (1 : Int32)) + (1 : Int32))), (.ref bb)]) En := by
    intro t k
    refine go651 _ ?_
    refine XS.aloadN X650.here hx rfl (hb hby d4_120) rfl rfl ?_
    exact k
  obtain ⟨T653, X653, e653, st653⟩ := getF X650 hx hZ hown (host := "") (Or.inl (hw _ (mi 20 rfl))) Via.refl e650 F645 (g := (mkF m 121 (Lwb_0 a0 q1 p2) [(.ref a0), (.long pd1), (.int ((((ln + (1 : Int32)) + (1 : Int32)) + (1 : Int32)) + (1 : Int32))), (.ref bb)])) rfl rfl (hb hby d4_121)
  have go654 := gap go652 st653
  have go655 : Go p.tables e below T653 (mkF m 127 (Lwb_0 a0 q1 p2) [(.int ((pd1.toUInt64 >>> (((((((pb + p2) - (8 : Int32)) - (8 : Int32)) - (8 : Int32)) - (8 : Int32)) - (8 : Int32)) &&& 0x3f).toInt64.toUInt64).toInt64).toInt32.toInt8.toInt32), (.int ((((ln + (1 : Int32)) + (1 : Int32)) + (1 : Int32)) + (1 : Int32))), (.ref bb)]) En := by
    intro t k
    refine go654 _ ?_
    refine XS.lushr X653.here hx rfl (hb hby d4_124) rfl ?_
    refine XS.l2i X653.here hx rfl (hb hby d4_125) rfl ?_
    refine XS.i2b X653.here hx rfl (hb hby d4_126) rfl ?_
    show Steps _ _ _ (T653.setTop (mkF m 127 (Lwb_0 a0 q1 p2) [(.int ((pd1.toUInt64 >>> (((((((pb + p2) - (8 : Int32)) - (8 : Int32)) - (8 : Int32)) - (8 : Int32)) - (8 : Int32)) &&& 0x3f).toInt64.toUInt64).toInt64).toInt32.toInt8.toInt32), (.int ((((ln + (1 : Int32)) + (1 : Int32)) + (1 : Int32)) + (1 : Int32))), (.ref bb)])) _
    exact k
  obtain ⟨cl657, Ar657, q657, S657, N657, H657, G657⟩ := id F648
  have hin658 : ¬ ((((ln + (1 : Int32)) + (1 : Int32)) + (1 : Int32)) + (1 : Int32)) < 0 ∧ ((((ln + (1 : Int32)) + (1 : Int32)) + (1 : Int32)) + (1 : Int32)) < zz := own_sto hT4 hs622 hn1 (by decide) hcap
  obtain ⟨T656, h656, X656, e656, W656, st656⟩ := stB X653 hx hZ e653 Ar657 (j := ((((ln + (1 : Int32)) + (1 : Int32)) + (1 : Int32)) + (1 : Int32))) (inb_of S657 hin658) (g := (mkF m 127 (Lwb_0 a0 q1 p2) [(.int ((pd1.toUInt64 >>> (((((((pb + p2) - (8 : Int32)) - (8 : Int32)) - (8 : Int32)) - (8 : Int32)) - (8 : Int32)) &&& 0x3f).toInt64.toUInt64).toInt64).toInt32.toInt8.toInt32), (.int ((((ln + (1 : Int32)) + (1 : Int32)) + (1 : Int32)) + (1 : Int32))), (.ref bb)])) rfl rfl (hb hby d4_127)
  have go659 := gap go655 st656
  have N656 := Fr.snoc X656 N642 gb
  have K656 : Keep h0 h656 [a0, bb] := K642.wr W656 (Or.inl (List.mem_of_getElem? (i := 1) rfl))
  have Zs656 : n0 ≤ h656.size := Nat.le_trans Zs642 (Keep.of_wr W656).1
  have F660 := F644.other W656 (Or.inl ne0)
  have F661 := F645.other W656 (Or.inl ne0)
  have F662 := F646.other W656 (Or.inl ne0)
  have F663 := F647.other W656 (Or.inl ne0)
  have F664 : Arv Z h656 bb kc .byte zz (vt617.set ((((ln + (1 : Int32)) + (1 : Int32)) + (1 : Int32)) + (1 : Int32)).toNatClampNeg (.int ((pd1.toUInt64 >>> (((((((pb + p2) - (8 : Int32)) - (8 : Int32)) - (8 : Int32)) - (8 : Int32)) - (8 : Int32)) &&& 0x3f).toInt64.toUInt64).toInt64).toInt32.toInt8.toInt32.toInt8.toInt32)) (.int 0) := Arv.set Ar657 q657 S657 N657 H657 G657 (fits_nar_byte _) W656 ((((ln + (1 : Int32)) + (1 : Int32)) + (1 : Int32)) + (1 : Int32)).toNatClampNeg rfl (by rw [hl617]; exact own_tn hin658)
  obtain ⟨vt665, Vt665, hl665⟩ : ∃ w, Arv Z h656 bb kc .byte zz w (.int 0) ∧ w.length = zz.toNatClampNeg := ⟨_, F664, by rw [List.length_set]; exact hl617⟩
  have hy5 := own_nn8 5 (by decide) hT4 hs622
  have hT5 := own_turn 5 (by decide) hT4 hs622 ⟨hn1, Int.le_trans hn2 hn3⟩ (by decide) h63
  have go666 : Go p.tables e below T656 (mkF m 82 (Lwb_0 a0 q1 p2) [(.ref a0)]) En := by
    intro t k
    refine go659 _ ?_
    refine XS.goto X656.here hx rfl (pc0 := 128) (pc' := 81) rfl (hb hby d4_128) (by decide) (by decide) ?_
    refine XS.aloadN X656.here hx rfl (hb hby d4_81) rfl rfl ?_
    exact k
  obtain ⟨T667, X667, e667, st667⟩ := getF X656 hx hZ hown (host := "") (Or.inl (hw _ (mi 20 rfl))) Via.refl e656 F661 (g := (mkF m 82 (Lwb_0 a0 q1 p2) [(.ref a0)])) rfl rfl (hb hby d4_82)
  have go668 := gap go666 st667
  have go669 : Go p.tables e below T667 (mkF m 87 (Lwb_0 a0 q1 p2) [(.int 8), (.int ((((((pb + p2) - (8 : Int32)) - (8 : Int32)) - (8 : Int32)) - (8 : Int32)) - (8 : Int32)))]) En := by
    intro t k
    refine go668 _ ?_
    refine XS.bipush X667.here hx rfl (hb hby d4_85) ?_
    exact k
  by_cases hs670 : ((((((pb + p2) - (8 : Int32)) - (8 : Int32)) - (8 : Int32)) - (8 : Int32)) - (8 : Int32)) < (8 : Int32)
  · have hA := own_out8 (z := zz) hT5 hs670 (by rw [hT5.2]; exact hy5) hn1 (by decide) hcap hn3 hB1
    have hC : capW B p2.toInt c = zz.toInt := own_nogrow hB1 hB2 hcap
    have go671 : Go p.tables e below T667 (mkF m 131 (Lwb_0 a0 q1 p2) []) En := by
      intro t k
      refine go669 _ ?_
      refine XS.icmpYes X667.here hx rfl (pc0 := 87) (pc' := 131) rfl (hb hby d4_87) rfl (XT.ii_lt_t hs670) (by decide) (by decide) ?_
      exact k
    refine own_outV X667 hx hlk go671 hrt (hb hby d4_131) e667 (Nat.le_of_ble_eq_true rfl) (Nat.zero_le _) ?_
    exact ⟨rfl, N656, K656.1, (((((ln + (1 : Int32)) + (1 : Int32)) + (1 : Int32)) + (1 : Int32)) + (1 : Int32)), ((((((pb + p2) - (8 : Int32)) - (8 : Int32)) - (8 : Int32)) - (8 : Int32)) - (8 : Int32)), zz, bb, _, _, pd1, (E0.keep K656), F660, F661, F662, F663, Vt665, ga, gb, ne0, hl665, hA.1, hC, hA.2⟩
  have go672 : Go p.tables e below T667 (mkF m 92 (Lwb_0 a0 q1 p2) [(.ref a0), (.ref a0)]) En := by
    intro t k
    refine go669 _ ?_
    refine XS.icmpNo X667.here hx rfl (hb hby d4_87) rfl (XT.ii_lt_f hs670) ?_
    refine XS.aloadN X667.here hx rfl (hb hby d4_90) rfl rfl ?_
    refine XS.dup X667.here hx rfl (hb hby d4_91) rfl rfl ?_
    show Steps _ _ _ (T667.setTop (mkF m 92 (Lwb_0 a0 q1 p2) [(.ref a0), (.ref a0)])) _
    exact k
  obtain ⟨T673, X673, e673, st673⟩ := getF X667 hx hZ hown (host := "") (Or.inl (hw _ (mi 20 rfl))) Via.refl e667 F661 (g := (mkF m 92 (Lwb_0 a0 q1 p2) [(.ref a0), (.ref a0)])) rfl rfl (hb hby d4_92)
  have go674 := gap go672 st673
  have go675 : Go p.tables e below T673 (mkF m 98 (Lwb_0 a0 q1 p2) [(.int (((((((pb + p2) - (8 : Int32)) - (8 : Int32)) - (8 : Int32)) - (8 : Int32)) - (8 : Int32)) - (8 : Int32))), (.ref a0)]) En := by
    intro t k
    refine go674 _ ?_
    refine XS.bipush X673.here hx rfl (hb hby d4_95) ?_
    refine XS.isub X673.here hx rfl (hb hby d4_97) rfl ?_
    exact k
  obtain ⟨T676, h676, X676, e676, W676, st676⟩ := putF X673 hx hZ hown (host := "") (Or.inl (hw _ (mi 20 rfl))) Via.refl e673 F661 (E0.keep K656) (Or.inl (hw _ (mi 21 rfl))) (hw _ (mi 1 rfl)) (ty := .int) (by decide) rfl rfl (g := (mkF m 98 (Lwb_0 a0 q1 p2) [(.int (((((((pb + p2) - (8 : Int32)) - (8 : Int32)) - (8 : Int32)) - (8 : Int32)) - (8 : Int32)) - (8 : Int32))), (.ref a0)])) rfl rfl (hb hby d4_98)
  have go677 := gap go675 st676
  have N676 := Fr.snoc X676 N656 ga
  have K676 : Keep h0 h676 [a0, bb] := K656.wr W676 (Or.inl (List.mem_of_getElem? (i := 0) rfl))
  have Zs676 : n0 ≤ h676.size := Nat.le_trans Zs656 (Keep.of_wr W676).1
  have F678 := F660.other W676 (Or.inr (slot_ne (Or.inl (hw _ (mi 19 rfl))) (Or.inl (hw _ (mi 21 rfl))) (by decide) (t := .int) (t' := .int) (by decide) (by decide)))
  have F679 : Fld Z h676 a0 "com/example/mirk/mirk/index/BitWriter" "pendingBits" "I" (.int (((((((pb + p2) - (8 : Int32)) - (8 : Int32)) - (8 : Int32)) - (8 : Int32)) - (8 : Int32)) - (8 : Int32))) := F661.same W676
  have F680 := F662.other W676 (Or.inr (slot_ne (Or.inl (hw _ (mi 28 rfl))) (Or.inl (hw _ (mi 21 rfl))) (by decide) (t := .long) (t' := .int) (by decide) (by decide)))
  have F681 := F663.other W676 (Or.inr (slot_ne (Or.inl (hw _ (mi 11 rfl))) (Or.inl (hw _ (mi 21 rfl))) (by decide) (t := (.array .byte)) (t' := .int) (by decide) (by decide)))
  have F682 := Vt665.other W676 (Ne.symm ne0)
  have go683 : Go p.tables e below T676 (mkF m 102 (Lwb_0 a0 q1 p2) [(.ref a0)]) En := by
    intro t k
    refine go677 _ ?_
    refine XS.aloadN X676.here hx rfl (hb hby d4_101) rfl rfl ?_
    exact k
  obtain ⟨T684, X684, e684, st684⟩ := getF X676 hx hZ hown (host := "") (Or.inl (hw _ (mi 10 rfl))) Via.refl e676 F681 (g := (mkF m 102 (Lwb_0 a0 q1 p2) [(.ref a0)])) rfl rfl (hb hby d4_102)
  have go685 := gap go683 st684
  have go686 : Go p.tables e below T684 (mkF m 107 (Lwb_0 a0 q1 p2) [(.ref a0), (.ref a0), (.ref bb)]) En := by
    intro t k
    refine go685 _ ?_
    refine XS.aloadN X684.here hx rfl (hb hby d4_105) rfl rfl ?_
    refine XS.dup X684.here hx rfl (hb hby d4_106) rfl rfl ?_
    exact k
  obtain ⟨T687, X687, e687, st687⟩ := getF X684 hx hZ hown (host := "") (Or.inl (hw _ (mi 18 rfl))) Via.refl e684 F678 (g := (mkF m 107 (Lwb_0 a0 q1 p2) [(.ref a0), (.ref a0), (.ref bb)])) rfl rfl (hb hby d4_107)
  have go688 := gap go686 st687
  have go689 : Go p.tables e below T687 (mkF m 113 (Lwb_0 a0 q1 p2) [(.int ((((((ln + (1 : Int32)) + (1 : Int32)) + (1 : Int32)) + (1 : Int32)) + (1 : Int32)) + (1 : Int32))), (.ref a0), (.int (((((ln + (1 : Int32)) + (1 : Int32)) + (1 : Int32)) + (1 : Int32)) + (1 : Int32))), (.ref bb)]) En := by
    intro t k
    refine go688 _ ?_
    refine XS.dupX1 X687.here hx rfl (hb hby d4_110) rfl rfl rfl ?_
    refine XS.iconst X687.here hx rfl (hb hby d4_111) ?_
    refine XS.iadd X687.here hx rfl (hb hby d4_112) rfl ?_
    show Steps _ _ _ (T687.setTop (mkF m 113 (Lwb_0 a0 q1 p2) [(.int ((((((ln + (1 : Int32)) + (1 : Int32)) + (1 : Int32)) + (1 : Int32)) + (1 : Int32)) + (1 : Int32))), (.ref a0), (.int (((((ln + (1 : Int32)) + (1 : Int32)) + (1 : Int32)) + (1 : Int32)) + (1 : Int32))), (.ref bb)])) _
    exact k
  obtain ⟨T690, h690, X690, e690, W690, st690⟩ := putF X687 hx hZ hown (host := "") (Or.inl (hw _ (mi 18 rfl))) Via.refl e687 F678 (E0.keep K676) (Or.inl (hw _ (mi 19 rfl))) (hw _ (mi 1 rfl)) (ty := .int) (by decide) rfl rfl (g := (mkF m 113 (Lwb_0 a0 q1 p2) [(.int ((((((ln + (1 : Int32)) + (1 : Int32)) + (1 : Int32)) + (1 : Int32)) + (1 : Int32)) + (1 : Int32))), (.ref a0), (.int (((((ln + (1 : Int32)) + (1 : Int32)) + (1 : Int32)) + (1 : Int32)) + (1 : Int32))), (.ref bb)])) rfl rfl (hb hby d4_113)
  have go691 := gap go689 st690
  have N690 := Fr.snoc X690 N676 ga
  have K690 : Keep h0 h690 [a0, bb] := K676.wr W690 (Or.inl (List.mem_of_getElem? (i := 0) rfl))
  have Zs690 : n0 ≤ h690.size := Nat.le_trans Zs676 (Keep.of_wr W690).1
  have F692 : Fld Z h690 a0 "com/example/mirk/mirk/index/BitWriter" "length" "I" (.int ((((((ln + (1 : Int32)) + (1 : Int32)) + (1 : Int32)) + (1 : Int32)) + (1 : Int32)) + (1 : Int32))) := F678.same W690
  have F693 := F679.other W690 (Or.inr (slot_ne (Or.inl (hw _ (mi 21 rfl))) (Or.inl (hw _ (mi 19 rfl))) (by decide) (t := .int) (t' := .int) (by decide) (by decide)))
  have F694 := F680.other W690 (Or.inr (slot_ne (Or.inl (hw _ (mi 28 rfl))) (Or.inl (hw _ (mi 19 rfl))) (by decide) (t := .long) (t' := .int) (by decide) (by decide)))
  have F695 := F681.other W690 (Or.inr (slot_ne (Or.inl (hw _ (mi 11 rfl))) (Or.inl (hw _ (mi 19 rfl))) (by decide) (t := (.array .byte)) (t' := .int) (by decide) (by decide)))
  have F696 := F682.other W690 (Ne.symm ne0)
  have go697 : Go p.tables e below T690 (mkF m 117 (Lwb_0 a0 q1 p2) [(.ref a0), (.int (((((ln + (1 : Int32)) + (1 : Int32)) + (1 : Int32)) + (1 : Int32)) + (1 : Int32))), (.ref bb)]) En := by
    intro t k
    refine go691 _ ?_
    refine XS.aloadN X690.here hx rfl (hb hby d4_116) rfl rfl ?_
    exact k
  obtain ⟨T698, X698, e698, st698⟩ := getF X690 hx hZ hown (host := "") (Or.inl (hw _ (mi 27 rfl))) Via.refl e690 F694 (g := (mkF m 117 (Lwb_0 a0 q1 p2) [(.ref a0), (.int (((((ln + (1 : Int32)) + (1 : Int32)) + (1 : Int32)) + (1 : Int32)) + (1 : Int32))), (.ref bb)])) rfl rfl (hb hby d4_117)
  have go699 := gap go697 st698
  have go700 : Go p.tables e below T698 (mkF m 121 (Lwb_0 a0 q1 p2) [(.ref a0), (.long pd1), (.int (((((ln + (1 : Int32)) + (1 : Int32)) + (1 : Int32)) + (1 : Int32)) + (1 : Int32))), (.ref bb)]) En := by
    intro t k
    refine go699 _ ?_
    refine XS.aloadN X698.here hx rfl (hb hby d4_120) rfl rfl ?_
    exact k
  obtain ⟨T701, X701, e701, st701⟩ := getF X698 hx hZ hown (host := "") (Or.inl (hw _ (mi 20 rfl))) Via.refl e698 F693 (g := (mkF m 121 (Lwb_0 a0 q1 p2) [(.ref a0), (.long pd1), (.int (((((ln + (1 : Int32)) + (1 : Int32)) + (1 : Int32)) + (1 : Int32)) + (1 : Int32))), (.ref bb)])) rfl rfl (hb hby d4_121)
  have go702 := gap go700 st701
  have go703 : Go p.tables e below T701 (mkF m 127 (Lwb_0 a0 q1 p2) [(.int ((pd1.toUInt64 >>> ((((((((pb + p2) - (8 : Int32)) - (8 : Int32)) - (8 : Int32)) - (8 : Int32)) - (8 : Int32)) - (8 : Int32)) &&& 0x3f).toInt64.toUInt64).toInt64).toInt32.toInt8.toInt32), (.int (((((ln + (1 : Int32)) + (1 : Int32)) + (1 : Int32)) + (1 : Int32)) + (1 : Int32))), (.ref bb)]) En := by
    intro t k
    refine go702 _ ?_
    refine XS.lushr X701.here hx rfl (hb hby d4_124) rfl ?_
    refine XS.l2i X701.here hx rfl (hb hby d4_125) rfl ?_
    refine XS.i2b X701.here hx rfl (hb hby d4_126) rfl ?_
    show Steps _ _ _ (T701.setTop (mkF m 127 (Lwb_0 a0 q1 p2) [(.int ((pd1.toUInt64 >>> ((((((((pb + p2) - (8 : Int32)) - (8 : Int32)) - (8 : Int32)) - (8 : Int32)) - (8 : Int32)) - (8 : Int32)) &&& 0x3f).toInt64.toUInt64).toInt64).toInt32.toInt8.toInt32), (.int (((((ln + (1 : Int32)) + (1 : Int32)) + (1 : Int32)) + (1 : Int32)) + (1 : Int32))), (.ref bb)])) _
    exact k
  obtain ⟨cl705, Ar705, q705, S705, N705, H705, G705⟩ := id F696
  have hin706 : ¬ (((((ln + (1 : Int32)) + (1 : Int32)) + (1 : Int32)) + (1 : Int32)) + (1 : Int32)) < 0 ∧ (((((ln + (1 : Int32)) + (1 : Int32)) + (1 : Int32)) + (1 : Int32)) + (1 : Int32)) < zz := own_sto hT5 hs670 hn1 (by decide) hcap
  obtain ⟨T704, h704, X704, e704, W704, st704⟩ := stB X701 hx hZ e701 Ar705 (j := (((((ln + (1 : Int32)) + (1 : Int32)) + (1 : Int32)) + (1 : Int32)) + (1 : Int32))) (inb_of S705 hin706) (g := (mkF m 127 (Lwb_0 a0 q1 p2) [(.int ((pd1.toUInt64 >>> ((((((((pb + p2) - (8 : Int32)) - (8 : Int32)) - (8 : Int32)) - (8 : Int32)) - (8 : Int32)) - (8 : Int32)) &&& 0x3f).toInt64.toUInt64).toInt64).toInt32.toInt8.toInt32), (.int (((((ln + (1 : Int32)) + (1 : Int32)) + (1 : Int32)) + (1 : Int32)) + (1 : Int32))), (.ref bb)])) rfl rfl (hb hby d4_127)
  have go707 := gap go703 st704
  have N704 := Fr.snoc X704 N690 gb
  have K704 : Keep h0 h704 [a0, bb] := K690.wr W704 (Or.inl (List.mem_of_getElem? (i := 1) rfl))
  have Zs704 : n0 ≤ h704.size := Nat.le_trans Zs690 (Keep.of_wr W704).1
  have F708 := F692.other W704 (Or.inl ne0)
  have F709 := F693.other W704 (Or.inl ne0)
  have F710 := F694.other W704 (Or.inl ne0)
  have F711 := F695.other W704 (Or.inl ne0)
  have F712 : Arv Z h704 bb kc .byte zz (vt665.set (((((ln + (1 : Int32)) + (1 : Int32)) + (1 : Int32)) + (1 : Int32)) + (1 : Int32)).toNatClampNeg (.int ((pd1.toUInt64 >>> ((((((((pb + p2) - (8 : Int32)) - (8 : Int32)) - (8 : Int32)) - (8 : Int32)) - (8 : Int32)) - (8 : Int32)) &&& 0x3f).toInt64.toUInt64).toInt64).toInt32.toInt8.toInt32.toInt8.toInt32)) (.int 0) := Arv.set Ar705 q705 S705 N705 H705 G705 (fits_nar_byte _) W704 (((((ln + (1 : Int32)) + (1 : Int32)) + (1 : Int32)) + (1 : Int32)) + (1 : Int32)).toNatClampNeg rfl (by rw [hl665]; exact own_tn hin706)
  obtain ⟨vt713, Vt713, hl713⟩ : ∃ w, Arv Z h704 bb kc .byte zz w (.int 0) ∧ w.length = zz.toNatClampNeg := ⟨_, F712, by rw [List.length_set]; exact hl665⟩
  have hy6 := own_nn8 6 (by decide) hT5 hs670
  have hT6 := own_turn 6 (by decide) hT5 hs670 ⟨hn1, Int.le_trans hn2 hn3⟩ (by decide) h63
  have go714 : Go p.tables e below T704 (mkF m 82 (Lwb_0 a0 q1 p2) [(.ref a0)]) En := by
    intro t k
    refine go707 _ ?_
    refine XS.goto X704.here hx rfl (pc0 := 128) (pc' := 81) rfl (hb hby d4_128) (by decide) (by decide) ?_
    refine XS.aloadN X704.here hx rfl (hb hby d4_81) rfl rfl ?_
    exact k
  obtain ⟨T715, X715, e715, st715⟩ := getF X704 hx hZ hown (host := "") (Or.inl (hw _ (mi 20 rfl))) Via.refl e704 F709 (g := (mkF m 82 (Lwb_0 a0 q1 p2) [(.ref a0)])) rfl rfl (hb hby d4_82)
  have go716 := gap go714 st715
  have go717 : Go p.tables e below T715 (mkF m 87 (Lwb_0 a0 q1 p2) [(.int 8), (.int (((((((pb + p2) - (8 : Int32)) - (8 : Int32)) - (8 : Int32)) - (8 : Int32)) - (8 : Int32)) - (8 : Int32)))]) En := by
    intro t k
    refine go716 _ ?_
    refine XS.bipush X715.here hx rfl (hb hby d4_85) ?_
    exact k
  by_cases hs718 : (((((((pb + p2) - (8 : Int32)) - (8 : Int32)) - (8 : Int32)) - (8 : Int32)) - (8 : Int32)) - (8 : Int32)) < (8 : Int32)
  · have hA := own_out8 (z := zz) hT6 hs718 (by rw [hT6.2]; exact hy6) hn1 (by decide) hcap hn3 hB1
    have hC : capW B p2.toInt c = zz.toInt := own_nogrow hB1 hB2 hcap
    have go719 : Go p.tables e below T715 (mkF m 131 (Lwb_0 a0 q1 p2) []) En := by
      intro t k
      refine go717 _ ?_
      refine XS.icmpYes X715.here hx rfl (pc0 := 87) (pc' := 131) rfl (hb hby d4_87) rfl (XT.ii_lt_t hs718) (by decide) (by decide) ?_
      exact k
    refine own_outV X715 hx hlk go719 hrt (hb hby d4_131) e715 (Nat.le_of_ble_eq_true rfl) (Nat.zero_le _) ?_
    exact ⟨rfl, N704, K704.1, ((((((ln + (1 : Int32)) + (1 : Int32)) + (1 : Int32)) + (1 : Int32)) + (1 : Int32)) + (1 : Int32)), (((((((pb + p2) - (8 : Int32)) - (8 : Int32)) - (8 : Int32)) - (8 : Int32)) - (8 : Int32)) - (8 : Int32)), zz, bb, _, _, pd1, (E0.keep K704), F708, F709, F710, F711, Vt713, ga, gb, ne0, hl713, hA.1, hC, hA.2⟩
  have go720 : Go p.tables e below T715 (mkF m 92 (Lwb_0 a0 q1 p2) [(.ref a0), (.ref a0)]) En := by
    intro t k
    refine go717 _ ?_
    refine XS.icmpNo X715.here hx rfl (hb hby d4_87) rfl (XT.ii_lt_f hs718) ?_
    refine XS.aloadN X715.here hx rfl (hb hby d4_90) rfl rfl ?_
    refine XS.dup X715.here hx rfl (hb hby d4_91) rfl rfl ?_
    show Steps _ _ _ (T715.setTop (mkF m 92 (Lwb_0 a0 q1 p2) [(.ref a0), (.ref a0)])) _
    exact k
  obtain ⟨T721, X721, e721, st721⟩ := getF X715 hx hZ hown (host := "") (Or.inl (hw _ (mi 20 rfl))) Via.refl e715 F709 (g := (mkF m 92 (Lwb_0 a0 q1 p2) [(.ref a0), (.ref a0)])) rfl rfl (hb hby d4_92)
  have go722 := gap go720 st721
  have go723 : Go p.tables e below T721 (mkF m 98 (Lwb_0 a0 q1 p2) [(.int ((((((((pb + p2) - (8 : Int32)) - (8 : Int32)) - (8 : Int32)) - (8 : Int32)) - (8 : Int32)) - (8 : Int32)) - (8 : Int32))), (.ref a0)]) En := by
    intro t k
    refine go722 _ ?_
    refine XS.bipush X721.here hx rfl (hb hby d4_95) ?_
    refine XS.isub X721.here hx rfl (hb hby d4_97) rfl ?_
    exact k
  obtain ⟨T724, h724, X724, e724, W724, st724⟩ := putF X721 hx hZ hown (host := "") (Or.inl (hw _ (mi 20 rfl))) Via.refl e721 F709 (E0.keep K704) (Or.inl (hw _ (mi 21 rfl))) (hw _ (mi 1 rfl)) (ty := .int) (by decide) rfl rfl (g := (mkF m 98 (Lwb_0 a0 q1 p2) [(.int ((((((((pb + p2) - (8 : Int32)) - (8 : Int32)) - (8 : Int32)) - (8 : Int32)) - (8 : Int32)) - (8 : Int32)) - (8 : Int32))), (.ref a0)])) rfl rfl (hb hby d4_98)
  have go725 := gap go723 st724
  have N724 := Fr.snoc X724 N704 ga
  have K724 : Keep h0 h724 [a0, bb] := K704.wr W724 (Or.inl (List.mem_of_getElem? (i := 0) rfl))
  have Zs724 : n0 ≤ h724.size := Nat.le_trans Zs704 (Keep.of_wr W724).1
  have F726 := F708.other W724 (Or.inr (slot_ne (Or.inl (hw _ (mi 19 rfl))) (Or.inl (hw _ (mi 21 rfl))) (by decide) (t := .int) (t' := .int) (by decide) (by decide)))
  have F727 : Fld Z h724 a0 "com/example/mirk/mirk/index/BitWriter" "pendingBits" "I" (.int ((((((((pb + p2) - (8 : Int32)) - (8 : Int32)) - (8 : Int32)) - (8 : Int32)) - (8 : Int32)) - (8 : Int32)) - (8 : Int32))) := F709.same W724
  have F728 := F710.other W724 (Or.inr (slot_ne (Or.inl (hw _ (mi 28 rfl))) (Or.inl (hw _ (mi 21 rfl))) (by decide) (t := .long) (t' := .int) (by decide) (by decide)))
  have F729 := F711.other W724 (Or.inr (slot_ne (Or.inl (hw _ (mi 11 rfl))) (Or.inl (hw _ (mi 21 rfl))) (by decide) (t := (.array .byte)) (t' := .int) (by decide) (by decide)))
  have F730 := Vt713.other W724 (Ne.symm ne0)
  have go731 : Go p.tables e below T724 (mkF m 102 (Lwb_0 a0 q1 p2) [(.ref a0)]) En := by
    intro t k
    refine go725 _ ?_
    refine XS.aloadN X724.here hx rfl (hb hby d4_101) rfl rfl ?_
    exact k
  obtain ⟨T732, X732, e732, st732⟩ := getF X724 hx hZ hown (host := "") (Or.inl (hw _ (mi 10 rfl))) Via.refl e724 F729 (g := (mkF m 102 (Lwb_0 a0 q1 p2) [(.ref a0)])) rfl rfl (hb hby d4_102)
  have go733 := gap go731 st732
  have go734 : Go p.tables e below T732 (mkF m 107 (Lwb_0 a0 q1 p2) [(.ref a0), (.ref a0), (.ref bb)]) En := by
    intro t k
    refine go733 _ ?_
    refine XS.aloadN X732.here hx rfl (hb hby d4_105) rfl rfl ?_
    refine XS.dup X732.here hx rfl (hb hby d4_106) rfl rfl ?_
    exact k
  obtain ⟨T735, X735, e735, st735⟩ := getF X732 hx hZ hown (host := "") (Or.inl (hw _ (mi 18 rfl))) Via.refl e732 F726 (g := (mkF m 107 (Lwb_0 a0 q1 p2) [(.ref a0), (.ref a0), (.ref bb)])) rfl rfl (hb hby d4_107)
  have go736 := gap go734 st735
  have go737 : Go p.tables e below T735 (mkF m 113 (Lwb_0 a0 q1 p2) [(.int (((((((ln + (1 : Int32)) + (1 : Int32)) + (1 : Int32)) + (1 : Int32)) + (1 : Int32)) + (1 : Int32)) + (1 : Int32))), (.ref a0), (.int ((((((ln + (1 : Int32)) + (1 : Int32)) + (1 : Int32)) + (1 : Int32)) + (1 : Int32)) + (1 : Int32))), (.ref bb)]) En := by
    intro t k
    refine go736 _ ?_
    refine XS.dupX1 X735.here hx rfl (hb hby d4_110) rfl rfl rfl ?_
    refine XS.iconst X735.here hx rfl (hb hby d4_111) ?_
    refine XS.iadd X735.here hx rfl (hb hby d4_112) rfl ?_
    show Steps _ _ _ (T735.setTop (mkF m 113 (Lwb_0 a0 q1 p2) [(.int (((((((ln + (1 : Int32)) + (1 : Int32)) + (1 : Int32)) + (1 : Int32)) + (1 : Int32)) + (1 : Int32)) + (1 : Int32))), (.ref a0), (.int ((((((ln + (1 : Int32)) + (1 : Int32)) + (1 : Int32)) + (1 : Int32)) + (1 : Int32)) + (1 : Int32))), (.ref bb)])) _
    exact k
  obtain ⟨T738, h738, X738, e738, W738, st738⟩ := putF X735 hx hZ hown (host := "") (Or.inl (hw _ (mi 18 rfl))) Via.refl e735 F726 (E0.keep K724) (Or.inl (hw _ (mi 19 rfl))) (hw _ (mi 1 rfl)) (ty := .int) (by decide) rfl rfl (g := (mkF m 113 (Lwb_0 a0 q1 p2) [(.int (((((((ln + (1 : Int32)) + (1 : Int32)) + (1 : Int32)) + (1 : Int32)) + (1 : Int32)) + (1 : Int32)) + (1 : Int32))), (.ref a0), (.int ((((((ln + (1 : Int32)) + (1 : Int32)) + (1 : Int32)) + (1 : Int32)) + (1 : Int32)) + (1 : Int32))), (.ref bb)])) rfl rfl (hb hby d4_113)
  have go739 := gap go737 st738
  have N738 := Fr.snoc X738 N724 ga
  have K738 : Keep h0 h738 [a0, bb] := K724.wr W738 (Or.inl (List.mem_of_getElem? (i := 0) rfl))
  have Zs738 : n0 ≤ h738.size := Nat.le_trans Zs724 (Keep.of_wr W738).1
  have F740 : Fld Z h738 a0 "com/example/mirk/mirk/index/BitWriter" "length" "I" (.int (((((((ln + (1 : Int32)) + (1 : Int32)) + (1 : Int32)) + (1 : Int32)) + (1 : Int32)) + (1 : Int32)) + (1 : Int32))) := F726.same W738
  have F741 := F727.other W738 (Or.inr (slot_ne (Or.inl (hw _ (mi 21 rfl))) (Or.inl (hw _ (mi 19 rfl))) (by decide) (t := .int) (t' := .int) (by decide) (by decide)))
  have F742 := F728.other W738 (Or.inr (slot_ne (Or.inl (hw _ (mi 28 rfl))) (Or.inl (hw _ (mi 19 rfl))) (by decide) (t := .long) (t' := .int) (by decide) (by decide)))
  have F743 := F729.other W738 (Or.inr (slot_ne (Or.inl (hw _ (mi 11 rfl))) (Or.inl (hw _ (mi 19 rfl))) (by decide) (t := (.array .byte)) (t' := .int) (by decide) (by decide)))
  have F744 := F730.other W738 (Ne.symm ne0)
  have go745 : Go p.tables e below T738 (mkF m 117 (Lwb_0 a0 q1 p2) [(.ref a0), (.int ((((((ln + (1 : Int32)) + (1 : Int32)) + (1 : Int32)) + (1 : Int32)) + (1 : Int32)) + (1 : Int32))), (.ref bb)]) En := by
    intro t k
    refine go739 _ ?_
    refine XS.aloadN X738.here hx rfl (hb hby d4_116) rfl rfl ?_
    exact k
  obtain ⟨T746, X746, e746, st746⟩ := getF X738 hx hZ hown (host := "") (Or.inl (hw _ (mi 27 rfl))) Via.refl e738 F742 (g := (mkF m 117 (Lwb_0 a0 q1 p2) [(.ref a0), (.int ((((((ln + (1 : Int32)) + (1 : Int32)) + (1 : Int32)) + (1 : Int32)) + (1 : Int32)) + (1 : Int32))), (.ref bb)])) rfl rfl (hb hby d4_117)
  have go747 := gap go745 st746
  have go748 : Go p.tables e below T746 (mkF m 121 (Lwb_0 a0 q1 p2) [(.ref a0), (.long pd1), (.int ((((((ln + (1 : Int32)) + (1 : Int32)) + (1 : Int32)) + (1 : Int32)) + (1 : Int32)) + (1 : Int32))), (.ref bb)]) En := by
    intro t k
    refine go747 _ ?_
    refine XS.aloadN X746.here hx rfl (hb hby d4_120) rfl rfl ?_
    exact k
  obtain ⟨T749, X749, e749, st749⟩ := getF X746 hx hZ hown (host := "") (Or.inl (hw _ (mi 20 rfl))) Via.refl e746 F741 (g := (mkF m 121 (Lwb_0 a0 q1 p2) [(.ref a0), (.long pd1), (.int ((((((ln + (1 : Int32)) + (1 : Int32)) + (1 : Int32)) + (1 : Int32)) + (1 : Int32)) + (1 : Int32))), (.ref bb)])) rfl rfl (hb hby d4_121)
  have go750 := gap go748 st749
  have go751 : Go p.tables e below T749 (mkF m 127 (Lwb_0 a0 q1 p2) [(.int ((pd1.toUInt64 >>> (((((((((pb + p2) - (8 : Int32)) - (8 : Int32)) - (8 : Int32)) - (8 : Int32)) - (8 : Int32)) - (8 : Int32)) - (8 : Int32)) &&& 0x3f).toInt64.toUInt64).toInt64).toInt32.toInt8.toInt32), (.int ((((((ln + (1 : Int32)) + (1 : Int32)) + (1 : Int32)) + (1 : Int32)) + (1 : Int32)) + (1 : Int32))), (.ref bb)]) En := by
    intro t k
    refine go750 _ ?_
    refine XS.lushr X749.here hx rfl (hb hby d4_124) rfl ?_
    refine XS.l2i X749.here hx rfl (hb hby d4_125) rfl ?_
    refine XS.i2b X749.here hx rfl (hb hby d4_126) rfl ?_
    show Steps _ _ _ (T749.setTop (mkF m 127 (Lwb_0 a0 q1 p2) [(.int ((pd1.toUInt64 >>> (((((((((pb + p2) - (8 : Int32)) - (8 : Int32)) - (8 : Int32)) - (8 : Int32)) - (8 : Int32)) - (8 : Int32)) - (8 : Int32)) &&& 0x3f).toInt64.toUInt64).toInt64).toInt32.toInt8.toInt32), (.int ((((((ln + (1 : Int32)) + (1 : Int32)) + (1 : Int32)) + (1 : Int32)) + (1 : Int32)) + (1 : Int32))), (.ref bb)])) _
    exact k
  obtain ⟨cl753, Ar753, q753, S753, N753, H753, G753⟩ := id F744
  have hin754 : ¬ ((((((ln + (1 : Int32)) + (1 : Int32)) + (1 : Int32)) + (1 : Int32)) + (1 : Int32)) + (1 : Int32)) < 0 ∧ ((((((ln + (1 : Int32)) + (1 : Int32)) + (1 : Int32)) + (1 : Int32)) + (1 : Int32)) + (1 : Int32)) < zz := own_sto hT6 hs718 hn1 (by decide) hcap
  obtain ⟨T752, h752, X752, e752, W752, st752⟩ := stB X749 hx hZ e749 Ar753 (j := ((((((ln + (1 : Int32)) + (1 : Int32)) + (1 : Int32)) + (1 : Int32)) + (1 : Int32)) + (1 : Int32))) (inb_of S753 hin754) (g := (mkF m 127 (Lwb_0 a0 q1 p2) [(.int ((pd1.toUInt64 >>> (((((((((pb + p2) - (8 : Int32)) - (8 : Int32)) - (8 : Int32)) - (8 : Int32)) - (8 : Int32)) - (8 : Int32)) - (8 : Int32)) &&& 0x3f).toInt64.toUInt64).toInt64).toInt32.toInt8.toInt32), (.int ((((((ln + (1 : Int32)) + (1 : Int32)) + (1 : Int32)) + (1 : Int32)) + (1 : Int32)) + (1 : Int32))), (.ref bb)])) rfl rfl (hb hby d4_127)
  have go755 := gap go751 st752
  have N752 := Fr.snoc X752 N738 gb
  have K752 : Keep h0 h752 [a0, bb] := K738.wr W752 (Or.inl (List.mem_of_getElem? (i := 1) rfl))
  have Zs752 : n0 ≤ h752.size := Nat.le_trans Zs738 (Keep.of_wr W752).1
  have F756 := F740.other W752 (Or.inl ne0)
  have F757 := F741.other W752 (Or.inl ne0)
  have F758 := F742.other W752 (Or.inl ne0)
  have F759 := F743.other W752 (Or.inl ne0)
  have F760 : Arv Z h752 bb kc .byte zz (vt713.set ((((((ln + (1 : Int32)) + (1 : Int32)) + (1 : Int32)) + (1 : Int32)) + (1 : Int32)) + (1 : Int32)).toNatClampNeg (.int ((pd1.toUInt64 >>> (((((((((pb + p2) - (8 : Int32)) - (8 : Int32)) - (8 : Int32)) - (8 : Int32)) - (8 : Int32)) - (8 : Int32)) - (8 : Int32)) &&& 0x3f).toInt64.toUInt64).toInt64).toInt32.toInt8.toInt32.toInt8.toInt32)) (.int 0) := Arv.set Ar753 q753 S753 N753 H753 G753 (fits_nar_byte _) W752 ((((((ln + (1 : Int32)) + (1 : Int32)) + (1 : Int32)) + (1 : Int32)) + (1 : Int32)) + (1 : Int32)).toNatClampNeg rfl (by rw [hl713]; exact own_tn hin754)
  obtain ⟨vt761, Vt761, hl761⟩ : ∃ w, Arv Z h752 bb kc .byte zz w (.int 0) ∧ w.length = zz.toNatClampNeg := ⟨_, F760, by rw [List.length_set]; exact hl713⟩
  have hy7 := own_nn8 7 (by decide) hT6 hs718
  have hT7 := own_turn 7 (by decide) hT6 hs718 ⟨hn1, Int.le_trans hn2 hn3⟩ (by decide) h63
  have go762 : Go p.tables e below T752 (mkF m 82 (Lwb_0 a0 q1 p2) [(.ref a0)]) En := by
    intro t k
    refine go755 _ ?_
    refine XS.goto X752.here hx rfl (pc0 := 128) (pc' := 81) rfl (hb hby d4_128) (by decide) (by decide) ?_
    refine XS.aloadN X752.here hx rfl (hb hby d4_81) rfl rfl ?_
    exact k
  obtain ⟨T763, X763, e763, st763⟩ := getF X752 hx hZ hown (host := "") (Or.inl (hw _ (mi 20 rfl))) Via.refl e752 F757 (g := (mkF m 82 (Lwb_0 a0 q1 p2) [(.ref a0)])) rfl rfl (hb hby d4_82)
  have go764 := gap go762 st763
  have hlast : ((((((((pb + p2) - (8 : Int32)) - (8 : Int32)) - (8 : Int32)) - (8 : Int32)) - (8 : Int32)) - (8 : Int32)) - (8 : Int32)) < (8 : Int32) := own_last hT7 h63
  have hA := own_out8 (z := zz) hT7 hlast (by rw [hT7.2]; exact hy7) hn1 (by decide) hcap hn3 hB1
  have hC : capW B p2.toInt c = zz.toInt := own_nogrow hB1 hB2 hcap
  have go765 : Go p.tables e below T763 (mkF m 131 (Lwb_0 a0 q1 p2) []) En := by
    intro t k
    refine go764 _ ?_
    refine XS.bipush X763.here hx rfl (hb hby d4_85) ?_
    refine XS.icmpYes X763.here hx rfl (pc0 := 87) (pc' := 131) rfl (hb hby d4_87) rfl (XT.ii_lt_t hlast) (by decide) (by decide) ?_
    exact k
  refine own_outV X763 hx hlk go765 hrt (hb hby d4_131) e763 (Nat.le_of_ble_eq_true rfl) (Nat.zero_le _) ?_
  exact ⟨rfl, N752, K752.1, (((((((ln + (1 : Int32)) + (1 : Int32)) + (1 : Int32)) + (1 : Int32)) + (1 : Int32)) + (1 : Int32)) + (1 : Int32)), ((((((((pb + p2) - (8 : Int32)) - (8 : Int32)) - (8 : Int32)) - (8 : Int32)) - (8 : Int32)) - (8 : Int32)) - (8 : Int32)), zz, bb, _, _, pd1, (E0.keep K752), F756, F757, F758, F759, Vt761, ga, gb, ne0, hl761, hA.1, hC, hA.2⟩
theorem own_cz1 (B m c x : Int) (h : 0 ≤ c) (h0 : 0 < m) (hx : (m ≤ 56 → x = m) ∧ (56 < m → x = 56)) : capW B x c ≤ capZ B m c := by
  have q2 := own_cap B 56 c h
  have q3 := own_cap (B + 56) (m - 56) (capW B 56 c) (by omega)
  have q4 := own_cap (B + 56) 56 (capW B 56 c) (by omega)
  have q5 := own_cap (B + 56 + 56) (m - 112) (capW (B + 56) 56 (capW B 56 c)) (by omega)
  by_cases a : m ≤ 56
  · rw [hx.1 a]; unfold capZ; rw [if_neg (by omega), if_pos a]; exact Int.le_refl _
  · rw [hx.2 (by omega)]; unfold capZ; rw [if_neg (by omega), if_neg a]; split <;> omega
theorem own_cz2 (B m c x y : Int) (h : 0 ≤ c) (h0 : 56 < m) (hx : x = 56) (hy : (m ≤ 112 → y = m - 56) ∧ (112 < m → y = 56)) : capW (B + x) y (capW B x c) ≤ capZ B m c := by
  subst hx
  have q2 := own_cap B 56 c h
  have q4 := own_cap (B + 56) 56 (capW B 56 c) (by omega)
  have q5 := own_cap (B + 56 + 56) (m - 112) (capW (B + 56) 56 (capW B 56 c)) (by omega)
  by_cases a : m ≤ 112
  · rw [hy.1 a]; unfold capZ; rw [if_neg (by omega), if_neg (by omega), if_pos a]; exact Int.le_refl _
  · rw [hy.2 (by omega)]; unfold capZ; rw [if_neg (by omega), if_neg (by omega), if_neg a]; omega
theorem own_cz3 (B m c x y w : Int) (h : 0 ≤ c) (h0 : 112 < m) (hx : x = 56) (hy : y = 56) (hw : w = m - 112) : capW (B + x + y) w (capW (B + x) y (capW B x c)) ≤ capZ B m c := by
  subst hx hy hw
  unfold capZ; rw [if_neg (by omega), if_neg (by omega), if_neg (by omega)]; exact Int.le_refl _
theorem own_capZe0 (B m c : Int) (h : m ≤ 0) : capZ B m c = c := if_pos h
theorem own_capZe1 (B m c x : Int) (h0 : 0 < m) (h : m ≤ 56) (hx : x = m) : capZ B m c = capW B x c := by subst hx; unfold capZ; rw [if_neg (by omega), if_pos h]
theorem own_capZe2 (B m c x y : Int) (h0 : 56 < m) (h : m ≤ 112) (hx : x = 56) (hy : y = m - 56) : capZ B m c = capW (B + x) y (capW B x c) := by subst hx hy; unfold capZ; rw [if_neg (by omega), if_neg (by omega), if_pos h]
theorem own_capZe3 (B m c x y w : Int) (h0 : 112 < m) (hx : x = 56) (hy : y = 56) (hw : w = m - 112) : capZ B m c = capW (B + x + y) w (capW (B + x) y (capW B x c)) := by subst hx hy hw; unfold capZ; rw [if_neg (by omega), if_neg (by omega), if_neg (by omega)]
def capG (B m c : Int) : Int := capW (B + m) (m + 1) (capZ B m c)
def sG (B m c : Int) : Nat := (2 * (capG B m c - c)).toNat
theorem own_capG (B m c : Int) (h : 0 ≤ c) : c ≤ capZ B m c ∧ capZ B m c ≤ capG B m c ∧ (capG B m c ≤ c ∨ capG B m c ≤ 2 * ((B + m) / 8) ∨ capG B m c ≤ 2 * ((B + m + (m + 1)) / 8)) := by
  have q1 := own_capZ B m c h
  have q2 := own_cap (B + m) (m + 1) (capZ B m c) (by omega)
  unfold capG; omega
theorem own_sG (B m c : Int) (h : 0 ≤ c) : (sG B m c : Int) = 2 * (capG B m c - c) := by
  have q := own_capG B m c h
  unfold sG; omega
def capR (B q k c : Int) : Int := capW (B + q + 1) k (capW (B + q) 1 (capZ B q c))
def sR (B q k c : Int) : Nat := (2 * (capR B q k c - c)).toNat
theorem own_capR (B q k c : Int) (h : 0 ≤ c) : c ≤ capZ B q c ∧ capZ B q c ≤ capW (B + q) 1 (capZ B q c) ∧ capW (B + q) 1 (capZ B q c) ≤ capR B q k c ∧ (capR B q k c ≤ c ∨ capR B q k c ≤ 2 * ((B + q) / 8) ∨ capR B q k c ≤ 2 * ((B + q + 1) / 8) ∨ capR B q k c ≤ 2 * ((B + q + 1 + k) / 8)) := by
  have q1 := own_capZ B q c h
  have q2 := own_cap (B + q) 1 (capZ B q c) (by omega)
  have q3 := own_cap (B + q + 1) k (capW (B + q) 1 (capZ B q c)) (by omega)
  unfold capR; omega
theorem own_sR (B q k c : Int) (h : 0 ≤ c) : (sR B q k c : Int) = 2 * (capR B q k c - c) := by
  have q := own_capR B q k c h
  unfold sR; omega
theorem own_capW0 (B c : Int) (h : B / 8 ≤ c) : capW B 0 c = c := by unfold capW; rw [if_neg (by omega)]
theorem own_sl10 {s1 S : Nat} {c c1 cZ : Int} (h1 : (s1 : Int) = 2 * (c1 - c)) (hz : c1 ≤ cZ) (hS : 2 * (cZ - c) ≤ (S : Int)) : 0 + 0 + s1 ≤ S := by omega
theorem own_sl11 {s1 S : Nat} {c c1 cZ : Int} (h1 : (s1 : Int) = 2 * (c1 - c)) (hz : c1 ≤ cZ) (hS : 2 * (cZ - c) ≤ (S : Int)) : 0 + 0 + s1 + 0 ≤ S := by omega
theorem own_sl20 {s1 s2 S : Nat} {c c1 c2 cZ : Int} (h1 : (s1 : Int) = 2 * (c1 - c)) (h2 : (s2 : Int) = 2 * (c2 - c1)) (hz : c2 ≤ cZ) (hS : 2 * (cZ - c) ≤ (S : Int)) : 0 + 0 + s1 + 0 + s2 ≤ S := by omega
theorem own_sl21 {s1 s2 S : Nat} {c c1 c2 cZ : Int} (h1 : (s1 : Int) = 2 * (c1 - c)) (h2 : (s2 : Int) = 2 * (c2 - c1)) (hz : c2 ≤ cZ) (hS : 2 * (cZ - c) ≤ (S : Int)) : 0 + 0 + s1 + 0 + s2 + 0 ≤ S := by omega
theorem own_sl30 {s1 s2 s3 S : Nat} {c c1 c2 c3 cZ : Int} (h1 : (s1 : Int) = 2 * (c1 - c)) (h2 : (s2 : Int) = 2 * (c2 - c1)) (h3 : (s3 : Int) = 2 * (c3 - c2)) (hz : c3 ≤ cZ) (hS : 2 * (cZ - c) ≤ (S : Int)) : 0 + 0 + s1 + 0 + s2 + 0 + s3 ≤ S := by omega
theorem own_sl31 {s1 s2 s3 S : Nat} {c c1 c2 c3 cZ : Int} (h1 : (s1 : Int) = 2 * (c1 - c)) (h2 : (s2 : Int) = 2 * (c2 - c1)) (h3 : (s3 : Int) = 2 * (c3 - c2)) (hz : c3 ≤ cZ) (hS : 2 * (cZ - c) ≤ (S : Int)) : 0 + 0 + s1 + 0 + s2 + 0 + s3 + 0 ≤ S := by omega
theorem own_b1 {B : Int} (h : B ≤ 250) : B ≤ 400 := by omega
theorem own_b2 {B x : Int} (h : B ≤ 250) (hx : x = 56) : B + x ≤ 400 := by omega
theorem own_b3 {B x y : Int} (h : B ≤ 250) (hx : x = 56) (hy : y = 56) : B + x + y ≤ 400 := by omega
theorem own_be1 {B m x : Int} (hx : x = m) : B + m = B + x := by omega
theorem own_be2 {B m x y : Int} (hx : x = 56) (hy : y = m - 56) : B + m = B + x + y := by omega
theorem own_be3 {B m x y w : Int} (hx : x = 56) (hy : y = 56) (hw : w = m - 112) : B + m = B + x + y + w := by omega
theorem own_be0 {B m : Int} (h0 : 0 ≤ m) (h : m ≤ 0) : B + m = B := by omega
theorem d7_0 : decode prog_12_method_10_code 0 = .ok (.iload_n 1, 1) := by decide +kernel
theorem d7_1 : decode prog_12_method_10_code 1 = .ok (.istore_n 2, 1) := by decide +kernel
theorem d7_2 : decode prog_12_method_10_code 2 = .ok (.iload_n 2, 1) := by decide +kernel
theorem d7_3 : decode prog_12_method_10_code 3 = .ok (.ifCond .le 20, 3) := by decide +kernel
theorem d7_6 : decode prog_12_method_10_code 6 = .ok (.aload_n 0, 1) := by decide +kernel
theorem d7_7 : decode prog_12_method_10_code 7 = .ok (.lconst 0, 1) := by decide +kernel
theorem d7_8 : decode prog_12_method_10_code 8 = .ok (.iload_n 2, 1) := by decide +kernel
theorem d7_9 : decode prog_12_method_10_code 9 = .ok (.bipush 56, 2) := by decide +kernel
theorem d7_11 : decode prog_12_method_10_code 11 = .ok (.invokestatic 47, 3) := by decide +kernel
theorem d7_14 : decode prog_12_method_10_code 14 = .ok (.invokevirtual 17, 3) := by decide +kernel
theorem own_site156 {Z : State} {aZ : Array Value} (hw : ∀ d ∈ tables_1, d.before aZ Z = true) : SVt aZ Z "com/example/mirk/mirk/index/BitWriter" (⟨"com/example/mirk/mirk/index/BitWriter", "writeBits", "(JI)V"⟩ : MethodName) prog_12_method_11_code 4 none := ⟨⟨⟨(hw _ (mi 23 rfl)), (hw _ (mi 25 rfl))⟩, (hw _ (mi 24 rfl)), (hw _ (mi 2 rfl))⟩, (hw _ (mi 26 rfl))⟩
theorem pd_157 : parseMethodDescriptor "(JI)V" = some ⟨[.long, .int], none⟩ := by decide +kernel
theorem d7_17 : decode prog_12_method_10_code 17 = .ok (.iinc 2 (-56), 3) := by decide +kernel
theorem d7_20 : decode prog_12_method_10_code 20 = .ok (.goto (-18), 3) := by decide +kernel
theorem d7_23 : decode prog_12_method_10_code 23 = .ok (.return_, 1) := by decide +kernel
theorem own_ar155 (p1 : Int32) (hm1 : 0 ≤ p1.toInt) (hm2 : p1.toInt ≤ 127) (g0 : (0 : Int32) < p1) : 0 < p1.toInt ∧ 0 ≤ (f13 p1 (56 : Int32)).toInt ∧ (f13 p1 (56 : Int32)).toInt ≤ 56 ∧ (p1.toInt ≤ 56 → (f13 p1 (56 : Int32)).toInt = p1.toInt) ∧ (56 < p1.toInt → (f13 p1 (56 : Int32)).toInt = 56) := by
  have := rng32 p1
  have : (56 : Int32).toInt = 56 := rfl
  have := rng32 (f13 p1 (56 : Int32))
  have := own_f13 p1 (56 : Int32)
  have : (0 : Int32).toInt = 0 := rfl
  have := g0
  rw [Int32.lt_iff_toInt_lt] at this
  omega
theorem own_ar160 (p1 : Int32) (hm1 : 0 ≤ p1.toInt) (hm2 : p1.toInt ≤ 127) (g0 : (0 : Int32) < p1) (g1 : (0 : Int32) < (p1 + (-56 : Int32))) : 56 < p1.toInt ∧ 0 ≤ (f13 (p1 + (-56 : Int32)) (56 : Int32)).toInt ∧ (f13 (p1 + (-56 : Int32)) (56 : Int32)).toInt ≤ 56 ∧ (p1.toInt ≤ 112 → (f13 (p1 + (-56 : Int32)) (56 : Int32)).toInt = p1.toInt - 56) ∧ (112 < p1.toInt → (f13 (p1 + (-56 : Int32)) (56 : Int32)).toInt = 56) := by
  have := rng32 p1
  have : (-56 : Int32).toInt = -56 := rfl
  have := rng32 (p1 + (-56 : Int32))
  have := c_iadd p1 (-56 : Int32)
  have : (56 : Int32).toInt = 56 := rfl
  have := rng32 (f13 (p1 + (-56 : Int32)) (56 : Int32))
  have := own_f13 (p1 + (-56 : Int32)) (56 : Int32)
  have : (0 : Int32).toInt = 0 := rfl
  have := g0
  rw [Int32.lt_iff_toInt_lt] at this
  have := g1
  rw [Int32.lt_iff_toInt_lt] at this
  omega
theorem own_ar161 (p1 : Int32) (hm1 : 0 ≤ p1.toInt) (hm2 : p1.toInt ≤ 127) (g0 : (0 : Int32) < p1) (g1 : (0 : Int32) < (p1 + (-56 : Int32))) (g2 : (0 : Int32) < ((p1 + (-56 : Int32)) + (-56 : Int32))) : 112 < p1.toInt ∧ 0 ≤ (f13 ((p1 + (-56 : Int32)) + (-56 : Int32)) (56 : Int32)).toInt ∧ (f13 ((p1 + (-56 : Int32)) + (-56 : Int32)) (56 : Int32)).toInt ≤ 56 ∧ (p1.toInt ≤ 168 → (f13 ((p1 + (-56 : Int32)) + (-56 : Int32)) (56 : Int32)).toInt = p1.toInt - 112) ∧ (168 < p1.toInt → (f13 ((p1 + (-56 : Int32)) + (-56 : Int32)) (56 : Int32)).toInt = 56) := by
  have := rng32 p1
  have : (-56 : Int32).toInt = -56 := rfl
  have := rng32 (p1 + (-56 : Int32))
  have := c_iadd p1 (-56 : Int32)
  have := rng32 ((p1 + (-56 : Int32)) + (-56 : Int32))
  have := c_iadd (p1 + (-56 : Int32)) (-56 : Int32)
  have : (56 : Int32).toInt = 56 := rfl
  have := rng32 (f13 ((p1 + (-56 : Int32)) + (-56 : Int32)) (56 : Int32))
  have := own_f13 ((p1 + (-56 : Int32)) + (-56 : Int32)) (56 : Int32)
  have : (0 : Int32).toInt = 0 := rfl
  have := g0
  rw [Int32.lt_iff_toInt_lt] at this
  have := g1
  rw [Int32.lt_iff_toInt_lt] at this
  have := g2
  rw [Int32.lt_iff_toInt_lt] at this
  omega
theorem own_ar162 (p1 : Int32) (hm1 : 0 ≤ p1.toInt) (hm2 : p1.toInt ≤ 127) (g0 : (0 : Int32) < p1) (g1 : (0 : Int32) < (p1 + (-56 : Int32))) (g2 : (0 : Int32) < ((p1 + (-56 : Int32)) + (-56 : Int32))) : ¬ (0 : Int32) < (((p1 + (-56 : Int32)) + (-56 : Int32)) + (-56 : Int32)) := by
  rw [Int32.lt_iff_toInt_lt]
  have := rng32 p1
  have : (-56 : Int32).toInt = -56 := rfl
  have := rng32 (p1 + (-56 : Int32))
  have := c_iadd p1 (-56 : Int32)
  have := rng32 ((p1 + (-56 : Int32)) + (-56 : Int32))
  have := c_iadd (p1 + (-56 : Int32)) (-56 : Int32)
  have := rng32 (((p1 + (-56 : Int32)) + (-56 : Int32)) + (-56 : Int32))
  have := c_iadd ((p1 + (-56 : Int32)) + (-56 : Int32)) (-56 : Int32)
  have : (0 : Int32).toInt = 0 := rfl
  have := g0
  rw [Int32.lt_iff_toInt_lt] at this
  have := g1
  rw [Int32.lt_iff_toInt_lt] at this
  have := g2
  rw [Int32.lt_iff_toInt_lt] at this
  omega
theorem own_ar163 (p1 : Int32) (hm1 : 0 ≤ p1.toInt) (hm2 : p1.toInt ≤ 127) (g0 : (0 : Int32) < p1) (g1 : (0 : Int32) < (p1 + (-56 : Int32))) (g2 : (0 : Int32) < ((p1 + (-56 : Int32)) + (-56 : Int32))) : p1.toInt ≤ 168 := by
  have := rng32 p1
  have : (-56 : Int32).toInt = -56 := rfl
  have := rng32 (p1 + (-56 : Int32))
  have := c_iadd p1 (-56 : Int32)
  have := rng32 ((p1 + (-56 : Int32)) + (-56 : Int32))
  have := c_iadd (p1 + (-56 : Int32)) (-56 : Int32)
  have := rng32 (((p1 + (-56 : Int32)) + (-56 : Int32)) + (-56 : Int32))
  have := c_iadd ((p1 + (-56 : Int32)) + (-56 : Int32)) (-56 : Int32)
  have : (0 : Int32).toInt = 0 := rfl
  have := g0
  rw [Int32.lt_iff_toInt_lt] at this
  have := g1
  rw [Int32.lt_iff_toInt_lt] at this
  have := g2
  rw [Int32.lt_iff_toInt_lt] at this
  omega
theorem own_ar165 (p1 : Int32) (hm1 : 0 ≤ p1.toInt) (hm2 : p1.toInt ≤ 127) (g0 : (0 : Int32) < p1) (g1 : (0 : Int32) < (p1 + (-56 : Int32))) (g2 : ¬ (0 : Int32) < ((p1 + (-56 : Int32)) + (-56 : Int32))) : p1.toInt ≤ 112 := by
  have := rng32 p1
  have : (-56 : Int32).toInt = -56 := rfl
  have := rng32 (p1 + (-56 : Int32))
  have := c_iadd p1 (-56 : Int32)
  have := rng32 ((p1 + (-56 : Int32)) + (-56 : Int32))
  have := c_iadd (p1 + (-56 : Int32)) (-56 : Int32)
  have : (0 : Int32).toInt = 0 := rfl
  have := g0
  rw [Int32.lt_iff_toInt_lt] at this
  have := g1
  rw [Int32.lt_iff_toInt_lt] at this
  have := g2
  rw [Int32.lt_iff_toInt_lt] at this
  omega
theorem own_ar166 (p1 : Int32) (hm1 : 0 ≤ p1.toInt) (hm2 : p1.toInt ≤ 127) (g0 : (0 : Int32) < p1) (g1 : ¬ (0 : Int32) < (p1 + (-56 : Int32))) : p1.toInt ≤ 56 := by
  have := rng32 p1
  have : (-56 : Int32).toInt = -56 := rfl
  have := rng32 (p1 + (-56 : Int32))
  have := c_iadd p1 (-56 : Int32)
  have : (0 : Int32).toInt = 0 := rfl
  have := g0
  rw [Int32.lt_iff_toInt_lt] at this
  have := g1
  rw [Int32.lt_iff_toInt_lt] at this
  omega
theorem own_ar167 (p1 : Int32) (hm1 : 0 ≤ p1.toInt) (hm2 : p1.toInt ≤ 127) (g0 : ¬ (0 : Int32) < p1) : p1.toInt ≤ 0 := by
  have := rng32 p1
  have : (0 : Int32).toInt = 0 := rfl
  have := g0
  rw [Int32.lt_iff_toInt_lt] at this
  omega
def Qwz (Z : State) (n0 : Nat) (a0 : Addr) (p1 : Int32) (B : Int) (c : Int) (S : Nat) (h0 : Heap) (v : Option Value) (h : Heap) (L : List Loc) : Prop := QW n0 h0 Z a0 (B + p1.toInt) (capZ B p1.toInt c) v h L
theorem efwz (m : MethodId) (a0 : Addr) (p1 : Int32) : entryFrame m #[(.ref a0), (.int p1)] 3 = mkF m 0 #[rv a0, iv p1, .unset] [] := by first | (simp [entryFrame, mkF, argsToLocals, Value.category]; done) | rfl
abbrev Lwz_0 (a0 : Addr) (p1 : Int32) : Array Slot := #[rv a0, iv p1, iv (p1 + (-56 : Int32))]
abbrev Lwz_1 (a0 : Addr) (p1 : Int32) : Array Slot := #[rv a0, iv p1, iv ((p1 + (-56 : Int32)) + (-56 : Int32))]
abbrev Lwz_2 (a0 : Addr) (p1 : Int32) : Array Slot := #[rv a0, iv p1, iv (((p1 + (-56 : Int32)) + (-56 : Int32)) + (-56 : Int32))]
set_option maxRecDepth 65536 in
set_option maxHeartbeats 40000000 in
theorem rmwz (l : Launch) (Z : State) (aZ : Array Value) (hw : ∀ d ∈ tables_1, d.before aZ Z = true) (ws : List Jvm.Cond) (a0 : Addr) (p1 : Int32) (B : Int) (c : Int) (S : Nat) (h0 : Heap) (n0 : Nat) (Z0 : n0 ≤ h0.size) (hB : BW Z h0 n0 a0 B c) (hm1 : 0 ≤ p1.toInt) (hm2 : p1.toInt ≤ 127) (hb4 : B ≤ 250) (hS : 2 * (capZ B p1.toInt c - c) ≤ (S : Int)) :
    MFn l (⟨"com/example/mirk/mirk/index/BitWriter", "writeZeros", "(I)V"⟩ : MethodName) prog_12_method_10_code 3 none ws (Rm 3 3 S 48) #[(.ref a0), (.int p1)] Z h0 (Qwz Z n0 a0 p1 B c S h0) := by
  refine own_mf (C := "com/example/mirk/mirk/index/BitWriter") rfl (plainFor_of_name pn_48) (fun m => efwz m a0 p1) ?_
  intro p e s m below meth cd0 s₁ En hx hby hml hown hnm hZ X0 e0 hlk hrt go0
  have N0 := Fr.nil n0
  have K0 : Keep h0 h0 [] := Keep.refl _ _
  have go1 : Go p.tables e below s₁ (mkF m 3 #[rv a0, iv p1, iv p1] [(.int p1)]) En := by
    intro t k
    refine go0 _ ?_
    refine XS.iloadN X0.here hx rfl (hb hby d7_0) rfl ?_
    refine XS.istoreN X0.here hx rfl (hb hby d7_1) rfl (l' := #[rv a0, iv p1, iv p1]) rfl ?_
    refine XS.iloadN X0.here hx rfl (hb hby d7_2) rfl ?_
    show Steps _ _ _ (s₁.setTop (mkF m 3 #[rv a0, iv p1, iv p1] [(.int p1)])) _
    exact k
  by_cases hs2 : (0 : Int32) < p1
  · have go3 : Go p.tables e below s₁ (mkF m 11 #[rv a0, iv p1, iv p1] [(.int 56), (.int p1), (.long 0), (.ref a0)]) En := by
      intro t k
      refine go1 _ ?_
      refine XS.ifNo X0.here hx rfl (hb hby d7_3) rfl (XT.i0_le_f hs2) ?_
      refine XS.aloadN X0.here hx rfl (hb hby d7_6) rfl rfl ?_
      refine XS.lconst X0.here hx rfl (hb hby d7_7) ?_
      show Steps _ _ _ (s₁.setTop (mkF m 8 #[rv a0, iv p1, iv p1] [(.long 0), (.ref a0)])) _
      refine XS.iloadN X0.here hx rfl (hb hby d7_8) rfl ?_
      refine XS.bipush X0.here hx rfl (hb hby d7_9) ?_
      exact k
    obtain ⟨_, T4, Lc4, X4, hQ4, st4⟩ := own_cs X0 hx hZ hown hml go3 (hb hby d7_11) e0 (hw _ (mi 78 rfl)) (own_site31 hw) (rm13 l Z aZ hw [] p1 (56 : Int32) h0 n0 Z0 ) (by decide) (argsL := [(.int p1), (.int 56)]) (rest := [(.long 0), (.ref a0)]) rfl rfl rfl (lenOf pd_32 rfl) (W := 3) rfl (Nat.le_of_ble_eq_true rfl) (Nat.le_of_ble_eq_true rfl) (Nat.le_of_ble_eq_true rfl) (Nat.zero_le _)
    obtain ⟨rfl, N4q, e4⟩ := hQ4
    have N4 := Fr.app N0 N4q
    have hx0 := (own_ar155 p1 hm1 hm2 hs2)
    have hbz0 := BW.rng hB
    have hcz0 := own_cz1 B p1.toInt c (f13 p1 (56 : Int32)).toInt hbz0.1 hx0.1 ⟨hx0.2.2.2.1, hx0.2.2.2.2⟩
    have hsw0 := own_sW B (f13 p1 (56 : Int32)).toInt c (BW.rng hB).1
    obtain ⟨_, T5, Lc5, X5, hQ5, st5⟩ := own_cv X4 hx hZ hown hml st4 (hb hby d7_14) e4 (hw _ (mi 44 rfl)) (own_site156 hw) (BW.exa hB) (rmwb l Z aZ hw [] a0 (0 : Int64) (f13 p1 (56 : Int32)) B c (sW B (f13 p1 (56 : Int32)).toInt c) h0 n0 Z0 hB hx0.2.1 hx0.2.2.1 (own_b1 hb4) (Int.le_of_eq hsw0.symm)) (by decide) (argsL := [(.long 0), (.int (f13 p1 (56 : Int32)))]) (rest := []) rfl rfl rfl (lenOf pd_157 rfl) (W := 0) rfl (Nat.le_of_ble_eq_true rfl) (Nat.le_of_ble_eq_true rfl) (Nat.le_of_ble_eq_true rfl) (own_sl10 hsw0 hcz0 hS)
    obtain ⟨rfl, N5q, zq5, G5⟩ := hQ5
    have N5 := Fr.app N4 N5q
    have Zs5 : n0 ≤ T5.heap.size := Nat.le_trans Z0 zq5
    have Zh5 : h0.size ≤ T5.heap.size := Nat.le_trans (Nat.le_refl _) zq5
    have go6 : Go p.tables e below T5 (mkF m 3 (Lwz_0 a0 p1) [(.int (p1 + (-56 : Int32)))]) En := by
      intro t k
      refine st5 _ ?_
      refine XS.iinc X5.here hx rfl (hb hby d7_17) rfl (l' := (Lwz_0 a0 p1)) rfl ?_
      refine XS.goto X5.here hx rfl (pc0 := 20) (pc' := 2) rfl (hb hby d7_20) (by decide) (by decide) ?_
      refine XS.iloadN X5.here hx rfl (hb hby d7_2) rfl ?_
      show Steps _ _ _ (T5.setTop (mkF m 3 (Lwz_0 a0 p1) [(.int (p1 + (-56 : Int32)))])) _
      exact k
    by_cases hs7 : (0 : Int32) < (p1 + (-56 : Int32))
    · have go8 : Go p.tables e below T5 (mkF m 11 (Lwz_0 a0 p1) [(.int 56), (.int (p1 + (-56 : Int32))), (.long 0), (.ref a0)]) En := by
        intro t k
        refine go6 _ ?_
        refine XS.ifNo X5.here hx rfl (hb hby d7_3) rfl (XT.i0_le_f hs7) ?_
        refine XS.aloadN X5.here hx rfl (hb hby d7_6) rfl rfl ?_
        refine XS.lconst X5.here hx rfl (hb hby d7_7) ?_
        show Steps _ _ _ (T5.setTop (mkF m 8 (Lwz_0 a0 p1) [(.long 0), (.ref a0)])) _
        refine XS.iloadN X5.here hx rfl (hb hby d7_8) rfl ?_
        refine XS.bipush X5.here hx rfl (hb hby d7_9) ?_
        exact k
      obtain ⟨_, T9, Lc9, X9, hQ9, st9⟩ := own_cs X5 hx hZ hown hml go8 (hb hby d7_11) rfl (hw _ (mi 78 rfl)) (own_site31 hw) (rm13 l Z aZ hw [] (p1 + (-56 : Int32)) (56 : Int32) T5.heap n0 Zs5 ) (by decide) (argsL := [(.int (p1 + (-56 : Int32))), (.int 56)]) (rest := [(.long 0), (.ref a0)]) rfl rfl rfl (lenOf pd_32 rfl) (W := 3) rfl (Nat.le_of_ble_eq_true rfl) (Nat.le_of_ble_eq_true rfl) (Nat.le_of_ble_eq_true rfl) (own_sl11 hsw0 hcz0 hS)
      obtain ⟨rfl, N9q, e9⟩ := hQ9
      have N9 := Fr.app N5 N9q
      have hx1 := (own_ar160 p1 hm1 hm2 hs2 hs7)
      have hk1 : (f13 p1 (56 : Int32)).toInt = 56 := hx0.2.2.2.2 hx1.1
      have hbz1 := BW.rng hB
      have hcz1 := own_cz2 B p1.toInt c (f13 p1 (56 : Int32)).toInt (f13 (p1 + (-56 : Int32)) (56 : Int32)).toInt hbz1.1 hx1.1 hk1 ⟨hx1.2.2.2.1, hx1.2.2.2.2⟩
      have hsw1 := own_sW (B + (f13 p1 (56 : Int32)).toInt) (f13 (p1 + (-56 : Int32)) (56 : Int32)).toInt (capW B (f13 p1 (56 : Int32)).toInt c) (BW.rng G5).1
      obtain ⟨_, T10, Lc10, X10, hQ10, st10⟩ := own_cv X9 hx hZ hown hml st9 (hb hby d7_14) e9 (hw _ (mi 44 rfl)) (own_site156 hw) (BW.exa G5) (rmwb l Z aZ hw [] a0 (0 : Int64) (f13 (p1 + (-56 : Int32)) (56 : Int32)) (B + (f13 p1 (56 : Int32)).toInt) (capW B (f13 p1 (56 : Int32)).toInt c) (sW (B + (f13 p1 (56 : Int32)).toInt) (f13 (p1 + (-56 : Int32)) (56 : Int32)).toInt (capW B (f13 p1 (56 : Int32)).toInt c)) T5.heap n0 Zs5 G5 hx1.2.1 hx1.2.2.1 (own_b2 hb4 hk1) (Int.le_of_eq hsw1.symm)) (by decide) (argsL := [(.long 0), (.int (f13 (p1 + (-56 : Int32)) (56 : Int32)))]) (rest := []) rfl rfl rfl (lenOf pd_157 rfl) (W := 0) rfl (Nat.le_of_ble_eq_true rfl) (Nat.le_of_ble_eq_true rfl) (Nat.le_of_ble_eq_true rfl) (own_sl20 hsw0 hsw1 hcz1 hS)
      obtain ⟨rfl, N10q, zq10, G10⟩ := hQ10
      have N10 := Fr.app N9 N10q
      have Zs10 : n0 ≤ T10.heap.size := Nat.le_trans Zs5 zq10
      have Zh10 : h0.size ≤ T10.heap.size := Nat.le_trans Zh5 zq10
      have go11 : Go p.tables e below T10 (mkF m 3 (Lwz_1 a0 p1) [(.int ((p1 + (-56 : Int32)) + (-56 : Int32)))]) En := by
        intro t k
        refine st10 _ ?_
        refine XS.iinc X10.here hx rfl (hb hby d7_17) rfl (l' := (Lwz_1 a0 p1)) rfl ?_
        refine XS.goto X10.here hx rfl (pc0 := 20) (pc' := 2) rfl (hb hby d7_20) (by decide) (by decide) ?_
        refine XS.iloadN X10.here hx rfl (hb hby d7_2) rfl ?_
        show Steps _ _ _ (T10.setTop (mkF m 3 (Lwz_1 a0 p1) [(.int ((p1 + (-56 : Int32)) + (-56 : Int32)))])) _
        exact k
      by_cases hs12 : (0 : Int32) < ((p1 + (-56 : Int32)) + (-56 : Int32))
      · have go13 : Go p.tables e below T10 (mkF m 11 (Lwz_1 a0 p1) [(.int 56), (.int ((p1 + (-56 : Int32)) + (-56 : Int32))), (.long 0), (.ref a0)]) En := by
          intro t k
          refine go11 _ ?_
          refine XS.ifNo X10.here hx rfl (hb hby d7_3) rfl (XT.i0_le_f hs12) ?_
          refine XS.aloadN X10.here hx rfl (hb hby d7_6) rfl rfl ?_
          refine XS.lconst X10.here hx rfl (hb hby d7_7) ?_
          show Steps _ _ _ (T10.setTop (mkF m 8 (Lwz_1 a0 p1) [(.long 0), (.ref a0)])) _
          refine XS.iloadN X10.here hx rfl (hb hby d7_8) rfl ?_
          refine XS.bipush X10.here hx rfl (hb hby d7_9) ?_
          exact k
        obtain ⟨_, T14, Lc14, X14, hQ14, st14⟩ := own_cs X10 hx hZ hown hml go13 (hb hby d7_11) rfl (hw _ (mi 78 rfl)) (own_site31 hw) (rm13 l Z aZ hw [] ((p1 + (-56 : Int32)) + (-56 : Int32)) (56 : Int32) T10.heap n0 Zs10 ) (by decide) (argsL := [(.int ((p1 + (-56 : Int32)) + (-56 : Int32))), (.int 56)]) (rest := [(.long 0), (.ref a0)]) rfl rfl rfl (lenOf pd_32 rfl) (W := 3) rfl (Nat.le_of_ble_eq_true rfl) (Nat.le_of_ble_eq_true rfl) (Nat.le_of_ble_eq_true rfl) (own_sl21 hsw0 hsw1 hcz1 hS)
        obtain ⟨rfl, N14q, e14⟩ := hQ14
        have N14 := Fr.app N10 N14q
        have hx2 := (own_ar161 p1 hm1 hm2 hs2 hs7 hs12)
        have hk2 : (f13 (p1 + (-56 : Int32)) (56 : Int32)).toInt = 56 := hx1.2.2.2.2 hx2.1
        have hbz2 := BW.rng hB
        have hcz2 := own_cz3 B p1.toInt c (f13 p1 (56 : Int32)).toInt (f13 (p1 + (-56 : Int32)) (56 : Int32)).toInt (f13 ((p1 + (-56 : Int32)) + (-56 : Int32)) (56 : Int32)).toInt hbz2.1 hx2.1 hk1 hk2 (hx2.2.2.2.1 (Int.le_trans hm2 (by decide)))
        have hsw2 := own_sW (B + (f13 p1 (56 : Int32)).toInt + (f13 (p1 + (-56 : Int32)) (56 : Int32)).toInt) (f13 ((p1 + (-56 : Int32)) + (-56 : Int32)) (56 : Int32)).toInt (capW (B + (f13 p1 (56 : Int32)).toInt) (f13 (p1 + (-56 : Int32)) (56 : Int32)).toInt (capW B (f13 p1 (56 : Int32)).toInt c)) (BW.rng G10).1
        obtain ⟨_, T15, Lc15, X15, hQ15, st15⟩ := own_cv X14 hx hZ hown hml st14 (hb hby d7_14) e14 (hw _ (mi 44 rfl)) (own_site156 hw) (BW.exa G10) (rmwb l Z aZ hw [] a0 (0 : Int64) (f13 ((p1 + (-56 : Int32)) + (-56 : Int32)) (56 : Int32)) (B + (f13 p1 (56 : Int32)).toInt + (f13 (p1 + (-56 : Int32)) (56 : Int32)).toInt) (capW (B + (f13 p1 (56 : Int32)).toInt) (f13 (p1 + (-56 : Int32)) (56 : Int32)).toInt (capW B (f13 p1 (56 : Int32)).toInt c)) (sW (B + (f13 p1 (56 : Int32)).toInt + (f13 (p1 + (-56 : Int32)) (56 : Int32)).toInt) (f13 ((p1 + (-56 : Int32)) + (-56 : Int32)) (56 : Int32)).toInt (capW (B + (f13 p1 (56 : Int32)).toInt) (f13 (p1 + (-56 : Int32)) (56 : Int32)).toInt (capW B (f13 p1 (56 : Int32)).toInt c))) T10.heap n0 Zs10 G10 hx2.2.1 hx2.2.2.1 (own_b3 hb4 hk1 hk2) (Int.le_of_eq hsw2.symm)) (by decide) (argsL := [(.long 0), (.int (f13 ((p1 + (-56 : Int32)) + (-56 : Int32)) (56 : Int32)))]) (rest := []) rfl rfl rfl (lenOf pd_157 rfl) (W := 0) rfl (Nat.le_of_ble_eq_true rfl) (Nat.le_of_ble_eq_true rfl) (Nat.le_of_ble_eq_true rfl) (own_sl30 hsw0 hsw1 hsw2 hcz2 hS)
        obtain ⟨rfl, N15q, zq15, G15⟩ := hQ15
        have N15 := Fr.app N14 N15q
        have Zs15 : n0 ≤ T15.heap.size := Nat.le_trans Zs10 zq15
        have Zh15 : h0.size ≤ T15.heap.size := Nat.le_trans Zh10 zq15
        have ha16 := (own_ar162 p1 hm1 hm2 hs2 hs7 hs12)
        have hxe := (own_ar163 p1 hm1 hm2 hs2 hs7 hs12)
        have hke := hx2.2.2.2.1 hxe
        have hC := own_capZe3 B p1.toInt c (f13 p1 (56 : Int32)).toInt (f13 (p1 + (-56 : Int32)) (56 : Int32)).toInt (f13 ((p1 + (-56 : Int32)) + (-56 : Int32)) (56 : Int32)).toInt hx2.1 hk1 hk2 hke
        have hBe := own_be3 (B := B) (m := p1.toInt) hk1 hk2 hke
        have go17 : Go p.tables e below T15 (mkF m 23 (Lwz_2 a0 p1) []) En := by
          intro t k
          refine st15 _ ?_
          refine XS.iinc X15.here hx rfl (hb hby d7_17) rfl (l' := (Lwz_2 a0 p1)) rfl ?_
          refine XS.goto X15.here hx rfl (pc0 := 20) (pc' := 2) rfl (hb hby d7_20) (by decide) (by decide) ?_
          refine XS.iloadN X15.here hx rfl (hb hby d7_2) rfl ?_
          show Steps _ _ _ (T15.setTop (mkF m 3 (Lwz_2 a0 p1) [(.int (((p1 + (-56 : Int32)) + (-56 : Int32)) + (-56 : Int32)))])) _
          refine XS.ifYes X15.here hx rfl (pc0 := 3) (pc' := 23) rfl (hb hby d7_3) rfl (XT.i0_le_t ha16) (by decide) (by decide) ?_
          exact k
        refine own_outV X15 hx hlk go17 hrt (hb hby d7_23) rfl (Nat.le_of_ble_eq_true rfl) (own_sl30 hsw0 hsw1 hsw2 hcz2 hS) ?_
        exact ⟨rfl, N15, Zh15, by rw [hC, hBe]; exact G15⟩
      have hxe := (own_ar165 p1 hm1 hm2 hs2 hs7 hs12)
      have hke := hx1.2.2.2.1 hxe
      have hC := own_capZe2 B p1.toInt c (f13 p1 (56 : Int32)).toInt (f13 (p1 + (-56 : Int32)) (56 : Int32)).toInt hx1.1 hxe hk1 hke
      have hBe := own_be2 (B := B) (m := p1.toInt) hk1 hke
      have go18 : Go p.tables e below T10 (mkF m 23 (Lwz_1 a0 p1) []) En := by
        intro t k
        refine go11 _ ?_
        refine XS.ifYes X10.here hx rfl (pc0 := 3) (pc' := 23) rfl (hb hby d7_3) rfl (XT.i0_le_t hs12) (by decide) (by decide) ?_
        exact k
      refine own_outV X10 hx hlk go18 hrt (hb hby d7_23) rfl (Nat.le_of_ble_eq_true rfl) (own_sl20 hsw0 hsw1 hcz1 hS) ?_
      exact ⟨rfl, N10, Zh10, by rw [hC, hBe]; exact G10⟩
    have hxe := (own_ar166 p1 hm1 hm2 hs2 hs7)
    have hke := hx0.2.2.2.1 hxe
    have hC := own_capZe1 B p1.toInt c (f13 p1 (56 : Int32)).toInt hx0.1 hxe hke
    have hBe := own_be1 (B := B) (m := p1.toInt) hke
    have go19 : Go p.tables e below T5 (mkF m 23 (Lwz_0 a0 p1) []) En := by
      intro t k
      refine go6 _ ?_
      refine XS.ifYes X5.here hx rfl (pc0 := 3) (pc' := 23) rfl (hb hby d7_3) rfl (XT.i0_le_t hs7) (by decide) (by decide) ?_
      exact k
    refine own_outV X5 hx hlk go19 hrt (hb hby d7_23) rfl (Nat.le_of_ble_eq_true rfl) (own_sl10 hsw0 hcz0 hS) ?_
    exact ⟨rfl, N5, Zh5, by rw [hC, hBe]; exact G5⟩
  have hxe := (own_ar167 p1 hm1 hm2 hs2)
  have hC := own_capZe0 B p1.toInt c hxe
  have hBe := own_be0 (B := B) hm1 hxe
  have go20 : Go p.tables e below s₁ (mkF m 23 #[rv a0, iv p1, iv p1] []) En := by
    intro t k
    refine go1 _ ?_
    refine XS.ifYes X0.here hx rfl (pc0 := 3) (pc' := 23) rfl (hb hby d7_3) rfl (XT.i0_le_t hs2) (by decide) (by decide) ?_
    exact k
  refine own_outV X0 hx hlk go20 hrt (hb hby d7_23) e0 (Nat.le_of_ble_eq_true rfl) (Nat.zero_le _) ?_
  exact ⟨rfl, N0, Nat.le_refl _, by rw [hC, hBe]; exact hB⟩
theorem d6_0 : decode jdk_33_method_47_code 0 = .ok (.iload_n 0, 1) := by decide +kernel
theorem d6_1 : decode jdk_33_method_47_code 1 = .ok (.ifCond .gt 14, 3) := by decide +kernel
theorem d6_15 : decode jdk_33_method_47_code 15 = .ok (.bipush 31, 2) := by decide +kernel
theorem d6_17 : decode jdk_33_method_47_code 17 = .ok (.istore_n 1, 1) := by decide +kernel
theorem d6_18 : decode jdk_33_method_47_code 18 = .ok (.iload_n 0, 1) := by decide +kernel
theorem d6_19 : decode jdk_33_method_47_code 19 = .ok (.ldc_w 264, 3) := by decide +kernel
theorem d6_22 : decode jdk_33_method_47_code 22 = .ok (.if_icmp .lt 11, 3) := by decide +kernel
theorem d6_25 : decode jdk_33_method_47_code 25 = .ok (.iinc 1 (-16), 3) := by decide +kernel
theorem d6_28 : decode jdk_33_method_47_code 28 = .ok (.iload_n 0, 1) := by decide +kernel
theorem d6_29 : decode jdk_33_method_47_code 29 = .ok (.bipush 16, 2) := by decide +kernel
theorem d6_31 : decode jdk_33_method_47_code 31 = .ok (.iushr, 1) := by decide +kernel
theorem d6_32 : decode jdk_33_method_47_code 32 = .ok (.istore_n 0, 1) := by decide +kernel
theorem d6_33 : decode jdk_33_method_47_code 33 = .ok (.iload_n 0, 1) := by decide +kernel
theorem d6_34 : decode jdk_33_method_47_code 34 = .ok (.sipush 256, 3) := by decide +kernel
theorem d6_37 : decode jdk_33_method_47_code 37 = .ok (.if_icmp .lt 11, 3) := by decide +kernel
theorem d6_40 : decode jdk_33_method_47_code 40 = .ok (.iinc 1 (-8), 3) := by decide +kernel
theorem d6_43 : decode jdk_33_method_47_code 43 = .ok (.iload_n 0, 1) := by decide +kernel
theorem d6_44 : decode jdk_33_method_47_code 44 = .ok (.bipush 8, 2) := by decide +kernel
theorem d6_46 : decode jdk_33_method_47_code 46 = .ok (.iushr, 1) := by decide +kernel
theorem d6_47 : decode jdk_33_method_47_code 47 = .ok (.istore_n 0, 1) := by decide +kernel
theorem d6_48 : decode jdk_33_method_47_code 48 = .ok (.iload_n 0, 1) := by decide +kernel
theorem d6_49 : decode jdk_33_method_47_code 49 = .ok (.bipush 16, 2) := by decide +kernel
theorem d6_51 : decode jdk_33_method_47_code 51 = .ok (.if_icmp .lt 10, 3) := by decide +kernel
theorem d6_54 : decode jdk_33_method_47_code 54 = .ok (.iinc 1 (-4), 3) := by decide +kernel
theorem d6_57 : decode jdk_33_method_47_code 57 = .ok (.iload_n 0, 1) := by decide +kernel
theorem d6_58 : decode jdk_33_method_47_code 58 = .ok (.iconst 4, 1) := by decide +kernel
theorem d6_59 : decode jdk_33_method_47_code 59 = .ok (.iushr, 1) := by decide +kernel
theorem d6_60 : decode jdk_33_method_47_code 60 = .ok (.istore_n 0, 1) := by decide +kernel
theorem d6_61 : decode jdk_33_method_47_code 61 = .ok (.iload_n 0, 1) := by decide +kernel
theorem d6_62 : decode jdk_33_method_47_code 62 = .ok (.iconst 4, 1) := by decide +kernel
theorem d6_63 : decode jdk_33_method_47_code 63 = .ok (.if_icmp .lt 10, 3) := by decide +kernel
theorem d6_66 : decode jdk_33_method_47_code 66 = .ok (.iinc 1 (-2), 3) := by decide +kernel
theorem d6_69 : decode jdk_33_method_47_code 69 = .ok (.iload_n 0, 1) := by decide +kernel
theorem d6_70 : decode jdk_33_method_47_code 70 = .ok (.iconst 2, 1) := by decide +kernel
theorem d6_71 : decode jdk_33_method_47_code 71 = .ok (.iushr, 1) := by decide +kernel
theorem d6_72 : decode jdk_33_method_47_code 72 = .ok (.istore_n 0, 1) := by decide +kernel
theorem d6_73 : decode jdk_33_method_47_code 73 = .ok (.iload_n 1, 1) := by decide +kernel
theorem d6_74 : decode jdk_33_method_47_code 74 = .ok (.iload_n 0, 1) := by decide +kernel
theorem d6_75 : decode jdk_33_method_47_code 75 = .ok (.iconst 1, 1) := by decide +kernel
theorem d6_76 : decode jdk_33_method_47_code 76 = .ok (.iushr, 1) := by decide +kernel
theorem d6_77 : decode jdk_33_method_47_code 77 = .ok (.isub, 1) := by decide +kernel
theorem d6_78 : decode jdk_33_method_47_code 78 = .ok (.ireturn, 1) := by decide +kernel
theorem pn_226 : plainName "java/lang/Integer" = true := by first | (simp [plainName, overriddenIn]; done) | decide +kernel
def v6_2 (p0 : Int32) : Int32 := ((p0.toUInt32 >>> ((16 : Int32) &&& 31).toUInt32).toInt32)
def b6_4 (p0 : Int32) : Int32 := (if p0 < (65536 : Int32) then p0 else (v6_2 p0))
def b6_5 (p0 : Int32) : Int32 := (if p0 < (65536 : Int32) then (31 : Int32) else (15 : Int32))
def v6_11 (p0 : Int32) : Int32 := ((b6_5 p0) + (-8 : Int32))
def v6_12 (p0 : Int32) : Int32 := (((b6_4 p0).toUInt32 >>> ((8 : Int32) &&& 31).toUInt32).toInt32)
def b6_14 (p0 : Int32) : Int32 := (if (b6_4 p0) < (256 : Int32) then (b6_4 p0) else (v6_12 p0))
def b6_15 (p0 : Int32) : Int32 := (if (b6_4 p0) < (256 : Int32) then (b6_5 p0) else (v6_11 p0))
def v6_21 (p0 : Int32) : Int32 := ((b6_15 p0) + (-4 : Int32))
def v6_22 (p0 : Int32) : Int32 := (((b6_14 p0).toUInt32 >>> ((4 : Int32) &&& 31).toUInt32).toInt32)
def b6_24 (p0 : Int32) : Int32 := (if (b6_14 p0) < (16 : Int32) then (b6_14 p0) else (v6_22 p0))
def b6_25 (p0 : Int32) : Int32 := (if (b6_14 p0) < (16 : Int32) then (b6_15 p0) else (v6_21 p0))
def v6_31 (p0 : Int32) : Int32 := ((b6_25 p0) + (-2 : Int32))
def v6_32 (p0 : Int32) : Int32 := (((b6_24 p0).toUInt32 >>> ((2 : Int32) &&& 31).toUInt32).toInt32)
def b6_34 (p0 : Int32) : Int32 := (if (b6_24 p0) < (4 : Int32) then (b6_24 p0) else (v6_32 p0))
def b6_35 (p0 : Int32) : Int32 := (if (b6_24 p0) < (4 : Int32) then (b6_25 p0) else (v6_31 p0))
def v6_40 (p0 : Int32) : Int32 := ((b6_35 p0) - (((b6_34 p0).toUInt32 >>> ((1 : Int32) &&& 31).toUInt32).toInt32))
def f6 (p0 : Int32) : Int32 := (v6_40 p0)
theorem ef6 (m : MethodId) (p0 : Int32) : entryFrame m #[(.int p0)] 2 = mkF m 0 #[iv p0, .unset] [] := by first | (simp [entryFrame, mkF, argsToLocals, Value.category]; done) | rfl
set_option maxRecDepth 65536 in
set_option maxHeartbeats 40000000 in
theorem rm6 (l : Launch) (Z : State) (aZ : Array Value) (hw : ∀ d ∈ tables_1, d.before aZ Z = true) (ws : List Jvm.Cond) (p0 : Int32) (h0 : Heap) (n0 : Nat) (Z0 : n0 ≤ h0.size) (hpos : (0 : Int32) < p0) :
    MFn l (⟨"java/lang/Integer", "numberOfLeadingZeros", "(I)I"⟩ : MethodName) jdk_33_method_47_code 2 (some .int) ws (Rm 0 0 0 0) #[(.int p0)] Z h0 (QP n0 h0 (some (.int (f6 p0)))) := by
  refine own_mf (C := "java/lang/Integer") rfl (plainFor_of_name pn_226) (fun m => ef6 m p0) ?_
  intro p e s m below meth cd0 s₁ En hx hby hml hown hnm hZ X0 e0 hlk hrt go0
  have N0 := Fr.nil n0
  have K0 : Keep h0 h0 [] := Keep.refl _ _
  have go3 : Go p.tables e below s₁ (mkF m 33 #[iv (b6_4 p0), iv (b6_5 p0)] []) En := by
    intro t k
    have k : Steps p.tables e below (s₁.setTop (mkF m  33 #[iv (b6_4 p0), iv (b6_5 p0)] [])) t := k
    refine go0 _ ?_
    refine XS.iloadN X0.here hx rfl (hb hby d6_0) rfl ?_
    refine XS.ifYes X0.here hx rfl (pc0 := 1) (pc' := 15) rfl (hb hby d6_1) rfl (XT.i0_gt_t hpos) (by decide) (by decide) ?_
    refine XS.bipush X0.here hx rfl (hb hby d6_15) ?_
    show Steps _ _ _ (s₁.setTop (mkF m 17 #[iv p0, .unset] [(.int 31)])) _
    refine XS.istoreN X0.here hx rfl (hb hby d6_17) rfl (l' := #[iv p0, iv 31]) rfl ?_
    refine XS.iloadN X0.here hx rfl (hb hby d6_18) rfl ?_
    refine X0.ldcwInt hx hown (mvT hZ (hw _ (mi 39 rfl))) (g := (mkF m 19 #[iv p0, iv 31] [(.int p0)])) rfl (hb hby d6_19) _ ?_
    show Steps _ _ _ (s₁.setTop (mkF m 22 #[iv p0, iv 31] [(.int 65536), (.int p0)])) _
    by_cases hc1 : p0 < (65536 : Int32)
    · refine XS.icmpYes X0.here hx rfl (pc0 := 22) (pc' := 33) rfl (hb hby d6_22) rfl (XT.ii_lt_t hc1) (by decide) (by decide) ?_
      have hq6 : (b6_4 p0) = p0 := by rw [b6_4, if_pos hc1]
      rw [hq6] at k
      have hq7 : (b6_5 p0) = (31 : Int32) := by rw [b6_5, if_pos hc1]
      rw [hq7] at k
      exact k
    · refine XS.icmpNo X0.here hx rfl (hb hby d6_22) rfl (XT.ii_lt_f hc1) ?_
      refine XS.iinc X0.here hx rfl (hb hby d6_25) rfl (l' := #[iv p0, iv 15]) rfl ?_
      refine XS.iloadN X0.here hx rfl (hb hby d6_28) rfl ?_
      refine XS.bipush X0.here hx rfl (hb hby d6_29) ?_
      show Steps _ _ _ (s₁.setTop (mkF m 31 #[iv p0, iv 15] [(.int 16), (.int p0)])) _
      refine XS.iushr X0.here hx rfl (hb hby d6_31) rfl ?_
      refine XS.istoreN X0.here hx rfl (hb hby d6_32) rfl (l' := #[iv (v6_2 p0), iv 15]) rfl ?_
      have hq8 : (b6_4 p0) = (v6_2 p0) := by rw [b6_4, if_neg hc1]
      rw [hq8] at k
      have hq9 : (b6_5 p0) = (15 : Int32) := by rw [b6_5, if_neg hc1]
      rw [hq9] at k
      exact k
  have go13 : Go p.tables e below s₁ (mkF m 48 #[iv (b6_14 p0), iv (b6_15 p0)] []) En := by
    intro t k
    have k : Steps p.tables e below (s₁.setTop (mkF m  48 #[iv (b6_14 p0), iv (b6_15 p0)] [])) t := k
    refine go3 _ ?_
    refine XS.iloadN X0.here hx rfl (hb hby d6_33) rfl ?_
    refine XS.sipush X0.here hx rfl (hb hby d6_34) ?_
    by_cases hc10 : (b6_4 p0) < (256 : Int32)
    · refine XS.icmpYes X0.here hx rfl (pc0 := 37) (pc' := 48) rfl (hb hby d6_37) rfl (XT.ii_lt_t hc10) (by decide) (by decide) ?_
      have hq16 : (b6_14 p0) = (b6_4 p0) := by rw [b6_14, if_pos hc10]
      rw [hq16] at k
      have hq17 : (b6_15 p0) = (b6_5 p0) := by rw [b6_15, if_pos hc10]
      rw [hq17] at k
      exact k
    · refine XS.icmpNo X0.here hx rfl (hb hby d6_37) rfl (XT.ii_lt_f hc10) ?_
      refine XS.iinc X0.here hx rfl (hb hby d6_40) rfl (l' := #[iv (b6_4 p0), iv (v6_11 p0)]) rfl ?_
      refine XS.iloadN X0.here hx rfl (hb hby d6_43) rfl ?_
      refine XS.bipush X0.here hx rfl (hb hby d6_44) ?_
      show Steps _ _ _ (s₁.setTop (mkF m 46 #[iv (b6_4 p0), iv (v6_11 p0)] [(.int 8), (.int (b6_4 p0))])) _
      refine XS.iushr X0.here hx rfl (hb hby d6_46) rfl ?_
      refine XS.istoreN X0.here hx rfl (hb hby d6_47) rfl (l' := #[iv (v6_12 p0), iv (v6_11 p0)]) rfl ?_
      have hq18 : (b6_14 p0) = (v6_12 p0) := by rw [b6_14, if_neg hc10]
      rw [hq18] at k
      have hq19 : (b6_15 p0) = (v6_11 p0) := by rw [b6_15, if_neg hc10]
      rw [hq19] at k
      exact k
  have go23 : Go p.tables e below s₁ (mkF m 61 #[iv (b6_24 p0), iv (b6_25 p0)] []) En := by
    intro t k
    have k : Steps p.tables e below (s₁.setTop (mkF m  61 #[iv (b6_24 p0), iv (b6_25 p0)] [])) t := k
    refine go13 _ ?_
    refine XS.iloadN X0.here hx rfl (hb hby d6_48) rfl ?_
    refine XS.bipush X0.here hx rfl (hb hby d6_49) ?_
    by_cases hc20 : (b6_14 p0) < (16 : Int32)
    · refine XS.icmpYes X0.here hx rfl (pc0 := 51) (pc' := 61) rfl (hb hby d6_51) rfl (XT.ii_lt_t hc20) (by decide) (by decide) ?_
      have hq26 : (b6_24 p0) = (b6_14 p0) := by rw [b6_24, if_pos hc20]
      rw [hq26] at k
      have hq27 : (b6_25 p0) = (b6_15 p0) := by rw [b6_25, if_pos hc20]
      rw [hq27] at k
      exact k
    · refine XS.icmpNo X0.here hx rfl (hb hby d6_51) rfl (XT.ii_lt_f hc20) ?_
      refine XS.iinc X0.here hx rfl (hb hby d6_54) rfl (l' := #[iv (b6_14 p0), iv (v6_21 p0)]) rfl ?_
      refine XS.iloadN X0.here hx rfl (hb hby d6_57) rfl ?_
      refine XS.iconst X0.here hx rfl (hb hby d6_58) ?_
      show Steps _ _ _ (s₁.setTop (mkF m 59 #[iv (b6_14 p0), iv (v6_21 p0)] [(.int 4), (.int (b6_14 p0))])) _
      refine XS.iushr X0.here hx rfl (hb hby d6_59) rfl ?_
      refine XS.istoreN X0.here hx rfl (hb hby d6_60) rfl (l' := #[iv (v6_22 p0), iv (v6_21 p0)]) rfl ?_
      have hq28 : (b6_24 p0) = (v6_22 p0) := by rw [b6_24, if_neg hc20]
      rw [hq28] at k
      have hq29 : (b6_25 p0) = (v6_21 p0) := by rw [b6_25, if_neg hc20]
      rw [hq29] at k
      exact k
  have go33 : Go p.tables e below s₁ (mkF m 73 #[iv (b6_34 p0), iv (b6_35 p0)] []) En := by
    intro t k
    have k : Steps p.tables e below (s₁.setTop (mkF m  73 #[iv (b6_34 p0), iv (b6_35 p0)] [])) t := k
    refine go23 _ ?_
    refine XS.iloadN X0.here hx rfl (hb hby d6_61) rfl ?_
    refine XS.iconst X0.here hx rfl (hb hby d6_62) ?_
    by_cases hc30 : (b6_24 p0) < (4 : Int32)
    · refine XS.icmpYes X0.here hx rfl (pc0 := 63) (pc' := 73) rfl (hb hby d6_63) rfl (XT.ii_lt_t hc30) (by decide) (by decide) ?_
      have hq36 : (b6_34 p0) = (b6_24 p0) := by rw [b6_34, if_pos hc30]
      rw [hq36] at k
      have hq37 : (b6_35 p0) = (b6_25 p0) := by rw [b6_35, if_pos hc30]
      rw [hq37] at k
      exact k
    · refine XS.icmpNo X0.here hx rfl (hb hby d6_63) rfl (XT.ii_lt_f hc30) ?_
      refine XS.iinc X0.here hx rfl (hb hby d6_66) rfl (l' := #[iv (b6_24 p0), iv (v6_31 p0)]) rfl ?_
      refine XS.iloadN X0.here hx rfl (hb hby d6_69) rfl ?_
      refine XS.iconst X0.here hx rfl (hb hby d6_70) ?_
      show Steps _ _ _ (s₁.setTop (mkF m 71 #[iv (b6_24 p0), iv (v6_31 p0)] [(.int 2), (.int (b6_24 p0))])) _
      refine XS.iushr X0.here hx rfl (hb hby d6_71) rfl ?_
      refine XS.istoreN X0.here hx rfl (hb hby d6_72) rfl (l' := #[iv (v6_32 p0), iv (v6_31 p0)]) rfl ?_
      have hq38 : (b6_34 p0) = (v6_32 p0) := by rw [b6_34, if_neg hc30]
      rw [hq38] at k
      have hq39 : (b6_35 p0) = (v6_31 p0) := by rw [b6_35, if_neg hc30]
      rw [hq39] at k
      exact k
  have go41 : Go p.tables e below s₁ (mkF m 78 #[iv (b6_34 p0), iv (b6_35 p0)] [(.int (v6_40 p0))]) En := by
    intro t k
    refine go33 _ ?_
    refine XS.iloadN X0.here hx rfl (hb hby d6_73) rfl ?_
    refine XS.iloadN X0.here hx rfl (hb hby d6_74) rfl ?_
    refine XS.iconst X0.here hx rfl (hb hby d6_75) ?_
    show Steps _ _ _ (s₁.setTop (mkF m 76 #[iv (b6_34 p0), iv (b6_35 p0)] [(.int 1), (.int (b6_34 p0)), (.int (b6_35 p0))])) _
    refine XS.iushr X0.here hx rfl (hb hby d6_76) rfl ?_
    refine XS.isub X0.here hx rfl (hb hby d6_77) rfl ?_
    exact k
  refine own_out (w := (.int (v6_40 p0))) X0 hx hlk go41 hrt rfl (Or.inl ⟨rfl, Or.inl rfl, _, rfl⟩) (hb hby d6_78) e0 (by decide) (by decide) ?_
  exact ⟨by rw [f6], N0, rfl⟩
theorem d5_0 : decode prog_12_method_3_code 0 = .ok (.bipush 31, 2) := by decide +kernel
theorem d5_2 : decode prog_12_method_3_code 2 = .ok (.iload_n 1, 1) := by decide +kernel
theorem d5_3 : decode prog_12_method_3_code 3 = .ok (.invokestatic 21, 3) := by decide +kernel
theorem own_site230 {Z : State} {aZ : Array Value} (hw : ∀ d ∈ tables_1, d.before aZ Z = true) : SSt aZ Z (⟨"java/lang/Integer", "numberOfLeadingZeros", "(I)I"⟩ : MethodName) jdk_33_method_47_code 2 (some .int) := ⟨⟨(hw _ (mi 36 rfl)), (hw _ (mi 37 rfl))⟩, (hw _ (mi 38 rfl))⟩
theorem pd_231 : parseMethodDescriptor "(I)I" = some ⟨[.int], some .int⟩ := by decide +kernel
theorem d5_6 : decode prog_12_method_3_code 6 = .ok (.isub, 1) := by decide +kernel
theorem d5_7 : decode prog_12_method_3_code 7 = .ok (.istore_n 2, 1) := by decide +kernel
theorem d5_8 : decode prog_12_method_3_code 8 = .ok (.aload_n 0, 1) := by decide +kernel
theorem d5_9 : decode prog_12_method_3_code 9 = .ok (.iload_n 2, 1) := by decide +kernel
theorem d5_10 : decode prog_12_method_3_code 10 = .ok (.invokevirtual 13, 3) := by decide +kernel
theorem own_site237 {Z : State} {aZ : Array Value} (hw : ∀ d ∈ tables_1, d.before aZ Z = true) : SPt aZ Z (⟨"com/example/mirk/mirk/index/BitWriter", "writeZeros", "(I)V"⟩ : MethodName) prog_12_method_10_code 3 none := ⟨⟨⟨(hw _ (mi 41 rfl)), own_selp (hw _ (mi 1 rfl)) (hw _ (mi 42 rfl)) (hw _ (mi 41 rfl)) (by decide)⟩, (hw _ (mi 42 rfl)), (hw _ (mi 2 rfl))⟩, (hw _ (mi 43 rfl))⟩
theorem pd_238 : parseMethodDescriptor "(I)V" = some ⟨[.int], none⟩ := by decide +kernel
theorem d5_13 : decode prog_12_method_3_code 13 = .ok (.aload_n 0, 1) := by decide +kernel
theorem d5_14 : decode prog_12_method_3_code 14 = .ok (.iload_n 1, 1) := by decide +kernel
theorem d5_15 : decode prog_12_method_3_code 15 = .ok (.i2l, 1) := by decide +kernel
theorem d5_16 : decode prog_12_method_3_code 16 = .ok (.iload_n 2, 1) := by decide +kernel
theorem d5_17 : decode prog_12_method_3_code 17 = .ok (.iconst 1, 1) := by decide +kernel
theorem d5_18 : decode prog_12_method_3_code 18 = .ok (.iadd, 1) := by decide +kernel
theorem d5_19 : decode prog_12_method_3_code 19 = .ok (.invokevirtual 17, 3) := by decide +kernel
theorem d5_22 : decode prog_12_method_3_code 22 = .ok (.return_, 1) := by decide +kernel
theorem own_ar246 (hh : Int32) (hm1 : 0 ≤ hh.toInt) (hm2 : hh.toInt ≤ 30) : (hh + (1 : Int32)).toInt = hh.toInt + 1 := by
  have := rng32 hh
  have : (1 : Int32).toInt = 1 := rfl
  have := rng32 (hh + (1 : Int32))
  have := c_iadd hh (1 : Int32)
  omega
def Qwg (Z : State) (n0 : Nat) (a0 : Addr) (p1 : Int32) (B : Int) (c : Int) (hh : Int32) (S : Nat) (h0 : Heap) (v : Option Value) (h : Heap) (L : List Loc) : Prop := QW n0 h0 Z a0 (B + hh.toInt + (hh.toInt + 1)) (capG B hh.toInt c) v h L
theorem efwg (m : MethodId) (a0 : Addr) (p1 : Int32) : entryFrame m #[(.ref a0), (.int p1)] 3 = mkF m 0 #[rv a0, iv p1, .unset] [] := by first | (simp [entryFrame, mkF, argsToLocals, Value.category]; done) | rfl
set_option maxRecDepth 65536 in
set_option maxHeartbeats 40000000 in
theorem rmwg (l : Launch) (Z : State) (aZ : Array Value) (hw : ∀ d ∈ tables_1, d.before aZ Z = true) (ws : List Jvm.Cond) (a0 : Addr) (p1 : Int32) (B : Int) (c : Int) (hh : Int32) (S : Nat) (h0 : Heap) (n0 : Nat) (Z0 : n0 ≤ h0.size) (hB : BW Z h0 n0 a0 B c) (hm1 : 0 ≤ hh.toInt) (hm2 : hh.toInt ≤ 30) (hb4 : B ≤ 200) (hpos : (0 : Int32) < p1) (hz : ((31 : Int32) - (f6 p1)) = hh) (hS : 2 * (capG B hh.toInt c - c) ≤ (S : Int)) :
    MFn l (⟨"com/example/mirk/mirk/index/BitWriter", "writeGamma", "(I)V"⟩ : MethodName) prog_12_method_3_code 3 none ws (Rm 4 4 S 62) #[(.ref a0), (.int p1)] Z h0 (Qwg Z n0 a0 p1 B c hh S h0) := by
  refine own_mf (C := "com/example/mirk/mirk/index/BitWriter") rfl (plainFor_of_name pn_48) (fun m => efwg m a0 p1) ?_
  intro p e s m below meth cd0 s₁ En hx hby hml hown hnm hZ X0 e0 hlk hrt go0
  have N0 := Fr.nil n0
  have K0 : Keep h0 h0 [] := Keep.refl _ _
  have go1 : Go p.tables e below s₁ (mkF m 3 #[rv a0, iv p1, .unset] [(.int p1), (.int 31)]) En := by
    intro t k
    refine go0 _ ?_
    refine XS.bipush X0.here hx rfl (hb hby d5_0) ?_
    refine XS.iloadN X0.here hx rfl (hb hby d5_2) rfl ?_
    exact k
  obtain ⟨_, T2, Lc2, X2, hQ2, st2⟩ := own_cs X0 hx hZ hown hml go1 (hb hby d5_3) e0 (hw _ (mi 35 rfl)) (own_site230 hw) (rm6 l Z aZ hw [] p1 h0 n0 Z0 hpos) (by decide) (argsL := [(.int p1)]) (rest := [(.int 31)]) rfl rfl rfl (lenOf pd_231 rfl) (W := 1) rfl (Nat.le_of_ble_eq_true rfl) (Nat.le_of_ble_eq_true rfl) (Nat.le_of_ble_eq_true rfl) (Nat.zero_le _)
  obtain ⟨rfl, N2q, e2⟩ := hQ2
  have N2 := Fr.app N0 N2q
  have go3 : Go p.tables e below T2 (mkF m 10 #[rv a0, iv p1, iv hh] [(.int hh), (.ref a0)]) En := by
    intro t k
    refine st2 _ ?_
    refine XS.isub X2.here hx rfl (hb hby d5_6) rfl ?_
    show Steps _ _ _ (T2.setTop (mkF m 7 #[rv a0, iv p1, .unset] [(.int ((31 : Int32) - (f6 p1)))])) _
    rw [hz]
    refine XS.istoreN X2.here hx rfl (hb hby d5_7) rfl (l' := #[rv a0, iv p1, iv hh]) rfl ?_
    refine XS.aloadN X2.here hx rfl (hb hby d5_8) rfl rfl ?_
    show Steps _ _ _ (T2.setTop (mkF m 9 #[rv a0, iv p1, iv hh] [(.ref a0)])) _
    refine XS.iloadN X2.here hx rfl (hb hby d5_9) rfl ?_
    exact k
  have hbg := BW.rng hB
  have hgg := own_capG B hh.toInt c (by omega)
  have hb5 := BW.rng hB
  have hw5 := own_capZ B hh.toInt c (by omega)
  have hs5q := own_sZ B hh.toInt c (by omega)
  obtain ⟨_, T4, Lc4, X4, hQ4, st4⟩ := own_cp X2 hx hZ hown hml go3 (hb hby d5_10) e2 (hw _ (mi 40 rfl)) (own_site237 hw) (BW.exa hB) (rmwz l Z aZ hw [] a0 hh B c (sZ B hh.toInt c) h0 n0 Z0 hB (by omega) (by omega) (by omega) (by omega)) (by decide) (argsL := [(.int hh)]) (rest := []) rfl rfl rfl (lenOf pd_238 rfl) (W := 0) rfl (Nat.le_of_ble_eq_true rfl) (Nat.le_of_ble_eq_true rfl) (Nat.le_of_ble_eq_true rfl) (by show 0 + 0 + (sZ B hh.toInt c) ≤ S; omega)
  have hm4 := hw5.1
  clear hw5
  obtain ⟨rfl, N4q, zq4, G4⟩ := hQ4
  have N4 := Fr.app N2 N4q
  have Zs4 : n0 ≤ T4.heap.size := Nat.le_trans Z0 zq4
  have Zh4 : h0.size ≤ T4.heap.size := Nat.le_trans (Nat.le_refl _) zq4
  have go6 : Go p.tables e below T4 (mkF m 19 #[rv a0, iv p1, iv hh] [(.int (hh + (1 : Int32))), (.long p1.toInt64), (.ref a0)]) En := by
    intro t k
    refine st4 _ ?_
    refine XS.aloadN X4.here hx rfl (hb hby d5_13) rfl rfl ?_
    refine XS.iloadN X4.here hx rfl (hb hby d5_14) rfl ?_
    refine XS.i2l X4.here hx rfl (hb hby d5_15) rfl ?_
    show Steps _ _ _ (T4.setTop (mkF m 16 #[rv a0, iv p1, iv hh] [(.long p1.toInt64), (.ref a0)])) _
    refine XS.iloadN X4.here hx rfl (hb hby d5_16) rfl ?_
    refine XS.iconst X4.here hx rfl (hb hby d5_17) ?_
    refine XS.iadd X4.here hx rfl (hb hby d5_18) rfl ?_
    show Steps _ _ _ (T4.setTop (mkF m 19 #[rv a0, iv p1, iv hh] [(.int (hh + (1 : Int32))), (.long p1.toInt64), (.ref a0)])) _
    exact k
  have hm19 := (own_ar246 hh hm1 hm2)
  have hge : capW (B + hh.toInt) (hh + (1 : Int32)).toInt (capZ B hh.toInt c) = capG B hh.toInt c := by unfold capG; rw [hm19]
  have hb8 := BW.rng G4
  have hw8 := own_cap (B + hh.toInt) (hh + (1 : Int32)).toInt (capZ B hh.toInt c) (by omega)
  have hs8q := own_sW (B + hh.toInt) (hh + (1 : Int32)).toInt (capZ B hh.toInt c) (by omega)
  obtain ⟨_, T7, Lc7, X7, hQ7, st7⟩ := own_cv X4 hx hZ hown hml go6 (hb hby d5_19) rfl (hw _ (mi 44 rfl)) (own_site156 hw) (BW.exa G4) (rmwb l Z aZ hw [] a0 p1.toInt64 (hh + (1 : Int32)) (B + hh.toInt) (capZ B hh.toInt c) (sW (B + hh.toInt) (hh + (1 : Int32)).toInt (capZ B hh.toInt c)) T4.heap n0 Zs4 G4 (by omega) (by omega) (by omega) (by omega)) (by decide) (argsL := [(.long p1.toInt64), (.int (hh + (1 : Int32)))]) (rest := []) rfl rfl rfl (lenOf pd_157 rfl) (W := 0) rfl (Nat.le_of_ble_eq_true rfl) (Nat.le_of_ble_eq_true rfl) (Nat.le_of_ble_eq_true rfl) (by show 0 + 0 + (sZ B hh.toInt c) + (sW (B + hh.toInt) (hh + (1 : Int32)).toInt (capZ B hh.toInt c)) ≤ S; omega)
  have hm7 := hw8.1
  clear hw8
  obtain ⟨rfl, N7q, zq7, G7⟩ := hQ7
  have N7 := Fr.app N4 N7q
  have Zs7 : n0 ≤ T7.heap.size := Nat.le_trans Zs4 zq7
  have Zh7 : h0.size ≤ T7.heap.size := Nat.le_trans Zh4 zq7
  have hBe : B + hh.toInt + (hh.toInt + 1) = B + hh.toInt + (hh + (1 : Int32)).toInt := by omega
  have hC : capG B hh.toInt c = capW (B + hh.toInt) (hh + (1 : Int32)).toInt (capZ B hh.toInt c) := by unfold capG; rw [hm19]
  refine own_outV X7 hx hlk st7 hrt (hb hby d5_22) rfl (Nat.le_of_ble_eq_true rfl) (by show 0 + 0 + (sZ B hh.toInt c) + (sW (B + hh.toInt) (hh + (1 : Int32)).toInt (capZ B hh.toInt c)) ≤ S; omega) ?_
  exact ⟨rfl, N7, Zh7, by rw [hC, hBe]; exact G7⟩
theorem d8_0 : decode prog_12_method_2_code 0 = .ok (.iload_n 1, 1) := by decide +kernel
theorem d8_1 : decode prog_12_method_2_code 1 = .ok (.iconst 1, 1) := by decide +kernel
theorem d8_2 : decode prog_12_method_2_code 2 = .ok (.isub, 1) := by decide +kernel
theorem d8_3 : decode prog_12_method_2_code 3 = .ok (.istore_n 3, 1) := by decide +kernel
theorem d8_4 : decode prog_12_method_2_code 4 = .ok (.aload_n 0, 1) := by decide +kernel
theorem d8_5 : decode prog_12_method_2_code 5 = .ok (.iload_n 3, 1) := by decide +kernel
theorem d8_6 : decode prog_12_method_2_code 6 = .ok (.iload_n 2, 1) := by decide +kernel
theorem d8_7 : decode prog_12_method_2_code 7 = .ok (.iushr, 1) := by decide +kernel
theorem d8_8 : decode prog_12_method_2_code 8 = .ok (.invokevirtual 13, 3) := by decide +kernel
theorem d8_11 : decode prog_12_method_2_code 11 = .ok (.aload_n 0, 1) := by decide +kernel
theorem d8_12 : decode prog_12_method_2_code 12 = .ok (.lconst 1, 1) := by decide +kernel
theorem d8_13 : decode prog_12_method_2_code 13 = .ok (.iconst 1, 1) := by decide +kernel
theorem d8_14 : decode prog_12_method_2_code 14 = .ok (.invokevirtual 17, 3) := by decide +kernel
theorem d8_17 : decode prog_12_method_2_code 17 = .ok (.aload_n 0, 1) := by decide +kernel
theorem d8_18 : decode prog_12_method_2_code 18 = .ok (.iload_n 3, 1) := by decide +kernel
theorem d8_19 : decode prog_12_method_2_code 19 = .ok (.iconst 1, 1) := by decide +kernel
theorem d8_20 : decode prog_12_method_2_code 20 = .ok (.iload_n 2, 1) := by decide +kernel
theorem d8_21 : decode prog_12_method_2_code 21 = .ok (.ishl, 1) := by decide +kernel
theorem d8_22 : decode prog_12_method_2_code 22 = .ok (.iconst 1, 1) := by decide +kernel
theorem d8_23 : decode prog_12_method_2_code 23 = .ok (.isub, 1) := by decide +kernel
theorem d8_24 : decode prog_12_method_2_code 24 = .ok (.iand, 1) := by decide +kernel
theorem d8_25 : decode prog_12_method_2_code 25 = .ok (.i2l, 1) := by decide +kernel
theorem d8_26 : decode prog_12_method_2_code 26 = .ok (.iload_n 2, 1) := by decide +kernel
theorem d8_27 : decode prog_12_method_2_code 27 = .ok (.invokevirtual 17, 3) := by decide +kernel
theorem d8_30 : decode prog_12_method_2_code 30 = .ok (.return_, 1) := by decide +kernel
def Qwr (Z : State) (n0 : Nat) (a0 : Addr) (p1 : Int32) (p2 : Int32) (B : Int) (c : Int) (qv : Int32) (S : Nat) (h0 : Heap) (v : Option Value) (h : Heap) (L : List Loc) : Prop := QW n0 h0 Z a0 (B + qv.toInt + 1 + p2.toInt) (capR B qv.toInt p2.toInt c) v h L
theorem efwr (m : MethodId) (a0 : Addr) (p1 : Int32) (p2 : Int32) : entryFrame m #[(.ref a0), (.int p1), (.int p2)] 4 = mkF m 0 #[rv a0, iv p1, iv p2, .unset] [] := by first | (simp [entryFrame, mkF, argsToLocals, Value.category]; done) | rfl
abbrev Lwr_0 (a0 : Addr) (p1 : Int32) (p2 : Int32) : Array Slot := #[rv a0, iv p1, iv p2, iv (p1 - (1 : Int32))]
set_option maxRecDepth 65536 in
set_option maxHeartbeats 40000000 in
theorem rmwr (l : Launch) (Z : State) (aZ : Array Value) (hw : ∀ d ∈ tables_1, d.before aZ Z = true) (ws : List Jvm.Cond) (a0 : Addr) (p1 : Int32) (p2 : Int32) (B : Int) (c : Int) (qv : Int32) (S : Nat) (h0 : Heap) (n0 : Nat) (Z0 : n0 ≤ h0.size) (hB : BW Z h0 n0 a0 B c) (hm1 : 0 ≤ qv.toInt) (hm2 : qv.toInt ≤ 127) (hm3 : 0 ≤ p2.toInt) (hm4 : p2.toInt ≤ 16) (hb4 : B ≤ 180) (hsh : (((p1 - (1 : Int32)).toUInt32 >>> (p2 &&& 31).toUInt32).toInt32) = qv) (hS : 2 * (capR B qv.toInt p2.toInt c - c) ≤ (S : Int)) :
    MFn l (⟨"com/example/mirk/mirk/index/BitWriter", "writeRice", "(II)V"⟩ : MethodName) prog_12_method_2_code 4 none ws (Rm 4 5 S 62) #[(.ref a0), (.int p1), (.int p2)] Z h0 (Qwr Z n0 a0 p1 p2 B c qv S h0) := by
  refine own_mf (C := "com/example/mirk/mirk/index/BitWriter") rfl (plainFor_of_name pn_48) (fun m => efwr m a0 p1 p2) ?_
  intro p e s m below meth cd0 s₁ En hx hby hml hown hnm hZ X0 e0 hlk hrt go0
  have N0 := Fr.nil n0
  have K0 : Keep h0 h0 [] := Keep.refl _ _
  have go1 : Go p.tables e below s₁ (mkF m 8 (Lwr_0 a0 p1 p2) [(.int qv), (.ref a0)]) En := by
    intro t k
    refine go0 _ ?_
    refine XS.iloadN X0.here hx rfl (hb hby d8_0) rfl ?_
    refine XS.iconst X0.here hx rfl (hb hby d8_1) ?_
    refine XS.isub X0.here hx rfl (hb hby d8_2) rfl ?_
    show Steps _ _ _ (s₁.setTop (mkF m 3 #[rv a0, iv p1, iv p2, .unset] [(.int (p1 - (1 : Int32)))])) _
    refine XS.istoreN X0.here hx rfl (hb hby d8_3) rfl (l' := (Lwr_0 a0 p1 p2)) rfl ?_
    refine XS.aloadN X0.here hx rfl (hb hby d8_4) rfl rfl ?_
    refine XS.iloadN X0.here hx rfl (hb hby d8_5) rfl ?_
    show Steps _ _ _ (s₁.setTop (mkF m 6 (Lwr_0 a0 p1 p2) [(.int (p1 - (1 : Int32))), (.ref a0)])) _
    refine XS.iloadN X0.here hx rfl (hb hby d8_6) rfl ?_
    refine XS.iushr X0.here hx rfl (hb hby d8_7) rfl ?_
    show Steps _ _ _ (s₁.setTop (mkF m 8 (Lwr_0 a0 p1 p2) [(.int (((p1 - (1 : Int32)).toUInt32 >>> (p2 &&& 31).toUInt32).toInt32)), (.ref a0)])) _
    rw [hsh]
    exact k
  have hbg := BW.rng hB
  have hgg := own_capR B qv.toInt p2.toInt c (by omega)
  have hb3 := BW.rng hB
  have hw3 := own_capZ B qv.toInt c (by omega)
  have hs3q := own_sZ B qv.toInt c (by omega)
  obtain ⟨_, T2, Lc2, X2, hQ2, st2⟩ := own_cp X0 hx hZ hown hml go1 (hb hby d8_8) e0 (hw _ (mi 40 rfl)) (own_site237 hw) (BW.exa hB) (rmwz l Z aZ hw [] a0 qv B c (sZ B qv.toInt c) h0 n0 Z0 hB (by omega) (by omega) (by omega) (by omega)) (by decide) (argsL := [(.int qv)]) (rest := []) rfl rfl rfl (lenOf pd_238 rfl) (W := 0) rfl (Nat.le_of_ble_eq_true rfl) (Nat.le_of_ble_eq_true rfl) (Nat.le_of_ble_eq_true rfl) (by show 0 + (sZ B qv.toInt c) ≤ S; omega)
  have hm2 := hw3.1
  clear hw3
  obtain ⟨rfl, N2q, zq2, G2⟩ := hQ2
  have N2 := Fr.app N0 N2q
  have Zs2 : n0 ≤ T2.heap.size := Nat.le_trans Z0 zq2
  have Zh2 : h0.size ≤ T2.heap.size := Nat.le_trans (Nat.le_refl _) zq2
  have go4 : Go p.tables e below T2 (mkF m 14 (Lwr_0 a0 p1 p2) [(.int 1), (.long 1), (.ref a0)]) En := by
    intro t k
    refine st2 _ ?_
    refine XS.aloadN X2.here hx rfl (hb hby d8_11) rfl rfl ?_
    refine XS.lconst X2.here hx rfl (hb hby d8_12) ?_
    refine XS.iconst X2.here hx rfl (hb hby d8_13) ?_
    show Steps _ _ _ (T2.setTop (mkF m 14 (Lwr_0 a0 p1 p2) [(.int 1), (.long 1), (.ref a0)])) _
    exact k
  have h1i : (1 : Int32).toInt = 1 := rfl
  have h1w : capW (B + qv.toInt) (1 : Int32).toInt (capZ B qv.toInt c) = capW (B + qv.toInt) 1 (capZ B qv.toInt c) := rfl
  have hb6 := BW.rng G2
  have hw6 := own_cap (B + qv.toInt) (1 : Int32).toInt (capZ B qv.toInt c) (by omega)
  have hs6q := own_sW (B + qv.toInt) (1 : Int32).toInt (capZ B qv.toInt c) (by omega)
  have hv7 : (1 : Int32).toInt = 1 := rfl
  obtain ⟨_, T5, Lc5, X5, hQ5, st5⟩ := own_cv X2 hx hZ hown hml go4 (hb hby d8_14) rfl (hw _ (mi 44 rfl)) (own_site156 hw) (BW.exa G2) (rmwb l Z aZ hw [] a0 (1 : Int64) (1 : Int32) (B + qv.toInt) (capZ B qv.toInt c) (sW (B + qv.toInt) (1 : Int32).toInt (capZ B qv.toInt c)) T2.heap n0 Zs2 G2 (by omega) (by omega) (by omega) (by omega)) (by decide) (argsL := [(.long 1), (.int 1)]) (rest := []) rfl rfl rfl (lenOf pd_157 rfl) (W := 0) rfl (Nat.le_of_ble_eq_true rfl) (Nat.le_of_ble_eq_true rfl) (Nat.le_of_ble_eq_true rfl) (by show 0 + (sZ B qv.toInt c) + (sW (B + qv.toInt) (1 : Int32).toInt (capZ B qv.toInt c)) ≤ S; omega)
  have hm5 := hw6.1
  clear hw6
  obtain ⟨rfl, N5q, zq5, G5⟩ := hQ5
  have N5 := Fr.app N2 N5q
  have Zs5 : n0 ≤ T5.heap.size := Nat.le_trans Zs2 zq5
  have Zh5 : h0.size ≤ T5.heap.size := Nat.le_trans Zh2 zq5
  have go8 : Go p.tables e below T5 (mkF m 27 (Lwr_0 a0 p1 p2) [(.int p2), (.long ((p1 - (1 : Int32)) &&& (((1 : Int32) <<< (p2 &&& 31)) - (1 : Int32))).toInt64), (.ref a0)]) En := by
    intro t k
    refine st5 _ ?_
    refine XS.aloadN X5.here hx rfl (hb hby d8_17) rfl rfl ?_
    refine XS.iloadN X5.here hx rfl (hb hby d8_18) rfl ?_
    refine XS.iconst X5.here hx rfl (hb hby d8_19) ?_
    show Steps _ _ _ (T5.setTop (mkF m 20 (Lwr_0 a0 p1 p2) [(.int 1), (.int (p1 - (1 : Int32))), (.ref a0)])) _
    refine XS.iloadN X5.here hx rfl (hb hby d8_20) rfl ?_
    refine XS.ishl X5.here hx rfl (hb hby d8_21) rfl ?_
    refine XS.iconst X5.here hx rfl (hb hby d8_22) ?_
    show Steps _ _ _ (T5.setTop (mkF m 23 (Lwr_0 a0 p1 p2) [(.int 1), (.int ((1 : Int32) <<< (p2 &&& 31))), (.int (p1 - (1 : Int32))), (.ref a0)])) _
    refine XS.isub X5.here hx rfl (hb hby d8_23) rfl ?_
    refine XS.iand X5.here hx rfl (hb hby d8_24) rfl ?_
    refine XS.i2l X5.here hx rfl (hb hby d8_25) rfl ?_
    show Steps _ _ _ (T5.setTop (mkF m 26 (Lwr_0 a0 p1 p2) [(.long ((p1 - (1 : Int32)) &&& (((1 : Int32) <<< (p2 &&& 31)) - (1 : Int32))).toInt64), (.ref a0)])) _
    refine XS.iloadN X5.here hx rfl (hb hby d8_26) rfl ?_
    exact k
  have h2w : capR B qv.toInt p2.toInt c = capW (B + qv.toInt + (1 : Int32).toInt) p2.toInt (capW (B + qv.toInt) (1 : Int32).toInt (capZ B qv.toInt c)) := rfl
  have hb10 := BW.rng G5
  have hw10 := own_cap (B + qv.toInt + (1 : Int32).toInt) p2.toInt (capW (B + qv.toInt) (1 : Int32).toInt (capZ B qv.toInt c)) (by omega)
  have hs10q := own_sW (B + qv.toInt + (1 : Int32).toInt) p2.toInt (capW (B + qv.toInt) (1 : Int32).toInt (capZ B qv.toInt c)) (by omega)
  obtain ⟨_, T9, Lc9, X9, hQ9, st9⟩ := own_cv X5 hx hZ hown hml go8 (hb hby d8_27) rfl (hw _ (mi 44 rfl)) (own_site156 hw) (BW.exa G5) (rmwb l Z aZ hw [] a0 ((p1 - (1 : Int32)) &&& (((1 : Int32) <<< (p2 &&& 31)) - (1 : Int32))).toInt64 p2 (B + qv.toInt + (1 : Int32).toInt) (capW (B + qv.toInt) (1 : Int32).toInt (capZ B qv.toInt c)) (sW (B + qv.toInt + (1 : Int32).toInt) p2.toInt (capW (B + qv.toInt) (1 : Int32).toInt (capZ B qv.toInt c))) T5.heap n0 Zs5 G5 (by omega) (by omega) (by omega) (by omega)) (by decide) (argsL := [(.long ((p1 - (1 : Int32)) &&& (((1 : Int32) <<< (p2 &&& 31)) - (1 : Int32))).toInt64), (.int p2)]) (rest := []) rfl rfl rfl (lenOf pd_157 rfl) (W := 0) rfl (Nat.le_of_ble_eq_true rfl) (Nat.le_of_ble_eq_true rfl) (Nat.le_of_ble_eq_true rfl) (by show 0 + (sZ B qv.toInt c) + (sW (B + qv.toInt) (1 : Int32).toInt (capZ B qv.toInt c)) + (sW (B + qv.toInt + (1 : Int32).toInt) p2.toInt (capW (B + qv.toInt) (1 : Int32).toInt (capZ B qv.toInt c))) ≤ S; omega)
  have hm9 := hw10.1
  clear hw10
  obtain ⟨rfl, N9q, zq9, G9⟩ := hQ9
  have N9 := Fr.app N5 N9q
  have Zs9 : n0 ≤ T9.heap.size := Nat.le_trans Zs5 zq9
  have Zh9 : h0.size ≤ T9.heap.size := Nat.le_trans Zh5 zq9
  have hBe : B + qv.toInt + 1 + p2.toInt = B + qv.toInt + (1 : Int32).toInt + p2.toInt := by omega
  have hC : capR B qv.toInt p2.toInt c = capW (B + qv.toInt + (1 : Int32).toInt) p2.toInt (capW (B + qv.toInt) (1 : Int32).toInt (capZ B qv.toInt c)) := rfl
  refine own_outV X9 hx hlk st9 hrt (hb hby d8_30) rfl (Nat.le_of_ble_eq_true rfl) (by show 0 + (sZ B qv.toInt c) + (sW (B + qv.toInt) (1 : Int32).toInt (capZ B qv.toInt c)) + (sW (B + qv.toInt + (1 : Int32).toInt) p2.toInt (capW (B + qv.toInt) (1 : Int32).toInt (capZ B qv.toInt c))) ≤ S; omega) ?_
  exact ⟨rfl, N9, Zh9, by rw [hC, hBe]; exact G9⟩
theorem d10_0 : decode prog_12_method_4_code 0 = .ok (.aload_n 0, 1) := by decide +kernel
theorem d10_1 : decode prog_12_method_4_code 1 = .ok (.getfield 27, 3) := by decide +kernel
theorem d10_4 : decode prog_12_method_4_code 4 = .ok (.ifCond .le 15, 3) := by decide +kernel
theorem d10_7 : decode prog_12_method_4_code 7 = .ok (.aload_n 0, 1) := by decide +kernel
theorem d10_8 : decode prog_12_method_4_code 8 = .ok (.lconst 0, 1) := by decide +kernel
theorem d10_9 : decode prog_12_method_4_code 9 = .ok (.bipush 8, 2) := by decide +kernel
theorem d10_11 : decode prog_12_method_4_code 11 = .ok (.aload_n 0, 1) := by decide +kernel
theorem d10_12 : decode prog_12_method_4_code 12 = .ok (.getfield 27, 3) := by decide +kernel
theorem d10_15 : decode prog_12_method_4_code 15 = .ok (.isub, 1) := by decide +kernel
theorem d10_16 : decode prog_12_method_4_code 16 = .ok (.invokevirtual 17, 3) := by decide +kernel
theorem d10_19 : decode prog_12_method_4_code 19 = .ok (.return_, 1) := by decide +kernel
theorem own_ar283 (ln : Int32) (pb : Int32) (zz : Int32) (B : Int) (c : Int) (hB1 : B = 8 * ln.toInt + pb.toInt) (hB2 : c = zz.toInt) (hk1 : 0 ≤ pb.toInt) (hk2 : pb.toInt < 8) (hn1 : 0 ≤ ln.toInt) (hn2 : ln.toInt ≤ zz.toInt) (hn3 : zz.toInt ≤ 1000) (g0 : (0 : Int32) < pb) : ((8 : Int32) - pb).toInt = (8 * ((B + 7) / 8) - B) := by
  have : (8 : Int32).toInt = 8 := rfl
  have := rng32 pb
  have := rng32 ((8 : Int32) - pb)
  have := c_isub (8 : Int32) pb
  have : (0 : Int32).toInt = 0 := rfl
  have := g0
  rw [Int32.lt_iff_toInt_lt] at this
  omega
theorem own_ar285 (ln : Int32) (pb : Int32) (zz : Int32) (B : Int) (c : Int) (hB1 : B = 8 * ln.toInt + pb.toInt) (hB2 : c = zz.toInt) (hk1 : 0 ≤ pb.toInt) (hk2 : pb.toInt < 8) (hn1 : 0 ≤ ln.toInt) (hn2 : ln.toInt ≤ zz.toInt) (hn3 : zz.toInt ≤ 1000) (g0 : ¬ (0 : Int32) < pb) : pb.toInt = 0 := by
  have := rng32 pb
  have : (0 : Int32).toInt = 0 := rfl
  have := g0
  rw [Int32.lt_iff_toInt_lt] at this
  omega
def Qpd (Z : State) (n0 : Nat) (a0 : Addr) (B : Int) (c : Int) (S : Nat) (h0 : Heap) (v : Option Value) (h : Heap) (L : List Loc) : Prop := QW n0 h0 Z a0 (8 * ((B + 7) / 8)) (capW B (8 * ((B + 7) / 8) - B) c) v h L
theorem efpd (m : MethodId) (a0 : Addr) : entryFrame m #[(.ref a0)] 1 = mkF m 0 #[rv a0] [] := by first | (simp [entryFrame, mkF, argsToLocals, Value.category]; done) | rfl
set_option maxRecDepth 65536 in
set_option maxHeartbeats 40000000 in
theorem rmpd (l : Launch) (Z : State) (aZ : Array Value) (hw : ∀ d ∈ tables_1, d.before aZ Z = true) (ws : List Jvm.Cond) (a0 : Addr) (B : Int) (c : Int) (S : Nat) (h0 : Heap) (n0 : Nat) (Z0 : n0 ≤ h0.size) (hB : BW Z h0 n0 a0 B c) (hb4 : B ≤ 400) (hS : 2 * (capW B (8 * ((B + 7) / 8) - B) c - c) ≤ (S : Int)) :
    MFn l (⟨"com/example/mirk/mirk/index/BitWriter", "padToByte", "()V"⟩ : MethodName) prog_12_method_4_code 1 none ws (Rm 3 1 S 48) #[(.ref a0)] Z h0 (Qpd Z n0 a0 B c S h0) := by
  refine own_mf (C := "com/example/mirk/mirk/index/BitWriter") rfl (plainFor_of_name pn_48) (fun m => efpd m a0) ?_
  intro p e s m below meth cd0 s₁ En hx hby hml hown hnm hZ X0 e0 hlk hrt go0
  obtain ⟨ln, pb, zz, bb, kc, vs0, pd0, E0, F1, F2, F3, F4, V0, ga, gb, ne0, hlen, hB1, hB2, hk1, hk2, hn1, hn2, hn3⟩ := id hB
  have N0 := Fr.nil n0
  have K0 : Keep h0 h0 [] := Keep.refl _ _
  have go1 : Go p.tables e below s₁ (mkF m 1 #[rv a0] [(.ref a0)]) En := by
    intro t k
    refine go0 _ ?_
    refine XS.aloadN X0.here hx rfl (hb hby d10_0) rfl rfl ?_
    exact k
  obtain ⟨T2, X2, e2, st2⟩ := getF X0 hx hZ hown (host := "") (Or.inl (hw _ (mi 20 rfl))) Via.refl e0 F2 (g := (mkF m 1 #[rv a0] [(.ref a0)])) rfl rfl (hb hby d10_1)
  have go3 := gap go1 st2
  by_cases hs4 : (0 : Int32) < pb
  · have go5 : Go p.tables e below T2 (mkF m 12 #[rv a0] [(.ref a0), (.int 8), (.long 0), (.ref a0)]) En := by
      intro t k
      refine go3 _ ?_
      refine XS.ifNo X2.here hx rfl (hb hby d10_4) rfl (XT.i0_le_f hs4) ?_
      refine XS.aloadN X2.here hx rfl (hb hby d10_7) rfl rfl ?_
      refine XS.lconst X2.here hx rfl (hb hby d10_8) ?_
      show Steps _ _ _ (T2.setTop (mkF m 9 #[rv a0] [(.long 0), (.ref a0)])) _
      refine XS.bipush X2.here hx rfl (hb hby d10_9) ?_
      refine XS.aloadN X2.here hx rfl (hb hby d10_11) rfl rfl ?_
      exact k
    obtain ⟨T6, X6, e6, st6⟩ := getF X2 hx hZ hown (host := "") (Or.inl (hw _ (mi 20 rfl))) Via.refl e2 F2 (g := (mkF m 12 #[rv a0] [(.ref a0), (.int 8), (.long 0), (.ref a0)])) rfl rfl (hb hby d10_12)
    have go7 := gap go5 st6
    have go8 : Go p.tables e below T6 (mkF m 16 #[rv a0] [(.int ((8 : Int32) - pb)), (.long 0), (.ref a0)]) En := by
      intro t k
      refine go7 _ ?_
      refine XS.isub X6.here hx rfl (hb hby d10_15) rfl ?_
      exact k
    have hm16 := (own_ar283 ln pb zz B c hB1 hB2 hk1 hk2 hn1 hn2 hn3 hs4)
    have hew : capW B ((8 : Int32) - pb).toInt c = capW B (8 * ((B + 7) / 8) - B) c := by rw [hm16]
    have hb10 := BW.rng hB
    have hw10 := own_cap B ((8 : Int32) - pb).toInt c (by omega)
    have hs10q := own_sW B ((8 : Int32) - pb).toInt c (by omega)
    obtain ⟨_, T9, Lc9, X9, hQ9, st9⟩ := own_cv X6 hx hZ hown hml go8 (hb hby d10_16) e6 (hw _ (mi 44 rfl)) (own_site156 hw) E0 (rmwb l Z aZ hw [] a0 (0 : Int64) ((8 : Int32) - pb) B c (sW B ((8 : Int32) - pb).toInt c) h0 n0 Z0 hB (by omega) (by omega) (by omega) (by omega)) (by decide) (argsL := [(.long 0), (.int ((8 : Int32) - pb))]) (rest := []) rfl rfl rfl (lenOf pd_157 rfl) (W := 0) rfl (Nat.le_of_ble_eq_true rfl) (Nat.le_of_ble_eq_true rfl) (Nat.le_of_ble_eq_true rfl) (by show 0 + (sW B ((8 : Int32) - pb).toInt c) ≤ S; omega)
    have hm9 := hw10.1
    clear hw10
    obtain ⟨rfl, N9q, zq9, G9⟩ := hQ9
    have N9 := Fr.app N0 N9q
    have Zs9 : n0 ≤ T9.heap.size := Nat.le_trans Z0 zq9
    have Zh9 : h0.size ≤ T9.heap.size := Nat.le_trans (Nat.le_refl _) zq9
    have hBe : 8 * ((B + 7) / 8) = B + ((8 : Int32) - pb).toInt := by omega
    have hC : capW B (8 * ((B + 7) / 8) - B) c = capW B ((8 : Int32) - pb).toInt c := hew.symm
    refine own_outV X9 hx hlk st9 hrt (hb hby d10_19) rfl (Nat.le_of_ble_eq_true rfl) (by show 0 + (sW B ((8 : Int32) - pb).toInt c) ≤ S; omega) ?_
    exact ⟨rfl, N9, Zh9, by rw [hC, hBe]; exact G9⟩
  have hpz := (own_ar285 ln pb zz B c hB1 hB2 hk1 hk2 hn1 hn2 hn3 hs4)
  have hBe : 8 * ((B + 7) / 8) = B := by omega
  have hC : capW B (8 * ((B + 7) / 8) - B) c = c := by rw [hBe, Int.sub_self]; exact own_capW0 B c (by omega)
  have go11 : Go p.tables e below T2 (mkF m 19 #[rv a0] []) En := by
    intro t k
    refine go3 _ ?_
    refine XS.ifYes X2.here hx rfl (pc0 := 4) (pc' := 19) rfl (hb hby d10_4) rfl (XT.i0_le_t hs4) (by decide) (by decide) ?_
    exact k
  refine own_outV X2 hx hlk go11 hrt (hb hby d10_19) e2 (Nat.le_of_ble_eq_true rfl) (Nat.zero_le _) ?_
  exact ⟨rfl, N0, Nat.le_refl _, by rw [hC, hBe]; exact hB⟩
theorem own_sh {x q : Int32} (k : Nat) (h : 0 ≤ x.toInt) (hk : q.toBitVec.toNat % 32 = k) (h0 : 0 < k) : ((x.toUInt32 >>> (q &&& 31).toUInt32).toInt32).toInt = x.toInt / (2 ^ k : Nat) := by
  have a := c_iushr x q k hk h0
  have r := rng32 x
  rw [a, Int.emod_eq_of_lt h (by omega)]
theorem own_n1 (G : Int32) (h : 0 < G.toInt) : (1 ≤ (b6_4 G).toInt ∧ (b6_4 G).toInt < 65536) ∧ ((G.toInt < 65536 ∧ (b6_4 G).toInt = G.toInt ∧ (b6_5 G).toInt = 31) ∨ (65536 ≤ G.toInt ∧ (b6_4 G).toInt = G.toInt / 65536 ∧ (b6_5 G).toInt = 15)) := by
  have r := rng32 G
  have s : (v6_2 G).toInt = G.toInt / 65536 := own_sh 16 (by omega) (by decide) (by decide)
  have e : (65536 : Int32).toInt = 65536 := rfl
  have e1 : (31 : Int32).toInt = 31 := rfl
  have e2 : (15 : Int32).toInt = 15 := rfl
  unfold b6_4 b6_5
  by_cases q : G < (65536 : Int32)
  · rw [if_pos q, if_pos q]; rw [Int32.lt_iff_toInt_lt] at q; exact ⟨by omega, Or.inl ⟨by omega, rfl, rfl⟩⟩
  · simp only [if_neg q]; rw [Int32.lt_iff_toInt_lt] at q; omega
theorem own_n2 (G : Int32) (h : 1 ≤ (b6_4 G).toInt ∧ (b6_4 G).toInt < 65536) (hn : 0 ≤ (b6_5 G).toInt ∧ (b6_5 G).toInt ≤ 31) : (1 ≤ (b6_14 G).toInt ∧ (b6_14 G).toInt < 256) ∧ (((b6_4 G).toInt < 256 ∧ (b6_14 G).toInt = (b6_4 G).toInt ∧ (b6_15 G).toInt = (b6_5 G).toInt) ∨ (256 ≤ (b6_4 G).toInt ∧ (b6_14 G).toInt = (b6_4 G).toInt / 256 ∧ (b6_15 G).toInt = (b6_5 G).toInt - 8)) := by
  have s : (v6_12 G).toInt = (b6_4 G).toInt / 256 := own_sh 8 (by omega) (by decide) (by decide)
  have t : (v6_11 G).toInt = (b6_5 G).toInt - 8 := by
    have a := c_iadd (b6_5 G) (-8)
    have e : (-8 : Int32).toInt = -8 := rfl
    have r := rng32 ((b6_5 G) + (-8))
    show ((b6_5 G) + (-8 : Int32)).toInt = _
    omega
  have e : (256 : Int32).toInt = 256 := rfl
  unfold b6_14 b6_15
  by_cases q : (b6_4 G) < (256 : Int32)
  · rw [if_pos q, if_pos q]; rw [Int32.lt_iff_toInt_lt] at q; exact ⟨by omega, Or.inl ⟨by omega, rfl, rfl⟩⟩
  · simp only [if_neg q]; rw [Int32.lt_iff_toInt_lt] at q; omega
theorem own_n3 (G : Int32) (h : 1 ≤ (b6_14 G).toInt ∧ (b6_14 G).toInt < 256) (hn : 0 ≤ (b6_15 G).toInt ∧ (b6_15 G).toInt ≤ 31) : (1 ≤ (b6_24 G).toInt ∧ (b6_24 G).toInt < 16) ∧ (((b6_14 G).toInt < 16 ∧ (b6_24 G).toInt = (b6_14 G).toInt ∧ (b6_25 G).toInt = (b6_15 G).toInt) ∨ (16 ≤ (b6_14 G).toInt ∧ (b6_24 G).toInt = (b6_14 G).toInt / 16 ∧ (b6_25 G).toInt = (b6_15 G).toInt - 4)) := by
  have s : (v6_22 G).toInt = (b6_14 G).toInt / 16 := own_sh 4 (by omega) (by decide) (by decide)
  have t : (v6_21 G).toInt = (b6_15 G).toInt - 4 := by
    have a := c_iadd (b6_15 G) (-4)
    have e : (-4 : Int32).toInt = -4 := rfl
    have r := rng32 ((b6_15 G) + (-4))
    show ((b6_15 G) + (-4 : Int32)).toInt = _
    omega
  have e : (16 : Int32).toInt = 16 := rfl
  unfold b6_24 b6_25
  by_cases q : (b6_14 G) < (16 : Int32)
  · rw [if_pos q, if_pos q]; rw [Int32.lt_iff_toInt_lt] at q; exact ⟨by omega, Or.inl ⟨by omega, rfl, rfl⟩⟩
  · simp only [if_neg q]; rw [Int32.lt_iff_toInt_lt] at q; omega
theorem own_n4 (G : Int32) (h : 1 ≤ (b6_24 G).toInt ∧ (b6_24 G).toInt < 16) (hn : 0 ≤ (b6_25 G).toInt ∧ (b6_25 G).toInt ≤ 31) : (1 ≤ (b6_34 G).toInt ∧ (b6_34 G).toInt < 4) ∧ (((b6_24 G).toInt < 4 ∧ (b6_34 G).toInt = (b6_24 G).toInt ∧ (b6_35 G).toInt = (b6_25 G).toInt) ∨ (4 ≤ (b6_24 G).toInt ∧ (b6_34 G).toInt = (b6_24 G).toInt / 4 ∧ (b6_35 G).toInt = (b6_25 G).toInt - 2)) := by
  have s : (v6_32 G).toInt = (b6_24 G).toInt / 4 := own_sh 2 (by omega) (by decide) (by decide)
  have t : (v6_31 G).toInt = (b6_25 G).toInt - 2 := by
    have a := c_iadd (b6_25 G) (-2)
    have e : (-2 : Int32).toInt = -2 := rfl
    have r := rng32 ((b6_25 G) + (-2))
    show ((b6_25 G) + (-2 : Int32)).toInt = _
    omega
  have e : (4 : Int32).toInt = 4 := rfl
  unfold b6_34 b6_35
  by_cases q : (b6_24 G) < (4 : Int32)
  · rw [if_pos q, if_pos q]; rw [Int32.lt_iff_toInt_lt] at q; exact ⟨by omega, Or.inl ⟨by omega, rfl, rfl⟩⟩
  · simp only [if_neg q]; rw [Int32.lt_iff_toInt_lt] at q; omega
theorem own_nlz (G : Int32) (h : 0 < G.toInt) : ∃ e : Nat, e ≤ 30 ∧ (f6 G).toInt = 31 - e ∧ ((2 ^ e : Nat) : Int) ≤ G.toInt ∧ G.toInt < ((2 ^ (e + 1) : Nat) : Int) := by
  have r := rng32 G
  obtain ⟨a1, h1⟩ := own_n1 G h
  obtain ⟨a2, h2⟩ := own_n2 G a1 (by omega)
  obtain ⟨a3, h3⟩ := own_n3 G a2 (by omega)
  obtain ⟨a4, h4⟩ := own_n4 G a3 (by omega)
  have s : (((b6_34 G).toUInt32 >>> ((1 : Int32) &&& 31).toUInt32).toInt32).toInt = (b6_34 G).toInt / 2 := own_sh 1 (by omega) (by decide) (by decide)
  have f : (f6 G).toInt = (b6_35 G).toInt - (b6_34 G).toInt / 2 := by
    have a := c_isub (b6_35 G) (((b6_34 G).toUInt32 >>> ((1 : Int32) &&& 31).toUInt32).toInt32)
    have q := rng32 ((b6_35 G) - (((b6_34 G).toUInt32 >>> ((1 : Int32) &&& 31).toUInt32).toInt32))
    show ((b6_35 G) - (((b6_34 G).toUInt32 >>> ((1 : Int32) &&& 31).toUInt32).toInt32)).toInt = _
    omega
  by_cases y : (b6_34 G).toInt < 2
  · rcases h1 with h1 | h1 <;> rcases h2 with h2 | h2 <;> rcases h3 with h3 | h3 <;> rcases h4 with h4 | h4
    · exact ⟨0, by omega, by omega, by show (1 : Int) ≤ _; omega, by show _ < (2 : Int); omega⟩
    · exact ⟨2, by omega, by omega, by show (4 : Int) ≤ _; omega, by show _ < (8 : Int); omega⟩
    · exact ⟨4, by omega, by omega, by show (16 : Int) ≤ _; omega, by show _ < (32 : Int); omega⟩
    · exact ⟨6, by omega, by omega, by show (64 : Int) ≤ _; omega, by show _ < (128 : Int); omega⟩
    · exact ⟨8, by omega, by omega, by show (256 : Int) ≤ _; omega, by show _ < (512 : Int); omega⟩
    · exact ⟨10, by omega, by omega, by show (1024 : Int) ≤ _; omega, by show _ < (2048 : Int); omega⟩
    · exact ⟨12, by omega, by omega, by show (4096 : Int) ≤ _; omega, by show _ < (8192 : Int); omega⟩
    · exact ⟨14, by omega, by omega, by show (16384 : Int) ≤ _; omega, by show _ < (32768 : Int); omega⟩
    · exact ⟨16, by omega, by omega, by show (65536 : Int) ≤ _; omega, by show _ < (131072 : Int); omega⟩
    · exact ⟨18, by omega, by omega, by show (262144 : Int) ≤ _; omega, by show _ < (524288 : Int); omega⟩
    · exact ⟨20, by omega, by omega, by show (1048576 : Int) ≤ _; omega, by show _ < (2097152 : Int); omega⟩
    · exact ⟨22, by omega, by omega, by show (4194304 : Int) ≤ _; omega, by show _ < (8388608 : Int); omega⟩
    · exact ⟨24, by omega, by omega, by show (16777216 : Int) ≤ _; omega, by show _ < (33554432 : Int); omega⟩
    · exact ⟨26, by omega, by omega, by show (67108864 : Int) ≤ _; omega, by show _ < (134217728 : Int); omega⟩
    · exact ⟨28, by omega, by omega, by show (268435456 : Int) ≤ _; omega, by show _ < (536870912 : Int); omega⟩
    · exact ⟨30, by omega, by omega, by show (1073741824 : Int) ≤ _; omega, by show _ < (2147483648 : Int); omega⟩
  · rcases h1 with h1 | h1 <;> rcases h2 with h2 | h2 <;> rcases h3 with h3 | h3 <;> rcases h4 with h4 | h4
    · exact ⟨1, by omega, by omega, by show (2 : Int) ≤ _; omega, by show _ < (4 : Int); omega⟩
    · exact ⟨3, by omega, by omega, by show (8 : Int) ≤ _; omega, by show _ < (16 : Int); omega⟩
    · exact ⟨5, by omega, by omega, by show (32 : Int) ≤ _; omega, by show _ < (64 : Int); omega⟩
    · exact ⟨7, by omega, by omega, by show (128 : Int) ≤ _; omega, by show _ < (256 : Int); omega⟩
    · exact ⟨9, by omega, by omega, by show (512 : Int) ≤ _; omega, by show _ < (1024 : Int); omega⟩
    · exact ⟨11, by omega, by omega, by show (2048 : Int) ≤ _; omega, by show _ < (4096 : Int); omega⟩
    · exact ⟨13, by omega, by omega, by show (8192 : Int) ≤ _; omega, by show _ < (16384 : Int); omega⟩
    · exact ⟨15, by omega, by omega, by show (32768 : Int) ≤ _; omega, by show _ < (65536 : Int); omega⟩
    · exact ⟨17, by omega, by omega, by show (131072 : Int) ≤ _; omega, by show _ < (262144 : Int); omega⟩
    · exact ⟨19, by omega, by omega, by show (524288 : Int) ≤ _; omega, by show _ < (1048576 : Int); omega⟩
    · exact ⟨21, by omega, by omega, by show (2097152 : Int) ≤ _; omega, by show _ < (4194304 : Int); omega⟩
    · exact ⟨23, by omega, by omega, by show (8388608 : Int) ≤ _; omega, by show _ < (16777216 : Int); omega⟩
    · exact ⟨25, by omega, by omega, by show (33554432 : Int) ≤ _; omega, by show _ < (67108864 : Int); omega⟩
    · exact ⟨27, by omega, by omega, by show (134217728 : Int) ≤ _; omega, by show _ < (268435456 : Int); omega⟩
    · exact ⟨29, by omega, by omega, by show (536870912 : Int) ≤ _; omega, by show _ < (1073741824 : Int); omega⟩
    · omega
theorem own_pow (k : Nat) (h : k ≤ 30) : (1 : Int) ≤ ((2 ^ k : Nat) : Int) ∧ ((2 ^ k : Nat) : Int) ≤ 1073741824 := by
  have a := Nat.pow_le_pow_right (n := 2) (by decide) h
  have b := Nat.one_le_two_pow (n := k)
  have e : (2 ^ 30 : Nat) = 1073741824 := by decide
  omega
theorem own_tb (x : Int32) (h : 0 ≤ x.toInt) : (x.toBitVec.toNat : Int) = x.toInt := by
  have a : x.toInt = x.toBitVec.toInt := rfl
  rw [a] at h ⊢
  rw [BitVec.toInt_eq_toNat_cond] at h ⊢
  have := x.toBitVec.isLt
  split at h <;> omega
theorem own_shl (x h : Int32) (h0 : 0 ≤ h.toInt) (h1 : h.toInt ≤ 30) : ((x <<< (h &&& 31)).toInt - x.toInt * ((2 ^ h.toNatClampNeg : Nat) : Int)) % 4294967296 = 0 ∧ h.toNatClampNeg ≤ 30 ∧ h.toInt = h.toNatClampNeg := by
  have n := nat_of (j := h) (fun q => by rw [Int32.lt_iff_toInt_lt] at q; have e : (0 : Int32).toInt = 0 := rfl; omega)
  have b := own_tb h h0
  exact ⟨c_ishl x h _ (by omega), by omega, n⟩
theorem own_shl1 (h : Int32) (h0 : 0 ≤ h.toInt) (h1 : h.toInt ≤ 30) : ((1 : Int32) <<< (h &&& 31)).toInt = ((2 ^ h.toNatClampNeg : Nat) : Int) := by
  obtain ⟨a, b, -⟩ := own_shl 1 h h0 h1
  have p := own_pow _ b
  have e : (1 : Int32).toInt = 1 := rfl
  have r := rng32 ((1 : Int32) <<< (h &&& 31))
  rw [e, Int.one_mul] at a
  omega
theorem own_low (r h : Int32) (h0 : 0 ≤ h.toInt) (h1 : h.toInt ≤ 30) : 0 ≤ (r &&& (((1 : Int32) <<< (h &&& 31)) - (1 : Int32))).toInt ∧ (r &&& (((1 : Int32) <<< (h &&& 31)) - (1 : Int32))).toInt < ((2 ^ h.toNatClampNeg : Nat) : Int) := by
  obtain ⟨-, b, -⟩ := own_shl 1 h h0 h1
  have p := own_pow _ b
  have s := own_shl1 h h0 h1
  have c := c_isub ((1 : Int32) <<< (h &&& 31)) 1
  have e : (1 : Int32).toInt = 1 := rfl
  have q := rng32 (((1 : Int32) <<< (h &&& 31)) - 1)
  have m : ((((1 : Int32) <<< (h &&& 31)) - (1 : Int32)).toBitVec.toNat : Int) = ((2 ^ h.toNatClampNeg : Nat) : Int) - 1 := by rw [own_tb _ (by omega)]; omega
  have k := c_mask r (((1 : Int32) <<< (h &&& 31)) - (1 : Int32)) h.toNatClampNeg (by omega) (by omega)
  rw [k]
  exact ⟨Int.emod_nonneg _ (by omega), Int.emod_lt_of_pos _ (by omega)⟩
theorem own_gamma (h r : Int32) (h0 : 0 ≤ h.toInt) (h1 : h.toInt ≤ 30) : (0 : Int32) < (((1 : Int32) <<< (h &&& 31)) ||| (r &&& (((1 : Int32) <<< (h &&& 31)) - (1 : Int32)))) ∧ ((31 : Int32) - (f6 (((1 : Int32) <<< (h &&& 31)) ||| (r &&& (((1 : Int32) <<< (h &&& 31)) - (1 : Int32)))))) = h := by
  obtain ⟨-, b, n⟩ := own_shl 1 h h0 h1
  have p := own_pow _ b
  have s := own_shl1 h h0 h1
  have w := own_low r h h0 h1
  have o := c_or ((1 : Int32) <<< (h &&& 31)) (r &&& (((1 : Int32) <<< (h &&& 31)) - (1 : Int32))) h.toNatClampNeg (by omega) _ rfl (by rw [s]; exact Int.emod_self) w.1 w.2
  generalize (((1 : Int32) <<< (h &&& 31)) ||| (r &&& (((1 : Int32) <<< (h &&& 31)) - (1 : Int32)))) = G at o ⊢
  have q := rng32 G
  have g1 : ((2 ^ h.toNatClampNeg : Nat) : Int) ≤ G.toInt ∧ G.toInt < 2 * ((2 ^ h.toNatClampNeg : Nat) : Int) := by omega
  have z : (0 : Int32).toInt = 0 := rfl
  refine ⟨by rw [Int32.lt_iff_toInt_lt]; omega, ?_⟩
  obtain ⟨e, e1, e2, e3, e4⟩ := own_nlz G (by omega)
  have ek : e = h.toNatClampNeg := by
    rcases Nat.lt_trichotomy e h.toNatClampNeg with u | u | u
    · have := Nat.pow_le_pow_right (n := 2) (by decide) u
      have : (2 ^ (e + 1) : Nat) ≤ 2 ^ h.toNatClampNeg := this
      omega
    · exact u
    · have t := Nat.pow_le_pow_right (n := 2) (by decide) u
      have t' : (2 ^ (h.toNatClampNeg + 1) : Nat) ≤ 2 ^ e := t
      rw [Nat.pow_succ] at t'
      omega
  have c := c_isub (31 : Int32) (f6 G)
  have v : (31 : Int32).toInt = 31 := rfl
  have r2 := rng32 ((31 : Int32) - f6 G)
  rw [← Int32.toInt_inj]; omega
theorem own_shr (x h : Int32) (hx : 0 ≤ x.toInt) (h0 : 0 ≤ h.toInt) (h1 : h.toInt ≤ 30) : ((x.toUInt32 >>> (h &&& 31).toUInt32).toInt32).toInt = x.toInt / ((2 ^ h.toNatClampNeg : Nat) : Int) := by
  obtain ⟨-, b, n⟩ := own_shl 1 h h0 h1
  by_cases k : h.toInt = 0
  · have e : h = 0 := by rw [← Int32.toInt_inj]; exact k
    subst e
    have u : ((0 : Int32) &&& 31).toUInt32 = 0 := by decide
    rw [u]
    have v : (x.toUInt32 >>> (0 : UInt32)).toInt32 = x := by simp
    rw [v]
    show _ = x.toInt / (1 : Int)
    omega
  · exact own_sh _ hx (by have := own_tb h h0; omega) (by omega)
theorem own_rice (q k r : Int32) (q0 : 0 ≤ q.toInt) (q1 : q.toInt ≤ 127) (k0 : 0 ≤ k.toInt) (k1 : k.toInt ≤ 16) : ((((((q <<< (k &&& 31)) + (r &&& (((1 : Int32) <<< (k &&& 31)) - (1 : Int32)))) + (1 : Int32)) - (1 : Int32)).toUInt32 >>> (k &&& 31).toUInt32).toInt32) = q := by
  obtain ⟨a, b, n⟩ := own_shl q k k0 (by omega)
  have p := own_pow _ b
  have w := own_low r k k0 (by omega)
  have p16 : ((2 ^ k.toNatClampNeg : Nat) : Int) ≤ 65536 := by
    have := Nat.pow_le_pow_right (n := 2) (by decide) (show k.toNatClampNeg ≤ 16 by omega)
    have e : (2 ^ 16 : Nat) = 65536 := by decide
    omega
  generalize hP : ((2 ^ k.toNatClampNeg : Nat) : Int) = P at *
  generalize (r &&& (((1 : Int32) <<< (k &&& 31)) - (1 : Int32))) = y at *
  have m1 : 0 ≤ q.toInt * P := Int.mul_nonneg q0 (by omega)
  have m2 : q.toInt * P ≤ 127 * 65536 := Int.mul_le_mul q1 p16 (by omega) (by omega)
  have rs := rng32 (q <<< (k &&& 31))
  have c1 := c_iadd (q <<< (k &&& 31)) y
  have r1 := rng32 ((q <<< (k &&& 31)) + y)
  have c2 := c_iadd ((q <<< (k &&& 31)) + y) 1
  have r2 := rng32 (((q <<< (k &&& 31)) + y) + 1)
  have c3 := c_isub (((q <<< (k &&& 31)) + y) + 1) 1
  have r3 := rng32 ((((q <<< (k &&& 31)) + y) + 1) - 1)
  have e : (1 : Int32).toInt = 1 := rfl
  have v : ((((q <<< (k &&& 31)) + y) + 1) - 1).toInt = q.toInt * P + y.toInt := by omega
  rw [← Int32.toInt_inj, own_shr _ _ (by omega) k0 (by omega), hP, v, Int.add_comm, Int.add_mul_ediv_right _ _ (by omega), Int.ediv_eq_zero_of_lt w.1 w.2]
  omega
theorem own_site286 {Z : State} {aZ : Array Value} (hw : ∀ d ∈ tables_1, d.before aZ Z = true) : SIt aZ Z (⟨"com/example/mirk/mirk/index/BitWriter", "<init>", "(I)V"⟩ : MethodName) prog_12_method_1_code 2 := ⟨⟨(hw _ (mi 4 rfl)), (hw _ (mi 2 rfl))⟩, (hw _ (mi 5 rfl))⟩
theorem own_site287 {Z : State} {aZ : Array Value} (hw : ∀ d ∈ tables_1, d.before aZ Z = true) : SVt aZ Z "com/example/mirk/mirk/index/BitWriter" (⟨"com/example/mirk/mirk/index/BitWriter", "bits", "()J"⟩ : MethodName) prog_12_method_6_code 1 (some .long) := ⟨⟨⟨(hw _ (mi 13 rfl)), (hw _ (mi 15 rfl))⟩, (hw _ (mi 14 rfl)), (hw _ (mi 2 rfl))⟩, (hw _ (mi 16 rfl))⟩
theorem pd_288 : parseMethodDescriptor "()J" = some ⟨[], some .long⟩ := by decide +kernel
theorem own_site289 {Z : State} {aZ : Array Value} (hw : ∀ d ∈ tables_1, d.before aZ Z = true) : SVt aZ Z "com/example/mirk/mirk/index/BitWriter" (⟨"com/example/mirk/mirk/index/BitWriter", "writeGamma", "(I)V"⟩ : MethodName) prog_12_method_3_code 3 none := ⟨⟨⟨(hw _ (mi 31 rfl)), (hw _ (mi 33 rfl))⟩, (hw _ (mi 32 rfl)), (hw _ (mi 2 rfl))⟩, (hw _ (mi 34 rfl))⟩
theorem own_site290 {Z : State} {aZ : Array Value} (hw : ∀ d ∈ tables_1, d.before aZ Z = true) : SVt aZ Z "com/example/mirk/mirk/index/BitWriter" (⟨"com/example/mirk/mirk/index/BitWriter", "writeRice", "(II)V"⟩ : MethodName) prog_12_method_2_code 4 none := ⟨⟨⟨(hw _ (mi 47 rfl)), (hw _ (mi 49 rfl))⟩, (hw _ (mi 48 rfl)), (hw _ (mi 2 rfl))⟩, (hw _ (mi 50 rfl))⟩
theorem pd_291 : parseMethodDescriptor "(II)V" = some ⟨[.int, .int], none⟩ := by decide +kernel
theorem own_site292 {Z : State} {aZ : Array Value} (hw : ∀ d ∈ tables_1, d.before aZ Z = true) : SVt aZ Z "com/example/mirk/mirk/index/BitWriter" (⟨"com/example/mirk/mirk/index/BitWriter", "length", "()I"⟩ : MethodName) prog_12_method_5_code 1 (some .int) := ⟨⟨⟨(hw _ (mi 53 rfl)), (hw _ (mi 55 rfl))⟩, (hw _ (mi 54 rfl)), (hw _ (mi 2 rfl))⟩, (hw _ (mi 56 rfl))⟩
theorem pd_293 : parseMethodDescriptor "()I" = some ⟨[], some .int⟩ := by decide +kernel
theorem own_site294 {Z : State} {aZ : Array Value} (hw : ∀ d ∈ tables_1, d.before aZ Z = true) : SVt aZ Z "com/example/mirk/mirk/index/BitWriter" (⟨"com/example/mirk/mirk/index/BitWriter", "padToByte", "()V"⟩ : MethodName) prog_12_method_4_code 1 none := ⟨⟨⟨(hw _ (mi 59 rfl)), (hw _ (mi 61 rfl))⟩, (hw _ (mi 60 rfl)), (hw _ (mi 2 rfl))⟩, (hw _ (mi 62 rfl))⟩
theorem pd_295 : parseMethodDescriptor "()V" = some ⟨[], none⟩ := by decide +kernel
def f0 : Int32 := (1 : Int32)
theorem f0_one : f0 = 1 := rfl
theorem pn_296 : plainName "com/example/mirk/mirk/index/BitWriterBitsPinLaw" = true := by first | (simp [plainName, overriddenIn]; done) | decide +kernel
def Q0 (Z : State) (n0 : Nat) (p0 : Int32) (q1 : Int64) (p2 : Int32) (p3 : Int32) (p4 : Int32) (p5 : Int32) (h0 : Heap) (v : Option Value) (h : Heap) (L : List Loc) : Prop := v = some (.int 1) ∧ Fr n0 L
theorem ef0 (m : MethodId) (p0 : Int32) (q1 : Int64) (p2 : Int32) (p3 : Int32) (p4 : Int32) (p5 : Int32) : entryFrame m #[(.int p0), (.long q1), (.int p2), (.int p3), (.int p4), (.int p5)] maxLocals = mkF m 0 #[iv p0, .val (.long q1), .second, iv p2, iv p3, iv p4, iv p5, .unset, .unset, .unset, .unset, .unset, .unset, .unset, .unset, .unset, .unset, .unset, .unset, .unset, .unset, .unset, .unset, .unset] [] := by first | (simp [entryFrame, mkF, argsToLocals, Value.category, maxLocals]; done) | rfl
abbrev L0_0 (p0 : Int32) (q1 : Int64) (p2 : Int32) (p3 : Int32) (p4 : Int32) (p5 : Int32) : Array Slot := #[iv p0, .val (.long q1), .second, iv p2, iv p3, iv p4, iv p5, .unset, .unset, .unset, .unset, .unset, .unset, .unset, .unset, .unset, .unset, .unset, .unset, .unset, .unset, .unset, .unset, .unset]
abbrev L0_1 (p0 : Int32) (q1 : Int64) (p2 : Int32) (p3 : Int32) (p4 : Int32) (p5 : Int32) (b1 : Addr) : Array Slot := #[iv p0, .val (.long q1), .second, iv p2, iv p3, iv p4, iv p5, rv b1, .unset, .unset, .unset, .unset, .unset, .unset, .unset, .unset, .unset, .unset, .unset, .unset, .unset, .unset, .unset, .unset]
abbrev L0_2 (p0 : Int32) (q1 : Int64) (p2 : Int32) (p3 : Int32) (p4 : Int32) (p5 : Int32) (b1 : Addr) (m1 : Int32) : Array Slot := #[iv p0, .val (.long q1), .second, iv p2, iv p3, iv p4, iv p5, rv b1, iv m1, .unset, .unset, .unset, .unset, .unset, .unset, .unset, .unset, .unset, .unset, .unset, .unset, .unset, .unset, .unset]
abbrev L0_3 (p0 : Int32) (q1 : Int64) (p2 : Int32) (p3 : Int32) (p4 : Int32) (p5 : Int32) (b1 : Addr) (m1 : Int32) (m2 : Int32) : Array Slot := #[iv p0, .val (.long q1), .second, iv p2, iv p3, iv p4, iv p5, rv b1, iv m1, iv m2, .unset, .unset, .unset, .unset, .unset, .unset, .unset, .unset, .unset, .unset, .unset, .unset, .unset, .unset]
abbrev L0_4 (p0 : Int32) (q1 : Int64) (p2 : Int32) (p3 : Int32) (p4 : Int32) (p5 : Int32) (b1 : Addr) (m1 : Int32) (m2 : Int32) : Array Slot := #[iv p0, .val (.long q1), .second, iv p2, iv p3, iv p4, iv p5, rv b1, iv m1, iv m2, .val (.long m1.toInt64), .second, .unset, .unset, .unset, .unset, .unset, .unset, .unset, .unset, .unset, .unset, .unset, .unset]
abbrev L0_5 (p0 : Int32) (q1 : Int64) (p2 : Int32) (p3 : Int32) (p4 : Int32) (p5 : Int32) (b1 : Addr) (m1 : Int32) (m2 : Int32) : Array Slot := #[iv p0, .val (.long q1), .second, iv p2, iv p3, iv p4, iv p5, rv b1, iv m1, iv m2, .val (.long (m1.toInt64 + m2.toInt64)), .second, .unset, .unset, .unset, .unset, .unset, .unset, .unset, .unset, .unset, .unset, .unset, .unset]
abbrev L0_6 (p0 : Int32) (q1 : Int64) (p2 : Int32) (p3 : Int32) (p4 : Int32) (p5 : Int32) (b1 : Addr) (m1 : Int32) (m2 : Int32) (hh : Int32) : Array Slot := #[iv p0, .val (.long q1), .second, iv p2, iv p3, iv p4, iv p5, rv b1, iv m1, iv m2, .val (.long (m1.toInt64 + m2.toInt64)), .second, iv hh, iv (p4 &&& (((1 : Int32) <<< (hh &&& 31)) - (1 : Int32))), iv (((1 : Int32) <<< (hh &&& 31)) ||| (p4 &&& (((1 : Int32) <<< (hh &&& 31)) - (1 : Int32)))), .unset, .unset, .unset, .unset, .unset, .unset, .unset, .unset, .unset]
abbrev L0_7 (p0 : Int32) (q1 : Int64) (p2 : Int32) (p3 : Int32) (p4 : Int32) (p5 : Int32) (b1 : Addr) (m1 : Int32) (m2 : Int32) (hh : Int32) : Array Slot := #[iv p0, .val (.long q1), .second, iv p2, iv p3, iv p4, iv p5, rv b1, iv m1, iv m2, .val (.long (m1.toInt64 + m2.toInt64)), .second, iv hh, .unset, .unset, .unset, .unset, .unset, .unset, .unset, .unset, .unset, .unset, .unset]
abbrev L0_8 (p0 : Int32) (q1 : Int64) (p2 : Int32) (p3 : Int32) (p4 : Int32) (p5 : Int32) (b1 : Addr) (m1 : Int32) (m2 : Int32) (hh : Int32) : Array Slot := #[iv p0, .val (.long q1), .second, iv p2, iv p3, iv p4, iv p5, rv b1, iv m1, iv m2, .val (.long (m1.toInt64 + m2.toInt64)), .second, iv hh, iv (p4 &&& (((1 : Int32) <<< (hh &&& 31)) - (1 : Int32))), .unset, .unset, .unset, .unset, .unset, .unset, .unset, .unset, .unset, .unset]
abbrev L0_9 (p0 : Int32) (q1 : Int64) (p2 : Int32) (p3 : Int32) (p4 : Int32) (p5 : Int32) (b1 : Addr) (m1 : Int32) (m2 : Int32) (hh : Int32) : Array Slot := #[iv p0, .val (.long q1), .second, iv p2, iv p3, iv p4, iv p5, rv b1, iv m1, iv m2, .val (.long ((m1.toInt64 + m2.toInt64) + (((2 : Int64) * hh.toInt64) + (1 : Int64)))), .second, iv hh, iv (p4 &&& (((1 : Int32) <<< (hh &&& 31)) - (1 : Int32))), iv (((1 : Int32) <<< (hh &&& 31)) ||| (p4 &&& (((1 : Int32) <<< (hh &&& 31)) - (1 : Int32)))), .unset, .unset, .unset, .unset, .unset, .unset, .unset, .unset, .unset]
abbrev L0_10 (p0 : Int32) (q1 : Int64) (p2 : Int32) (p3 : Int32) (p4 : Int32) (p5 : Int32) (b1 : Addr) (m1 : Int32) (m2 : Int32) (hh : Int32) (qq : Int32) : Array Slot := #[iv p0, .val (.long q1), .second, iv p2, iv p3, iv p4, iv p5, rv b1, iv m1, iv m2, .val (.long ((m1.toInt64 + m2.toInt64) + (((2 : Int64) * hh.toInt64) + (1 : Int64)))), .second, iv hh, iv (p4 &&& (((1 : Int32) <<< (hh &&& 31)) - (1 : Int32))), iv (((1 : Int32) <<< (hh &&& 31)) ||| (p4 &&& (((1 : Int32) <<< (hh &&& 31)) - (1 : Int32)))), iv qq, .unset, .unset, .unset, .unset, .unset, .unset, .unset, .unset]
abbrev L0_11 (p0 : Int32) (q1 : Int64) (p2 : Int32) (p3 : Int32) (p4 : Int32) (p5 : Int32) (b1 : Addr) (m1 : Int32) (m2 : Int32) (hh : Int32) (qq : Int32) (kk : Int32) : Array Slot := #[iv p0, .val (.long q1), .second, iv p2, iv p3, iv p4, iv p5, rv b1, iv m1, iv m2, .val (.long ((m1.toInt64 + m2.toInt64) + (((2 : Int64) * hh.toInt64) + (1 : Int64)))), .second, iv hh, iv (p4 &&& (((1 : Int32) <<< (hh &&& 31)) - (1 : Int32))), iv (((1 : Int32) <<< (hh &&& 31)) ||| (p4 &&& (((1 : Int32) <<< (hh &&& 31)) - (1 : Int32)))), iv qq, iv kk, iv (((p4.toUInt32 >>> ((15 : Int32) &&& 31).toUInt32).toInt32) &&& (((1 : Int32) <<< (kk &&& 31)) - (1 : Int32))), .unset, .unset, .unset, .unset, .unset, .unset]
abbrev L0_12 (p0 : Int32) (q1 : Int64) (p2 : Int32) (p3 : Int32) (p4 : Int32) (p5 : Int32) (b1 : Addr) (m1 : Int32) (m2 : Int32) (hh : Int32) (qq : Int32) (kk : Int32) : Array Slot := #[iv p0, .val (.long q1), .second, iv p2, iv p3, iv p4, iv p5, rv b1, iv m1, iv m2, .val (.long ((m1.toInt64 + m2.toInt64) + (((2 : Int64) * hh.toInt64) + (1 : Int64)))), .second, iv hh, iv (p4 &&& (((1 : Int32) <<< (hh &&& 31)) - (1 : Int32))), iv (((1 : Int32) <<< (hh &&& 31)) ||| (p4 &&& (((1 : Int32) <<< (hh &&& 31)) - (1 : Int32)))), iv qq, iv kk, .unset, .unset, .unset, .unset, .unset, .unset, .unset]
abbrev L0_13 (p0 : Int32) (q1 : Int64) (p2 : Int32) (p3 : Int32) (p4 : Int32) (p5 : Int32) (b1 : Addr) (m1 : Int32) (m2 : Int32) (hh : Int32) (qq : Int32) (kk : Int32) : Array Slot := #[iv p0, .val (.long q1), .second, iv p2, iv p3, iv p4, iv p5, rv b1, iv m1, iv m2, .val (.long (((m1.toInt64 + m2.toInt64) + (((2 : Int64) * hh.toInt64) + (1 : Int64))) + ((qq.toInt64 + (1 : Int64)) + kk.toInt64))), .second, iv hh, iv (p4 &&& (((1 : Int32) <<< (hh &&& 31)) - (1 : Int32))), iv (((1 : Int32) <<< (hh &&& 31)) ||| (p4 &&& (((1 : Int32) <<< (hh &&& 31)) - (1 : Int32)))), iv qq, iv kk, iv (((p4.toUInt32 >>> ((15 : Int32) &&& 31).toUInt32).toInt32) &&& (((1 : Int32) <<< (kk &&& 31)) - (1 : Int32))), .unset, .unset, .unset, .unset, .unset, .unset]
abbrev L0_14 (p0 : Int32) (q1 : Int64) (p2 : Int32) (p3 : Int32) (p4 : Int32) (p5 : Int32) (b1 : Addr) (m1 : Int32) (m2 : Int32) (hh : Int32) (qq : Int32) (kk : Int32) (r44 : Int64) : Array Slot := #[iv p0, .val (.long q1), .second, iv p2, iv p3, iv p4, iv p5, rv b1, iv m1, iv m2, .val (.long (((m1.toInt64 + m2.toInt64) + (((2 : Int64) * hh.toInt64) + (1 : Int64))) + ((qq.toInt64 + (1 : Int64)) + kk.toInt64))), .second, iv hh, iv (p4 &&& (((1 : Int32) <<< (hh &&& 31)) - (1 : Int32))), iv (((1 : Int32) <<< (hh &&& 31)) ||| (p4 &&& (((1 : Int32) <<< (hh &&& 31)) - (1 : Int32)))), iv qq, iv kk, iv (((p4.toUInt32 >>> ((15 : Int32) &&& 31).toUInt32).toInt32) &&& (((1 : Int32) <<< (kk &&& 31)) - (1 : Int32))), .val (.long r44), .second, .unset, .unset, .unset, .unset]
abbrev L0_15 (p0 : Int32) (q1 : Int64) (p2 : Int32) (p3 : Int32) (p4 : Int32) (p5 : Int32) (b1 : Addr) (m1 : Int32) (m2 : Int32) (hh : Int32) (qq : Int32) (kk : Int32) (r44 : Int64) (il47 : Int32) : Array Slot := #[iv p0, .val (.long q1), .second, iv p2, iv p3, iv p4, iv p5, rv b1, iv m1, iv m2, .val (.long (((m1.toInt64 + m2.toInt64) + (((2 : Int64) * hh.toInt64) + (1 : Int64))) + ((qq.toInt64 + (1 : Int64)) + kk.toInt64))), .second, iv hh, iv (p4 &&& (((1 : Int32) <<< (hh &&& 31)) - (1 : Int32))), iv (((1 : Int32) <<< (hh &&& 31)) ||| (p4 &&& (((1 : Int32) <<< (hh &&& 31)) - (1 : Int32)))), iv qq, iv kk, iv (((p4.toUInt32 >>> ((15 : Int32) &&& 31).toUInt32).toInt32) &&& (((1 : Int32) <<< (kk &&& 31)) - (1 : Int32))), .val (.long r44), .second, .val (.long (r44 - ((8 : Int64) * il47.toInt64))), .second, .unset, .unset]
abbrev L0_16 (p0 : Int32) (q1 : Int64) (p2 : Int32) (p3 : Int32) (p4 : Int32) (p5 : Int32) (b1 : Addr) (m1 : Int32) (m2 : Int32) (hh : Int32) (qq : Int32) (kk : Int32) (r44 : Int64) (il47 : Int32) : Array Slot := #[iv p0, .val (.long q1), .second, iv p2, iv p3, iv p4, iv p5, rv b1, iv m1, iv m2, .val (.long (((m1.toInt64 + m2.toInt64) + (((2 : Int64) * hh.toInt64) + (1 : Int64))) + ((qq.toInt64 + (1 : Int64)) + kk.toInt64))), .second, iv hh, iv (p4 &&& (((1 : Int32) <<< (hh &&& 31)) - (1 : Int32))), iv (((1 : Int32) <<< (hh &&& 31)) ||| (p4 &&& (((1 : Int32) <<< (hh &&& 31)) - (1 : Int32)))), iv qq, iv kk, iv (((p4.toUInt32 >>> ((15 : Int32) &&& 31).toUInt32).toInt32) &&& (((1 : Int32) <<< (kk &&& 31)) - (1 : Int32))), .val (.long r44), .second, .val (.long (r44 - ((8 : Int64) * il47.toInt64))), .second, .val (.long ((((((m1.toInt64 + m2.toInt64) + (((2 : Int64) * hh.toInt64) + (1 : Int64))) + ((qq.toInt64 + (1 : Int64)) + kk.toInt64)) + (7 : Int64)) / (8 : Int64)) * (8 : Int64))), .second]
set_option maxRecDepth 65536 in
set_option maxHeartbeats 40000000 in
theorem rm0 (l : Launch) (Z : State) (aZ : Array Value) (hw : ∀ d ∈ tables_1, d.before aZ Z = true) (ws : List Jvm.Cond) (p0 : Int32) (q1 : Int64) (p2 : Int32) (p3 : Int32) (p4 : Int32) (p5 : Int32) (h0 : Heap) (n0 : Nat) (Z0 : n0 ≤ h0.size) :
    MFn l x code maxLocals ret  ws room_1 #[(.int p0), (.long q1), (.int p2), (.int p3), (.int p4), (.int p5)] Z h0 (Q0 Z n0 p0 q1 p2 p3 p4 p5 h0) := by
  refine own_mf (C := "com/example/mirk/mirk/index/BitWriterBitsPinLaw") rfl (plainFor_of_name pn_296) (fun m => ef0 m p0 q1 p2 p3 p4 p5) ?_
  intro p e s m below meth cd0 s₁ En hx hby hml hown hnm hZ X0 e0 hlk hrt go0
  have N0 := Fr.nil n0
  have K0 : Keep h0 h0 [] := Keep.refl _ _
  obtain ⟨T1, h1, X1, e1, E1, A1, D1, -, st1⟩ := newO X0 hx hZ hown (hw _ (mi 0 rfl)) (hw _ (mi 1 rfl)) (hw _ (mi 2 rfl)) e0 (g := (mkF m 0 (L0_0 p0 q1 p2 p3 p4 p5) [])) rfl (hb hby at_0) (by decide) (by decide)
  obtain ⟨b1, g1⟩ : ∃ z, z = h0.size := ⟨_, rfl⟩
  rw [← g1] at A1 D1 st1
  have low1 : n0 ≤ b1 := Nat.le_trans Z0 (Nat.le_of_eq g1.symm)
  have fsh1 : h0.size ≤ b1 := Nat.le_trans K0.1 (Nat.le_of_eq g1.symm)
  have K1 : Keep h0 h1 [] := K0.ext E1
  have Zs1 : n0 ≤ h1.size := Nat.le_trans Z0 E1.1
  have go2 := gap go0 st1
  have F3 : Fld Z h1 b1 "com/example/mirk/mirk/index/BitWriter" "bytes" "[B" .null := D1 (Or.inl (hw _ (mi 11 rfl))) (ty := (.array .byte)) (by decide)
  have F4 : Fld Z h1 b1 "com/example/mirk/mirk/index/BitWriter" "length" "I" (.int 0) := D1 (Or.inl (hw _ (mi 19 rfl))) (ty := .int) (by decide)
  have F5 : Fld Z h1 b1 "com/example/mirk/mirk/index/BitWriter" "pendingBits" "I" (.int 0) := D1 (Or.inl (hw _ (mi 21 rfl))) (ty := .int) (by decide)
  have F6 : Fld Z h1 b1 "com/example/mirk/mirk/index/BitWriter" "pending" "J" (.long 0) := D1 (Or.inl (hw _ (mi 28 rfl))) (ty := .long) (by decide)
  have go7 : Go p.tables e below T1 (mkF m 8 (L0_0 p0 q1 p2 p3 p4 p5) [(.int (p0 &&& (15 : Int32))), (.ref b1), (.ref b1)]) En := by
    intro t k
    refine go2 _ ?_
    refine XS.dup X1.here hx rfl (hb hby at_3) rfl rfl ?_
    refine XS.iloadN X1.here hx rfl (hb hby at_4) rfl ?_
    refine XS.bipush X1.here hx rfl (hb hby at_5) ?_
    show Steps _ _ _ (T1.setTop (mkF m 7 (L0_0 p0 q1 p2 p3 p4 p5) [(.int 15), (.int p0), (.ref b1), (.ref b1)])) _
    refine XS.iand X1.here hx rfl (hb hby at_7) rfl ?_
    exact k
  have hmk := c_mask p0 15 4 (by decide) (by decide)
  have hneg0 : ¬ (p0 &&& (15 : Int32)) < 0 := own_nn (by omega)
  have h150 : (p0 &&& (15 : Int32)).toNatClampNeg ≤ 15 := by
    have := nat_of hneg0
    omega
  obtain ⟨_, T8, Lc8, X8, hQ8, st8⟩ := own_ci X1 hx hZ hown hml go7 (hb hby at_8) e1 (hw _ (mi 3 rfl)) (own_site286 hw) rfl (rmin l Z aZ hw [] b1 (p0 &&& (15 : Int32)) h1 n0 Zs1 A1 F3 F4 F5 F6 low1 hneg0 h150) (by decide) (argsL := [(.int (p0 &&& (15 : Int32)))]) (rest := [(.ref b1)]) rfl rfl rfl (lenOf pd_238 rfl) (W := 1) rfl (Nat.le_of_ble_eq_true rfl) (Nat.le_of_ble_eq_true rfl) (Nat.le_of_ble_eq_true rfl) (by show 0 + 4 + 15 ≤ 320; omega)
  obtain ⟨rfl, N8q, zq8, G8⟩ := hQ8
  have N8 := Fr.app N0 N8q
  have Zs8 : n0 ≤ T8.heap.size := Nat.le_trans Zs1 zq8
  have Zh8 : h0.size ≤ T8.heap.size := Nat.le_trans K1.1 zq8
  obtain ⟨c0, hc0⟩ : ∃ x, x = (p0 &&& (15 : Int32)).toInt := ⟨_, rfl⟩
  rw [← hc0] at G8
  have hbd0 : 0 ≤ c0 ∧ c0 ≤ 15 := by omega
  have go9 : Go p.tables e below T8 (mkF m 15 (L0_1 p0 q1 p2 p3 p4 p5 b1) [(.ref b1)]) En := by
    intro t k
    refine st8 _ ?_
    refine XS.astore X8.here hx rfl (hb hby at_11) rfl rfl (l' := (L0_1 p0 q1 p2 p3 p4 p5 b1)) rfl ?_
    refine XS.aload X8.here hx rfl (hb hby at_13) rfl rfl ?_
    exact k
  obtain ⟨_, T10, Lc10, X10, hQ10, st10⟩ := own_cv X8 hx hZ hown hml go9 (hb hby at_15) rfl (hw _ (mi 12 rfl)) (own_site287 hw) (BW.exa G8) (rmbi l Z aZ hw [] b1 0 c0 T8.heap n0 Zs8 G8) (by decide) (argsL := []) (rest := []) rfl rfl rfl (lenOf pd_288 rfl) (W := 0) rfl (Nat.le_of_ble_eq_true rfl) (Nat.le_of_ble_eq_true rfl) (Nat.le_of_ble_eq_true rfl) (by show 0 + 4 + 15 + 0 ≤ 320; omega)
  obtain ⟨r10, rfl, hr10, N10q, e10⟩ := hQ10
  have N10 := Fr.app N8 N10q
  have hE11 : r10 = (0 : Int64) := by
    rw [← Int64.toInt_inj]
    have := rng64 r10
    have : (0 : Int64).toInt = 0 := rfl
    omega
  have go12 : Go p.tables e below T10 (mkF m 33 (L0_1 p0 q1 p2 p3 p4 p5 b1) [(.int ((p2 &&& (255 : Int32)) % (57 : Int32)))]) En := by
    intro t k
    refine st10 _ ?_
    refine XS.lconst X10.here hx rfl (hb hby at_18) ?_
    refine XT.lcmp X10.here hx rfl (hb hby at_19) rfl ?_
    refine XS.ifYes X10.here hx rfl (pc0 := 20) (pc' := 25) rfl (hb hby at_20) rfl (XT.ll_eq_t hE11) (by decide) (by decide) ?_
    show Steps _ _ _ (T10.setTop (mkF m 25 (L0_1 p0 q1 p2 p3 p4 p5 b1) [])) _
    refine XS.iloadN X10.here hx rfl (hb hby at_25) rfl ?_
    refine XS.sipush X10.here hx rfl (hb hby at_26) ?_
    refine XS.iand X10.here hx rfl (hb hby at_29) rfl ?_
    show Steps _ _ _ (T10.setTop (mkF m 30 (L0_1 p0 q1 p2 p3 p4 p5 b1) [(.int (p2 &&& (255 : Int32)))])) _
    refine XS.bipush X10.here hx rfl (hb hby at_30) ?_
    refine iremM X10 hx rfl (hb hby at_32) rfl (by decide) ?_
    exact k
  obtain ⟨m1, e_m1, m1a, m1b⟩ : ∃ x : Int32, x = ((p2 &&& (255 : Int32)) % (57 : Int32)) ∧ 0 ≤ x.toInt ∧ x.toInt ≤ 56 := by
    have hq := c_mask p2 (255 : Int32) 8 (by decide) (by decide)
    have hr := (c_irem (p2 &&& (255 : Int32)) (57 : Int32) 57 rfl).1 (by omega)
    exact ⟨_, rfl, by omega, by omega⟩
  have go13 : Go p.tables e below T10 (mkF m 33 (L0_1 p0 q1 p2 p3 p4 p5 b1) [(.int m1)]) En := by
    have q := go12
    rw [← e_m1] at q
    exact q
  have go14 : Go p.tables e below T10 (mkF m 46 (L0_2 p0 q1 p2 p3 p4 p5 b1 m1) [(.int ((((p2.toUInt32 >>> ((8 : Int32) &&& 31).toUInt32).toInt32) &&& (255 : Int32)) % (57 : Int32)))]) En := by
    intro t k
    refine go13 _ ?_
    refine XS.istore X10.here hx rfl (hb hby at_33) rfl (l' := (L0_2 p0 q1 p2 p3 p4 p5 b1 m1)) rfl ?_
    refine XS.iloadN X10.here hx rfl (hb hby at_35) rfl ?_
    refine XS.bipush X10.here hx rfl (hb hby at_36) ?_
    show Steps _ _ _ (T10.setTop (mkF m 38 (L0_2 p0 q1 p2 p3 p4 p5 b1 m1) [(.int 8), (.int p2)])) _
    refine XS.iushr X10.here hx rfl (hb hby at_38) rfl ?_
    refine XS.sipush X10.here hx rfl (hb hby at_39) ?_
    refine XS.iand X10.here hx rfl (hb hby at_42) rfl ?_
    show Steps _ _ _ (T10.setTop (mkF m 43 (L0_2 p0 q1 p2 p3 p4 p5 b1 m1) [(.int (((p2.toUInt32 >>> ((8 : Int32) &&& 31).toUInt32).toInt32) &&& (255 : Int32)))])) _
    refine XS.bipush X10.here hx rfl (hb hby at_43) ?_
    refine iremM X10 hx rfl (hb hby at_45) rfl (by decide) ?_
    exact k
  obtain ⟨m2, e_m2, m2a, m2b⟩ : ∃ x : Int32, x = ((((p2.toUInt32 >>> ((8 : Int32) &&& 31).toUInt32).toInt32) &&& (255 : Int32)) % (57 : Int32)) ∧ 0 ≤ x.toInt ∧ x.toInt ≤ 56 := by
    have hq := c_mask ((p2.toUInt32 >>> ((8 : Int32) &&& 31).toUInt32).toInt32) (255 : Int32) 8 (by decide) (by decide)
    have hr := (c_irem (((p2.toUInt32 >>> ((8 : Int32) &&& 31).toUInt32).toInt32) &&& (255 : Int32)) (57 : Int32) 57 rfl).1 (by omega)
    exact ⟨_, rfl, by omega, by omega⟩
  have go15 : Go p.tables e below T10 (mkF m 46 (L0_2 p0 q1 p2 p3 p4 p5 b1 m1) [(.int m2)]) En := by
    have q := go14
    rw [← e_m2] at q
    exact q
  have go16 : Go p.tables e below T10 (mkF m 53 (L0_3 p0 q1 p2 p3 p4 p5 b1 m1 m2) [(.int m1), (.long q1), (.ref b1)]) En := by
    intro t k
    refine go15 _ ?_
    refine XS.istore X10.here hx rfl (hb hby at_46) rfl (l' := (L0_3 p0 q1 p2 p3 p4 p5 b1 m1 m2)) rfl ?_
    refine XS.aload X10.here hx rfl (hb hby at_48) rfl rfl ?_
    refine XS.lloadN X10.here hx rfl (hb hby at_50) rfl ?_
    show Steps _ _ _ (T10.setTop (mkF m 51 (L0_3 p0 q1 p2 p3 p4 p5 b1 m1 m2) [(.long q1), (.ref b1)])) _
    refine XS.iload X10.here hx rfl (hb hby at_51) rfl ?_
    exact k
  have hw18 := own_cap 0 m1.toInt c0 (by omega)
  have hs18q := own_sW 0 m1.toInt c0 (by omega)
  obtain ⟨_, T17, Lc17, X17, hQ17, st17⟩ := own_cv X10 hx hZ hown hml go16 (hb hby at_53) e10 (hw _ (mi 22 rfl)) (own_site156 hw) (BW.exa G8) (rmwb l Z aZ hw [] b1 q1 m1 0 c0 (sW 0 m1.toInt c0) T8.heap n0 Zs8 G8 (by omega) (by omega) (by omega) (by omega)) (by decide) (argsL := [(.long q1), (.int m1)]) (rest := []) rfl rfl rfl (lenOf pd_157 rfl) (W := 0) rfl (Nat.le_of_ble_eq_true rfl) (Nat.le_of_ble_eq_true rfl) (Nat.le_of_ble_eq_true rfl) (by show 0 + 4 + 15 + 0 + (sW 0 m1.toInt c0) ≤ 320; omega)
  obtain ⟨rfl, N17q, zq17, G17⟩ := hQ17
  have N17 := Fr.app N10 N17q
  have Zs17 : n0 ≤ T17.heap.size := Nat.le_trans Zs8 zq17
  have Zh17 : h0.size ≤ T17.heap.size := Nat.le_trans Zh8 zq17
  obtain ⟨c17, hc17⟩ : ∃ x, x = capW 0 m1.toInt c0 := ⟨_, rfl⟩
  rw [← hc17] at G17 hw18 hs18q
  have hbd17 : c0 ≤ c17 ∧ c17 ≤ 82 := by omega
  clear hw18
  have go19 : Go p.tables e below T17 (mkF m 63 (L0_4 p0 q1 p2 p3 p4 p5 b1 m1 m2) [(.ref b1)]) En := by
    intro t k
    refine st17 _ ?_
    refine XS.iload X17.here hx rfl (hb hby at_56) rfl ?_
    refine XS.i2l X17.here hx rfl (hb hby at_58) rfl ?_
    refine XS.lstore X17.here hx rfl (hb hby at_59) rfl (l' := (L0_4 p0 q1 p2 p3 p4 p5 b1 m1 m2)) rfl ?_
    show Steps _ _ _ (T17.setTop (mkF m 61 (L0_4 p0 q1 p2 p3 p4 p5 b1 m1 m2) [])) _
    refine XS.aload X17.here hx rfl (hb hby at_61) rfl rfl ?_
    exact k
  obtain ⟨_, T20, Lc20, X20, hQ20, st20⟩ := own_cv X17 hx hZ hown hml go19 (hb hby at_63) rfl (hw _ (mi 12 rfl)) (own_site287 hw) (BW.exa G17) (rmbi l Z aZ hw [] b1 (0 + m1.toInt) c17 T17.heap n0 Zs17 G17) (by decide) (argsL := []) (rest := []) rfl rfl rfl (lenOf pd_288 rfl) (W := 0) rfl (Nat.le_of_ble_eq_true rfl) (Nat.le_of_ble_eq_true rfl) (Nat.le_of_ble_eq_true rfl) (by show 0 + 4 + 15 + 0 + (sW 0 m1.toInt c0) + 0 ≤ 320; omega)
  obtain ⟨r20, rfl, hr20, N20q, e20⟩ := hQ20
  have N20 := Fr.app N17 N20q
  have hE21 : r20 = m1.toInt64 := by
    rw [← Int64.toInt_inj]
    have := rng64 r20
    have := c_i2l m1
    have := rng32 m1
    omega
  have go22 : Go p.tables e below T20 (mkF m 85 (L0_4 p0 q1 p2 p3 p4 p5 b1 m1 m2) [(.int m2), (.long (((q1.toUInt64 >>> ((7 : Int32) &&& 0x3f).toInt64.toUInt64).toInt64) ^^^ p2.toInt64)), (.ref b1)]) En := by
    intro t k
    refine st20 _ ?_
    refine XS.lload X20.here hx rfl (hb hby at_66) rfl ?_
    refine XT.lcmp X20.here hx rfl (hb hby at_68) rfl ?_
    refine XS.ifYes X20.here hx rfl (pc0 := 69) (pc' := 74) rfl (hb hby at_69) rfl (XT.ll_eq_t hE21) (by decide) (by decide) ?_
    show Steps _ _ _ (T20.setTop (mkF m 74 (L0_4 p0 q1 p2 p3 p4 p5 b1 m1 m2) [])) _
    refine XS.aload X20.here hx rfl (hb hby at_74) rfl rfl ?_
    refine XS.lloadN X20.here hx rfl (hb hby at_76) rfl ?_
    refine XS.bipush X20.here hx rfl (hb hby at_77) ?_
    show Steps _ _ _ (T20.setTop (mkF m 79 (L0_4 p0 q1 p2 p3 p4 p5 b1 m1 m2) [(.int 7), (.long q1), (.ref b1)])) _
    refine XS.lushr X20.here hx rfl (hb hby at_79) rfl ?_
    refine XS.iloadN X20.here hx rfl (hb hby at_80) rfl ?_
    refine XS.i2l X20.here hx rfl (hb hby at_81) rfl ?_
    show Steps _ _ _ (T20.setTop (mkF m 82 (L0_4 p0 q1 p2 p3 p4 p5 b1 m1 m2) [(.long p2.toInt64), (.long ((q1.toUInt64 >>> ((7 : Int32) &&& 0x3f).toInt64.toUInt64).toInt64)), (.ref b1)])) _
    refine XS.lxor X20.here hx rfl (hb hby at_82) rfl ?_
    refine XS.iload X20.here hx rfl (hb hby at_83) rfl ?_
    exact k
  have hw24 := own_cap (0 + m1.toInt) m2.toInt c17 (by omega)
  have hs24q := own_sW (0 + m1.toInt) m2.toInt c17 (by omega)
  obtain ⟨_, T23, Lc23, X23, hQ23, st23⟩ := own_cv X20 hx hZ hown hml go22 (hb hby at_85) e20 (hw _ (mi 22 rfl)) (own_site156 hw) (BW.exa G17) (rmwb l Z aZ hw [] b1 (((q1.toUInt64 >>> ((7 : Int32) &&& 0x3f).toInt64.toUInt64).toInt64) ^^^ p2.toInt64) m2 (0 + m1.toInt) c17 (sW (0 + m1.toInt) m2.toInt c17) T17.heap n0 Zs17 G17 (by omega) (by omega) (by omega) (by omega)) (by decide) (argsL := [(.long (((q1.toUInt64 >>> ((7 : Int32) &&& 0x3f).toInt64.toUInt64).toInt64) ^^^ p2.toInt64)), (.int m2)]) (rest := []) rfl rfl rfl (lenOf pd_157 rfl) (W := 0) rfl (Nat.le_of_ble_eq_true rfl) (Nat.le_of_ble_eq_true rfl) (Nat.le_of_ble_eq_true rfl) (by show 0 + 4 + 15 + 0 + (sW 0 m1.toInt c0) + 0 + (sW (0 + m1.toInt) m2.toInt c17) ≤ 320; omega)
  obtain ⟨rfl, N23q, zq23, G23⟩ := hQ23
  have N23 := Fr.app N20 N23q
  have Zs23 : n0 ≤ T23.heap.size := Nat.le_trans Zs17 zq23
  have Zh23 : h0.size ≤ T23.heap.size := Nat.le_trans Zh17 zq23
  obtain ⟨c23, hc23⟩ : ∃ x, x = capW (0 + m1.toInt) m2.toInt c17 := ⟨_, rfl⟩
  rw [← hc23] at G23 hw24 hs24q
  have hbd23 : c17 ≤ c23 ∧ c23 ≤ 82 := by omega
  clear hw24
  have go25 : Go p.tables e below T23 (mkF m 98 (L0_5 p0 q1 p2 p3 p4 p5 b1 m1 m2) [(.ref b1)]) En := by
    intro t k
    refine st23 _ ?_
    refine XS.lload X23.here hx rfl (hb hby at_88) rfl ?_
    refine XS.iload X23.here hx rfl (hb hby at_90) rfl ?_
    refine XS.i2l X23.here hx rfl (hb hby at_92) rfl ?_
    show Steps _ _ _ (T23.setTop (mkF m 93 (L0_4 p0 q1 p2 p3 p4 p5 b1 m1 m2) [(.long m2.toInt64), (.long m1.toInt64)])) _
    refine XS.ladd X23.here hx rfl (hb hby at_93) rfl ?_
    refine XS.lstore X23.here hx rfl (hb hby at_94) rfl (l' := (L0_5 p0 q1 p2 p3 p4 p5 b1 m1 m2)) rfl ?_
    refine XS.aload X23.here hx rfl (hb hby at_96) rfl rfl ?_
    show Steps _ _ _ (T23.setTop (mkF m 98 (L0_5 p0 q1 p2 p3 p4 p5 b1 m1 m2) [(.ref b1)])) _
    exact k
  obtain ⟨_, T26, Lc26, X26, hQ26, st26⟩ := own_cv X23 hx hZ hown hml go25 (hb hby at_98) rfl (hw _ (mi 12 rfl)) (own_site287 hw) (BW.exa G23) (rmbi l Z aZ hw [] b1 (0 + m1.toInt + m2.toInt) c23 T23.heap n0 Zs23 G23) (by decide) (argsL := []) (rest := []) rfl rfl rfl (lenOf pd_288 rfl) (W := 0) rfl (Nat.le_of_ble_eq_true rfl) (Nat.le_of_ble_eq_true rfl) (Nat.le_of_ble_eq_true rfl) (by show 0 + 4 + 15 + 0 + (sW 0 m1.toInt c0) + 0 + (sW (0 + m1.toInt) m2.toInt c17) + 0 ≤ 320; omega)
  obtain ⟨r26, rfl, hr26, N26q, e26⟩ := hQ26
  have N26 := Fr.app N23 N26q
  have hE27 : r26 = (m1.toInt64 + m2.toInt64) := by
    rw [← Int64.toInt_inj]
    have := rng64 r26
    have := c_i2l m1
    have := rng32 m1
    have := c_i2l m2
    have := rng32 m2
    have := rng64 (m1.toInt64 + m2.toInt64)
    have := c_ladd m1.toInt64 m2.toInt64
    omega
  have go28 : Go p.tables e below T26 (mkF m 117 (L0_5 p0 q1 p2 p3 p4 p5 b1 m1 m2) [(.int ((p3 &&& (2147483647 : Int32)) % (31 : Int32)))]) En := by
    intro t k
    refine st26 _ ?_
    refine XS.lload X26.here hx rfl (hb hby at_101) rfl ?_
    refine XT.lcmp X26.here hx rfl (hb hby at_103) rfl ?_
    refine XS.ifYes X26.here hx rfl (pc0 := 104) (pc' := 109) rfl (hb hby at_104) rfl (XT.ll_eq_t hE27) (by decide) (by decide) ?_
    show Steps _ _ _ (T26.setTop (mkF m 109 (L0_5 p0 q1 p2 p3 p4 p5 b1 m1 m2) [])) _
    refine XS.iload X26.here hx rfl (hb hby at_109) rfl ?_
    refine X26.ldcInt hx hown (mvT hZ (hw _ (mi 29 rfl))) (g := (mkF m 111 (L0_5 p0 q1 p2 p3 p4 p5 b1 m1 m2) [(.int p3)])) rfl (hb hby at_111) _ ?_
    refine XS.iand X26.here hx rfl (hb hby at_113) rfl ?_
    show Steps _ _ _ (T26.setTop (mkF m 114 (L0_5 p0 q1 p2 p3 p4 p5 b1 m1 m2) [(.int (p3 &&& (2147483647 : Int32)))])) _
    refine XS.bipush X26.here hx rfl (hb hby at_114) ?_
    refine iremM X26 hx rfl (hb hby at_116) rfl (by decide) ?_
    exact k
  obtain ⟨hh, e_hh, hha, hhb⟩ : ∃ x : Int32, x = ((p3 &&& (2147483647 : Int32)) % (31 : Int32)) ∧ 0 ≤ x.toInt ∧ x.toInt ≤ 30 := by
    have hq := c_mask p3 (2147483647 : Int32) 31 (by decide) (by decide)
    have hr := (c_irem (p3 &&& (2147483647 : Int32)) (31 : Int32) 31 rfl).1 (by omega)
    exact ⟨_, rfl, by omega, by omega⟩
  have go29 : Go p.tables e below T26 (mkF m 117 (L0_5 p0 q1 p2 p3 p4 p5 b1 m1 m2) [(.int hh)]) En := by
    have q := go28
    rw [← e_hh] at q
    exact q
  have go30 : Go p.tables e below T26 (mkF m 143 (L0_6 p0 q1 p2 p3 p4 p5 b1 m1 m2 hh) [(.int (((1 : Int32) <<< (hh &&& 31)) ||| (p4 &&& (((1 : Int32) <<< (hh &&& 31)) - (1 : Int32))))), (.ref b1)]) En := by
    intro t k
    refine go29 _ ?_
    refine XS.istore X26.here hx rfl (hb hby at_117) rfl (l' := (L0_7 p0 q1 p2 p3 p4 p5 b1 m1 m2 hh)) rfl ?_
    refine XS.iload X26.here hx rfl (hb hby at_119) rfl ?_
    refine XS.iconst X26.here hx rfl (hb hby at_121) ?_
    show Steps _ _ _ (T26.setTop (mkF m 122 (L0_7 p0 q1 p2 p3 p4 p5 b1 m1 m2 hh) [(.int 1), (.int p4)])) _
    refine XS.iload X26.here hx rfl (hb hby at_122) rfl ?_
    refine XS.ishl X26.here hx rfl (hb hby at_124) rfl ?_
    refine XS.iconst X26.here hx rfl (hb hby at_125) ?_
    show Steps _ _ _ (T26.setTop (mkF m 126 (L0_7 p0 q1 p2 p3 p4 p5 b1 m1 m2 hh) [(.int 1), (.int ((1 : Int32) <<< (hh &&& 31))), (.int p4)])) _
    refine XS.isub X26.here hx rfl (hb hby at_126) rfl ?_
    refine XS.iand X26.here hx rfl (hb hby at_127) rfl ?_
    refine XS.istore X26.here hx rfl (hb hby at_128) rfl (l' := (L0_8 p0 q1 p2 p3 p4 p5 b1 m1 m2 hh)) rfl ?_
    show Steps _ _ _ (T26.setTop (mkF m 130 (L0_8 p0 q1 p2 p3 p4 p5 b1 m1 m2 hh) [])) _
    refine XS.iconst X26.here hx rfl (hb hby at_130) ?_
    refine XS.iload X26.here hx rfl (hb hby at_131) rfl ?_
    refine XS.ishl X26.here hx rfl (hb hby at_133) rfl ?_
    show Steps _ _ _ (T26.setTop (mkF m 134 (L0_8 p0 q1 p2 p3 p4 p5 b1 m1 m2 hh) [(.int ((1 : Int32) <<< (hh &&& 31)))])) _
    refine XS.iload X26.here hx rfl (hb hby at_134) rfl ?_
    refine XS.ior X26.here hx rfl (hb hby at_136) rfl ?_
    refine XS.istore X26.here hx rfl (hb hby at_137) rfl (l' := (L0_6 p0 q1 p2 p3 p4 p5 b1 m1 m2 hh)) rfl ?_
    show Steps _ _ _ (T26.setTop (mkF m 139 (L0_6 p0 q1 p2 p3 p4 p5 b1 m1 m2 hh) [])) _
    refine XS.aload X26.here hx rfl (hb hby at_139) rfl rfl ?_
    refine XS.iload X26.here hx rfl (hb hby at_141) rfl ?_
    exact k
  have hw32 := own_capG (0 + m1.toInt + m2.toInt) hh.toInt c23 (by omega)
  have hs32q := own_sG (0 + m1.toInt + m2.toInt) hh.toInt c23 (by omega)
  obtain ⟨_, T31, Lc31, X31, hQ31, st31⟩ := own_cv X26 hx hZ hown hml go30 (hb hby at_143) e26 (hw _ (mi 30 rfl)) (own_site289 hw) (BW.exa G23) (rmwg l Z aZ hw [] b1 (((1 : Int32) <<< (hh &&& 31)) ||| (p4 &&& (((1 : Int32) <<< (hh &&& 31)) - (1 : Int32)))) (0 + m1.toInt + m2.toInt) c23 hh (sG (0 + m1.toInt + m2.toInt) hh.toInt c23) T23.heap n0 Zs23 G23 (by omega) (by omega) (by omega) (own_gamma hh p4 hha hhb).1 (own_gamma hh p4 hha hhb).2 (by omega)) (by decide) (argsL := [(.int (((1 : Int32) <<< (hh &&& 31)) ||| (p4 &&& (((1 : Int32) <<< (hh &&& 31)) - (1 : Int32)))))]) (rest := []) rfl rfl rfl (lenOf pd_238 rfl) (W := 0) rfl (Nat.le_of_ble_eq_true rfl) (Nat.le_of_ble_eq_true rfl) (Nat.le_of_ble_eq_true rfl) (by show 0 + 4 + 15 + 0 + (sW 0 m1.toInt c0) + 0 + (sW (0 + m1.toInt) m2.toInt c17) + 0 + (sG (0 + m1.toInt + m2.toInt) hh.toInt c23) ≤ 320; omega)
  obtain ⟨rfl, N31q, zq31, G31⟩ := hQ31
  have N31 := Fr.app N26 N31q
  have Zs31 : n0 ≤ T31.heap.size := Nat.le_trans Zs23 zq31
  have Zh31 : h0.size ≤ T31.heap.size := Nat.le_trans Zh23 zq31
  obtain ⟨c31, hc31⟩ : ∃ x, x = capG (0 + m1.toInt + m2.toInt) hh.toInt c23 := ⟨_, rfl⟩
  rw [← hc31] at G31 hw32 hs32q
  have hbd31 : c23 ≤ c31 ∧ c31 ≤ 82 := by omega
  clear hw32
  have go33 : Go p.tables e below T31 (mkF m 162 (L0_9 p0 q1 p2 p3 p4 p5 b1 m1 m2 hh) [(.ref b1)]) En := by
    intro t k
    refine st31 _ ?_
    refine XS.lload X31.here hx rfl (hb hby at_146) rfl ?_
    refine X31.ldc2Long hx hown (mvT hZ (hw _ (mi 45 rfl))) (g := (mkF m 148 (L0_6 p0 q1 p2 p3 p4 p5 b1 m1 m2 hh) [(.long (m1.toInt64 + m2.toInt64))])) rfl (hb hby at_148) _ ?_
    refine XS.iload X31.here hx rfl (hb hby at_151) rfl ?_
    show Steps _ _ _ (T31.setTop (mkF m 153 (L0_6 p0 q1 p2 p3 p4 p5 b1 m1 m2 hh) [(.int hh), (.long 2), (.long (m1.toInt64 + m2.toInt64))])) _
    refine XS.i2l X31.here hx rfl (hb hby at_153) rfl ?_
    refine XS.lmul X31.here hx rfl (hb hby at_154) rfl ?_
    refine XS.lconst X31.here hx rfl (hb hby at_155) ?_
    show Steps _ _ _ (T31.setTop (mkF m 156 (L0_6 p0 q1 p2 p3 p4 p5 b1 m1 m2 hh) [(.long 1), (.long ((2 : Int64) * hh.toInt64)), (.long (m1.toInt64 + m2.toInt64))])) _
    refine XS.ladd X31.here hx rfl (hb hby at_156) rfl ?_
    refine XS.ladd X31.here hx rfl (hb hby at_157) rfl ?_
    refine XS.lstore X31.here hx rfl (hb hby at_158) rfl (l' := (L0_9 p0 q1 p2 p3 p4 p5 b1 m1 m2 hh)) rfl ?_
    show Steps _ _ _ (T31.setTop (mkF m 160 (L0_9 p0 q1 p2 p3 p4 p5 b1 m1 m2 hh) [])) _
    refine XS.aload X31.here hx rfl (hb hby at_160) rfl rfl ?_
    exact k
  obtain ⟨_, T34, Lc34, X34, hQ34, st34⟩ := own_cv X31 hx hZ hown hml go33 (hb hby at_162) rfl (hw _ (mi 12 rfl)) (own_site287 hw) (BW.exa G31) (rmbi l Z aZ hw [] b1 (0 + m1.toInt + m2.toInt + hh.toInt + (hh.toInt + 1)) c31 T31.heap n0 Zs31 G31) (by decide) (argsL := []) (rest := []) rfl rfl rfl (lenOf pd_288 rfl) (W := 0) rfl (Nat.le_of_ble_eq_true rfl) (Nat.le_of_ble_eq_true rfl) (Nat.le_of_ble_eq_true rfl) (by show 0 + 4 + 15 + 0 + (sW 0 m1.toInt c0) + 0 + (sW (0 + m1.toInt) m2.toInt c17) + 0 + (sG (0 + m1.toInt + m2.toInt) hh.toInt c23) + 0 ≤ 320; omega)
  obtain ⟨r34, rfl, hr34, N34q, e34⟩ := hQ34
  have N34 := Fr.app N31 N34q
  have hE35 : r34 = ((m1.toInt64 + m2.toInt64) + (((2 : Int64) * hh.toInt64) + (1 : Int64))) := by
    rw [← Int64.toInt_inj]
    have := rng64 r34
    have := c_i2l m1
    have := rng32 m1
    have := c_i2l m2
    have := rng32 m2
    have := rng64 (m1.toInt64 + m2.toInt64)
    have := c_ladd m1.toInt64 m2.toInt64
    have : (2 : Int64).toInt = 2 := rfl
    have := c_i2l hh
    have := rng32 hh
    have := rng64 ((2 : Int64) * hh.toInt64)
    have := own_lmul2 hh.toInt64
    have : (1 : Int64).toInt = 1 := rfl
    have := rng64 (((2 : Int64) * hh.toInt64) + (1 : Int64))
    have := c_ladd ((2 : Int64) * hh.toInt64) (1 : Int64)
    have := rng64 ((m1.toInt64 + m2.toInt64) + (((2 : Int64) * hh.toInt64) + (1 : Int64)))
    have := c_ladd (m1.toInt64 + m2.toInt64) (((2 : Int64) * hh.toInt64) + (1 : Int64))
    omega
  have go36 : Go p.tables e below T34 (mkF m 178 (L0_9 p0 q1 p2 p3 p4 p5 b1 m1 m2 hh) [(.int (p5 &&& (127 : Int32)))]) En := by
    intro t k
    refine st34 _ ?_
    refine XS.lload X34.here hx rfl (hb hby at_165) rfl ?_
    refine XT.lcmp X34.here hx rfl (hb hby at_167) rfl ?_
    refine XS.ifYes X34.here hx rfl (pc0 := 168) (pc' := 173) rfl (hb hby at_168) rfl (XT.ll_eq_t hE35) (by decide) (by decide) ?_
    show Steps _ _ _ (T34.setTop (mkF m 173 (L0_9 p0 q1 p2 p3 p4 p5 b1 m1 m2 hh) [])) _
    refine XS.iload X34.here hx rfl (hb hby at_173) rfl ?_
    refine XS.bipush X34.here hx rfl (hb hby at_175) ?_
    refine XS.iand X34.here hx rfl (hb hby at_177) rfl ?_
    show Steps _ _ _ (T34.setTop (mkF m 178 (L0_9 p0 q1 p2 p3 p4 p5 b1 m1 m2 hh) [(.int (p5 &&& (127 : Int32)))])) _
    exact k
  obtain ⟨qq, e_qq, qqa, qqb⟩ : ∃ x : Int32, x = (p5 &&& (127 : Int32)) ∧ 0 ≤ x.toInt ∧ x.toInt ≤ 127 := by
    have hq := c_mask p5 (127 : Int32) 7 (by decide) (by decide)
    exact ⟨_, rfl, by omega, by omega⟩
  have go37 : Go p.tables e below T34 (mkF m 178 (L0_9 p0 q1 p2 p3 p4 p5 b1 m1 m2 hh) [(.int qq)]) En := by
    have q := go36
    rw [← e_qq] at q
    exact q
  have go38 : Go p.tables e below T34 (mkF m 191 (L0_10 p0 q1 p2 p3 p4 p5 b1 m1 m2 hh qq) [(.int ((((p5.toUInt32 >>> ((7 : Int32) &&& 31).toUInt32).toInt32) &&& (31 : Int32)) % (17 : Int32)))]) En := by
    intro t k
    refine go37 _ ?_
    refine XS.istore X34.here hx rfl (hb hby at_178) rfl (l' := (L0_10 p0 q1 p2 p3 p4 p5 b1 m1 m2 hh qq)) rfl ?_
    refine XS.iload X34.here hx rfl (hb hby at_180) rfl ?_
    refine XS.bipush X34.here hx rfl (hb hby at_182) ?_
    show Steps _ _ _ (T34.setTop (mkF m 184 (L0_10 p0 q1 p2 p3 p4 p5 b1 m1 m2 hh qq) [(.int 7), (.int p5)])) _
    refine XS.iushr X34.here hx rfl (hb hby at_184) rfl ?_
    refine XS.bipush X34.here hx rfl (hb hby at_185) ?_
    refine XS.iand X34.here hx rfl (hb hby at_187) rfl ?_
    show Steps _ _ _ (T34.setTop (mkF m 188 (L0_10 p0 q1 p2 p3 p4 p5 b1 m1 m2 hh qq) [(.int (((p5.toUInt32 >>> ((7 : Int32) &&& 31).toUInt32).toInt32) &&& (31 : Int32)))])) _
    refine XS.bipush X34.here hx rfl (hb hby at_188) ?_
    refine iremM X34 hx rfl (hb hby at_190) rfl (by decide) ?_
    exact k
  obtain ⟨kk, e_kk, kka, kkb⟩ : ∃ x : Int32, x = ((((p5.toUInt32 >>> ((7 : Int32) &&& 31).toUInt32).toInt32) &&& (31 : Int32)) % (17 : Int32)) ∧ 0 ≤ x.toInt ∧ x.toInt ≤ 16 := by
    have hq := c_mask ((p5.toUInt32 >>> ((7 : Int32) &&& 31).toUInt32).toInt32) (31 : Int32) 5 (by decide) (by decide)
    have hr := (c_irem (((p5.toUInt32 >>> ((7 : Int32) &&& 31).toUInt32).toInt32) &&& (31 : Int32)) (17 : Int32) 17 rfl).1 (by omega)
    exact ⟨_, rfl, by omega, by omega⟩
  have go39 : Go p.tables e below T34 (mkF m 191 (L0_10 p0 q1 p2 p3 p4 p5 b1 m1 m2 hh qq) [(.int kk)]) En := by
    have q := go38
    rw [← e_kk] at q
    exact q
  have go40 : Go p.tables e below T34 (mkF m 221 (L0_11 p0 q1 p2 p3 p4 p5 b1 m1 m2 hh qq kk) [(.int kk), (.int (((qq <<< (kk &&& 31)) + (((p4.toUInt32 >>> ((15 : Int32) &&& 31).toUInt32).toInt32) &&& (((1 : Int32) <<< (kk &&& 31)) - (1 : Int32)))) + (1 : Int32))), (.ref b1)]) En := by
    intro t k
    refine go39 _ ?_
    refine XS.istore X34.here hx rfl (hb hby at_191) rfl (l' := (L0_12 p0 q1 p2 p3 p4 p5 b1 m1 m2 hh qq kk)) rfl ?_
    refine XS.iload X34.here hx rfl (hb hby at_193) rfl ?_
    refine XS.bipush X34.here hx rfl (hb hby at_195) ?_
    show Steps _ _ _ (T34.setTop (mkF m 197 (L0_12 p0 q1 p2 p3 p4 p5 b1 m1 m2 hh qq kk) [(.int 15), (.int p4)])) _
    refine XS.iushr X34.here hx rfl (hb hby at_197) rfl ?_
    refine XS.iconst X34.here hx rfl (hb hby at_198) ?_
    refine XS.iload X34.here hx rfl (hb hby at_199) rfl ?_
    show Steps _ _ _ (T34.setTop (mkF m 201 (L0_12 p0 q1 p2 p3 p4 p5 b1 m1 m2 hh qq kk) [(.int kk), (.int 1), (.int ((p4.toUInt32 >>> ((15 : Int32) &&& 31).toUInt32).toInt32))])) _
    refine XS.ishl X34.here hx rfl (hb hby at_201) rfl ?_
    refine XS.iconst X34.here hx rfl (hb hby at_202) ?_
    refine XS.isub X34.here hx rfl (hb hby at_203) rfl ?_
    show Steps _ _ _ (T34.setTop (mkF m 204 (L0_12 p0 q1 p2 p3 p4 p5 b1 m1 m2 hh qq kk) [(.int (((1 : Int32) <<< (kk &&& 31)) - (1 : Int32))), (.int ((p4.toUInt32 >>> ((15 : Int32) &&& 31).toUInt32).toInt32))])) _
    refine XS.iand X34.here hx rfl (hb hby at_204) rfl ?_
    refine XS.istore X34.here hx rfl (hb hby at_205) rfl (l' := (L0_11 p0 q1 p2 p3 p4 p5 b1 m1 m2 hh qq kk)) rfl ?_
    refine XS.aload X34.here hx rfl (hb hby at_207) rfl rfl ?_
    show Steps _ _ _ (T34.setTop (mkF m 209 (L0_11 p0 q1 p2 p3 p4 p5 b1 m1 m2 hh qq kk) [(.ref b1)])) _
    refine XS.iload X34.here hx rfl (hb hby at_209) rfl ?_
    refine XS.iload X34.here hx rfl (hb hby at_211) rfl ?_
    refine XS.ishl X34.here hx rfl (hb hby at_213) rfl ?_
    show Steps _ _ _ (T34.setTop (mkF m 214 (L0_11 p0 q1 p2 p3 p4 p5 b1 m1 m2 hh qq kk) [(.int (qq <<< (kk &&& 31))), (.ref b1)])) _
    refine XS.iload X34.here hx rfl (hb hby at_214) rfl ?_
    refine XS.iadd X34.here hx rfl (hb hby at_216) rfl ?_
    refine XS.iconst X34.here hx rfl (hb hby at_217) ?_
    show Steps _ _ _ (T34.setTop (mkF m 218 (L0_11 p0 q1 p2 p3 p4 p5 b1 m1 m2 hh qq kk) [(.int 1), (.int ((qq <<< (kk &&& 31)) + (((p4.toUInt32 >>> ((15 : Int32) &&& 31).toUInt32).toInt32) &&& (((1 : Int32) <<< (kk &&& 31)) - (1 : Int32))))), (.ref b1)])) _
    refine XS.iadd X34.here hx rfl (hb hby at_218) rfl ?_
    refine XS.iload X34.here hx rfl (hb hby at_219) rfl ?_
    exact k
  have hw42 := own_capR (0 + m1.toInt + m2.toInt + hh.toInt + (hh.toInt + 1)) qq.toInt kk.toInt c31 (by omega)
  have hs42q := own_sR (0 + m1.toInt + m2.toInt + hh.toInt + (hh.toInt + 1)) qq.toInt kk.toInt c31 (by omega)
  obtain ⟨_, T41, Lc41, X41, hQ41, st41⟩ := own_cv X34 hx hZ hown hml go40 (hb hby at_221) e34 (hw _ (mi 46 rfl)) (own_site290 hw) (BW.exa G31) (rmwr l Z aZ hw [] b1 (((qq <<< (kk &&& 31)) + (((p4.toUInt32 >>> ((15 : Int32) &&& 31).toUInt32).toInt32) &&& (((1 : Int32) <<< (kk &&& 31)) - (1 : Int32)))) + (1 : Int32)) kk (0 + m1.toInt + m2.toInt + hh.toInt + (hh.toInt + 1)) c31 qq (sR (0 + m1.toInt + m2.toInt + hh.toInt + (hh.toInt + 1)) qq.toInt kk.toInt c31) T31.heap n0 Zs31 G31 (by omega) (by omega) (by omega) (by omega) (by omega) (own_rice qq kk _ qqa qqb kka kkb) (by omega)) (by decide) (argsL := [(.int (((qq <<< (kk &&& 31)) + (((p4.toUInt32 >>> ((15 : Int32) &&& 31).toUInt32).toInt32) &&& (((1 : Int32) <<< (kk &&& 31)) - (1 : Int32)))) + (1 : Int32))), (.int kk)]) (rest := []) rfl rfl rfl (lenOf pd_291 rfl) (W := 0) rfl (Nat.le_of_ble_eq_true rfl) (Nat.le_of_ble_eq_true rfl) (Nat.le_of_ble_eq_true rfl) (by show 0 + 4 + 15 + 0 + (sW 0 m1.toInt c0) + 0 + (sW (0 + m1.toInt) m2.toInt c17) + 0 + (sG (0 + m1.toInt + m2.toInt) hh.toInt c23) + 0 + (sR (0 + m1.toInt + m2.toInt + hh.toInt + (hh.toInt + 1)) qq.toInt kk.toInt c31) ≤ 320; omega)
  obtain ⟨rfl, N41q, zq41, G41⟩ := hQ41
  have N41 := Fr.app N34 N41q
  have Zs41 : n0 ≤ T41.heap.size := Nat.le_trans Zs31 zq41
  have Zh41 : h0.size ≤ T41.heap.size := Nat.le_trans Zh31 zq41
  obtain ⟨c41, hc41⟩ : ∃ x, x = capR (0 + m1.toInt + m2.toInt + hh.toInt + (hh.toInt + 1)) qq.toInt kk.toInt c31 := ⟨_, rfl⟩
  rw [← hc41] at G41 hw42 hs42q
  have hbd41 : c31 ≤ c41 ∧ c41 ≤ 82 := by omega
  clear hw42
  have go43 : Go p.tables e below T41 (mkF m 240 (L0_13 p0 q1 p2 p3 p4 p5 b1 m1 m2 hh qq kk) [(.ref b1)]) En := by
    intro t k
    refine st41 _ ?_
    refine XS.lload X41.here hx rfl (hb hby at_224) rfl ?_
    refine XS.iload X41.here hx rfl (hb hby at_226) rfl ?_
    refine XS.i2l X41.here hx rfl (hb hby at_228) rfl ?_
    show Steps _ _ _ (T41.setTop (mkF m 229 (L0_11 p0 q1 p2 p3 p4 p5 b1 m1 m2 hh qq kk) [(.long qq.toInt64), (.long ((m1.toInt64 + m2.toInt64) + (((2 : Int64) * hh.toInt64) + (1 : Int64))))])) _
    refine XS.lconst X41.here hx rfl (hb hby at_229) ?_
    refine XS.ladd X41.here hx rfl (hb hby at_230) rfl ?_
    refine XS.iload X41.here hx rfl (hb hby at_231) rfl ?_
    show Steps _ _ _ (T41.setTop (mkF m 233 (L0_11 p0 q1 p2 p3 p4 p5 b1 m1 m2 hh qq kk) [(.int kk), (.long (qq.toInt64 + (1 : Int64))), (.long ((m1.toInt64 + m2.toInt64) + (((2 : Int64) * hh.toInt64) + (1 : Int64))))])) _
    refine XS.i2l X41.here hx rfl (hb hby at_233) rfl ?_
    refine XS.ladd X41.here hx rfl (hb hby at_234) rfl ?_
    refine XS.ladd X41.here hx rfl (hb hby at_235) rfl ?_
    show Steps _ _ _ (T41.setTop (mkF m 236 (L0_11 p0 q1 p2 p3 p4 p5 b1 m1 m2 hh qq kk) [(.long (((m1.toInt64 + m2.toInt64) + (((2 : Int64) * hh.toInt64) + (1 : Int64))) + ((qq.toInt64 + (1 : Int64)) + kk.toInt64)))])) _
    refine XS.lstore X41.here hx rfl (hb hby at_236) rfl (l' := (L0_13 p0 q1 p2 p3 p4 p5 b1 m1 m2 hh qq kk)) rfl ?_
    refine XS.aload X41.here hx rfl (hb hby at_238) rfl rfl ?_
    exact k
  obtain ⟨_, T44, Lc44, X44, hQ44, st44⟩ := own_cv X41 hx hZ hown hml go43 (hb hby at_240) rfl (hw _ (mi 12 rfl)) (own_site287 hw) (BW.exa G41) (rmbi l Z aZ hw [] b1 (0 + m1.toInt + m2.toInt + hh.toInt + (hh.toInt + 1) + qq.toInt + 1 + kk.toInt) c41 T41.heap n0 Zs41 G41) (by decide) (argsL := []) (rest := []) rfl rfl rfl (lenOf pd_288 rfl) (W := 0) rfl (Nat.le_of_ble_eq_true rfl) (Nat.le_of_ble_eq_true rfl) (Nat.le_of_ble_eq_true rfl) (by show 0 + 4 + 15 + 0 + (sW 0 m1.toInt c0) + 0 + (sW (0 + m1.toInt) m2.toInt c17) + 0 + (sG (0 + m1.toInt + m2.toInt) hh.toInt c23) + 0 + (sR (0 + m1.toInt + m2.toInt + hh.toInt + (hh.toInt + 1)) qq.toInt kk.toInt c31) + 0 ≤ 320; omega)
  obtain ⟨r44, rfl, hr44, N44q, e44⟩ := hQ44
  have N44 := Fr.app N41 N44q
  have hE45 : r44 = (((m1.toInt64 + m2.toInt64) + (((2 : Int64) * hh.toInt64) + (1 : Int64))) + ((qq.toInt64 + (1 : Int64)) + kk.toInt64)) := by
    rw [← Int64.toInt_inj]
    have := rng64 r44
    have := c_i2l m1
    have := rng32 m1
    have := c_i2l m2
    have := rng32 m2
    have := rng64 (m1.toInt64 + m2.toInt64)
    have := c_ladd m1.toInt64 m2.toInt64
    have : (2 : Int64).toInt = 2 := rfl
    have := c_i2l hh
    have := rng32 hh
    have := rng64 ((2 : Int64) * hh.toInt64)
    have := own_lmul2 hh.toInt64
    have : (1 : Int64).toInt = 1 := rfl
    have := rng64 (((2 : Int64) * hh.toInt64) + (1 : Int64))
    have := c_ladd ((2 : Int64) * hh.toInt64) (1 : Int64)
    have := rng64 ((m1.toInt64 + m2.toInt64) + (((2 : Int64) * hh.toInt64) + (1 : Int64)))
    have := c_ladd (m1.toInt64 + m2.toInt64) (((2 : Int64) * hh.toInt64) + (1 : Int64))
    have := c_i2l qq
    have := rng32 qq
    have := rng64 (qq.toInt64 + (1 : Int64))
    have := c_ladd qq.toInt64 (1 : Int64)
    have := c_i2l kk
    have := rng32 kk
    have := rng64 ((qq.toInt64 + (1 : Int64)) + kk.toInt64)
    have := c_ladd (qq.toInt64 + (1 : Int64)) kk.toInt64
    have := rng64 (((m1.toInt64 + m2.toInt64) + (((2 : Int64) * hh.toInt64) + (1 : Int64))) + ((qq.toInt64 + (1 : Int64)) + kk.toInt64))
    have := c_ladd ((m1.toInt64 + m2.toInt64) + (((2 : Int64) * hh.toInt64) + (1 : Int64))) ((qq.toInt64 + (1 : Int64)) + kk.toInt64)
    omega
  have go46 : Go p.tables e below T44 (mkF m 262 (L0_14 p0 q1 p2 p3 p4 p5 b1 m1 m2 hh qq kk r44) [(.ref b1), (.long 8), (.long r44)]) En := by
    intro t k
    refine st44 _ ?_
    refine XS.lstore X44.here hx rfl (hb hby at_243) rfl (l' := (L0_14 p0 q1 p2 p3 p4 p5 b1 m1 m2 hh qq kk r44)) rfl ?_
    refine XS.lload X44.here hx rfl (hb hby at_245) rfl ?_
    refine XS.lload X44.here hx rfl (hb hby at_247) rfl ?_
    show Steps _ _ _ (T44.setTop (mkF m 249 (L0_14 p0 q1 p2 p3 p4 p5 b1 m1 m2 hh qq kk r44) [(.long (((m1.toInt64 + m2.toInt64) + (((2 : Int64) * hh.toInt64) + (1 : Int64))) + ((qq.toInt64 + (1 : Int64)) + kk.toInt64))), (.long r44)])) _
    refine XT.lcmp X44.here hx rfl (hb hby at_249) rfl ?_
    refine XS.ifYes X44.here hx rfl (pc0 := 250) (pc' := 255) rfl (hb hby at_250) rfl (XT.ll_eq_t hE45) (by decide) (by decide) ?_
    refine XS.lload X44.here hx rfl (hb hby at_255) rfl ?_
    show Steps _ _ _ (T44.setTop (mkF m 257 (L0_14 p0 q1 p2 p3 p4 p5 b1 m1 m2 hh qq kk r44) [(.long r44)])) _
    refine X44.ldc2Long hx hown (mvT hZ (hw _ (mi 51 rfl))) (g := (mkF m 257 (L0_14 p0 q1 p2 p3 p4 p5 b1 m1 m2 hh qq kk r44) [(.long r44)])) rfl (hb hby at_257) _ ?_
    refine XS.aload X44.here hx rfl (hb hby at_260) rfl rfl ?_
    exact k
  obtain ⟨_, T47, Lc47, X47, hQ47, st47⟩ := own_cv X44 hx hZ hown hml go46 (hb hby at_262) e44 (hw _ (mi 52 rfl)) (own_site292 hw) (BW.exa G41) (rmle l Z aZ hw [] b1 (0 + m1.toInt + m2.toInt + hh.toInt + (hh.toInt + 1) + qq.toInt + 1 + kk.toInt) c41 T41.heap n0 Zs41 G41) (by decide) (argsL := []) (rest := [(.long 8), (.long r44)]) rfl rfl rfl (lenOf pd_293 rfl) (W := 4) rfl (Nat.le_of_ble_eq_true rfl) (Nat.le_of_ble_eq_true rfl) (Nat.le_of_ble_eq_true rfl) (by show 0 + 4 + 15 + 0 + (sW 0 m1.toInt c0) + 0 + (sW (0 + m1.toInt) m2.toInt c17) + 0 + (sG (0 + m1.toInt + m2.toInt) hh.toInt c23) + 0 + (sR (0 + m1.toInt + m2.toInt + hh.toInt + (hh.toInt + 1)) qq.toInt kk.toInt c31) + 0 + 0 ≤ 320; omega)
  obtain ⟨il47, rfl, hr47, N47q, e47⟩ := hQ47
  have N47 := Fr.app N44 N47q
  have hE48 : ¬ (r44 - ((8 : Int64) * il47.toInt64)) < (0 : Int64) := by
    rw [Int64.lt_iff_toInt_lt]
    have := rng64 r44
    have : (8 : Int64).toInt = 8 := rfl
    have := c_i2l il47
    have := rng32 il47
    have := rng64 ((8 : Int64) * il47.toInt64)
    have := own_lmul8 il47.toInt64
    have := rng64 (r44 - ((8 : Int64) * il47.toInt64))
    have := c_lsub r44 ((8 : Int64) * il47.toInt64)
    have : (0 : Int64).toInt = 0 := rfl
    omega
  have hE49 : ¬ (7 : Int64) < (r44 - ((8 : Int64) * il47.toInt64)) := by
    rw [Int64.lt_iff_toInt_lt]
    have : (7 : Int64).toInt = 7 := rfl
    have := rng64 r44
    have : (8 : Int64).toInt = 8 := rfl
    have := c_i2l il47
    have := rng32 il47
    have := rng64 ((8 : Int64) * il47.toInt64)
    have := own_lmul8 il47.toInt64
    have := rng64 (r44 - ((8 : Int64) * il47.toInt64))
    have := c_lsub r44 ((8 : Int64) * il47.toInt64)
    omega
  have go50 : Go p.tables e below T47 (mkF m 290 (L0_15 p0 q1 p2 p3 p4 p5 b1 m1 m2 hh qq kk r44 il47) [(.ref b1)]) En := by
    intro t k
    refine st47 _ ?_
    refine XS.i2l X47.here hx rfl (hb hby at_265) rfl ?_
    refine XS.lmul X47.here hx rfl (hb hby at_266) rfl ?_
    refine XS.lsub X47.here hx rfl (hb hby at_267) rfl ?_
    show Steps _ _ _ (T47.setTop (mkF m 268 (L0_14 p0 q1 p2 p3 p4 p5 b1 m1 m2 hh qq kk r44) [(.long (r44 - ((8 : Int64) * il47.toInt64)))])) _
    refine XS.lstore X47.here hx rfl (hb hby at_268) rfl (l' := (L0_15 p0 q1 p2 p3 p4 p5 b1 m1 m2 hh qq kk r44 il47)) rfl ?_
    refine XS.lload X47.here hx rfl (hb hby at_270) rfl ?_
    refine XS.lconst X47.here hx rfl (hb hby at_272) ?_
    show Steps _ _ _ (T47.setTop (mkF m 273 (L0_15 p0 q1 p2 p3 p4 p5 b1 m1 m2 hh qq kk r44 il47) [(.long 0), (.long (r44 - ((8 : Int64) * il47.toInt64)))])) _
    refine XT.lcmp X47.here hx rfl (hb hby at_273) rfl ?_
    refine XS.ifNo X47.here hx rfl (hb hby at_274) rfl (XT.ll_lt_f hE48) ?_
    refine XS.lload X47.here hx rfl (hb hby at_277) rfl ?_
    show Steps _ _ _ (T47.setTop (mkF m 279 (L0_15 p0 q1 p2 p3 p4 p5 b1 m1 m2 hh qq kk r44 il47) [(.long (r44 - ((8 : Int64) * il47.toInt64)))])) _
    refine X47.ldc2Long hx hown (mvT hZ (hw _ (mi 57 rfl))) (g := (mkF m 279 (L0_15 p0 q1 p2 p3 p4 p5 b1 m1 m2 hh qq kk r44 il47) [(.long (r44 - ((8 : Int64) * il47.toInt64)))])) rfl (hb hby at_279) _ ?_
    refine XT.lcmp X47.here hx rfl (hb hby at_282) rfl ?_
    refine XS.ifYes X47.here hx rfl (pc0 := 283) (pc' := 288) rfl (hb hby at_283) rfl (XT.ll_le_t hE49) (by decide) (by decide) ?_
    show Steps _ _ _ (T47.setTop (mkF m 288 (L0_15 p0 q1 p2 p3 p4 p5 b1 m1 m2 hh qq kk r44 il47) [])) _
    refine XS.aload X47.here hx rfl (hb hby at_288) rfl rfl ?_
    exact k
  have hw52 := own_cap (0 + m1.toInt + m2.toInt + hh.toInt + (hh.toInt + 1) + qq.toInt + 1 + kk.toInt) ((8 * (((0 + m1.toInt + m2.toInt + hh.toInt + (hh.toInt + 1) + qq.toInt + 1 + kk.toInt) + 7) / 8) - (0 + m1.toInt + m2.toInt + hh.toInt + (hh.toInt + 1) + qq.toInt + 1 + kk.toInt))) c41 (by omega)
  have hs52q := own_sW (0 + m1.toInt + m2.toInt + hh.toInt + (hh.toInt + 1) + qq.toInt + 1 + kk.toInt) ((8 * (((0 + m1.toInt + m2.toInt + hh.toInt + (hh.toInt + 1) + qq.toInt + 1 + kk.toInt) + 7) / 8) - (0 + m1.toInt + m2.toInt + hh.toInt + (hh.toInt + 1) + qq.toInt + 1 + kk.toInt))) c41 (by omega)
  obtain ⟨_, T51, Lc51, X51, hQ51, st51⟩ := own_cv X47 hx hZ hown hml go50 (hb hby at_290) e47 (hw _ (mi 58 rfl)) (own_site294 hw) (BW.exa G41) (rmpd l Z aZ hw [] b1 (0 + m1.toInt + m2.toInt + hh.toInt + (hh.toInt + 1) + qq.toInt + 1 + kk.toInt) c41 (sW (0 + m1.toInt + m2.toInt + hh.toInt + (hh.toInt + 1) + qq.toInt + 1 + kk.toInt) ((8 * (((0 + m1.toInt + m2.toInt + hh.toInt + (hh.toInt + 1) + qq.toInt + 1 + kk.toInt) + 7) / 8) - (0 + m1.toInt + m2.toInt + hh.toInt + (hh.toInt + 1) + qq.toInt + 1 + kk.toInt))) c41) T41.heap n0 Zs41 G41 (by omega) (by omega)) (by decide) (argsL := []) (rest := []) rfl rfl rfl (lenOf pd_295 rfl) (W := 0) rfl (Nat.le_of_ble_eq_true rfl) (Nat.le_of_ble_eq_true rfl) (Nat.le_of_ble_eq_true rfl) (by show 0 + 4 + 15 + 0 + (sW 0 m1.toInt c0) + 0 + (sW (0 + m1.toInt) m2.toInt c17) + 0 + (sG (0 + m1.toInt + m2.toInt) hh.toInt c23) + 0 + (sR (0 + m1.toInt + m2.toInt + hh.toInt + (hh.toInt + 1)) qq.toInt kk.toInt c31) + 0 + 0 + (sW (0 + m1.toInt + m2.toInt + hh.toInt + (hh.toInt + 1) + qq.toInt + 1 + kk.toInt) ((8 * (((0 + m1.toInt + m2.toInt + hh.toInt + (hh.toInt + 1) + qq.toInt + 1 + kk.toInt) + 7) / 8) - (0 + m1.toInt + m2.toInt + hh.toInt + (hh.toInt + 1) + qq.toInt + 1 + kk.toInt))) c41) ≤ 320; omega)
  obtain ⟨rfl, N51q, zq51, G51⟩ := hQ51
  have N51 := Fr.app N47 N51q
  have Zs51 : n0 ≤ T51.heap.size := Nat.le_trans Zs41 zq51
  have Zh51 : h0.size ≤ T51.heap.size := Nat.le_trans Zh41 zq51
  obtain ⟨c51, hc51⟩ : ∃ x, x = capW (0 + m1.toInt + m2.toInt + hh.toInt + (hh.toInt + 1) + qq.toInt + 1 + kk.toInt) ((8 * (((0 + m1.toInt + m2.toInt + hh.toInt + (hh.toInt + 1) + qq.toInt + 1 + kk.toInt) + 7) / 8) - (0 + m1.toInt + m2.toInt + hh.toInt + (hh.toInt + 1) + qq.toInt + 1 + kk.toInt))) c41 := ⟨_, rfl⟩
  rw [← hc51] at G51 hw52 hs52q
  have hbd51 : c41 ≤ c51 ∧ c51 ≤ 82 := by omega
  clear hw52
  have go53 : Go p.tables e below T51 (mkF m 311 (L0_16 p0 q1 p2 p3 p4 p5 b1 m1 m2 hh qq kk r44 il47) [(.ref b1)]) En := by
    intro t k
    refine st51 _ ?_
    refine XS.lload X51.here hx rfl (hb hby at_293) rfl ?_
    refine X51.ldc2Long hx hown (mvT hZ (hw _ (mi 57 rfl))) (g := (mkF m 295 (L0_15 p0 q1 p2 p3 p4 p5 b1 m1 m2 hh qq kk r44 il47) [(.long (((m1.toInt64 + m2.toInt64) + (((2 : Int64) * hh.toInt64) + (1 : Int64))) + ((qq.toInt64 + (1 : Int64)) + kk.toInt64)))])) rfl (hb hby at_295) _ ?_
    refine XS.ladd X51.here hx rfl (hb hby at_298) rfl ?_
    show Steps _ _ _ (T51.setTop (mkF m 299 (L0_15 p0 q1 p2 p3 p4 p5 b1 m1 m2 hh qq kk r44 il47) [(.long ((((m1.toInt64 + m2.toInt64) + (((2 : Int64) * hh.toInt64) + (1 : Int64))) + ((qq.toInt64 + (1 : Int64)) + kk.toInt64)) + (7 : Int64)))])) _
    refine X51.ldc2Long hx hown (mvT hZ (hw _ (mi 51 rfl))) (g := (mkF m 299 (L0_15 p0 q1 p2 p3 p4 p5 b1 m1 m2 hh qq kk r44 il47) [(.long ((((m1.toInt64 + m2.toInt64) + (((2 : Int64) * hh.toInt64) + (1 : Int64))) + ((qq.toInt64 + (1 : Int64)) + kk.toInt64)) + (7 : Int64)))])) rfl (hb hby at_299) _ ?_
    refine XS.ldiv X51.here hx rfl (hb hby at_302) rfl (by decide) ?_
    refine X51.ldc2Long hx hown (mvT hZ (hw _ (mi 51 rfl))) (g := (mkF m 303 (L0_15 p0 q1 p2 p3 p4 p5 b1 m1 m2 hh qq kk r44 il47) [(.long (((((m1.toInt64 + m2.toInt64) + (((2 : Int64) * hh.toInt64) + (1 : Int64))) + ((qq.toInt64 + (1 : Int64)) + kk.toInt64)) + (7 : Int64)) / (8 : Int64)))])) rfl (hb hby at_303) _ ?_
    show Steps _ _ _ (T51.setTop (mkF m 306 (L0_15 p0 q1 p2 p3 p4 p5 b1 m1 m2 hh qq kk r44 il47) [(.long 8), (.long (((((m1.toInt64 + m2.toInt64) + (((2 : Int64) * hh.toInt64) + (1 : Int64))) + ((qq.toInt64 + (1 : Int64)) + kk.toInt64)) + (7 : Int64)) / (8 : Int64)))])) _
    refine XS.lmul X51.here hx rfl (hb hby at_306) rfl ?_
    refine XS.lstore X51.here hx rfl (hb hby at_307) rfl (l' := (L0_16 p0 q1 p2 p3 p4 p5 b1 m1 m2 hh qq kk r44 il47)) rfl ?_
    refine XS.aload X51.here hx rfl (hb hby at_309) rfl rfl ?_
    show Steps _ _ _ (T51.setTop (mkF m 311 (L0_16 p0 q1 p2 p3 p4 p5 b1 m1 m2 hh qq kk r44 il47) [(.ref b1)])) _
    exact k
  obtain ⟨_, T54, Lc54, X54, hQ54, st54⟩ := own_cv X51 hx hZ hown hml go53 (hb hby at_311) rfl (hw _ (mi 12 rfl)) (own_site287 hw) (BW.exa G51) (rmbi l Z aZ hw [] b1 (8 * (((0 + m1.toInt + m2.toInt + hh.toInt + (hh.toInt + 1) + qq.toInt + 1 + kk.toInt) + 7) / 8)) c51 T51.heap n0 Zs51 G51) (by decide) (argsL := []) (rest := []) rfl rfl rfl (lenOf pd_288 rfl) (W := 0) rfl (Nat.le_of_ble_eq_true rfl) (Nat.le_of_ble_eq_true rfl) (Nat.le_of_ble_eq_true rfl) (by show 0 + 4 + 15 + 0 + (sW 0 m1.toInt c0) + 0 + (sW (0 + m1.toInt) m2.toInt c17) + 0 + (sG (0 + m1.toInt + m2.toInt) hh.toInt c23) + 0 + (sR (0 + m1.toInt + m2.toInt + hh.toInt + (hh.toInt + 1)) qq.toInt kk.toInt c31) + 0 + 0 + (sW (0 + m1.toInt + m2.toInt + hh.toInt + (hh.toInt + 1) + qq.toInt + 1 + kk.toInt) ((8 * (((0 + m1.toInt + m2.toInt + hh.toInt + (hh.toInt + 1) + qq.toInt + 1 + kk.toInt) + 7) / 8) - (0 + m1.toInt + m2.toInt + hh.toInt + (hh.toInt + 1) + qq.toInt + 1 + kk.toInt))) c41) + 0 ≤ 320; omega)
  obtain ⟨r54, rfl, hr54, N54q, e54⟩ := hQ54
  have N54 := Fr.app N51 N54q
  have hE55 : r54 = ((((((m1.toInt64 + m2.toInt64) + (((2 : Int64) * hh.toInt64) + (1 : Int64))) + ((qq.toInt64 + (1 : Int64)) + kk.toInt64)) + (7 : Int64)) / (8 : Int64)) * (8 : Int64)) := by
    rw [← Int64.toInt_inj]
    have := rng64 r54
    have := c_i2l m1
    have := rng32 m1
    have := c_i2l m2
    have := rng32 m2
    have := rng64 (m1.toInt64 + m2.toInt64)
    have := c_ladd m1.toInt64 m2.toInt64
    have : (2 : Int64).toInt = 2 := rfl
    have := c_i2l hh
    have := rng32 hh
    have := rng64 ((2 : Int64) * hh.toInt64)
    have := own_lmul2 hh.toInt64
    have : (1 : Int64).toInt = 1 := rfl
    have := rng64 (((2 : Int64) * hh.toInt64) + (1 : Int64))
    have := c_ladd ((2 : Int64) * hh.toInt64) (1 : Int64)
    have := rng64 ((m1.toInt64 + m2.toInt64) + (((2 : Int64) * hh.toInt64) + (1 : Int64)))
    have := c_ladd (m1.toInt64 + m2.toInt64) (((2 : Int64) * hh.toInt64) + (1 : Int64))
    have := c_i2l qq
    have := rng32 qq
    have := rng64 (qq.toInt64 + (1 : Int64))
    have := c_ladd qq.toInt64 (1 : Int64)
    have := c_i2l kk
    have := rng32 kk
    have := rng64 ((qq.toInt64 + (1 : Int64)) + kk.toInt64)
    have := c_ladd (qq.toInt64 + (1 : Int64)) kk.toInt64
    have := rng64 (((m1.toInt64 + m2.toInt64) + (((2 : Int64) * hh.toInt64) + (1 : Int64))) + ((qq.toInt64 + (1 : Int64)) + kk.toInt64))
    have := c_ladd ((m1.toInt64 + m2.toInt64) + (((2 : Int64) * hh.toInt64) + (1 : Int64))) ((qq.toInt64 + (1 : Int64)) + kk.toInt64)
    have : (7 : Int64).toInt = 7 := rfl
    have := rng64 ((((m1.toInt64 + m2.toInt64) + (((2 : Int64) * hh.toInt64) + (1 : Int64))) + ((qq.toInt64 + (1 : Int64)) + kk.toInt64)) + (7 : Int64))
    have := c_ladd (((m1.toInt64 + m2.toInt64) + (((2 : Int64) * hh.toInt64) + (1 : Int64))) + ((qq.toInt64 + (1 : Int64)) + kk.toInt64)) (7 : Int64)
    have : (8 : Int64).toInt = 8 := rfl
    have := rng64 (((((m1.toInt64 + m2.toInt64) + (((2 : Int64) * hh.toInt64) + (1 : Int64))) + ((qq.toInt64 + (1 : Int64)) + kk.toInt64)) + (7 : Int64)) / (8 : Int64))
    have := c_ldiv ((((m1.toInt64 + m2.toInt64) + (((2 : Int64) * hh.toInt64) + (1 : Int64))) + ((qq.toInt64 + (1 : Int64)) + kk.toInt64)) + (7 : Int64)) (8 : Int64) 8 rfl (by decide)
    have := rng64 ((((((m1.toInt64 + m2.toInt64) + (((2 : Int64) * hh.toInt64) + (1 : Int64))) + ((qq.toInt64 + (1 : Int64)) + kk.toInt64)) + (7 : Int64)) / (8 : Int64)) * (8 : Int64))
    have := own_lmul8' (((((m1.toInt64 + m2.toInt64) + (((2 : Int64) * hh.toInt64) + (1 : Int64))) + ((qq.toInt64 + (1 : Int64)) + kk.toInt64)) + (7 : Int64)) / (8 : Int64))
    omega
  have go56 : Go p.tables e below T54 (mkF m 322 (L0_16 p0 q1 p2 p3 p4 p5 b1 m1 m2 hh qq kk r44 il47) [(.ref b1)]) En := by
    intro t k
    refine st54 _ ?_
    refine XS.lload X54.here hx rfl (hb hby at_314) rfl ?_
    refine XT.lcmp X54.here hx rfl (hb hby at_316) rfl ?_
    refine XS.ifNo X54.here hx rfl (hb hby at_317) rfl (XT.ll_ne_f hE55) ?_
    show Steps _ _ _ (T54.setTop (mkF m 320 (L0_16 p0 q1 p2 p3 p4 p5 b1 m1 m2 hh qq kk r44 il47) [])) _
    refine XS.aload X54.here hx rfl (hb hby at_320) rfl rfl ?_
    exact k
  obtain ⟨_, T57, Lc57, X57, hQ57, st57⟩ := own_cv X54 hx hZ hown hml go56 (hb hby at_322) e54 (hw _ (mi 12 rfl)) (own_site287 hw) (BW.exa G51) (rmbi l Z aZ hw [] b1 (8 * (((0 + m1.toInt + m2.toInt + hh.toInt + (hh.toInt + 1) + qq.toInt + 1 + kk.toInt) + 7) / 8)) c51 T51.heap n0 Zs51 G51) (by decide) (argsL := []) (rest := []) rfl rfl rfl (lenOf pd_288 rfl) (W := 0) rfl (Nat.le_of_ble_eq_true rfl) (Nat.le_of_ble_eq_true rfl) (Nat.le_of_ble_eq_true rfl) (by show 0 + 4 + 15 + 0 + (sW 0 m1.toInt c0) + 0 + (sW (0 + m1.toInt) m2.toInt c17) + 0 + (sG (0 + m1.toInt + m2.toInt) hh.toInt c23) + 0 + (sR (0 + m1.toInt + m2.toInt + hh.toInt + (hh.toInt + 1)) qq.toInt kk.toInt c31) + 0 + 0 + (sW (0 + m1.toInt + m2.toInt + hh.toInt + (hh.toInt + 1) + qq.toInt + 1 + kk.toInt) ((8 * (((0 + m1.toInt + m2.toInt + hh.toInt + (hh.toInt + 1) + qq.toInt + 1 + kk.toInt) + 7) / 8) - (0 + m1.toInt + m2.toInt + hh.toInt + (hh.toInt + 1) + qq.toInt + 1 + kk.toInt))) c41) + 0 + 0 ≤ 320; omega)
  obtain ⟨r57, rfl, hr57, N57q, e57⟩ := hQ57
  have N57 := Fr.app N54 N57q
  have go58 : Go p.tables e below T57 (mkF m 330 (L0_16 p0 q1 p2 p3 p4 p5 b1 m1 m2 hh qq kk r44 il47) [(.ref b1), (.long 8), (.long r57)]) En := by
    intro t k
    refine st57 _ ?_
    refine X57.ldc2Long hx hown (mvT hZ (hw _ (mi 51 rfl))) (g := (mkF m 325 (L0_16 p0 q1 p2 p3 p4 p5 b1 m1 m2 hh qq kk r44 il47) [(.long r57)])) rfl (hb hby at_325) _ ?_
    refine XS.aload X57.here hx rfl (hb hby at_328) rfl rfl ?_
    exact k
  obtain ⟨_, T59, Lc59, X59, hQ59, st59⟩ := own_cv X57 hx hZ hown hml go58 (hb hby at_330) e57 (hw _ (mi 52 rfl)) (own_site292 hw) (BW.exa G51) (rmle l Z aZ hw [] b1 (8 * (((0 + m1.toInt + m2.toInt + hh.toInt + (hh.toInt + 1) + qq.toInt + 1 + kk.toInt) + 7) / 8)) c51 T51.heap n0 Zs51 G51) (by decide) (argsL := []) (rest := [(.long 8), (.long r57)]) rfl rfl rfl (lenOf pd_293 rfl) (W := 4) rfl (Nat.le_of_ble_eq_true rfl) (Nat.le_of_ble_eq_true rfl) (Nat.le_of_ble_eq_true rfl) (by show 0 + 4 + 15 + 0 + (sW 0 m1.toInt c0) + 0 + (sW (0 + m1.toInt) m2.toInt c17) + 0 + (sG (0 + m1.toInt + m2.toInt) hh.toInt c23) + 0 + (sR (0 + m1.toInt + m2.toInt + hh.toInt + (hh.toInt + 1)) qq.toInt kk.toInt c31) + 0 + 0 + (sW (0 + m1.toInt + m2.toInt + hh.toInt + (hh.toInt + 1) + qq.toInt + 1 + kk.toInt) ((8 * (((0 + m1.toInt + m2.toInt + hh.toInt + (hh.toInt + 1) + qq.toInt + 1 + kk.toInt) + 7) / 8) - (0 + m1.toInt + m2.toInt + hh.toInt + (hh.toInt + 1) + qq.toInt + 1 + kk.toInt))) c41) + 0 + 0 + 0 ≤ 320; omega)
  obtain ⟨il59, rfl, hr59, N59q, e59⟩ := hQ59
  have N59 := Fr.app N57 N59q
  have hE60 : r57 = ((8 : Int64) * il59.toInt64) := by
    rw [← Int64.toInt_inj]
    have := rng64 r57
    have : (8 : Int64).toInt = 8 := rfl
    have := c_i2l il59
    have := rng32 il59
    have := rng64 ((8 : Int64) * il59.toInt64)
    have := own_lmul8 il59.toInt64
    omega
  have go61 : Go p.tables e below T59 (mkF m 344 (L0_16 p0 q1 p2 p3 p4 p5 b1 m1 m2 hh qq kk r44 il47) [(.int 1)]) En := by
    intro t k
    refine st59 _ ?_
    refine XS.i2l X59.here hx rfl (hb hby at_333) rfl ?_
    refine XS.lmul X59.here hx rfl (hb hby at_334) rfl ?_
    refine XT.lcmp X59.here hx rfl (hb hby at_335) rfl ?_
    show Steps _ _ _ (T59.setTop (mkF m 336 (L0_16 p0 q1 p2 p3 p4 p5 b1 m1 m2 hh qq kk r44 il47) [(.int (XT.cmpL r57 ((8 : Int64) * il59.toInt64)))])) _
    refine XS.ifNo X59.here hx rfl (hb hby at_336) rfl (XT.ll_ne_f hE60) ?_
    refine XS.iconst X59.here hx rfl (hb hby at_339) ?_
    refine XS.goto X59.here hx rfl (pc0 := 340) (pc' := 344) rfl (hb hby at_340) (by decide) (by decide) ?_
    show Steps _ _ _ (T59.setTop (mkF m 344 (L0_16 p0 q1 p2 p3 p4 p5 b1 m1 m2 hh qq kk r44 il47) [(.int 1)])) _
    exact k
  refine own_out (w := (.int 1)) X59 hx hlk go61 hrt rfl (Or.inl ⟨rfl, Or.inr (Or.inl rfl), _, rfl⟩) (hb hby at_344) e59 (Nat.le_of_ble_eq_true rfl) (by show 0 + 4 + 15 + 0 + (sW 0 m1.toInt c0) + 0 + (sW (0 + m1.toInt) m2.toInt c17) + 0 + (sG (0 + m1.toInt + m2.toInt) hh.toInt c23) + 0 + (sR (0 + m1.toInt + m2.toInt + hh.toInt + (hh.toInt + 1)) qq.toInt kk.toInt c31) + 0 + 0 + (sW (0 + m1.toInt + m2.toInt + hh.toInt + (hh.toInt + 1) + qq.toInt + 1 + kk.toInt) ((8 * (((0 + m1.toInt + m2.toInt + hh.toInt + (hh.toInt + 1) + qq.toInt + 1 + kk.toInt) + 7) / 8) - (0 + m1.toInt + m2.toInt + hh.toInt + (hh.toInt + 1) + qq.toInt + 1 + kk.toInt))) c41) + 0 + 0 + 0 ≤ 320; omega) ?_
  exact ⟨congrArg (fun z => some (Value.int z)) ((by rw [f0] : (1 : Int32) = f0).trans (f0_one)), N59⟩
set_option maxRecDepth 65536 in
set_option maxHeartbeats 40000000 in
theorem comes_1 {Post : Tables → Env → Array Value → State → Outcome → State → Prop} (hpost : ∀ tb e args s v u, (limb_1_1.after args s (.returned v) u = true ∧ limb_1_2.after args s (.returned v) u = true ∧ True) → FrameEnd s (.returned v) u (Jvm.fieldLocs frame_1_writes args s ++ Jvm.arrayLocs frame_1_arrays args s ++ Jvm.staticLocs frame_1_statics s) 24 320 → Post tb e args s (.returned v) u) :
    ArmFor flags0 classFile x code maxLocals ret World_1 tables_1 room_1 Calls_1 rest_1 Pre_1 Post := by
  intro l hfl _ _ p e ha hc hk s m args below hf hA hF happ hP
  obtain ⟨hcalls, hrest, hpre⟩ := hP
  obtain ⟨-, -, -, hnamed, -, -, -, hat⟩ := (Spec.applies_iff hf).mp happ
  obtain ⟨hg, hn⟩ := and_e (Cond.before_iff.mp (show (Jvm.Cond.and given_1 narrow_1).before args s = true from hpre))
  obtain ⟨hcount, hg1⟩ := and_e hg
  obtain ⟨ha0, hb0⟩ := and_e hg1
  obtain ⟨ha1, hb1⟩ := and_e hb0
  obtain ⟨ha2, hb2⟩ := and_e hb1
  obtain ⟨ha3, hb3⟩ := and_e hb2
  obtain ⟨ha4, hb4⟩ := and_e hb3
  obtain ⟨w0, w1, w2, w3, w4, w5, rfl⟩ : ∃ w0 w1 w2 w3 w4 w5 : Value, args = #[w0, w1, w2, w3, w4, w5] := by
    have hs : args.size = 6 := by simpa [Cond.value, given_1] using hcount
    obtain ⟨L⟩ := args
    match L, hs with
    | [w0, w1, w2, w3, w4, w5], _ => exact ⟨w0, w1, w2, w3, w4, w5, rfl⟩
  have hw := fun d (hd : d ∈ tables_1) => atoms_spec (ws := Jvm.Cond.code x code maxLocals ret :: tables_1) hat d (List.mem_cons_of_mem _ hd)
  have hfit : Fit s := fun {y c} hc i hi => by
    obtain ⟨ha, rfl⟩ := Array.getElem?_eq_some_iff.mp hc
    have q := List.all_eq_true.mp ((Array.all_eq_true_iff_forall_mem.mp hF) _ (Array.getElem_mem ha)) i (List.mem_range.mpr hi)
    simpa [Array.getElem?_eq_getElem hi] using q
  obtain ⟨i0, ei0⟩ := is_v ha0
  obtain rfl : w0 = (.int i0) := Option.some.inj ei0
  obtain ⟨i1, ei1⟩ := isL_v ha1
  obtain rfl : w1 = (.long i1) := Option.some.inj ei1
  obtain ⟨i2, ei2⟩ := is_v ha2
  obtain rfl : w2 = (.int i2) := Option.some.inj ei2
  obtain ⟨i3, ei3⟩ := is_v ha3
  obtain rfl : w3 = (.int i3) := Option.some.inj ei3
  obtain ⟨i4, ei4⟩ := is_v ha4
  obtain rfl : w4 = (.int i4) := Option.some.inj ei4
  obtain ⟨i5, ei5⟩ := is_v hb4
  obtain rfl : w5 = (.int i5) := Option.some.inj ei5
  obtain ⟨n, o, h1, h2, h3, _, L, rfl, ⟨rfl, N⟩, hq⟩ := rm0 l s _ hw tables_1 i0 i1 i2 i3 i4 i5 s.heap s.heap.size (Nat.le_refl _) p e ha hc hk s m _ below hf ((Spec.applies_iff_loose hf).mp happ).1 ⟨rfl, State.Warmed39.refl s, rfl⟩ trivial
  refine ⟨n, _, h1, h2, h3, hpost _ _ _ _ _ _ ⟨Cond.after_iff.mpr rfl, Cond.after_iff.mpr (eq_i res_at (Term.int_eval (1)) rfl), trivial⟩ ⟨hq.1, hq.2.1, (hq.2.2.sift fun y hy => Or.inr (N y hy)).mono (by decide) (by decide)⟩⟩
theorem main_1_1 : Claimed_1_1 := comes_1 fun _ _ _ _ _ _ h hF => ⟨h.1, hF⟩
theorem main_1_2 : Claimed_1_2 := comes_1 fun _ _ _ _ _ _ h hF => ⟨h.2.1, hF⟩
end Jvm.Pilot.@@N@@
namespace Jvm.Pilot.@@N@@
open Jvm Jvm.ClassFile Sem Op Lib Jvm.Free Jvm.Stand Jvm.Pilot.@@N@@.Jvm.D
/-! MADE BY PROGRAM (witnessworld.py) out of the Statement's table words and the real class files: 17 classes; the members and pool entries that the words name. The judged class is class 1, her method 1. -/
namespace start1
open Jvm.ClassFile
def u (s : String) : CpInfo := .utf8 (stringToUtf16 s)
/-- a pool by its gaps: so many unusable entries, then the entry; so many at the end -/
def gap : Nat → List CpInfo → List CpInfo
  | 0, r => r
  | n + 1, r => .unusable :: gap n r
def poolList (es : List (Nat × CpInfo)) (last : Nat) : List CpInfo := es.foldr (fun e r => gap e.1 (e.2 :: r)) (gap last [])
def pool (es : List (Nat × CpInfo)) (last : Nat) : Array CpInfo := ⟨poolList es last⟩
def fileOf (pool : Array CpInfo) (this : Nat) (attrs : Array Attribute := #[]) (ms : Array MethodInfo := #[]) (fl : Nat := 33) (sup : Nat := 0) (ifs : Array Nat := #[]) (fds : Array FieldInfo := #[]) : ClassFile where
  minorVersion := 0
  majorVersion := 65
  constantPool := pool
  accessFlags := fl
  thisClass := this
  superClass := sup
  interfaces := ifs
  fields := fds
  methods := ms
  attributes := attrs
def plain (name : String) (sup : Option ClassId) : Class where
  name := name
  kind := .ordinary
  loader := none
  accessFlags := 33
  super := sup
  interfaces := #[]
  cf := none
  fields := #[]
  methods := #[]
  instanceTypes := #[]
  staticTypes := #[]
  resolved := #[]
  callSites := []
  init := .initialized
  statics := none
  mirror := none

def pool0 : Array CpInfo := pool [(5, u "<init>"), (0, u "()V"), (1, .class_ 10), (1, u "java/lang/Object")] 113

def k0c0 : Code := { maxStack := 0, maxLocals := 1, code := object_method_1_code, exceptionTable := #[], attributes := #[] }
def k0m0 : Method := { name := "<init>", desc := "()V", sig := { parameters := [], returnType := none }, accessFlags := 1, code := some k0c0 }
/-- java/lang/Object -/
def k0 : Class := { plain "java/lang/Object" none with
  accessFlags := 33
  interfaces := #[]
  cf := some (fileOf pool0 8 #[] #[{ accessFlags := 1, nameIndex := 5, descriptorIndex := 6, attributes := #[] }] 33 0 #[] #[])
  fields := #[]
  methods := #[k0m0]
  instanceTypes := #[]
  staticTypes := #[]
  resolved := Array.replicate 124 none
  statics := none }

def pool1 : Array CpInfo := pool [(2, .class_ 4), (1, u "java/lang/Object"), (0, u "<init>"), (0, u "()V"), (0, .class_ 8), (0, u "com/example/mirk/mirk/index/BitWriter"), (0, .methodref 7 10), (0, .nameAndType 5 11), (0, u "(I)V"), (0, .methodref 7 13), (0, .nameAndType 14 15), (0, u "bits"), (0, u "()J"), (0, .methodref 7 17), (0, .nameAndType 18 19), (0, u "writeBits"), (0, u "(JI)V"), (0, .integer 2147483647), (0, .methodref 7 22), (0, .nameAndType 23 11), (0, u "writeGamma"), (0, .long 2), (1, .methodref 7 27), (0, .nameAndType 28 29), (0, u "writeRice"), (0, u "(II)V"), (0, .long 8), (1, .methodref 7 33), (0, .nameAndType 34 35), (0, u "length"), (0, u "()I"), (0, .long 7), (1, .methodref 7 39), (0, .nameAndType 40 6), (0, u "padToByte"), (0, .class_ 42), (0, u "com/example/mirk/mirk/index/BitWriterBitsPinLaw"), (2, u "law"), (0, u "(IJIIII)Z")] 3

def k1m0 : Method := { name := "<init>", desc := "()V", sig := { parameters := [], returnType := none }, accessFlags := 1, code := none }
def k1c1 : Code := { maxStack := 6, maxLocals := 24, code := code, exceptionTable := #[], attributes := #[] }
def k1m1 : Method := { name := "law", desc := "(IJIIII)Z", sig := { parameters := [.int, .long, .int, .int, .int, .int], returnType := some .boolean }, accessFlags := 9, code := some k1c1 }
/-- com/example/mirk/mirk/index/BitWriterBitsPinLaw -/
def k1 : Class := { plain "com/example/mirk/mirk/index/BitWriterBitsPinLaw" (some 0) with
  accessFlags := 49
  interfaces := #[]
  cf := some (fileOf pool1 41 #[] #[{ accessFlags := 1, nameIndex := 5, descriptorIndex := 6, attributes := #[] }, { accessFlags := 9, nameIndex := 45, descriptorIndex := 46, attributes := #[] }] 49 2 #[] #[])
  fields := #[]
  methods := #[k1m0, k1m1]
  instanceTypes := #[]
  staticTypes := #[]
  resolved := Array.replicate 50 none
  statics := none }

def pool2 : Array CpInfo := pool [(1, .methodref 2 3), (0, .class_ 4), (0, .nameAndType 5 6), (0, u "java/lang/Object"), (0, u "<init>"), (0, u "()V"), (0, .fieldref 8 9), (0, .class_ 10), (0, .nameAndType 11 12), (0, u "com/example/mirk/mirk/index/BitWriter"), (0, u "bytes"), (0, u "[B"), (0, .methodref 8 14), (0, .nameAndType 15 16), (0, u "writeZeros"), (0, u "(I)V"), (0, .methodref 8 18), (0, .nameAndType 19 20), (0, u "writeBits"), (0, u "(JI)V"), (0, .methodref 22 23), (0, .class_ 24), (0, .nameAndType 25 26), (0, u "java/lang/Integer"), (0, u "numberOfLeadingZeros"), (0, u "(I)I"), (0, .fieldref 8 28), (0, .nameAndType 29 30), (0, u "pendingBits"), (0, u "I"), (0, .fieldref 8 32), (0, .nameAndType 33 30), (0, u "length"), (0, .long 8), (1, .class_ 37), (0, u "com/example/mirk/mirk/index/BitWriter$1"), (9, .methodref 48 49), (0, .class_ 50), (0, .nameAndType 51 52), (0, u "java/lang/Math"), (0, u "min"), (0, u "(II)I"), (0, .fieldref 8 54), (0, .nameAndType 55 56), (0, u "pending"), (0, u "J"), (0, .methodref 48 58), (0, .nameAndType 59 52), (0, u "max"), (0, .methodref 61 62), (0, .class_ 63), (0, .nameAndType 64 65), (0, u "java/util/Arrays"), (0, u "copyOf"), (0, u "([BI)[B"), (0, u "MOST_BITS"), (4, u "writeRice"), (0, u "(II)V"), (0, u "writeGamma"), (0, u "padToByte"), (1, u "()I"), (0, u "bits"), (0, u "()J")] 11

def k2c0 : Code := { maxStack := 2, maxLocals := 2, code := prog_12_method_1_code, exceptionTable := #[], attributes := #[] }
def k2m0 : Method := { name := "<init>", desc := "(I)V", sig := { parameters := [.int], returnType := none }, accessFlags := 0, code := some k2c0 }
def k2c1 : Code := { maxStack := 4, maxLocals := 4, code := prog_12_method_2_code, exceptionTable := #[], attributes := #[] }
def k2m1 : Method := { name := "writeRice", desc := "(II)V", sig := { parameters := [.int, .int], returnType := none }, accessFlags := 0, code := some k2c1 }
def k2c2 : Code := { maxStack := 5, maxLocals := 3, code := prog_12_method_3_code, exceptionTable := #[], attributes := #[] }
def k2m2 : Method := { name := "writeGamma", desc := "(I)V", sig := { parameters := [.int], returnType := none }, accessFlags := 0, code := some k2c2 }
def k2c3 : Code := { maxStack := 5, maxLocals := 1, code := prog_12_method_4_code, exceptionTable := #[], attributes := #[] }
def k2m3 : Method := { name := "padToByte", desc := "()V", sig := { parameters := [], returnType := none }, accessFlags := 0, code := some k2c3 }
def k2c4 : Code := { maxStack := 1, maxLocals := 1, code := prog_12_method_5_code, exceptionTable := #[], attributes := #[] }
def k2m4 : Method := { name := "length", desc := "()I", sig := { parameters := [], returnType := some .int }, accessFlags := 0, code := some k2c4 }
def k2c5 : Code := { maxStack := 4, maxLocals := 1, code := prog_12_method_6_code, exceptionTable := #[], attributes := #[] }
def k2m5 : Method := { name := "bits", desc := "()J", sig := { parameters := [], returnType := some .long }, accessFlags := 0, code := some k2c5 }
def k2c6 : Code := { maxStack := 5, maxLocals := 3, code := prog_12_method_10_code, exceptionTable := #[], attributes := #[] }
def k2m6 : Method := { name := "writeZeros", desc := "(I)V", sig := { parameters := [.int], returnType := none }, accessFlags := 2, code := some k2c6 }
def k2c7 : Code := { maxStack := 9, maxLocals := 4, code := prog_12_method_11_code, exceptionTable := #[], attributes := #[] }
def k2m7 : Method := { name := "writeBits", desc := "(JI)V", sig := { parameters := [.long, .int], returnType := none }, accessFlags := 0, code := some k2c7 }
/-- com/example/mirk/mirk/index/BitWriter -/
def k2 : Class := { plain "com/example/mirk/mirk/index/BitWriter" (some 0) with
  accessFlags := 48
  interfaces := #[]
  cf := some (fileOf pool2 8 #[.nestMembers #[36]] #[{ accessFlags := 0, nameIndex := 5, descriptorIndex := 16, attributes := #[] }, { accessFlags := 0, nameIndex := 71, descriptorIndex := 72, attributes := #[] }, { accessFlags := 0, nameIndex := 73, descriptorIndex := 16, attributes := #[] }, { accessFlags := 0, nameIndex := 74, descriptorIndex := 6, attributes := #[] }, { accessFlags := 0, nameIndex := 33, descriptorIndex := 76, attributes := #[] }, { accessFlags := 0, nameIndex := 77, descriptorIndex := 78, attributes := #[] }, { accessFlags := 2, nameIndex := 15, descriptorIndex := 16, attributes := #[] }, { accessFlags := 0, nameIndex := 19, descriptorIndex := 20, attributes := #[] }] 48 2 #[] #[{ accessFlags := 26, nameIndex := 66, descriptorIndex := 30, attributes := #[] }, { accessFlags := 2, nameIndex := 11, descriptorIndex := 12, attributes := #[] }, { accessFlags := 2, nameIndex := 33, descriptorIndex := 30, attributes := #[] }, { accessFlags := 2, nameIndex := 55, descriptorIndex := 56, attributes := #[] }, { accessFlags := 2, nameIndex := 29, descriptorIndex := 30, attributes := #[] }])
  fields := #[{ name := "MOST_BITS", type := .int, accessFlags := 26, slot := 0, constantValue := 0 }, { name := "bytes", type := (.array .byte), accessFlags := 2, slot := 0, constantValue := 0 }, { name := "length", type := .int, accessFlags := 2, slot := 1, constantValue := 0 }, { name := "pending", type := .long, accessFlags := 2, slot := 2, constantValue := 0 }, { name := "pendingBits", type := .int, accessFlags := 2, slot := 3, constantValue := 0 }]
  methods := #[k2m0, k2m1, k2m2, k2m3, k2m4, k2m5, k2m6, k2m7]
  instanceTypes := #[(.array .byte), .int, .long, .int]
  staticTypes := #[.int]
  resolved := Array.replicate 90 none
  statics := none }

def pool3 : Array CpInfo := pool [(1, .class_ 2), (0, u "java/io/Serializable"), (0, .class_ 4), (0, u "java/lang/Object")] 2

/-- java/io/Serializable -/
def k3 : Class := { plain "java/io/Serializable" (some 0) with
  accessFlags := 1537
  interfaces := #[]
  cf := some (fileOf pool3 1 #[] #[] 1537 3 #[] #[])
  fields := #[]
  methods := #[]
  instanceTypes := #[]
  staticTypes := #[]
  resolved := Array.replicate 7 none
  statics := none }

def pool4 : Array CpInfo := pool [(2, .class_ 4), (1, u "java/lang/Object"), (0, u "<init>"), (0, u "()V"), (1, .class_ 10), (1, u "java/lang/Number"), (2, .class_ 14), (0, u "java/io/Serializable"), (0, u "serialVersionUID"), (0, u "J")] 20

def k4m0 : Method := { name := "<init>", desc := "()V", sig := { parameters := [], returnType := none }, accessFlags := 1, code := none }
/-- java/lang/Number -/
def k4 : Class := { plain "java/lang/Number" (some 0) with
  accessFlags := 1057
  interfaces := #[3]
  cf := some (fileOf pool4 8 #[] #[{ accessFlags := 1, nameIndex := 5, descriptorIndex := 6, attributes := #[] }] 1057 2 #[13] #[{ accessFlags := 26, nameIndex := 15, descriptorIndex := 16, attributes := #[] }])
  fields := #[{ name := "serialVersionUID", type := .long, accessFlags := 26, slot := 0, constantValue := 0 }]
  methods := #[k4m0]
  instanceTypes := #[]
  staticTypes := #[.long]
  resolved := Array.replicate 37 none
  statics := none }

def pool5 : Array CpInfo := pool [(1, .class_ 2), (0, u "java/lang/Comparable"), (0, .class_ 4), (0, u "java/lang/Object")] 7

/-- java/lang/Comparable -/
def k5 : Class := { plain "java/lang/Comparable" (some 0) with
  accessFlags := 1537
  interfaces := #[]
  cf := some (fileOf pool5 1 #[] #[] 1537 3 #[] #[])
  fields := #[]
  methods := #[]
  instanceTypes := #[]
  staticTypes := #[]
  resolved := Array.replicate 12 none
  statics := none }

def pool6 : Array CpInfo := pool [(1, .class_ 2), (0, u "java/lang/constant/Constable"), (0, .class_ 4), (0, u "java/lang/Object")] 6

/-- java/lang/constant/Constable -/
def k6 : Class := { plain "java/lang/constant/Constable" (some 0) with
  accessFlags := 1537
  interfaces := #[]
  cf := some (fileOf pool6 1 #[] #[] 1537 3 #[] #[])
  fields := #[]
  methods := #[]
  instanceTypes := #[]
  staticTypes := #[]
  resolved := Array.replicate 11 none
  statics := none }

def pool7 : Array CpInfo := pool [(1, .class_ 2), (0, u "java/lang/constant/ConstantDesc"), (0, .class_ 4), (0, u "java/lang/Object")] 32

/-- java/lang/constant/ConstantDesc -/
def k7 : Class := { plain "java/lang/constant/ConstantDesc" (some 0) with
  accessFlags := 1537
  interfaces := #[]
  cf := some (fileOf pool7 1 #[] #[] 1537 3 #[] #[])
  fields := #[]
  methods := #[]
  instanceTypes := #[]
  staticTypes := #[]
  resolved := Array.replicate 37 none
  statics := none }

def pool8 : Array CpInfo := pool [(1, .class_ 2), (0, u "java/lang/Integer"), (16, u "digits"), (0, u "[C"), (32, u "numberOfLeadingZeros"), (0, u "(I)I"), (30, u "DigitOnes"), (0, u "[B"), (2, u "DigitTens"), (99, .class_ 190), (0, u "java/lang/Integer$IntegerCache"), (3, u "I"), (8, .class_ 204), (0, u "java/lang/Number"), (2, u "value"), (56, .integer 65536), (37, u "TYPE"), (0, u "Ljava/lang/Class;"), (0, .class_ 305), (0, u "java/lang/Comparable"), (0, .class_ 307), (0, u "java/lang/constant/Constable"), (0, .class_ 309), (0, u "java/lang/constant/ConstantDesc"), (0, u "MIN_VALUE"), (1, u "MAX_VALUE"), (3, u "SIZE"), (1, u "BYTES"), (1, u "serialVersionUID"), (0, u "J")] 131

def k8c0 : Code := { maxStack := 3, maxLocals := 2, code := jdk_33_method_47_code, exceptionTable := #[], attributes := #[] }
def k8m0 : Method := { name := "numberOfLeadingZeros", desc := "(I)I", sig := { parameters := [.int], returnType := some .int }, accessFlags := 9, code := some k8c0 }
/-- java/lang/Integer -/
def k8 : Class := { plain "java/lang/Integer" (some 4) with
  accessFlags := 49
  interfaces := #[5, 6, 7]
  cf := some (fileOf pool8 1 #[.nestMembers #[189]] #[{ accessFlags := 9, nameIndex := 53, descriptorIndex := 54, attributes := #[] }] 49 203 #[304, 306, 308] #[{ accessFlags := 25, nameIndex := 310, descriptorIndex := 194, attributes := #[] }, { accessFlags := 25, nameIndex := 312, descriptorIndex := 194, attributes := #[] }, { accessFlags := 25, nameIndex := 302, descriptorIndex := 303, attributes := #[] }, { accessFlags := 24, nameIndex := 19, descriptorIndex := 20, attributes := #[] }, { accessFlags := 24, nameIndex := 89, descriptorIndex := 86, attributes := #[] }, { accessFlags := 24, nameIndex := 85, descriptorIndex := 86, attributes := #[] }, { accessFlags := 18, nameIndex := 207, descriptorIndex := 194, attributes := #[] }, { accessFlags := 25, nameIndex := 316, descriptorIndex := 194, attributes := #[] }, { accessFlags := 25, nameIndex := 318, descriptorIndex := 194, attributes := #[] }, { accessFlags := 26, nameIndex := 320, descriptorIndex := 321, attributes := #[] }])
  fields := #[{ name := "MIN_VALUE", type := .int, accessFlags := 25, slot := 0, constantValue := 0 }, { name := "MAX_VALUE", type := .int, accessFlags := 25, slot := 1, constantValue := 0 }, { name := "TYPE", type := (.object "java/lang/Class"), accessFlags := 25, slot := 2, constantValue := 0 }, { name := "digits", type := (.array .char), accessFlags := 24, slot := 3, constantValue := 0 }, { name := "DigitTens", type := (.array .byte), accessFlags := 24, slot := 4, constantValue := 0 }, { name := "DigitOnes", type := (.array .byte), accessFlags := 24, slot := 5, constantValue := 0 }, { name := "value", type := .int, accessFlags := 18, slot := 0, constantValue := 0 }, { name := "SIZE", type := .int, accessFlags := 25, slot := 6, constantValue := 0 }, { name := "BYTES", type := .int, accessFlags := 25, slot := 7, constantValue := 0 }, { name := "serialVersionUID", type := .long, accessFlags := 26, slot := 8, constantValue := 0 }]
  methods := #[k8m0]
  instanceTypes := #[.int]
  staticTypes := #[.int, .int, (.object "java/lang/Class"), (.array .char), (.array .byte), (.array .byte), .int, .int, .long]
  resolved := Array.replicate 453 none
  statics := none }

def pool9 : Array CpInfo := pool [(1, .class_ 2), (0, u "java/lang/Math"), (1, .class_ 6), (1, u "java/lang/Object"), (0, u "<init>"), (0, u "()V"), (89, .class_ 100), (1, u "java/lang/Math$RandomNumberGeneratorHolder"), (71, u "negativeZeroFloatBits"), (0, u "J"), (2, u "negativeZeroDoubleBits"), (21, u "max"), (2, u "min"), (43, u "$assertionsDisabled"), (0, u "Z"), (88, u "(II)I"), (2, u "twoToTheDoubleScaleDown"), (0, u "D"), (4, u "twoToTheDoubleScaleUp"), (9, u "E"), (3, u "PI"), (2, u "TAU"), (2, u "DEGREES_TO_RADIANS"), (0, u "RADIANS_TO_DEGREES")] 94

def k9m0 : Method := { name := "<init>", desc := "()V", sig := { parameters := [], returnType := none }, accessFlags := 2, code := none }
def k9c1 : Code := { maxStack := 2, maxLocals := 2, code := jdk_29_method_65_code, exceptionTable := #[], attributes := #[] }
def k9m1 : Method := { name := "max", desc := "(II)I", sig := { parameters := [.int, .int], returnType := some .int }, accessFlags := 9, code := some k9c1 }
def k9c2 : Code := { maxStack := 2, maxLocals := 2, code := jdk_29_method_69_code, exceptionTable := #[], attributes := #[] }
def k9m2 : Method := { name := "min", desc := "(II)I", sig := { parameters := [.int, .int], returnType := some .int }, accessFlags := 9, code := some k9c2 }
/-- java/lang/Math -/
def k9 : Class := { plain "java/lang/Math" (some 0) with
  accessFlags := 49
  interfaces := #[]
  cf := some (fileOf pool9 1 #[.nestMembers #[98]] #[{ accessFlags := 2, nameIndex := 7, descriptorIndex := 8, attributes := #[] }, { accessFlags := 9, nameIndex := 198, descriptorIndex := 335, attributes := #[] }, { accessFlags := 9, nameIndex := 201, descriptorIndex := 335, attributes := #[] }] 49 4 #[] #[{ accessFlags := 25, nameIndex := 354, descriptorIndex := 339, attributes := #[] }, { accessFlags := 25, nameIndex := 358, descriptorIndex := 339, attributes := #[] }, { accessFlags := 25, nameIndex := 361, descriptorIndex := 339, attributes := #[] }, { accessFlags := 26, nameIndex := 364, descriptorIndex := 339, attributes := #[] }, { accessFlags := 26, nameIndex := 365, descriptorIndex := 339, attributes := #[] }, { accessFlags := 26, nameIndex := 172, descriptorIndex := 173, attributes := #[] }, { accessFlags := 26, nameIndex := 176, descriptorIndex := 173, attributes := #[] }, { accessFlags := 8, nameIndex := 344, descriptorIndex := 339, attributes := #[] }, { accessFlags := 8, nameIndex := 338, descriptorIndex := 339, attributes := #[] }, { accessFlags := 4120, nameIndex := 245, descriptorIndex := 246, attributes := #[] }])
  fields := #[{ name := "E", type := .double, accessFlags := 25, slot := 0, constantValue := 0 }, { name := "PI", type := .double, accessFlags := 25, slot := 1, constantValue := 0 }, { name := "TAU", type := .double, accessFlags := 25, slot := 2, constantValue := 0 }, { name := "DEGREES_TO_RADIANS", type := .double, accessFlags := 26, slot := 3, constantValue := 0 }, { name := "RADIANS_TO_DEGREES", type := .double, accessFlags := 26, slot := 4, constantValue := 0 }, { name := "negativeZeroFloatBits", type := .long, accessFlags := 26, slot := 5, constantValue := 0 }, { name := "negativeZeroDoubleBits", type := .long, accessFlags := 26, slot := 6, constantValue := 0 }, { name := "twoToTheDoubleScaleUp", type := .double, accessFlags := 8, slot := 7, constantValue := 0 }, { name := "twoToTheDoubleScaleDown", type := .double, accessFlags := 8, slot := 8, constantValue := 0 }, { name := "$assertionsDisabled", type := .boolean, accessFlags := 4120, slot := 9, constantValue := 0 }]
  methods := #[k9m0, k9m1, k9m2]
  instanceTypes := #[]
  staticTypes := #[.double, .double, .double, .double, .double, .long, .long, .double, .double, .boolean]
  resolved := Array.replicate 460 none
  statics := none }

def pool10 : Array CpInfo := pool [(2, .class_ 4), (1, u "java/lang/Object"), (0, u "<init>"), (0, u "()V"), (7, .class_ 16), (1, u "java/util/Arrays"), (57, .class_ 76), (1, u "java/util/Arrays$NaturalOrder"), (36, .class_ 115), (1, u "java/util/Arrays$LegacyMergeSort"), (1, u "Z"), (32, .methodref 151 152), (0, .class_ 153), (0, .nameAndType 154 155), (0, u "java/lang/System"), (0, u "arraycopy"), (0, u "(Ljava/lang/Object;ILjava/lang/Object;II)V"), (146, u "copyOf"), (1, .methodref 305 306), (0, .class_ 307), (0, .nameAndType 308 309), (0, u "java/lang/Math"), (0, u "min"), (0, u "(II)I"), (65, .class_ 376), (0, u "java/util/Arrays$ArrayList"), (68, u "$assertionsDisabled"), (269, u "MIN_ARRAY_SORT_GRAN"), (0, u "I"), (2, u "INSERTIONSORT_THRESHOLD"), (149, u "([BI)[B"), (105, .class_ 976), (0, u "java/util/Arrays$ArrayItr")] 52

def k10m0 : Method := { name := "<init>", desc := "()V", sig := { parameters := [], returnType := none }, accessFlags := 2, code := none }
def k10c1 : Code := { maxStack := 6, maxLocals := 3, code := jdk_65_method_121_code, exceptionTable := #[], attributes := #[] }
def k10m1 : Method := { name := "copyOf", desc := "([BI)[B", sig := { parameters := [(.array .byte), .int], returnType := some (.array .byte) }, accessFlags := 9, code := some k10c1 }
/-- java/util/Arrays -/
def k10 : Class := { plain "java/util/Arrays" (some 0) with
  accessFlags := 49
  interfaces := #[]
  cf := some (fileOf pool10 14 #[.nestMembers #[975, 375, 113, 74]] #[{ accessFlags := 2, nameIndex := 5, descriptorIndex := 6, attributes := #[] }, { accessFlags := 9, nameIndex := 302, descriptorIndex := 869, attributes := #[] }] 49 2 #[] #[{ accessFlags := 26, nameIndex := 715, descriptorIndex := 716, attributes := #[] }, { accessFlags := 26, nameIndex := 719, descriptorIndex := 716, attributes := #[] }, { accessFlags := 4120, nameIndex := 445, descriptorIndex := 117, attributes := #[] }])
  fields := #[{ name := "MIN_ARRAY_SORT_GRAN", type := .int, accessFlags := 26, slot := 0, constantValue := 0 }, { name := "INSERTIONSORT_THRESHOLD", type := .int, accessFlags := 26, slot := 1, constantValue := 0 }, { name := "$assertionsDisabled", type := .boolean, accessFlags := 4120, slot := 2, constantValue := 0 }]
  methods := #[k10m0, k10m1]
  instanceTypes := #[]
  staticTypes := #[.int, .int, .boolean]
  resolved := Array.replicate 1029 none
  statics := none }

def pool11 : Array CpInfo := pool [(2, .class_ 4), (1, u "java/lang/Object"), (0, u "<init>"), (0, u "()V"), (1, .class_ 10), (1, u "java/lang/System"), (0, u "allowSecurityManager"), (0, u "I"), (16, u "cons"), (0, u "Ljava/io/Console;"), (77, .class_ 110), (1, u "java/lang/System$CallersHolder"), (43, u "initialErrStream"), (0, u "Ljava/io/PrintStream;"), (19, u "security"), (0, u "Ljava/lang/SecurityManager;"), (31, .class_ 209), (0, u "java/lang/System$1"), (7, u "props"), (0, u "Ljava/util/Properties;"), (2, u "lineSeparator"), (0, u "Ljava/lang/String;"), (96, .class_ 321), (1, u "java/lang/System$LoggerFinder"), (5, .class_ 328), (0, u "java/lang/System$Logger"), (67, u "err"), (2, u "out"), (91, u "notSupportedJnuEncoding"), (15, u "in"), (17, u "initialIn"), (0, u "Ljava/io/InputStream;"), (35, u "bootLayer"), (0, u "Ljava/lang/ModuleLayer;"), (99, .class_ 664), (0, u "java/lang/System$2"), (9, u "NEVER"), (2, u "MAYBE"), (49, u "arraycopy"), (0, u "(Ljava/lang/Object;ILjava/lang/Object;II)V"), (72, .class_ 802), (0, u "java/lang/System$Logger$Level")] 31

def k11m0 : Method := { name := "<init>", desc := "()V", sig := { parameters := [], returnType := none }, accessFlags := 2, code := none }
def k11m1 : Method := { name := "arraycopy", desc := "(Ljava/lang/Object;ILjava/lang/Object;II)V", sig := { parameters := [(.object "java/lang/Object"), .int, (.object "java/lang/Object"), .int, .int], returnType := none }, accessFlags := 265, code := none }
/-- java/lang/System -/
def k11 : Class := { plain "java/lang/System" (some 0) with
  accessFlags := 49
  interfaces := #[]
  cf := some (fileOf pool11 8 #[.nestMembers #[319, 327, 801, 108, 663, 208]] #[{ accessFlags := 2, nameIndex := 5, descriptorIndex := 6, attributes := #[] }, { accessFlags := 265, nameIndex := 727, descriptorIndex := 728, attributes := #[] }] 49 2 #[] #[{ accessFlags := 25, nameIndex := 507, descriptorIndex := 526, attributes := #[] }, { accessFlags := 25, nameIndex := 399, descriptorIndex := 155, attributes := #[] }, { accessFlags := 25, nameIndex := 396, descriptorIndex := 155, attributes := #[] }, { accessFlags := 10, nameIndex := 525, descriptorIndex := 526, attributes := #[] }, { accessFlags := 26, nameIndex := 674, descriptorIndex := 12, attributes := #[] }, { accessFlags := 26, nameIndex := 677, descriptorIndex := 12, attributes := #[] }, { accessFlags := 10, nameIndex := 11, descriptorIndex := 12, attributes := #[] }, { accessFlags := 74, nameIndex := 175, descriptorIndex := 176, attributes := #[] }, { accessFlags := 10, nameIndex := 491, descriptorIndex := 222, attributes := #[] }, { accessFlags := 74, nameIndex := 29, descriptorIndex := 30, attributes := #[] }, { accessFlags := 74, nameIndex := 154, descriptorIndex := 155, attributes := #[] }, { accessFlags := 10, nameIndex := 217, descriptorIndex := 218, attributes := #[] }, { accessFlags := 10, nameIndex := 221, descriptorIndex := 222, attributes := #[] }, { accessFlags := 8, nameIndex := 562, descriptorIndex := 563, attributes := #[] }])
  fields := #[{ name := "in", type := (.object "java/io/InputStream"), accessFlags := 25, slot := 0, constantValue := 0 }, { name := "out", type := (.object "java/io/PrintStream"), accessFlags := 25, slot := 1, constantValue := 0 }, { name := "err", type := (.object "java/io/PrintStream"), accessFlags := 25, slot := 2, constantValue := 0 }, { name := "initialIn", type := (.object "java/io/InputStream"), accessFlags := 10, slot := 3, constantValue := 0 }, { name := "NEVER", type := .int, accessFlags := 26, slot := 4, constantValue := 0 }, { name := "MAYBE", type := .int, accessFlags := 26, slot := 5, constantValue := 0 }, { name := "allowSecurityManager", type := .int, accessFlags := 10, slot := 6, constantValue := 0 }, { name := "security", type := (.object "java/lang/SecurityManager"), accessFlags := 74, slot := 7, constantValue := 0 }, { name := "notSupportedJnuEncoding", type := (.object "java/lang/String"), accessFlags := 10, slot := 8, constantValue := 0 }, { name := "cons", type := (.object "java/io/Console"), accessFlags := 74, slot := 9, constantValue := 0 }, { name := "initialErrStream", type := (.object "java/io/PrintStream"), accessFlags := 74, slot := 10, constantValue := 0 }, { name := "props", type := (.object "java/util/Properties"), accessFlags := 10, slot := 11, constantValue := 0 }, { name := "lineSeparator", type := (.object "java/lang/String"), accessFlags := 10, slot := 12, constantValue := 0 }, { name := "bootLayer", type := (.object "java/lang/ModuleLayer"), accessFlags := 8, slot := 13, constantValue := 0 }]
  methods := #[k11m0, k11m1]
  instanceTypes := #[]
  staticTypes := #[(.object "java/io/InputStream"), (.object "java/io/PrintStream"), (.object "java/io/PrintStream"), (.object "java/io/InputStream"), .int, .int, .int, (.object "java/lang/SecurityManager"), (.object "java/lang/String"), (.object "java/io/Console"), (.object "java/io/PrintStream"), (.object "java/util/Properties"), (.object "java/lang/String"), (.object "java/lang/ModuleLayer")]
  resolved := Array.replicate 834 none
  statics := none }

def pool12 : Array CpInfo := pool [(1, u "java/lang/Cloneable"), (0, .class_ 1), (0, u "java/lang/Object"), (0, .class_ 3)] 3

/-- java/lang/Cloneable -/
def k12 : Class := { plain "java/lang/Cloneable" (some 0) with
  accessFlags := 1537
  interfaces := #[]
  cf := some (fileOf pool12 2 #[] #[] 1537 4 #[] #[])
  fields := #[]
  methods := #[]
  instanceTypes := #[]
  staticTypes := #[]
  resolved := Array.replicate 8 none
  statics := none }

/-- the primitive byte -/
def k13 : Class := { plain "byte" none with kind := .primitive 'B', accessFlags := 0x411 }
/-- [B -/
def k14 : Class := { plain "[B" (some 0) with kind := .array 13 .byte, interfaces := #[12, 3], accessFlags := 1041 }

/-- the primitive int -/
def k15 : Class := { plain "int" none with kind := .primitive 'I', accessFlags := 0x411 }
/-- [I -/
def k16 : Class := { plain "[I" (some 0) with kind := .array 15 .int, interfaces := #[12, 3], accessFlags := 1041 }

def heap : Heap := #[]
def classes : Array Class := #[k0, k1, k2, k3, k4, k5, k6, k7, k8, k9, k10, k11, k12, k13, k14, k15, k16]
def interned : List (Array UInt16 × Addr) := []
def slotsUsed : Nat := 0
def theMethod : MethodId := ⟨1, 1⟩
def args0 : Array Value := #[.int 3, .long 5, .int 1000, .int 4, .int 7, .int 300]
def aboutOver (below : List Frame) : State where
  vm := { classes := classes, interned := interned.toArray }
  heap := heap
  slotsUsed := slotsUsed
  threads := #[{ frames := .invoking theMethod args0 :: below }]
def below0 : List Frame := [.native { method := ⟨0, 0⟩, args := #[] }]
def about1 : State := aboutOver below0
def p0 : Program := .bare "" "" ""
def e0 : Env := launch0.env 0 0 0
theorem w_frames : about1.frames = Frame.invoking theMethod args0 :: below0 := rfl
set_option maxRecDepth 65536 in
theorem w_args : argsFit about1.vm theMethod args0 = true := by decide +kernel
set_option maxRecDepth 65536 in
theorem w_heap : heapFits about1 = true := by decide +kernel
set_option maxRecDepth 65536 in
theorem w_runnable : about1.curStatus? = some .runnable := by decide +kernel
set_option maxRecDepth 65536 in
theorem w_alone : about1.alone = true := by decide +kernel
set_option maxRecDepth 65536 in
theorem w_named : about1.methodNamed? x = some theMethod := by decide +kernel
set_option maxRecDepth 65536 in
theorem w_hears : about1.hears theMethod below0 = true := by decide +kernel
set_option maxRecDepth 65536 in
theorem w_ripe : about1.ripe theMethod args0 below0 = true := by decide +kernel
theorem w_running : about1.status = .running := rfl
set_option maxRecDepth 65536 in
theorem w_room : about1.hasRoom e0.platform room_1 = true :=
  launch0.hasRoom_least _ room_1 (by decide +kernel) (by decide +kernel) (by decide +kernel) (by decide +kernel) (by decide +kernel) (by decide +kernel)
theorem allAtoms_all (ts : List Jvm.Cond) (a : Array Jvm.Value) (st : Jvm.State) : (allAtoms ts).before a st = ts.all (fun c => c.before a st) := by
  induction ts with
  | nil => rfl
  | cons c t ih =>
    show (Jvm.Cond.and c (allAtoms t)).before a st = _
    rw [Jvm.Cond.before_and, ih, List.all_cons]
def words1 : List Jvm.Cond := Jvm.Cond.code x code maxLocals ret :: tables_1
/-- a 'code' word, met by the world's own term for the bytes: nothing is compared byte by byte -/
theorem code_word {y : MethodName} {bytes : ByteArray} {mx : Nat} {rt : Option FieldType} {a : Array Value} {s : State} {m : MethodId} {meth : Method} {c : Code} (h1 : s.methodNamed? y = some m) (h2 : s.vm.method? m = some meth) (h3 : meth.code = some c) (h4 : c.code = bytes)
    (h5 : (c.maxLocals == mx && c.exceptionTable.isEmpty && decide (c.maxStack ≤ mostOperands) && decide (meth.sig.returnType = rt) && !meth.locks && decide (parseMethodDescriptor y.desc = some meth.sig)) = true) : (Jvm.Cond.code y bytes mx rt).before a s = true := by
  simp only [Bool.and_eq_true, beq_iff_eq, Bool.not_eq_true', decide_eq_true_eq] at h5
  obtain ⟨⟨⟨⟨⟨g1, g2⟩, g3⟩, g4⟩, g5⟩, g6⟩ := h5
  simp [Cond.before, Cond.holds, Cond.value, h1, h2, h3, h4, g1, g2, g3, g4, g5, g6]
def isCode : Jvm.Cond → Bool
  | .code _ _ _ _ => true
  | _ => false
theorem all_split {L : List Jvm.Cond} {P : Jvm.Cond → Bool} (h1 : L.all (fun c => isCode c || P c) = true) (h2 : ∀ c ∈ L.filter isCode, P c = true) : L.all P = true := by
  refine List.all_eq_true.mpr fun c hc => ?_
  have h := List.all_eq_true.mp h1 c hc
  rcases Bool.eq_false_or_eq_true (isCode c) with hi | hi
  · exact h2 c (List.mem_filter.mpr ⟨hc, hi⟩)
  · simpa [hi] using h
set_option maxRecDepth 65536 in
theorem w_c0 : (Jvm.Cond.code x code maxLocals ret).before args0 about1 = true := code_word (m := ⟨1, 1⟩) (meth := k1m1) (c := k1c1) (by decide +kernel) rfl rfl rfl (by decide +kernel)
set_option maxRecDepth 65536 in
theorem w_c1 : (Jvm.Cond.code ({ cls := "com/example/mirk/mirk/index/BitWriter", name := "<init>", desc := "(I)V" } : Jvm.MethodName) prog_12_method_1_code (2 : Nat) (Option.none : Option Jvm.ClassFile.FieldType)).before args0 about1 = true := code_word (m := ⟨2, 0⟩) (meth := k2m0) (c := k2c0) (by decide +kernel) rfl rfl rfl (by decide +kernel)
set_option maxRecDepth 65536 in
theorem w_c2 : (Jvm.Cond.code ({ cls := "java/lang/Object", name := "<init>", desc := "()V" } : Jvm.MethodName) object_method_1_code (1 : Nat) (Option.none : Option Jvm.ClassFile.FieldType)).before args0 about1 = true := code_word (m := ⟨0, 0⟩) (meth := k0m0) (c := k0c0) (by decide +kernel) rfl rfl rfl (by decide +kernel)
set_option maxRecDepth 65536 in
theorem w_c3 : (Jvm.Cond.code ({ cls := "com/example/mirk/mirk/index/BitWriter", name := "bits", desc := "()J" } : Jvm.MethodName) prog_12_method_6_code (1 : Nat) (Option.some Jvm.ClassFile.FieldType.long)).before args0 about1 = true := code_word (m := ⟨2, 5⟩) (meth := k2m5) (c := k2c5) (by decide +kernel) rfl rfl rfl (by decide +kernel)
set_option maxRecDepth 65536 in
theorem w_c4 : (Jvm.Cond.code ({ cls := "com/example/mirk/mirk/index/BitWriter", name := "writeBits", desc := "(JI)V" } : Jvm.MethodName) prog_12_method_11_code (4 : Nat) (Option.none : Option Jvm.ClassFile.FieldType)).before args0 about1 = true := code_word (m := ⟨2, 7⟩) (meth := k2m7) (c := k2c7) (by decide +kernel) rfl rfl rfl (by decide +kernel)
set_option maxRecDepth 65536 in
theorem w_c5 : (Jvm.Cond.code ({ cls := "com/example/mirk/mirk/index/BitWriter", name := "writeGamma", desc := "(I)V" } : Jvm.MethodName) prog_12_method_3_code (3 : Nat) (Option.none : Option Jvm.ClassFile.FieldType)).before args0 about1 = true := code_word (m := ⟨2, 2⟩) (meth := k2m2) (c := k2c2) (by decide +kernel) rfl rfl rfl (by decide +kernel)
set_option maxRecDepth 65536 in
theorem w_c6 : (Jvm.Cond.code ({ cls := "java/lang/Integer", name := "numberOfLeadingZeros", desc := "(I)I" } : Jvm.MethodName) jdk_33_method_47_code (2 : Nat) (Option.some Jvm.ClassFile.FieldType.int)).before args0 about1 = true := code_word (m := ⟨8, 0⟩) (meth := k8m0) (c := k8c0) (by decide +kernel) rfl rfl rfl (by decide +kernel)
set_option maxRecDepth 65536 in
theorem w_c7 : (Jvm.Cond.code ({ cls := "com/example/mirk/mirk/index/BitWriter", name := "writeZeros", desc := "(I)V" } : Jvm.MethodName) prog_12_method_10_code (3 : Nat) (Option.none : Option Jvm.ClassFile.FieldType)).before args0 about1 = true := code_word (m := ⟨2, 6⟩) (meth := k2m6) (c := k2c6) (by decide +kernel) rfl rfl rfl (by decide +kernel)
set_option maxRecDepth 65536 in
theorem w_c8 : (Jvm.Cond.code ({ cls := "com/example/mirk/mirk/index/BitWriter", name := "writeRice", desc := "(II)V" } : Jvm.MethodName) prog_12_method_2_code (4 : Nat) (Option.none : Option Jvm.ClassFile.FieldType)).before args0 about1 = true := code_word (m := ⟨2, 1⟩) (meth := k2m1) (c := k2c1) (by decide +kernel) rfl rfl rfl (by decide +kernel)
set_option maxRecDepth 65536 in
theorem w_c9 : (Jvm.Cond.code ({ cls := "com/example/mirk/mirk/index/BitWriter", name := "length", desc := "()I" } : Jvm.MethodName) prog_12_method_5_code (1 : Nat) (Option.some Jvm.ClassFile.FieldType.int)).before args0 about1 = true := code_word (m := ⟨2, 4⟩) (meth := k2m4) (c := k2c4) (by decide +kernel) rfl rfl rfl (by decide +kernel)
set_option maxRecDepth 65536 in
theorem w_c10 : (Jvm.Cond.code ({ cls := "com/example/mirk/mirk/index/BitWriter", name := "padToByte", desc := "()V" } : Jvm.MethodName) prog_12_method_4_code (1 : Nat) (Option.none : Option Jvm.ClassFile.FieldType)).before args0 about1 = true := code_word (m := ⟨2, 3⟩) (meth := k2m3) (c := k2c3) (by decide +kernel) rfl rfl rfl (by decide +kernel)
set_option maxRecDepth 65536 in
theorem w_c11 : (Jvm.Cond.code ({ cls := "java/lang/Math", name := "max", desc := "(II)I" } : Jvm.MethodName) jdk_29_method_65_code (2 : Nat) (Option.some Jvm.ClassFile.FieldType.int)).before args0 about1 = true := code_word (m := ⟨9, 1⟩) (meth := k9m1) (c := k9c1) (by decide +kernel) rfl rfl rfl (by decide +kernel)
set_option maxRecDepth 65536 in
theorem w_c12 : (Jvm.Cond.code ({ cls := "java/util/Arrays", name := "copyOf", desc := "([BI)[B" } : Jvm.MethodName) jdk_65_method_121_code (3 : Nat) (Option.some (Jvm.ClassFile.FieldType.array Jvm.ClassFile.FieldType.byte))).before args0 about1 = true := code_word (m := ⟨10, 1⟩) (meth := k10m1) (c := k10c1) (by decide +kernel) rfl rfl rfl (by decide +kernel)
set_option maxRecDepth 65536 in
theorem w_c13 : (Jvm.Cond.code ({ cls := "java/lang/Math", name := "min", desc := "(II)I" } : Jvm.MethodName) jdk_29_method_69_code (2 : Nat) (Option.some Jvm.ClassFile.FieldType.int)).before args0 about1 = true := code_word (m := ⟨9, 2⟩) (meth := k9m2) (c := k9c2) (by decide +kernel) rfl rfl rfl (by decide +kernel)
def codes1 : List Jvm.Cond := [Jvm.Cond.code x code maxLocals ret, Jvm.Cond.code ({ cls := "com/example/mirk/mirk/index/BitWriter", name := "<init>", desc := "(I)V" } : Jvm.MethodName) prog_12_method_1_code (2 : Nat) (Option.none : Option Jvm.ClassFile.FieldType), Jvm.Cond.code ({ cls := "java/lang/Object", name := "<init>", desc := "()V" } : Jvm.MethodName) object_method_1_code (1 : Nat) (Option.none : Option Jvm.ClassFile.FieldType), Jvm.Cond.code ({ cls := "com/example/mirk/mirk/index/BitWriter", name := "bits", desc := "()J" } : Jvm.MethodName) prog_12_method_6_code (1 : Nat) (Option.some Jvm.ClassFile.FieldType.long), Jvm.Cond.code ({ cls := "com/example/mirk/mirk/index/BitWriter", name := "writeBits", desc := "(JI)V" } : Jvm.MethodName) prog_12_method_11_code (4 : Nat) (Option.none : Option Jvm.ClassFile.FieldType), Jvm.Cond.code ({ cls := "com/example/mirk/mirk/index/BitWriter", name := "writeGamma", desc := "(I)V" } : Jvm.MethodName) prog_12_method_3_code (3 : Nat) (Option.none : Option Jvm.ClassFile.FieldType), Jvm.Cond.code ({ cls := "java/lang/Integer", name := "numberOfLeadingZeros", desc := "(I)I" } : Jvm.MethodName) jdk_33_method_47_code (2 : Nat) (Option.some Jvm.ClassFile.FieldType.int), Jvm.Cond.code ({ cls := "com/example/mirk/mirk/index/BitWriter", name := "writeZeros", desc := "(I)V" } : Jvm.MethodName) prog_12_method_10_code (3 : Nat) (Option.none : Option Jvm.ClassFile.FieldType), Jvm.Cond.code ({ cls := "com/example/mirk/mirk/index/BitWriter", name := "writeRice", desc := "(II)V" } : Jvm.MethodName) prog_12_method_2_code (4 : Nat) (Option.none : Option Jvm.ClassFile.FieldType), Jvm.Cond.code ({ cls := "com/example/mirk/mirk/index/BitWriter", name := "length", desc := "()I" } : Jvm.MethodName) prog_12_method_5_code (1 : Nat) (Option.some Jvm.ClassFile.FieldType.int), Jvm.Cond.code ({ cls := "com/example/mirk/mirk/index/BitWriter", name := "padToByte", desc := "()V" } : Jvm.MethodName) prog_12_method_4_code (1 : Nat) (Option.none : Option Jvm.ClassFile.FieldType), Jvm.Cond.code ({ cls := "java/lang/Math", name := "max", desc := "(II)I" } : Jvm.MethodName) jdk_29_method_65_code (2 : Nat) (Option.some Jvm.ClassFile.FieldType.int), Jvm.Cond.code ({ cls := "java/util/Arrays", name := "copyOf", desc := "([BI)[B" } : Jvm.MethodName) jdk_65_method_121_code (3 : Nat) (Option.some (Jvm.ClassFile.FieldType.array Jvm.ClassFile.FieldType.byte)), Jvm.Cond.code ({ cls := "java/lang/Math", name := "min", desc := "(II)I" } : Jvm.MethodName) jdk_29_method_69_code (2 : Nat) (Option.some Jvm.ClassFile.FieldType.int)]
set_option maxRecDepth 65536 in
theorem codes_eq : words1.filter isCode = codes1 := rfl
theorem w_codes : ∀ c ∈ words1.filter isCode, c.before args0 about1 = true := by
  rw [codes_eq]
  intro c hc
  simp only [codes1, List.mem_cons, List.not_mem_nil, or_false] at hc
  rcases hc with rfl | rfl | rfl | rfl | rfl | rfl | rfl | rfl | rfl | rfl | rfl | rfl | rfl | rfl
  · exact w_c0
  · exact w_c1
  · exact w_c2
  · exact w_c3
  · exact w_c4
  · exact w_c5
  · exact w_c6
  · exact w_c7
  · exact w_c8
  · exact w_c9
  · exact w_c10
  · exact w_c11
  · exact w_c12
  · exact w_c13
set_option maxRecDepth 65536 in
theorem w_t1 : (words1.take 24).all (fun c => isCode c || c.before args0 about1) = true := by decide +kernel
set_option maxRecDepth 65536 in
theorem w_t2 : ((words1.drop 24).take 24).all (fun c => isCode c || c.before args0 about1) = true := by decide +kernel
set_option maxRecDepth 65536 in
theorem w_t3 : (((words1.drop 24).drop 24).take 24).all (fun c => isCode c || c.before args0 about1) = true := by decide +kernel
set_option maxRecDepth 65536 in
theorem w_t4 : (((words1.drop 24).drop 24).drop 24).all (fun c => isCode c || c.before args0 about1) = true := by decide +kernel
theorem w_tables : (allAtoms (Jvm.Cond.code x code maxLocals ret :: tables_1)).before args0 about1 = true := by
  rw [allAtoms_all]
  show words1.all (fun c => c.before args0 about1) = true
  refine all_split ?_ w_codes
  rw [← List.take_append_drop 24 words1, List.all_append, w_t1, ← List.take_append_drop 24 (words1.drop 24), List.all_append, w_t2, ← List.take_append_drop 24 ((words1.drop 24).drop 24), List.all_append, w_t3, w_t4]
  rfl
set_option maxRecDepth 65536 in
theorem w_case : (Jvm.Cond.and given_1 narrow_1).before args0 about1 = true := by decide +kernel
theorem w_applies : (headSpec (Jvm.Cond.code x code maxLocals ret :: tables_1) room_1).applies x e0.platform about1 = true :=
  (Spec.applies_iff w_frames).mpr ⟨w_running, w_runnable, w_alone, w_named, w_hears, w_ripe, w_room, w_tables⟩
theorem atStart : AtStart classFile x code maxLocals ret World_1 tables_1 room_1 Calls_1 rest_1 Pre_1 launch0 p0 e0 about1 theMethod args0 below0 :=
  ⟨lists_1, trivial, launch0.admits_env _ _ _, launch0.least_env, fairChoices_fair.cas, fairChoices_fair.clock, w_frames, w_args, w_heap, w_applies, trivial, trivial, w_case⟩
end start1
theorem witness_1 : WitnessClaimed_1 := ⟨start1.p0, start1.e0, start1.about1, start1.theMethod, start1.args0, start1.below0, start1.atStart⟩
end Jvm.Pilot.@@N@@
