import JvmDerived
import JvmDerived.Pilot.@@N@@Statement
import JvmDerived.Pilot.@@N@@Code
set_option linter.unusedVariables false
set_option linter.unusedSimpArgs false
namespace Jvm.Pilot.@@N@@
open Jvm Jvm.ClassFile Sem Op Lib Jvm.Free Jvm.Stand Jvm.LawKit Jvm.RoadKit Bundle Jvm.Pilot.@@N@@.Jvm.D
theorem own_exa_ns {Z : State} {h : Heap} {a : Addr} {C : String} (E : Exa Z h a C) : ∀ c : Cell, h[a]? = some c → c.vm.isStatics = false := fun c hc => by
  obtain ⟨cell, k, h1, -, -, h4, -⟩ := E
  rw [h1] at hc; cases hc; exact h4
theorem own_sta_keep {Z : State} {h h' : Heap} {C n d : String} {v : Value} {ws : List Addr} (F : Sta Z h C n d v) (K : Keep h h' ws) (q : ∀ x ∈ ws, ∀ c : Cell, h[x]? = some c → c.vm.isStatics = false) : Sta Z h' C n d v := by
  obtain ⟨cf, i, k, f, st, cell, h1, h2, h3, h4, h5, h6, h7⟩ := F
  exact ⟨cf, i, k, f, st, cell, h1, h2, h3, h4, K.2.1 st cell h5 (fun hm => by have := q st hm cell h5; rw [h6] at this; cases this), h6, h7⟩
theorem own_ins_keep {Z : State} {h h' : Heap} {a : Addr} {C : String} {b : Bool} {ws : List Addr} (F : Ins Z h a C b) (K : Keep h h' ws) : Ins Z h' a C b := by
  obtain ⟨cell, cT, h1, h2, h3⟩ := F
  obtain ⟨c', q1, q2, q3, -⟩ := K.2.2 a cell h1
  exact ⟨c', cT, q1, h2, by rw [q3, q2]; exact h3⟩
theorem own_ne {r c : Int32} (k : Int) (hc : c.toInt = k) (h : ¬ r = c) : ¬ r.toInt = k := fun e => h (Int32.toInt_inj.mp (e.trans hc.symm))
theorem own_cat1 {v : Value} (h : v.isRef = true) : 2 * 0 + ([v].map fun v => v.category).sum ≤ 1 := by simp [XT.cat1 h]
theorem mi {d : Jvm.Cond} (i : Nat) (h : tables_1[i]? = some d) : d ∈ tables_1 := List.mem_of_getElem? h
theorem own_shr0 (x : Int32) : x >>> ((0 : Int32) &&& 31) = x := by
  have e : ((0 : Int32) &&& 31) = 0 := by decide
  rw [e]; first | exact Int32.shiftRight_zero | simp
theorem own_irr (x : Int32) : ¬ x < x := by rw [Int32.lt_iff_toInt_lt]; omega
abbrev MFn (l : Launch) (y : MethodName) (b : ByteArray) (n : Nat) (rt : Option FieldType) (ws : List Jvm.Cond) (R : Room) (A : Array Value) (Z : State) (h0 : Heap) (Q : Option Value → Heap → List Loc → Prop) : Prop :=
  MetFree l y (head1 (Jvm.Cond.code y b n rt :: ws) R) (fun a U => a = A ∧ Z.Warmed39 U.vm ∧ U.heap = h0) (fun _ _ _ _ _ => True) (fun _ U o U' => ∃ v L, o = .returned v ∧ Q v U'.heap L ∧ FrameEnd U o U' L R.cells R.slots)
abbrev Go (tb : Tables) (e : Env) (below : List Frame) (T : State) (F : JFrame) (E : State) : Prop := ∀ t, Steps tb e below (T.setTop F) t → Steps tb e below E t
theorem own_nz {z : Int32} (h : z = 0 ∨ z = 1) : narrow .boolean (.int z) = .int z := by rcases h with rfl | rfl <;> rfl
abbrev Rm (f c s l : Nat) : Room := { frames := f, cells := c, slots := s, locals := l }
abbrev QP (n0 : Nat) (h0 : Heap) (r : Option Value) (v : Option Value) (h : Heap) (L : List Loc) : Prop := v = r ∧ Fr n0 L ∧ h = h0
abbrev Fn (p : Program) (e : Env) (below : List Frame) (s : State) (R : Room) (Q : Option Value → Heap → List Loc → Prop) (En : State) : Prop :=
  ∃ s₂ o, Steps p.tables e below En s₂ ∧ s₂.status = .running ∧ Ended s₂ below o ∧ ∃ v L, o = .returned v ∧ Q v s₂.heap L ∧ FrameEnd s o s₂ L R.cells R.slots
theorem gap {tb : Tables} {e : Env} {below : List Frame} {T T' : State} {F F' : JFrame} {E : State} (g : Go tb e below T F E) (s : ∀ t, Steps tb e below (T'.setTop F') t → Steps tb e below (T.setTop F) t) : Go tb e below T' F' E := fun t k => g t (s t k)
theorem gapT {tb : Tables} {e : Env} {below : List Frame} {T T' : State} {F F' : JFrame} {E : State} (g : Go tb e below T F E) (s : Steps tb e below (T.setTop F) (T'.setTop F')) : Go tb e below T' F' E := fun t k => g t (s.trans k)
theorem own_mf {l : Launch} {y : MethodName} {b : ByteArray} {ml : Nat} {rt : Option FieldType} {ws : List Jvm.Cond} {R : Room} {A : Array Value} {Z : State} {h0 : Heap} {Q : Option Value → Heap → List Loc → Prop} {C : String} {Ls : Array Slot} (hc : y.cls = C) (hpl : plainFor y = true) (ef : ∀ m, entryFrame m A ml = mkF m 0 Ls [])
    (body : ∀ (p : Program) (e : Env) (s : State) (m : MethodId) (below : List Frame) (meth : Method) (c : Code) (s₁ En : State), p.tables.exec = Jvm.exec → c.code = b → c.maxLocals = ml → s.vm.findClass C = some m.cls → meth.name = y.name → Z.Warmed39 s.vm → Stand p l e R s m A below meth c s₁ [] 0 0 → s₁.heap = h0 → meth.locks = false → meth.sig.returnType = rt → Go p.tables e below s₁ (mkF m 0 Ls []) En → Fn p e below s R Q En) :
    MFn l y b ml rt ws R A Z h0 Q := by
  refine MetFree.of_bodySF hpl hisR ?_
  intro p e s m args below meth c s₁ Bd hml0 hP hK
  obtain ⟨hA, hZ, hh⟩ := hP
  subst hA hc
  exact body p e s m below meth c s₁ _ Bd.exec Bd.bytes hml0 (findClass_of_methodNamed Bd.named) (name_of_methodNamed Bd.named Bd.method).1 hZ (Stand.of_body Bd) (by rw [← hh, Bd.state]; rfl) Bd.notSynchronized Bd.returns (fun t k => castTop (ef m) k)
section
variable {l : Launch} {R : Room} {p : Program} {e : Env} {below : List Frame} {s : State} {args : Array Value} {Z : State} {aZ : Array Value} {h : Heap} {m : MethodId} {meth : Method} {c : Code} {T : State} {locs : List Loc} {cells slots : Nat} {pc : Nat} {Ls : Array Slot} {En : State} {Q : Option Value → Heap → List Loc → Prop}
theorem own_out (X : Stand p l e R s m args below meth c T locs cells slots) (hx : p.tables.exec = Jvm.exec) (hlk : meth.locks = false) {w : Value} {rest : List Value} {t : FieldType} {i : Instr} (go : Go p.tables e below T (mkF m pc Ls (w :: rest)) En) (hret : meth.sig.returnType = some t) (hn : narrow t w = w)
    (hi : (i = .ireturn ∧ (t = .int ∨ t = .boolean ∨ t = .byte ∨ t = .char ∨ t = .short) ∧ ∃ z, w = .int z) ∨ (i = .lreturn ∧ t = .long ∧ ∃ z, w = .long z) ∨ (i = .dreturn ∧ t = .double ∧ ∃ z, w = .double z) ∨ (i = .freturn ∧ t = .float ∧ ∃ z, w = .float z) ∨ (i = .areturn ∧ t.isReference = true ∧ w.isRef = true))
    (hd : decode c.code pc = .ok (i, 1)) (eT : T.heap = h) (hc : cells ≤ R.cells) (hs : slots ≤ R.slots) (hq : Q (some w) h locs) : Fn p e below s R Q En := by
  obtain ⟨fs, hr, hrun, hended, hW, hsame⟩ := X.leave (v := some w) (fun h => by rw [hret] at h; cases h) hlk
  exact ⟨_, _, go _ (Jvm.RoadKit.retOut X hx hret hn hi hd hr), hrun, hended, _, _, rfl, (by show Q (some w) T.heap locs; rw [eT]; exact hq), ⟨_, rfl⟩, hW, hsame.mono hc hs⟩
theorem own_outV (X : Stand p l e R s m args below meth c T locs cells slots) (hx : p.tables.exec = Jvm.exec) (hlk : meth.locks = false) (go : Go p.tables e below T (mkF m pc Ls []) En) (hret : meth.sig.returnType = none) (hd : decode c.code pc = .ok (.return_, 1)) (eT : T.heap = h) (hc : cells ≤ R.cells) (hs : slots ≤ R.slots) (hq : Q none h locs) : Fn p e below s R Q En := by
  obtain ⟨fs, hr, hrun, hended, hW, hsame⟩ := X.leave (v := none) (fun _ => rfl) hlk
  exact ⟨_, _, go _ (X.returnOut hx hret hd hr), hrun, hended, _, _, rfl, (by show Q none T.heap locs; rw [eT]; exact hq), ⟨_, rfl⟩, hW, hsame.mono hc hs⟩
abbrev SSt (aZ : Array Value) (Z : State) (y : MethodName) (b : ByteArray) (n : Nat) (rt : Option FieldType) : Prop := ((Jvm.Cond.static y).before aZ Z = true ∧ (Jvm.Cond.initialized y.cls).before aZ Z = true) ∧ (Jvm.Cond.code y b n rt).before aZ Z = true
abbrev SVt (aZ : Array Value) (Z : State) (C : String) (y : MethodName) (b : ByteArray) (n : Nat) (rt : Option FieldType) : Prop := (((Jvm.Cond.declares y).before aZ Z = true ∧ (Jvm.Cond.selects C y y).before aZ Z = true) ∧ (Jvm.Cond.instanceMethod y).before aZ Z = true ∧ (Jvm.Cond.initialized y.cls).before aZ Z = true) ∧ (Jvm.Cond.code y b n rt).before aZ Z = true
abbrev SPt (aZ : Array Value) (Z : State) (y : MethodName) (b : ByteArray) (n : Nat) (rt : Option FieldType) : Prop := (((Jvm.Cond.instanceMethod y).before aZ Z = true ∧ (Jvm.Cond.selects y.cls y y).before aZ Z = true) ∧ (Jvm.Cond.privateMethod y).before aZ Z = true ∧ (Jvm.Cond.initialized y.cls).before aZ Z = true) ∧ (Jvm.Cond.code y b n rt).before aZ Z = true
abbrev SIt (aZ : Array Value) (Z : State) (y : MethodName) (b : ByteArray) (n : Nat) : Prop := ((Jvm.Cond.instanceMethod y).before aZ Z = true ∧ (Jvm.Cond.initialized y.cls).before aZ Z = true) ∧ (Jvm.Cond.code y b n none).before aZ Z = true
variable {own : String} {index : Nat} {y : MethodName} {bytes : ByteArray} {maxL : Nat} {ret : Option FieldType} {rm : Room} {as' : Array Value} {W k : Nat} {S : List Value}
theorem own_cs (X : Stand p l e R s m args below meth c T locs cells slots) (hx : p.tables.exec = Jvm.exec) (hZ : Z.Warmed39 s.vm) (hown : s.vm.findClass own = some m.cls) (hml : c.maxLocals = k) (go : Go p.tables e below T (mkF m pc Ls S) En) (hd : decode c.code pc = .ok (.invokestatic index, 3)) (eT : T.heap = h)
    (wl : (Jvm.Cond.methodLink own index y).before aZ Z = true) (w : SSt aZ Z y bytes maxL ret) (hM : MFn l y bytes maxL ret [] rm as' Z h Q) (hy : y.cls ≠ "java/lang/invoke/MethodHandle" ∧ y.cls ≠ "java/lang/invoke/VarHandle") {argsL rest : List Value} (hst : S = argsL.reverse ++ rest) (has : argsL.toArray = as') (hz : Ls.size = k)
    (hlen : ∀ sig, parseMethodDescriptor y.desc = some sig → argsL.length = sig.parameters.length) (hW : (rest.map fun v => v.category).sum = W) (hf : rm.frames + 1 ≤ R.frames) (hl : W + (maxL + 11) + rm.locals ≤ R.locals) (hc : cells + rm.cells ≤ R.cells) (hs : slots + rm.slots ≤ R.slots) :
    ∃ (v : Option Value) (T' : State) (L : List Loc), Stand p l e R s m args below meth c T' (locs ++ L) (cells + rm.cells) (slots + rm.slots) ∧ Q v T'.heap L ∧ Go p.tables e below T' (mkF m (pc + 3) Ls (v.toList ++ rest)) En := by
  obtain ⟨v, vm₁, ⟨T', L, k', n'⟩, -, X', ⟨Lc, hQ, l1, y1, z1⟩, st⟩ := Jvm.LawKit.callS X hx hown (mvT hZ wl) (mvT hZ w.1.1) (mvT hZ w.1.2) (mvT hZ w.2) hy (backOf (W := W) hM hZ w.2 w.1.2 hf hl) (g := mkF m pc Ls S) rfl (hz.trans hml.symm) (argsL := argsL) (rest := rest) hlen hst (by show 2 * 0 + _ ≤ _; rw [hW]; omega) hd (fun _ _ => ⟨has, eT, hc, hs⟩)
  dsimp only [Pt.U, Pt.locs, Pt.cells, Pt.slots] at X' l1 y1 z1 st hQ
  subst l1 y1 z1
  exact ⟨v, T', Lc, X', hQ, gap go st⟩
theorem own_cv (X : Stand p l e R s m args below meth c T locs cells slots) (hx : p.tables.exec = Jvm.exec) (hZ : Z.Warmed39 s.vm) (hown : s.vm.findClass own = some m.cls) (hml : c.maxLocals = k) (go : Go p.tables e below T (mkF m pc Ls S) En) (hd : decode c.code pc = .ok (.invokevirtual index, 3)) (eT : T.heap = h)
    (wl : (Jvm.Cond.methodLink own index y).before aZ Z = true) {C : String} (w : SVt aZ Z C y bytes maxL ret) {a : Addr} (E : Exa Z h a C) (hM : MFn l y bytes maxL ret [] rm as' Z h Q) (hy : y.cls ≠ "java/lang/invoke/MethodHandle" ∧ y.cls ≠ "java/lang/invoke/VarHandle") {argsL rest : List Value} (hst : S = argsL.reverse ++ .ref a :: rest) (has : (Value.ref a :: argsL).toArray = as') (hz : Ls.size = k)
    (hlen : ∀ sig, parseMethodDescriptor y.desc = some sig → argsL.length = sig.parameters.length) (hW : (rest.map fun v => v.category).sum = W) (hf : rm.frames + 1 ≤ R.frames) (hl : W + (maxL + 11) + rm.locals ≤ R.locals) (hc : cells + rm.cells ≤ R.cells) (hs : slots + rm.slots ≤ R.slots) :
    ∃ (v : Option Value) (T' : State) (L : List Loc), Stand p l e R s m args below meth c T' (locs ++ L) (cells + rm.cells) (slots + rm.slots) ∧ Q v T'.heap L ∧ Go p.tables e below T' (mkF m (pc + 3) Ls (v.toList ++ rest)) En := by
  obtain ⟨cB, kB, qa, qb, qc⟩ := isOf hZ eT E
  obtain ⟨v, vm₁, ⟨T', L, k', n'⟩, -, X', ⟨Lc, hQ, l1, y1, z1⟩, st⟩ := X.virtualBack hx hown (mvT hZ wl) (mvT hZ w.1.1.1) (notFace_of_selects (args := #[]) (mvT hZ w.1.1.2)) (mvT hZ w.1.1.2) (mvT hZ w.1.2.1) hy (backOf (W := W) hM hZ w.2 w.1.2.2 hf hl) qa qc (g := mkF m pc Ls S) rfl (hz.trans hml.symm) (Steps.refl _) (argsL := argsL) (rest := rest) hlen hst (by show 2 * 0 + _ ≤ _; rw [hW]; omega) hd (fun _ _ => ⟨has, eT, hc, hs⟩)
  dsimp only [Pt.U, Pt.locs, Pt.cells, Pt.slots] at X' l1 y1 z1 st hQ
  subst l1 y1 z1
  exact ⟨v, T', Lc, X', hQ, gapT go st⟩
theorem own_selp {n : Nat} (wi : (Jvm.Cond.instantiable y.cls n).before aZ Z = true) (wp : (Jvm.Cond.privateMethod y).before aZ Z = true) (wm : (Jvm.Cond.instanceMethod y).before aZ Z = true) (hy : y.cls ≠ "java/lang/invoke/MethodHandle" ∧ y.cls ≠ "java/lang/invoke/VarHandle") : (Jvm.Cond.selects y.cls y y).before aZ Z = true := by
  obtain ⟨t, k, g0, g2, g5, g6, -, -⟩ := Cond.instantiable_spec wi
  simp only [Bool.or_eq_false_iff] at g6
  exact selects_self_of_private g0 g2 g6.1 (Cond.privateMethod_at wp) wm hy
theorem own_cb (X : Stand p l e R s m args below meth c T locs cells slots) (hx : p.tables.exec = Jvm.exec) (hZ : Z.Warmed39 s.vm) (hown : s.vm.findClass own = some m.cls) (hml : c.maxLocals = k) (go : Go p.tables e below T (mkF m pc Ls S) En) (hd : decode c.code pc = .ok (.invokespecial index, 3)) (eT : T.heap = h)
    (wl : (Jvm.Cond.methodLink own index y).before aZ Z = true) (w : SIt aZ Z y bytes maxL) (hn : y.name = "<init>") {a : Addr} {k1 k2 : Nat}
    (hK : Back l R p e below s args y 3 W (fun P a => a = as' ∧ P.U.heap = h ∧ P.cells + k1 ≤ R.cells ∧ P.slots + k2 ≤ R.slots) (fun P _ v B => ∃ L, Q v B.U.heap L ∧ B.locs = P.locs ++ L ∧ B.cells = P.cells + k1 ∧ B.slots = P.slots + k2))
    (hy : y.cls ≠ "java/lang/invoke/MethodHandle" ∧ y.cls ≠ "java/lang/invoke/VarHandle") {argsL rest : List Value} (hst : S = argsL.reverse ++ .ref a :: rest) (has : (Value.ref a :: argsL).toArray = as') (hz : Ls.size = k)
    (hlen : ∀ sig, parseMethodDescriptor y.desc = some sig → argsL.length = sig.parameters.length) (hW : (rest.map fun v => v.category).sum = W) (hc : cells + k1 ≤ R.cells) (hs : slots + k2 ≤ R.slots) :
    ∃ (v : Option Value) (T' : State) (L : List Loc), Stand p l e R s m args below meth c T' (locs ++ L) (cells + k1) (slots + k2) ∧ Q v T'.heap L ∧ Go p.tables e below T' (mkF m (pc + 3) Ls (v.toList ++ rest)) En := by
  obtain ⟨v, vm₁, ⟨T', L, k', n'⟩, -, X', ⟨Lc, hQ, l1, y1, z1⟩, st⟩ := X.specialBack hx hn hown (mvT hZ wl) (mvT hZ w.1.1) (mvT hZ w.2) hy hK (g := mkF m pc Ls S) rfl (hz.trans hml.symm) (Steps.refl _) (a := a) (argsL := argsL) (rest := rest) hlen hst (by show 2 * 0 + _ ≤ _; rw [hW]; omega) hd (fun _ _ => ⟨has, eT, hc, hs⟩)
  dsimp only [Pt.U, Pt.locs, Pt.cells, Pt.slots] at X' l1 y1 z1 st hQ
  subst l1 y1 z1
  exact ⟨v, T', Lc, X', hQ, gapT go st⟩
theorem own_cp (X : Stand p l e R s m args below meth c T locs cells slots) (hx : p.tables.exec = Jvm.exec) (hZ : Z.Warmed39 s.vm) (hown : s.vm.findClass own = some m.cls) (hml : c.maxLocals = k) (go : Go p.tables e below T (mkF m pc Ls S) En) (hd : decode c.code pc = .ok (.invokevirtual index, 3)) (eT : T.heap = h)
    (wl : (Jvm.Cond.methodLink own index y).before aZ Z = true) (w : SPt aZ Z y bytes maxL ret) {C : String} {a : Addr} (E : Exa Z h a C) (hM : MFn l y bytes maxL ret [] rm as' Z h Q) (hy : y.cls ≠ "java/lang/invoke/MethodHandle" ∧ y.cls ≠ "java/lang/invoke/VarHandle") {argsL rest : List Value} (hst : S = argsL.reverse ++ .ref a :: rest) (has : (Value.ref a :: argsL).toArray = as') (hz : Ls.size = k)
    (hlen : ∀ sig, parseMethodDescriptor y.desc = some sig → argsL.length = sig.parameters.length) (hW : (rest.map fun v => v.category).sum = W) (hf : rm.frames + 1 ≤ R.frames) (hl : W + (maxL + 11) + rm.locals ≤ R.locals) (hc : cells + rm.cells ≤ R.cells) (hs : slots + rm.slots ≤ R.slots) :
    ∃ (v : Option Value) (T' : State) (L : List Loc), Stand p l e R s m args below meth c T' (locs ++ L) (cells + rm.cells) (slots + rm.slots) ∧ Q v T'.heap L ∧ Go p.tables e below T' (mkF m (pc + 3) Ls (v.toList ++ rest)) En := by
  obtain ⟨cq, q1, q2⟩ := E.cell
  obtain ⟨v, vm₁, ⟨T', L, k', n'⟩, -, X', ⟨Lc, hQ, l1, y1, z1⟩, st⟩ := X.privateBack hx hown (mvT hZ wl) (mvT hZ w.1.1.1) (mvT hZ w.1.1.2) (Cond.privateMethod_at (mvP hZ w.1.2.1 (args := #[]))) (mvT hZ w.2) hy (backOf (W := W) hM hZ w.2 w.1.2.2 hf hl) (g := mkF m pc Ls S) rfl (hz.trans hml.symm) (Steps.refl _) (a := a) (by rw [eT]; exact q1) q2 (argsL := argsL) (rest := rest) hlen hst (by show 2 * 0 + _ ≤ _; rw [hW]; omega) hd (fun _ _ => ⟨has, eT, hc, hs⟩)
  dsimp only [Pt.U, Pt.locs, Pt.cells, Pt.slots] at X' l1 y1 z1 st hQ
  subst l1 y1 z1
  exact ⟨v, T', Lc, X', hQ, gapT go st⟩
theorem own_ci (X : Stand p l e R s m args below meth c T locs cells slots) (hx : p.tables.exec = Jvm.exec) (hZ : Z.Warmed39 s.vm) (hown : s.vm.findClass own = some m.cls) (hml : c.maxLocals = k) (go : Go p.tables e below T (mkF m pc Ls S) En) (hd : decode c.code pc = .ok (.invokespecial index, 3)) (eT : T.heap = h)
    (wl : (Jvm.Cond.methodLink own index y).before aZ Z = true) (w : SIt aZ Z y bytes maxL) (hn : y.name = "<init>") {a : Addr} (hM : MFn l y bytes maxL none [] rm as' Z h Q) (hy : y.cls ≠ "java/lang/invoke/MethodHandle" ∧ y.cls ≠ "java/lang/invoke/VarHandle") {argsL rest : List Value} (hst : S = argsL.reverse ++ .ref a :: rest) (has : (Value.ref a :: argsL).toArray = as') (hz : Ls.size = k)
    (hlen : ∀ sig, parseMethodDescriptor y.desc = some sig → argsL.length = sig.parameters.length) (hW : (rest.map fun v => v.category).sum = W) (hf : rm.frames + 1 ≤ R.frames) (hl : W + (maxL + 11) + rm.locals ≤ R.locals) (hc : cells + rm.cells ≤ R.cells) (hs : slots + rm.slots ≤ R.slots) :
    ∃ (v : Option Value) (T' : State) (L : List Loc), Stand p l e R s m args below meth c T' (locs ++ L) (cells + rm.cells) (slots + rm.slots) ∧ Q v T'.heap L ∧ Go p.tables e below T' (mkF m (pc + 3) Ls (v.toList ++ rest)) En := by
  obtain ⟨v, vm₁, ⟨T', L, k', n'⟩, -, X', ⟨Lc, hQ, l1, y1, z1⟩, st⟩ := X.specialBack hx hn hown (mvT hZ wl) (mvT hZ w.1.1) (mvT hZ w.2) hy (backOf (W := W) hM hZ w.2 w.1.2 hf hl) (g := mkF m pc Ls S) rfl (hz.trans hml.symm) (Steps.refl _) (a := a) (argsL := argsL) (rest := rest) hlen hst (by show 2 * 0 + _ ≤ _; rw [hW]; omega) hd (fun _ _ => ⟨has, eT, hc, hs⟩)
  dsimp only [Pt.U, Pt.locs, Pt.cells, Pt.slots] at X' l1 y1 z1 st hQ
  subst l1 y1 z1
  exact ⟨v, T', Lc, X', hQ, gapT go st⟩
end
theorem own_ib {Z : State} {vm0 vm1 : Vm} {Ts : List String} (I : IB Z vm0 Ts) (e : vm1.interned = vm0.interned) : IB Z vm1 Ts := by
  obtain ⟨more, q, r⟩ := I; exact ⟨more, e.trans q, r⟩
theorem own_exa_arv_ne {Z : State} {aZ : Array Value} {h : Heap} {a b : Addr} {C : String} {m : Nat} {k : ClassId} {ty : FieldType} {n : Int32} {vs : List Value} {d : Value} (E : Exa Z h a C) (A : Arv Z h b k ty n vs d) (w : (Jvm.Cond.instantiable C m).before aZ Z = true) : a ≠ b := fun q => by
  subst q
  obtain ⟨cell, kc, h1, h2, h3, -, -⟩ := E
  obtain ⟨cl, ⟨g1, g2, -⟩, -⟩ := A
  rw [h1] at g1; cases g1
  obtain ⟨cI, kI, hfI, hkI, hkindI, -⟩ := Cond.instantiable_spec w
  cases h2.symm.trans hfI
  obtain ⟨-, k9, hk9, cm, hkind⟩ := g2
  rw [hkI] at hk9; cases hk9
  rw [hkindI] at hkind; cases hkind
theorem own_frs {n0 : Nat} {h0 : Heap} {s : State} {locs : List Loc} (e : n0 = h0.size) (hh : s.heap = h0) (N : Fr n0 locs) : Fr s.heap.size locs := by subst e hh; exact N
theorem own_frm {n0 n1 : Nat} {L : List Loc} (q : n0 ≤ n1) (N : Fr n1 L) : Fr n0 L := fun y hy => Nat.le_trans q (N y hy)
section
variable {l : Launch} {R : Room} {p : Program} {e : Env} {below : List Frame} {s : State} {args : Array Value} {Z : State} {aZ : Array Value} {h : Heap} {Ts Ts1 : List String}
/-- the way back from a callee that asks In of the tables at its start and says Got of them at its end -/
theorem own_backG {y : MethodName} {bytes : ByteArray} {maxL : Nat} {ret : Option FieldType} {rm : Room} {len W : Nat} {as' : Array Value} {In : Vm → Prop} {End : State → Outcome → State → Prop} {Got : Option Value → Vm → Heap → List Loc → Prop} {Post : Pt → Array Value → Option Value → Pt → Prop}
    (hM : MetFree l y (head1 [Cond.code y bytes maxL ret] rm) (fun a U => a = as' ∧ Z.Warmed39 U.vm ∧ U.heap = h ∧ In U.vm) (fun _ _ _ _ _ => True) (fun _ => End))
    (hZ : Z.Warmed39 s.vm) (wc : (Cond.code y bytes maxL ret).before aZ Z = true) (wz : (Cond.initialized y.cls).before aZ Z = true) (hf : rm.frames + 1 ≤ R.frames) (hl : W + (maxL + 11) + rm.locals ≤ R.locals)
    (hin : ∀ vm, s.WarmedH vm → In vm) (hend : ∀ U o t, End U o t → ∃ v L, o = .returned v ∧ Got v t.vm t.heap L ∧ ReturnedEndW U o t L rm.cells rm.slots)
    (hpost : ∀ A a v B L, Got v (Pt.U B).vm (Pt.U B).heap L → Pt.locs B = Pt.locs A ++ L → Pt.cells B = Pt.cells A + rm.cells → Pt.slots B = Pt.slots A + rm.slots → Post A a v B) :
    BackS l R p e below s args y len W (fun A a => a = as' ∧ A.U.heap = h ∧ A.cells + rm.cells ≤ R.cells ∧ A.slots + rm.slots ≤ R.slots) Post := by
  have warm : ∀ {m meth c} {A : Pt}, Stand p l e R s m args below meth c A.U A.locs A.cells A.slots → Z.Warmed39 A.U.vm := fun Y => wtrans hZ Y.warmed
  refine BackS.of_freeW (bytes := bytes) (maxL := maxL) (ret := ret) (E := fun _ _ o t L k n => ∃ v, o = .returned v ∧ Got v t.vm t.heap L ∧ k = rm.cells ∧ n = rm.slots) hM hf hl ?pre ?here (fun _ _ _ _ _ _ _ _ _ => trivial) ?leave ?post
  case pre =>
    rintro m meth c A a Y ⟨-, -, room⟩
    have k := mv (args := a) (warm Y) wc
    refine ⟨?_, k, mv (warm Y) wz, room⟩
    change (Cond.and _ .tt).before a A.U = true
    simp only [Cond.before_and, k]; rfl
  case here =>
    rintro m meth c A a g mk Y ⟨ea, eh, -⟩
    exact ⟨ea, warm Y, eh, hin _ Y.warmed⟩
  case leave =>
    intro a U o t q
    obtain ⟨v, L, e1, g1, r1⟩ := hend U o t q
    exact ⟨L, _, _, r1, v, e1, g1, rfl, rfl⟩
  case post =>
    rintro m meth c A a g mk v t L k n - - - - ⟨v', e1, g1, rfl, rfl⟩
    cases e1
    exact hpost A a v _ L g1 rfl rfl rfl
theorem own_backOfSI {y : MethodName} {bytes : ByteArray} {maxL : Nat} {ret : Option FieldType} {rm : Room} {len W : Nat} {as' : Array Value} {Q : Option Value → Heap → List Loc → Prop}
    (hM : MetFree l y (head1 [Cond.code y bytes maxL ret] rm) (fun a U => a = as' ∧ Z.Warmed39 U.vm ∧ U.heap = h ∧ IB Z U.vm Ts) (fun _ _ _ _ _ => True) (fun _ U o U' => ∃ v L, o = .returned v ∧ Q v U'.heap L ∧ ReturnedEndW U o U' L rm.cells rm.slots))
    (hZ : Z.Warmed39 s.vm) (wc : (Cond.code y bytes maxL ret).before aZ Z = true) (wz : (Cond.initialized y.cls).before aZ Z = true) (hf : rm.frames + 1 ≤ R.frames) (hl : W + (maxL + 11) + rm.locals ≤ R.locals) (I : IB Z s.vm Ts) :
    BackS l R p e below s args y len W (fun A a => a = as' ∧ A.U.heap = h ∧ A.cells + rm.cells ≤ R.cells ∧ A.slots + rm.slots ≤ R.slots)
      (fun A _ v B => ∃ L, Q v B.U.heap L ∧ B.locs = A.locs ++ L ∧ B.cells = A.cells + rm.cells ∧ B.slots = A.slots + rm.slots) :=
  own_backG (In := fun vm => IB Z vm Ts) (Got := fun v _ h L => Q v h L) hM hZ wc wz hf hl (fun _ w => own_ib I w.interned_eq) (fun _ _ _ q => q) (fun _ _ _ _ L q e1 e2 e3 => ⟨L, q, e1, e2, e3⟩)
theorem own_backOfSIP {y : MethodName} {bytes : ByteArray} {maxL : Nat} {ret : Option FieldType} {rm : Room} {len W : Nat} {as' : Array Value} {Q : Option Value → Heap → List Loc → Prop}
    (hM : MetFree l y (head1 [Cond.code y bytes maxL ret] rm) (fun a U => a = as' ∧ Z.Warmed39 U.vm ∧ U.heap = h ∧ IB Z U.vm Ts) (fun _ _ _ _ _ => True) (fun _ U o U' => ∃ v L, o = .returned v ∧ Q v U'.heap L ∧ IB Z U'.vm Ts1 ∧ ReturnedEndW U o U' L rm.cells rm.slots))
    (hZ : Z.Warmed39 s.vm) (wc : (Cond.code y bytes maxL ret).before aZ Z = true) (wz : (Cond.initialized y.cls).before aZ Z = true) (hf : rm.frames + 1 ≤ R.frames) (hl : W + (maxL + 11) + rm.locals ≤ R.locals) (I : IB Z s.vm Ts) :
    BackS l R p e below s args y len W (fun A a => a = as' ∧ A.U.heap = h ∧ A.cells + rm.cells ≤ R.cells ∧ A.slots + rm.slots ≤ R.slots)
      (fun A _ v B => ∃ L, Q v B.U.heap L ∧ B.locs = A.locs ++ L ∧ B.cells = A.cells + rm.cells ∧ B.slots = A.slots + rm.slots ∧ IB Z B.U.vm Ts1) :=
  own_backG (In := fun vm => IB Z vm Ts) (Got := fun v vm h L => Q v h L ∧ IB Z vm Ts1) hM hZ wc wz hf hl (fun _ w => own_ib I w.interned_eq) (fun _ _ _ ⟨v, L, q1, q2, q3, q4⟩ => ⟨v, L, q1, ⟨q2, q3⟩, q4⟩) (fun _ _ _ _ L q e1 e2 e3 => ⟨L, q.1, e1, e2, e3, q.2⟩)
end
theorem d2_0 : decode jdk_42_method_149_code 0 = .ok (.aload_n 0, 1) := by decide +kernel
theorem d2_1 : decode jdk_42_method_149_code 1 = .ok (.invokespecial 1, 3) := by decide +kernel
theorem d2_4 : decode jdk_42_method_149_code 4 = .ok (.iload_n 3, 1) := by decide +kernel
theorem d2_5 : decode jdk_42_method_149_code 5 = .ok (.ifCond .ne 22, 3) := by decide +kernel
theorem d2_8 : decode jdk_42_method_149_code 8 = .ok (.aload_n 0, 1) := by decide +kernel
theorem d2_9 : decode jdk_42_method_149_code 9 = .ok (.ldc 7, 2) := by decide +kernel
theorem own_sa : ∀ a ∈ Bundle.stringAtoms, a ∈ tables_1 := by decide +kernel
theorem own_txt_java_lang_String_7 : (∀ c ∈ ("" : String).toList, c.toNat < 256) ∧ ("" : String).toList.map (fun c => Value.int (Jvm.Lit.byteI c.toNat.toUInt16)) = [] := ⟨by decide +kernel, by first | rfl | decide +kernel⟩
theorem d2_11 : decode jdk_42_method_149_code 11 = .ok (.getfield 9, 3) := by decide +kernel
theorem d2_14 : decode jdk_42_method_149_code 14 = .ok (.putfield 9, 3) := by decide +kernel
theorem d2_17 : decode jdk_42_method_149_code 17 = .ok (.aload_n 0, 1) := by decide +kernel
theorem d2_18 : decode jdk_42_method_149_code 18 = .ok (.ldc 7, 2) := by decide +kernel
theorem d2_20 : decode jdk_42_method_149_code 20 = .ok (.getfield 15, 3) := by decide +kernel
theorem d2_23 : decode jdk_42_method_149_code 23 = .ok (.putfield 15, 3) := by decide +kernel
theorem d2_26 : decode jdk_42_method_149_code 26 = .ok (.return_, 1) := by decide +kernel
theorem pn_15 : plainName "java/lang/String" = true := by first | (simp [plainName, overriddenIn]; done) | decide +kernel
def QiAn0 (Z : State) (n0 : Nat) (a0 : Addr) (a1 : Addr) (k_a1 : ClassId) (h0 : Heap) (v : Option Value) (h : Heap) (L : List Loc) : Prop := v = none ∧ Fr n0 L ∧ Keep h0 h [a0] ∧ Exa Z h a0 "java/lang/String" ∧ Fld Z h a0 "java/lang/String" "coder" "B" (.int (0 : Int32))
theorem efiAn0 (m : MethodId) (a0 : Addr) (a1 : Addr) : entryFrame m #[(.ref a0), (.ref a1), (.int (0 : Int32)), (.int (0 : Int32)), .null] 6 = mkF m 0 #[rv a0, rv a1, iv (0 : Int32), iv (0 : Int32), .val .null, .unset] [] := by first | (simp [entryFrame, mkF, argsToLocals, Value.category]; done) | rfl
abbrev LiAn0_0 (a0 : Addr) (a1 : Addr) : Array Slot := #[rv a0, rv a1, iv 0, iv 0, .val .null, .unset]
set_option maxRecDepth 65536 in
set_option maxHeartbeats 40000000 in
theorem rmiAn0 (l : Launch) (Z : State) (aZ : Array Value) (hw : ∀ d ∈ tables_1, d.before aZ Z = true) (ws : List Jvm.Cond) (a0 : Addr) (a1 : Addr) (k_a1 : ClassId) (h0 : Heap) (n0 : Nat) (Z0 : n0 ≤ h0.size) (E_a0 : Exa Z h0 a0 "java/lang/String") (F_a0_value : Fld Z h0 a0 "java/lang/String" "value" "[B" .null) (F_a0_coder : Fld Z h0 a0 "java/lang/String" "coder" "B" (.int 0)) (g_a0 : n0 ≤ a0) (V_a1 : Arv Z h0 a1 k_a1 .char (0 : Int32) [] (.int 0)) (hkp : ∀ (b : Addr) (cl : Cell), Z.heap[b]? = some cl → h0[b]? = some cl) (hcn7 : Jvm.Lit.constHeld Z "java/lang/String" 7) (hcw : Jvm.Lit.compactW.before aZ Z = true) :
    MetFree l (⟨"java/lang/String", "<init>", "([CIILjava/lang/Void;)V"⟩ : MethodName) (head1 (Jvm.Cond.code (⟨"java/lang/String", "<init>", "([CIILjava/lang/Void;)V"⟩ : MethodName) jdk_42_method_149_code 6 none :: ws) ({ frames := 1, cells := 2, slots := 4, locals := 12 } : Room)) (fun a U => a = #[(.ref a0), (.ref a1), (.int 0), (.int 0), .null] ∧ Z.Warmed39 U.vm ∧ U.heap = h0 ∧ IB Z U.vm []) (fun _ _ _ _ _ => True) (fun _ U o U' => ∃ v L, o = .returned v ∧ QiAn0 Z n0 a0 a1 k_a1 h0 v U'.heap L ∧ ReturnedEndW U o U' L ({ frames := 1, cells := 2, slots := 4, locals := 12 } : Room).cells ({ frames := 1, cells := 2, slots := 4, locals := 12 } : Room).slots) := by
  refine MetFree.of_bodySF (plainFor_of_name pn_15) hisR ?_
  intro p e s m args below meth c s₁ Bd hml0 hP hK
  obtain ⟨rfl, hZ, hh, IB0⟩ := hP
  have hx := Bd.exec
  have hby := Bd.bytes
  have hml : c.maxLocals = 6 := hml0
  have hown : s.vm.findClass "java/lang/String" = some m.cls := findClass_of_methodNamed Bd.named
  have hnm := (name_of_methodNamed Bd.named Bd.method).1
  have X0 : Stand p l e ({ frames := 1, cells := 2, slots := 4, locals := 12 } : Room) (s.setVm s.vm) m #[(.ref a0), (.ref a1), (.int 0), (.int 0), .null] below meth c s₁ [] 0 0 := Stand.of_body Bd
  have e0 : s₁.heap = h0 := by rw [← hh, Bd.state]; rfl
  have N0 := Fr.nil n0
  have K0 : Keep h0 h0 [a0] := Keep.refl _ _
  obtain ⟨En, hEn⟩ : ∃ z, z = (s₁.setTop (entryFrame m #[(.ref a0), (.ref a1), (.int 0), (.int 0), .null] 6)) := ⟨_, rfl⟩
  have go0 : Go p.tables e below s₁ (mkF m 0 (LiAn0_0 a0 a1) []) En := fun t k => by subst hEn; exact castTop (efiAn0 m a0 a1) k
  have hS0 : s.Since s.vm s.heap.size := (State.WarmedH.refl s).since _
  have hk0 : s.heap.size ≤ h0.size := by rw [← hh]; exact Nat.le_refl _
  have hkS : ∀ (b : Addr) (cl : Cell), Z.heap[b]? = some cl → s.heap[b]? = some cl := fun b cl q => by rw [hh]; exact hkp b cl q
  have neA1 : a0 ≠ a1 := own_exa_arv_ne E_a0 V_a1 (hw _ (mi 2 rfl))
  have go1 : Go p.tables e below s₁ (mkF m 1 (LiAn0_0 a0 a1) [(.ref a0)]) En := by
    intro t k
    refine go0 _ ?_
    refine XS.aloadN X0.here hx rfl (hb hby d2_0) rfl rfl ?_
    exact k
  obtain ⟨T2, X2, e2, st2⟩ := initO X0 hx hZ hown (hw _ (mi 11 rfl)) (hw _ (mi 12 rfl)) (hw _ (mi 13 rfl)) e0 (g := (mkF m 1 (LiAn0_0 a0 a1) [(.ref a0)])) rfl (by rw [hml]; rfl) rfl (hb hby d2_1) (by decide) (W := 0) (by show 2 * 0 + _ ≤ _; exact Nat.le_of_eq rfl) (by decide)
  have go3 := gap go1 st2
  have go4 : Go p.tables e below T2 (mkF m 9 (LiAn0_0 a0 a1) [(.ref a0)]) En := by
    intro t k
    refine go3 _ ?_
    refine XS.iloadN X2.here hx rfl (hb hby d2_4) rfl ?_
    refine XS.ifNo X2.here hx rfl (hb hby d2_5) rfl (XT.i0_ne_f (by decide : ((0 : Int32) = (0 : Int32)))) ?_
    refine XS.aloadN X2.here hx rfl (hb hby d2_8) rfl rfl ?_
    show Steps _ _ _ (T2.setTop (mkF m 9 (LiAn0_0 a0 a1) [(.ref a0)])) _
    exact k
  obtain ⟨b5, T5, h5, k5, bv5, kv5, X5, e5, E5, hS5, hk5, hZ5, hown5, A5, FC5, FV5, AV5, -, -, I5, Lt5, wh5, st5⟩ := ldcSVd X2 hx hZ hown (hw _ (mi 14 rfl)) (fun a ha => hw a (own_sa a ha)) e2 hS0 hk0 (Fr.nil _) hkS IB0 (by decide) hcn7 hcw (vs := []) (z := (0 : Int32)) own_txt_java_lang_String_7 (by decide) rfl (g := (mkF m 9 (LiAn0_0 a0 a1) [(.ref a0)])) rfl (hb hby d2_9) (n := 0) (by decide +kernel) (by decide) (by decide) (by decide)
  have go6 := gap go4 st5
  have K5 : Keep h0 h5 [a0] := K0.ext E5
  have Zs5 : n0 ≤ h5.size := Nat.le_trans Z0 E5.1
  have F7 := F_a0_value.ext E5
  have F8 := F_a0_coder.ext E5
  have neL5_a0 : a0 ≠ b5 := Fld.ne F7 FV5 (fun q => nomatch q)
  have neA5_a0 : a0 ≠ bv5 := own_exa_arv_ne (E_a0.keep K5) AV5 (hw _ (mi 2 rfl))
  obtain ⟨T9, X9, e9, st9⟩ := getF X5 hx hZ5 hown5 (host := "") (Or.inl (hw _ (mi 20 rfl))) Via.refl e5 FV5 (g := (mkF m 11 (LiAn0_0 a0 a1) [(.ref b5), (.ref a0)])) rfl rfl (hb hby d2_11)
  have go10 := gap go6 st9
  obtain ⟨T11, h11, X11, e11, W11, st11⟩ := putF X9 hx hZ5 hown5 (host := "") (Or.inl (hw _ (mi 20 rfl))) Via.refl e9 F7 (E_a0.keep K5) (Or.inr ⟨(hw _ (mi 16 rfl)), rfl, hnm⟩) (hw _ (mi 2 rfl)) (ty := (.array .byte)) (by decide) rfl rfl (g := (mkF m 14 (LiAn0_0 a0 a1) [(.ref bv5), (.ref a0)])) rfl rfl (hb hby d2_14)
  have go12 := gap go10 st11
  have N11 := Fr.snoc X11 N0 g_a0
  have K11 : Keep h0 h11 [a0] := K5.wr W11 (Or.inl (List.mem_of_getElem? (i := 0) rfl))
  have Zs11 : n0 ≤ h11.size := Nat.le_trans Zs5 (Keep.of_wr W11).1
  have hk11 : k5 ≤ h11.size := Nat.le_trans hk5 (Keep.of_wr W11).1
  have F13 : Fld Z h11 a0 "java/lang/String" "value" "[B" (.ref bv5) := F7.same W11
  have F14 := F8.other W11 (Or.inr (slot_ne (Or.inr (hw _ (mi 17 rfl))) (Or.inr (hw _ (mi 16 rfl))) (by decide) (t := .byte) (t' := (.array .byte)) (by decide) (by decide)))
  have F15 := A5.wr W11
  have F16 := FC5.other W11 (Or.inl (Ne.symm neL5_a0))
  have F17 := FV5.other W11 (Or.inl (Ne.symm neL5_a0))
  have F18 := AV5.other W11 (Ne.symm neA5_a0)
  have go19 : Go p.tables e below T11 (mkF m 18 (LiAn0_0 a0 a1) [(.ref a0)]) En := by
    intro t k
    refine go12 _ ?_
    refine XS.aloadN X11.here hx rfl (hb hby d2_17) rfl rfl ?_
    exact k
  have st20 := ldcAgain X11 hx hZ5 hown5 (hw _ (mi 14 rfl)) Lt5 (g := (mkF m 18 (LiAn0_0 a0 a1) [(.ref a0)])) rfl (hb hby d2_18)
  have go21 := gap go19 st20
  obtain ⟨T22, X22, e22, st22⟩ := getF X11 hx hZ5 hown5 (host := "") (Or.inl (hw _ (mi 21 rfl))) Via.refl e11 F16 (g := (mkF m 20 (LiAn0_0 a0 a1) [(.ref b5), (.ref a0)])) rfl rfl (hb hby d2_20)
  have go23 := gap go21 st22
  obtain ⟨T24, h24, X24, e24, W24, st24⟩ := putFN X22 hx hZ5 hown5 (hw _ (mi 21 rfl)) Via.refl e22 F14 (E_a0.keep K11) (Or.inr ⟨(hw _ (mi 17 rfl)), rfl, hnm⟩) (hw _ (mi 2 rfl)) (ty := .byte) (v' := (.int 0)) (by decide) rfl rfl (g := (mkF m 23 (LiAn0_0 a0 a1) [(.int 0), (.ref a0)])) rfl rfl (hb hby d2_23)
  have go25 := gap go23 st24
  have N24 := Fr.snoc X24 N11 g_a0
  have K24 : Keep h0 h24 [a0] := K11.wr W24 (Or.inl (List.mem_of_getElem? (i := 0) rfl))
  have Zs24 : n0 ≤ h24.size := Nat.le_trans Zs11 (Keep.of_wr W24).1
  have hk24 : k5 ≤ h24.size := Nat.le_trans hk11 (Keep.of_wr W24).1
  have F26 := F13.other W24 (Or.inr (slot_ne (Or.inr (hw _ (mi 16 rfl))) (Or.inr (hw _ (mi 17 rfl))) (by decide) (t := (.array .byte)) (t' := .byte) (by decide) (by decide)))
  have F27 : Fld Z h24 a0 "java/lang/String" "coder" "B" (.int 0) := F14.same W24
  have F28 := F15.wr W24
  have F29 := F16.other W24 (Or.inl (Ne.symm neL5_a0))
  have F30 := F17.other W24 (Or.inl (Ne.symm neL5_a0))
  have F31 := F18.other W24 (Ne.symm neA5_a0)
  obtain ⟨fs, hr, hrun, hended, hRW⟩ := X24.leaveW hS5 (by rw [e24]; exact hk24) (v := none) (fun _ => rfl) Bd.notSynchronized
  subst hEn
  refine ⟨_, _, go25 _ (X24.returnOut hx Bd.returns (hb hby d2_26) hr), hrun, hended, _, _, rfl, ?_, hRW.1, hRW.2.1, hRW.2.2.1, hRW.2.2.2.mono (by decide) (by decide)⟩
  show QiAn0 _ _ a0 a1 k_a1 h0 _ (T24.setFrames fs).heap _
  have hE : (T24.setFrames fs).heap = h24 := e24
  rw [hE]
  exact ⟨rfl, N24, K24, (E_a0.keep K24), F27⟩
theorem d1_0 : decode jdk_42_method_3_code 0 = .ok (.aload_n 0, 1) := by decide +kernel
theorem d1_1 : decode jdk_42_method_3_code 1 = .ok (.aload_n 1, 1) := by decide +kernel
theorem d1_2 : decode jdk_42_method_3_code 2 = .ok (.iconst 0, 1) := by decide +kernel
theorem d1_3 : decode jdk_42_method_3_code 3 = .ok (.aload_n 1, 1) := by decide +kernel
theorem d1_4 : decode jdk_42_method_3_code 4 = .ok (.arraylength, 1) := by decide +kernel
theorem d1_5 : decode jdk_42_method_3_code 5 = .ok (.aconst_null, 1) := by decide +kernel
theorem d1_6 : decode jdk_42_method_3_code 6 = .ok (.invokespecial 27, 3) := by decide +kernel
theorem pd_23 : parseMethodDescriptor "([CIILjava/lang/Void;)V" = some ⟨[(.array .char), .int, .int, (.object "java/lang/Void")], none⟩ := by decide +kernel
theorem d1_9 : decode jdk_42_method_3_code 9 = .ok (.return_, 1) := by decide +kernel
def QiBn0 (Z : State) (n0 : Nat) (a0 : Addr) (a1 : Addr) (k_a1 : ClassId) (h0 : Heap) (v : Option Value) (h : Heap) (L : List Loc) : Prop := v = none ∧ Fr n0 L ∧ Keep h0 h [a0] ∧ Exa Z h a0 "java/lang/String" ∧ Fld Z h a0 "java/lang/String" "coder" "B" (.int (0 : Int32))
theorem efiBn0 (m : MethodId) (a0 : Addr) (a1 : Addr) : entryFrame m #[(.ref a0), (.ref a1)] 2 = mkF m 0 #[rv a0, rv a1] [] := by first | (simp [entryFrame, mkF, argsToLocals, Value.category]; done) | rfl
set_option maxRecDepth 65536 in
set_option maxHeartbeats 40000000 in
theorem rmiBn0 (l : Launch) (Z : State) (aZ : Array Value) (hw : ∀ d ∈ tables_1, d.before aZ Z = true) (ws : List Jvm.Cond) (a0 : Addr) (a1 : Addr) (k_a1 : ClassId) (h0 : Heap) (n0 : Nat) (Z0 : n0 ≤ h0.size) (E_a0 : Exa Z h0 a0 "java/lang/String") (F_a0_value : Fld Z h0 a0 "java/lang/String" "value" "[B" .null) (F_a0_coder : Fld Z h0 a0 "java/lang/String" "coder" "B" (.int 0)) (g_a0 : n0 ≤ a0) (V_a1 : Arv Z h0 a1 k_a1 .char (0 : Int32) [] (.int 0)) (hkp : ∀ (b : Addr) (cl : Cell), Z.heap[b]? = some cl → h0[b]? = some cl) (hcn7 : Jvm.Lit.constHeld Z "java/lang/String" 7) (hcw : Jvm.Lit.compactW.before aZ Z = true) :
    MetFree l (⟨"java/lang/String", "<init>", "([C)V"⟩ : MethodName) (head1 (Jvm.Cond.code (⟨"java/lang/String", "<init>", "([C)V"⟩ : MethodName) jdk_42_method_3_code 2 none :: ws) ({ frames := 2, cells := 2, slots := 4, locals := 29 } : Room)) (fun a U => a = #[(.ref a0), (.ref a1)] ∧ Z.Warmed39 U.vm ∧ U.heap = h0 ∧ IB Z U.vm []) (fun _ _ _ _ _ => True) (fun _ U o U' => ∃ v L, o = .returned v ∧ QiBn0 Z n0 a0 a1 k_a1 h0 v U'.heap L ∧ ReturnedEndW U o U' L ({ frames := 2, cells := 2, slots := 4, locals := 29 } : Room).cells ({ frames := 2, cells := 2, slots := 4, locals := 29 } : Room).slots) := by
  refine MetFree.of_bodySF (plainFor_of_name pn_15) hisR ?_
  intro p e s m args below meth c s₁ Bd hml0 hP hK
  obtain ⟨rfl, hZ, hh, IB0⟩ := hP
  have hx := Bd.exec
  have hby := Bd.bytes
  have hml : c.maxLocals = 2 := hml0
  have hown : s.vm.findClass "java/lang/String" = some m.cls := findClass_of_methodNamed Bd.named
  have hnm := (name_of_methodNamed Bd.named Bd.method).1
  have X0 : Stand p l e ({ frames := 2, cells := 2, slots := 4, locals := 29 } : Room) (s.setVm s.vm) m #[(.ref a0), (.ref a1)] below meth c s₁ [] 0 0 := Stand.of_body Bd
  have e0 : s₁.heap = h0 := by rw [← hh, Bd.state]; rfl
  have N0 := Fr.nil n0
  have K0 : Keep h0 h0 [a0] := Keep.refl _ _
  obtain ⟨En, hEn⟩ : ∃ z, z = (s₁.setTop (entryFrame m #[(.ref a0), (.ref a1)] 2)) := ⟨_, rfl⟩
  have go0 : Go p.tables e below s₁ (mkF m 0 #[rv a0, rv a1] []) En := fun t k => by subst hEn; exact castTop (efiBn0 m a0 a1) k
  have hS0 : s.Since s.vm s.heap.size := (State.WarmedH.refl s).since _
  have hk0 : s.heap.size ≤ h0.size := by rw [← hh]; exact Nat.le_refl _
  have hkS : ∀ (b : Addr) (cl : Cell), Z.heap[b]? = some cl → s.heap[b]? = some cl := fun b cl q => by rw [hh]; exact hkp b cl q
  have neA1 : a0 ≠ a1 := own_exa_arv_ne E_a0 V_a1 (hw _ (mi 2 rfl))
  obtain ⟨cl1, Ar1, q1, S1, N1, H1, G1⟩ := id V_a1
  have go2 : Go p.tables e below s₁ (mkF m 6 #[rv a0, rv a1] [.null, (.int 0), (.int 0), (.ref a1), (.ref a0)]) En := by
    intro t k
    refine go0 _ ?_
    refine XS.aloadN X0.here hx rfl (hb hby d1_0) rfl rfl ?_
    refine XS.aloadN X0.here hx rfl (hb hby d1_1) rfl rfl ?_
    refine XS.iconst X0.here hx rfl (hb hby d1_2) ?_
    show Steps _ _ _ (s₁.setTop (mkF m 3 #[rv a0, rv a1] [(.int 0), (.ref a1), (.ref a0)])) _
    refine XS.aloadN X0.here hx rfl (hb hby d1_3) rfl rfl ?_
    refine X0.arraylength hx (by rw [e0]; exact Ar1.1) (State.isArrayOf_alike hZ.alike Ar1.2.1) (g := (mkF m 4 #[rv a0, rv a1] [(.ref a1), (.int 0), (.ref a1), (.ref a0)])) rfl rfl (hb hby d1_4) _ ?_
    rw [len_of S1 N1]
    show Steps _ _ _ (s₁.setTop (mkF m 5 #[rv a0, rv a1] [(.int 0), (.int 0), (.ref a1), (.ref a0)])) _
    refine XS.aconstNull X0.here hx rfl (hb hby d1_5) ?_
    exact k
  obtain ⟨_, _, ⟨T3, L3, k3, n3⟩, -, X3q, hS3q, hg3, ⟨Lc3, hQ3, l3, y3, z3⟩, st3⟩ := X0.specialBackS hx (y := (⟨"java/lang/String", "<init>", "([CIILjava/lang/Void;)V"⟩ : MethodName)) rfl hown (mvT hZ (hw _ (mi 7 rfl))) (mvT hZ (hw _ (mi 8 rfl))) (mvT hZ (hw _ (mi 10 rfl))) (by decide) (own_backOfSI (W := 0) (rmiAn0 l Z aZ hw [] a0 a1 _ h0 n0 Z0 E_a0 F_a0_value F_a0_coder g_a0 V_a1 hkp hcn7 hcw) hZ (hw _ (mi 10 rfl)) (hw _ (mi 3 rfl)) (by decide) (by decide) IB0) (g := (mkF m 6 #[rv a0, rv a1] [.null, (.int 0), (.int 0), (.ref a1), (.ref a0)])) rfl (by rw [hml]; rfl) (Steps.refl _) (a := a0) (argsL := [(.ref a1), (.int 0), (.int 0), .null]) (rest := []) (lenOf pd_23 rfl) rfl (by show 2 * 0 + _ ≤ _; exact Nat.le_of_eq rfl) (hb hby d1_6) (fun _ _ => ⟨rfl, e0, (by decide : 0 + 2 ≤ _), (by decide : 0 + 4 ≤ _)⟩)
  dsimp only [Pt.U, Pt.locs, Pt.cells, Pt.slots] at X3q hS3q hg3 l3 y3 z3 st3 hQ3
  subst l3 y3 z3
  have hk3q : s.heap.size ≤ s₁.heap.size := by rw [e0]; exact hk0
  obtain ⟨X3, hS3, hZ3, hown3⟩ := rebS hS0 hk3q X3q hS3q hg3 hZ hown
  have hk3r : T3.heap.size ≤ T3.heap.size := Nat.le_refl _
  obtain ⟨rfl, N3q, K3q, G3_0, G3_1⟩ := hQ3
  have N3 := Fr.app N0 N3q
  have K3 : Keep h0 T3.heap [a0] := K0.trans K3q (allS (Or.inl (List.mem_of_getElem? (i := 0) rfl)) all0)
  have Zs3 : n0 ≤ T3.heap.size := Nat.le_trans Z0 K3q.1
  have hk3 : s.heap.size ≤ T3.heap.size := Nat.le_trans hk0 K3q.1
  have go4 := gapT go2 st3
  obtain ⟨fs, hr, hrun, hended, hRW⟩ := X3.leaveW hS3 (hk3r) (v := none) (fun _ => rfl) Bd.notSynchronized
  subst hEn
  refine ⟨_, _, go4 _ (X3.returnOut hx Bd.returns (hb hby d1_9) hr), hrun, hended, _, _, rfl, ?_, hRW.1, hRW.2.1, hRW.2.2.1, hRW.2.2.2.mono (by decide) (by decide)⟩
  show QiBn0 _ _ a0 a1 k_a1 h0 _ (T3.setFrames fs).heap _
  have hE : (T3.setFrames fs).heap = T3.heap := rfl
  rw [hE]
  exact ⟨rfl, N3, K3, G3_0, G3_1⟩
theorem d17_0 : decode jdk_52_method_21_code 0 = .ok (.iconst 0, 1) := by decide +kernel
theorem d17_1 : decode jdk_52_method_21_code 1 = .ok (.istore 5, 2) := by decide +kernel
theorem d17_3 : decode jdk_52_method_21_code 3 = .ok (.iload 5, 2) := by decide +kernel
theorem d17_5 : decode jdk_52_method_21_code 5 = .ok (.iload 4, 2) := by decide +kernel
theorem d17_7 : decode jdk_52_method_21_code 7 = .ok (.if_icmp .ge 37, 3) := by decide +kernel
theorem d17_10 : decode jdk_52_method_21_code 10 = .ok (.aload_n 0, 1) := by decide +kernel
theorem d17_11 : decode jdk_52_method_21_code 11 = .ok (.iload_n 1, 1) := by decide +kernel
theorem d17_12 : decode jdk_52_method_21_code 12 = .ok (.caload, 1) := by decide +kernel
theorem d17_13 : decode jdk_52_method_21_code 13 = .ok (.istore 6, 2) := by decide +kernel
theorem d17_15 : decode jdk_52_method_21_code 15 = .ok (.iload 6, 2) := by decide +kernel
theorem d17_17 : decode jdk_52_method_21_code 17 = .ok (.sipush 255, 3) := by decide +kernel
theorem d17_20 : decode jdk_52_method_21_code 20 = .ok (.if_icmp .le 6, 3) := by decide +kernel
theorem d17_26 : decode jdk_52_method_21_code 26 = .ok (.aload_n 2, 1) := by decide +kernel
theorem d17_27 : decode jdk_52_method_21_code 27 = .ok (.iload_n 3, 1) := by decide +kernel
theorem d17_28 : decode jdk_52_method_21_code 28 = .ok (.iload 6, 2) := by decide +kernel
theorem d17_30 : decode jdk_52_method_21_code 30 = .ok (.i2b, 1) := by decide +kernel
theorem d17_31 : decode jdk_52_method_21_code 31 = .ok (.bastore, 1) := by decide +kernel
theorem d17_32 : decode jdk_52_method_21_code 32 = .ok (.iinc 1 1, 3) := by decide +kernel
theorem d17_35 : decode jdk_52_method_21_code 35 = .ok (.iinc 3 1, 3) := by decide +kernel
theorem d17_38 : decode jdk_52_method_21_code 38 = .ok (.iinc 5 1, 3) := by decide +kernel
theorem d17_41 : decode jdk_52_method_21_code 41 = .ok (.goto (-38), 3) := by decide +kernel
theorem d17_44 : decode jdk_52_method_21_code 44 = .ok (.iload 4, 2) := by decide +kernel
theorem d17_46 : decode jdk_52_method_21_code 46 = .ok (.ireturn, 1) := by decide +kernel
theorem pn_48 : plainName "java/lang/StringUTF16" = true := by first | (simp [plainName, overriddenIn]; done) | decide +kernel
def QcAn1 (Z : State) (n0 : Nat) (a0 : Addr) (a2 : Addr) (k_a0 : ClassId) (x0 : Int32) (k_a2 : ClassId) (y0 : Int32) (h0 : Heap) (v : Option Value) (h : Heap) (L : List Loc) : Prop := v = some (.int (1 : Int32)) ∧ Fr n0 L ∧ Keep h0 h [a2] ∧ Arv Z h a2 k_a2 .byte (1 : Int32) [(.int x0.toInt8.toInt32.toInt8.toInt32)] (.int (0 : Int32))
theorem efcAn1 (m : MethodId) (a0 : Addr) (a2 : Addr) : entryFrame m #[(.ref a0), (.int (0 : Int32)), (.ref a2), (.int (0 : Int32)), (.int (1 : Int32))] 7 = mkF m 0 #[rv a0, iv (0 : Int32), rv a2, iv (0 : Int32), iv (1 : Int32), .unset, .unset] [] := by first | (simp [entryFrame, mkF, argsToLocals, Value.category]; done) | rfl
abbrev LcAn1_0 (a0 : Addr) (a2 : Addr) (x0 : Int32) : Array Slot := #[rv a0, iv 0, rv a2, iv 0, iv 1, iv 0, iv x0]
abbrev LcAn1_1 (a0 : Addr) (a2 : Addr) : Array Slot := #[rv a0, iv 0, rv a2, iv 0, iv 1, iv 0, .unset]
set_option maxRecDepth 65536 in
set_option maxHeartbeats 40000000 in
theorem rmcAn1 (l : Launch) (Z : State) (aZ : Array Value) (hw : ∀ d ∈ tables_1, d.before aZ Z = true) (ws : List Jvm.Cond) (a0 : Addr) (a2 : Addr) (k_a0 : ClassId) (x0 : Int32) (k_a2 : ClassId) (y0 : Int32) (h0 : Heap) (n0 : Nat) (Z0 : n0 ≤ h0.size) (V_a0 : Arv Z h0 a0 k_a0 .char (1 : Int32) [(.int x0)] (.int 0)) (V_a2 : Arv Z h0 a2 k_a2 .byte (1 : Int32) [(.int y0)] (.int 0)) (g_a2 : n0 ≤ a2) (ne02 : a0 ≠ a2) (hx0 : ¬ (255 : Int32) < x0) :
    MFn l (⟨"java/lang/StringUTF16", "compress", "([CI[BII)I"⟩ : MethodName) jdk_52_method_21_code 7 (some .int) ws (Rm 0 0 0 0) #[(.ref a0), (.int 0), (.ref a2), (.int 0), (.int 1)] Z h0 (QcAn1 Z n0 a0 a2 k_a0 x0 k_a2 y0 h0) := by
  refine own_mf (C := "java/lang/StringUTF16") rfl (plainFor_of_name pn_48) (fun m => efcAn1 m a0 a2) ?_
  intro p e s m below meth cd0 s₁ En hx hby hml hown hnm hZ X0 e0 hlk hrt go0
  have N0 := Fr.nil n0
  have K0 : Keep h0 h0 [a2] := Keep.refl _ _
  obtain ⟨cl1, Ar1, q1, S1, N1, H1, G1⟩ := id V_a0
  have go2 : Go p.tables e below s₁ (mkF m 31 (LcAn1_0 a0 a2 x0) [(.int x0.toInt8.toInt32), (.int 0), (.ref a2)]) En := by
    intro t k
    refine go0 _ ?_
    refine XS.iconst X0.here hx rfl (hb hby d17_0) ?_
    refine XS.istore X0.here hx rfl (hb hby d17_1) rfl (l' := (LcAn1_1 a0 a2)) rfl ?_
    refine XS.iload X0.here hx rfl (hb hby d17_3) rfl ?_
    show Steps _ _ _ (s₁.setTop (mkF m 5 (LcAn1_1 a0 a2) [(.int 0)])) _
    refine XS.iload X0.here hx rfl (hb hby d17_5) rfl ?_
    refine XS.icmpNo X0.here hx rfl (hb hby d17_7) rfl (XT.ii_ge_f (by decide : ((0 : Int32) < (1 : Int32)))) ?_
    refine XS.aloadN X0.here hx rfl (hb hby d17_10) rfl rfl ?_
    show Steps _ _ _ (s₁.setTop (mkF m 11 (LcAn1_1 a0 a2) [(.ref a0)])) _
    refine XS.iloadN X0.here hx rfl (hb hby d17_11) rfl ?_
    refine X0.caload hx (j := (0 : Int32)) (v := (.int x0)) (by rw [e0]; exact Ar1.1) (State.isArrayOf_alike hZ.alike Ar1.2.1) Ar1.2.2 (inb_of S1 ⟨by decide, by decide⟩) (Has.at H1 (inb_of S1 ⟨by decide, by decide⟩) rfl) (g := (mkF m 12 (LcAn1_1 a0 a2) [(.int 0), (.ref a0)])) rfl rfl (hb hby d17_12) _ ?_
    refine XS.istore X0.here hx rfl (hb hby d17_13) rfl (l' := (LcAn1_0 a0 a2 x0)) rfl ?_
    show Steps _ _ _ (s₁.setTop (mkF m 15 (LcAn1_0 a0 a2 x0) [])) _
    refine XS.iload X0.here hx rfl (hb hby d17_15) rfl ?_
    refine XS.sipush X0.here hx rfl (hb hby d17_17) ?_
    refine XS.icmpYes X0.here hx rfl (pc0 := 20) (pc' := 26) rfl (hb hby d17_20) rfl (XT.ii_le_t hx0) (by decide) (by decide) ?_
    show Steps _ _ _ (s₁.setTop (mkF m 26 (LcAn1_0 a0 a2 x0) [])) _
    refine XS.aloadN X0.here hx rfl (hb hby d17_26) rfl rfl ?_
    refine XS.iloadN X0.here hx rfl (hb hby d17_27) rfl ?_
    refine XS.iload X0.here hx rfl (hb hby d17_28) rfl ?_
    show Steps _ _ _ (s₁.setTop (mkF m 30 (LcAn1_0 a0 a2 x0) [(.int x0), (.int 0), (.ref a2)])) _
    refine XS.i2b X0.here hx rfl (hb hby d17_30) rfl ?_
    exact k
  obtain ⟨cl4, Ar4, q4, S4, N4, H4, G4⟩ := id V_a2
  obtain ⟨T3, h3, X3, e3, W3, st3⟩ := stB X0 hx hZ e0 Ar4 (j := (0 : Int32)) (inb_of S4 ⟨by decide, by decide⟩) (g := (mkF m 31 (LcAn1_0 a0 a2 x0) [(.int x0.toInt8.toInt32), (.int 0), (.ref a2)])) rfl rfl (hb hby d17_31)
  have go5 := gap go2 st3
  have N3 := Fr.snoc X3 N0 g_a2
  have K3 : Keep h0 h3 [a2] := K0.wr W3 (Or.inl (List.mem_of_getElem? (i := 0) rfl))
  have Zs3 : n0 ≤ h3.size := Nat.le_trans Z0 (Keep.of_wr W3).1
  have F6 : Arv Z h3 a2 k_a2 .byte (1 : Int32) [(.int x0.toInt8.toInt32.toInt8.toInt32)] (.int 0) := Arv.set Ar4 q4 S4 N4 H4 G4 (fits_nar_byte _) W3 0 rfl (Nat.le_of_ble_eq_true rfl)
  have go7 : Go p.tables e below T3 (mkF m 46 #[rv a0, iv 1, rv a2, iv 1, iv 1, iv 1, iv x0] [(.int 1)]) En := by
    intro t k
    refine go5 _ ?_
    refine XS.iinc X3.here hx rfl (hb hby d17_32) rfl (l' := #[rv a0, iv 1, rv a2, iv 0, iv 1, iv 0, iv x0]) rfl ?_
    refine XS.iinc X3.here hx rfl (hb hby d17_35) rfl (l' := #[rv a0, iv 1, rv a2, iv 1, iv 1, iv 0, iv x0]) rfl ?_
    refine XS.iinc X3.here hx rfl (hb hby d17_38) rfl (l' := #[rv a0, iv 1, rv a2, iv 1, iv 1, iv 1, iv x0]) rfl ?_
    show Steps _ _ _ (T3.setTop (mkF m 41 #[rv a0, iv 1, rv a2, iv 1, iv 1, iv 1, iv x0] [])) _
    refine XS.goto X3.here hx rfl (pc0 := 41) (pc' := 3) rfl (hb hby d17_41) (by decide) (by decide) ?_
    refine XS.iload X3.here hx rfl (hb hby d17_3) rfl ?_
    refine XS.iload X3.here hx rfl (hb hby d17_5) rfl ?_
    show Steps _ _ _ (T3.setTop (mkF m 7 #[rv a0, iv 1, rv a2, iv 1, iv 1, iv 1, iv x0] [(.int 1), (.int 1)])) _
    refine XS.icmpYes X3.here hx rfl (pc0 := 7) (pc' := 44) rfl (hb hby d17_7) rfl (XT.ii_ge_t (by decide : ¬ ((1 : Int32) < (1 : Int32)))) (by decide) (by decide) ?_
    refine XS.iload X3.here hx rfl (hb hby d17_44) rfl ?_
    exact k
  refine own_out (w := (.int 1)) X3 hx hlk go7 hrt rfl (Or.inl ⟨rfl, Or.inl rfl, _, rfl⟩) (hb hby d17_46) e3 (by decide) (by decide) ?_
  exact ⟨rfl, N3, K3, F6⟩
theorem d16_0 : decode jdk_52_method_16_code 0 = .ok (.iload_n 2, 1) := by decide +kernel
theorem d16_1 : decode jdk_52_method_16_code 1 = .ok (.newarray .byte, 2) := by decide +kernel
theorem d16_3 : decode jdk_52_method_16_code 3 = .ok (.astore_n 3, 1) := by decide +kernel
theorem d16_4 : decode jdk_52_method_16_code 4 = .ok (.aload_n 0, 1) := by decide +kernel
theorem d16_5 : decode jdk_52_method_16_code 5 = .ok (.iload_n 1, 1) := by decide +kernel
theorem d16_6 : decode jdk_52_method_16_code 6 = .ok (.aload_n 3, 1) := by decide +kernel
theorem d16_7 : decode jdk_52_method_16_code 7 = .ok (.iconst 0, 1) := by decide +kernel
theorem d16_8 : decode jdk_52_method_16_code 8 = .ok (.iload_n 2, 1) := by decide +kernel
theorem d16_9 : decode jdk_52_method_16_code 9 = .ok (.invokestatic 115, 3) := by decide +kernel
theorem own_site58 {Z : State} {aZ : Array Value} (hw : ∀ d ∈ tables_1, d.before aZ Z = true) : SSt aZ Z (⟨"java/lang/StringUTF16", "compress", "([CI[BII)I"⟩ : MethodName) jdk_52_method_21_code 7 (some .int) := ⟨⟨(hw _ (mi 134 rfl)), (hw _ (mi 131 rfl))⟩, (hw _ (mi 135 rfl))⟩
theorem pd_59 : parseMethodDescriptor "([CI[BII)I" = some ⟨[(.array .char), .int, (.array .byte), .int, .int], some .int⟩ := by decide +kernel
theorem d16_12 : decode jdk_52_method_16_code 12 = .ok (.istore 4, 2) := by decide +kernel
theorem d16_14 : decode jdk_52_method_16_code 14 = .ok (.iload 4, 2) := by decide +kernel
theorem d16_16 : decode jdk_52_method_16_code 16 = .ok (.iload_n 2, 1) := by decide +kernel
theorem d16_17 : decode jdk_52_method_16_code 17 = .ok (.if_icmp .eq 40, 3) := by decide +kernel
theorem d16_57 : decode jdk_52_method_16_code 57 = .ok (.aload_n 3, 1) := by decide +kernel
theorem d16_58 : decode jdk_52_method_16_code 58 = .ok (.areturn, 1) := by decide +kernel
def QcBn1 (Z : State) (n0 : Nat) (a0 : Addr) (k_a0 : ClassId) (x0 : Int32) (h0 : Heap) (v : Option Value) (h : Heap) (L : List Loc) : Prop := ∃ (b : Addr) (kb : ClassId), v = some (.ref b) ∧ Fr n0 L ∧ Keep h0 h [] ∧ h0.size ≤ b ∧ Arv Z h b kb .byte (1 : Int32) [(.int x0.toInt8.toInt32.toInt8.toInt32)] (.int (0 : Int32))
theorem efcBn1 (m : MethodId) (a0 : Addr) : entryFrame m #[(.ref a0), (.int (0 : Int32)), (.int (1 : Int32))] 6 = mkF m 0 #[rv a0, iv (0 : Int32), iv (1 : Int32), .unset, .unset, .unset] [] := by first | (simp [entryFrame, mkF, argsToLocals, Value.category]; done) | rfl
set_option maxRecDepth 65536 in
set_option maxHeartbeats 40000000 in
theorem rmcBn1 (l : Launch) (Z : State) (aZ : Array Value) (hw : ∀ d ∈ tables_1, d.before aZ Z = true) (ws : List Jvm.Cond) (a0 : Addr) (k_a0 : ClassId) (x0 : Int32) (h0 : Heap) (n0 : Nat) (Z0 : n0 ≤ h0.size) (V_a0 : Arv Z h0 a0 k_a0 .char (1 : Int32) [(.int x0)] (.int 0)) (hx0 : ¬ (255 : Int32) < x0) :
    MFn l (⟨"java/lang/StringUTF16", "compress", "([CII)[B"⟩ : MethodName) jdk_52_method_16_code 6 (some (.array .byte)) ws (Rm 1 1 1 18) #[(.ref a0), (.int 0), (.int 1)] Z h0 (QcBn1 Z n0 a0 k_a0 x0 h0) := by
  refine own_mf (C := "java/lang/StringUTF16") rfl (plainFor_of_name pn_48) (fun m => efcBn1 m a0) ?_
  intro p e s m below meth cd0 s₁ En hx hby hml hown hnm hZ X0 e0 hlk hrt go0
  have N0 := Fr.nil n0
  have K0 : Keep h0 h0 [] := Keep.refl _ _
  have go1 : Go p.tables e below s₁ (mkF m 1 #[rv a0, iv 0, iv 1, .unset, .unset, .unset] [(.int 1)]) En := by
    intro t k
    refine go0 _ ?_
    refine XS.iloadN X0.here hx rfl (hb hby d16_0) rfl ?_
    exact k
  obtain ⟨T2, h2, k2, X2, e2, E2, A2, st2⟩ := newP X0 hx hZ (hw _ (mi 15 rfl)) e0 (g := (mkF m 1 #[rv a0, iv 0, iv 1, .unset, .unset, .unset] [(.int 1)])) rfl (hb hby d16_1) rfl (by decide) (cap := 1) (by decide) (by decide) (by decide) (by decide)
  obtain ⟨b2, g2⟩ : ∃ z, z = h0.size := ⟨_, rfl⟩
  rw [← g2] at A2 st2
  have ne3 : a0 ≠ b2 := Nat.ne_of_lt (Nat.lt_of_lt_of_le V_a0.lt (Nat.le_of_eq g2.symm))
  have low2 : n0 ≤ b2 := Nat.le_trans Z0 (Nat.le_of_eq g2.symm)
  have fsh2 : h0.size ≤ b2 := Nat.le_trans K0.1 (Nat.le_of_eq g2.symm)
  have K2 : Keep h0 h2 [] := K0.ext E2
  have Zs2 : n0 ≤ h2.size := Nat.le_trans Z0 E2.1
  have go4 := gap go1 st2
  have F5 : Arv Z h2 b2 k2 .byte (1 : Int32) [(.int 0)] (.int 0) := (Arv.new A2 (by decide)).pad (pad_rep [] (.int 0) 1)
  have go6 : Go p.tables e below T2 (mkF m 9 #[rv a0, iv 0, iv 1, rv b2, .unset, .unset] [(.int 1), (.int 0), (.ref b2), (.int 0), (.ref a0)]) En := by
    intro t k
    refine go4 _ ?_
    refine XS.astoreN X2.here hx rfl (hb hby d16_3) rfl rfl (l' := #[rv a0, iv 0, iv 1, rv b2, .unset, .unset]) rfl ?_
    refine XS.aloadN X2.here hx rfl (hb hby d16_4) rfl rfl ?_
    refine XS.iloadN X2.here hx rfl (hb hby d16_5) rfl ?_
    show Steps _ _ _ (T2.setTop (mkF m 6 #[rv a0, iv 0, iv 1, rv b2, .unset, .unset] [(.int 0), (.ref a0)])) _
    refine XS.aloadN X2.here hx rfl (hb hby d16_6) rfl rfl ?_
    refine XS.iconst X2.here hx rfl (hb hby d16_7) ?_
    refine XS.iloadN X2.here hx rfl (hb hby d16_8) rfl ?_
    show Steps _ _ _ (T2.setTop (mkF m 9 #[rv a0, iv 0, iv 1, rv b2, .unset, .unset] [(.int 1), (.int 0), (.ref b2), (.int 0), (.ref a0)])) _
    exact k
  obtain ⟨_, T7, Lc7, X7, hQ7, st7⟩ := own_cs X2 hx hZ hown hml go6 (hb hby d16_9) e2 (hw _ (mi 133 rfl)) (own_site58 hw) (rmcAn1 l Z aZ hw [] a0 b2 _ x0 k2 _ h2 n0 Zs2 (V_a0.keep K2 nin0) F5 low2 ne3 hx0) (by decide) (argsL := [(.ref a0), (.int 0), (.ref b2), (.int 0), (.int 1)]) (rest := []) rfl rfl rfl (lenOf pd_59 rfl) (W := 0) rfl (by decide) (by decide) (by decide : 1 + 0 ≤ _) (by decide : 1 + 0 ≤ _)
  obtain ⟨rfl, N7q, K7q, G7_0⟩ := hQ7
  have N7 := Fr.app N0 N7q
  have K7 : Keep h0 T7.heap [] := K2.trans K7q (allS (Or.inr fsh2) all0)
  have Zs7 : n0 ≤ T7.heap.size := Nat.le_trans Zs2 K7q.1
  have go8 : Go p.tables e below T7 (mkF m 58 #[rv a0, iv 0, iv 1, rv b2, iv 1, .unset] [(.ref b2)]) En := by
    intro t k
    refine st7 _ ?_
    refine XS.istore X7.here hx rfl (hb hby d16_12) rfl (l' := #[rv a0, iv 0, iv 1, rv b2, iv 1, .unset]) rfl ?_
    refine XS.iload X7.here hx rfl (hb hby d16_14) rfl ?_
    refine XS.iloadN X7.here hx rfl (hb hby d16_16) rfl ?_
    show Steps _ _ _ (T7.setTop (mkF m 17 #[rv a0, iv 0, iv 1, rv b2, iv 1, .unset] [(.int 1), (.int 1)])) _
    refine XS.icmpYes X7.here hx rfl (pc0 := 17) (pc' := 57) rfl (hb hby d16_17) rfl (XT.ii_eq_t (by decide : ((1 : Int32) = (1 : Int32)))) (by decide) (by decide) ?_
    refine XS.aloadN X7.here hx rfl (hb hby d16_57) rfl rfl ?_
    exact k
  refine own_out (w := (.ref b2)) X7 hx hlk go8 hrt rfl (Or.inr (Or.inr (Or.inr (Or.inr ⟨rfl, rfl, rfl⟩)))) (hb hby d16_58) rfl (by decide) (by decide) ?_
  exact ⟨b2, k2, rfl, N7, K7, fsh2, G7_0⟩
theorem d18_0 : decode jdk_52_method_15_code 0 = .ok (.iload_n 1, 1) := by decide +kernel
theorem d18_1 : decode jdk_52_method_15_code 1 = .ok (.aload_n 0, 1) := by decide +kernel
theorem d18_2 : decode jdk_52_method_15_code 2 = .ok (.arraylength, 1) := by decide +kernel
theorem d18_3 : decode jdk_52_method_15_code 3 = .ok (.isub, 1) := by decide +kernel
theorem d18_4 : decode jdk_52_method_15_code 4 = .ok (.bipush 31, 2) := by decide +kernel
theorem d18_6 : decode jdk_52_method_15_code 6 = .ok (.iushr, 1) := by decide +kernel
theorem d18_7 : decode jdk_52_method_15_code 7 = .ok (.i2b, 1) := by decide +kernel
theorem d18_8 : decode jdk_52_method_15_code 8 = .ok (.ireturn, 1) := by decide +kernel
def vcCn1_2 : Int32 := (((0 : Int32).toUInt32 >>> ((31 : Int32) &&& 31).toUInt32).toInt32).toInt8.toInt32
theorem efcCn1 (m : MethodId) (a0 : Addr) : entryFrame m #[(.ref a0), (.int (1 : Int32))] 2 = mkF m 0 #[rv a0, iv (1 : Int32)] [] := by first | (simp [entryFrame, mkF, argsToLocals, Value.category]; done) | rfl
set_option maxRecDepth 65536 in
set_option maxHeartbeats 40000000 in
theorem rmcCn1 (l : Launch) (Z : State) (aZ : Array Value) (hw : ∀ d ∈ tables_1, d.before aZ Z = true) (ws : List Jvm.Cond) (a0 : Addr) (k_a0 : ClassId) (y0 : Int32) (h0 : Heap) (n0 : Nat) (Z0 : n0 ≤ h0.size) (V_a0 : Arv Z h0 a0 k_a0 .byte (1 : Int32) [(.int y0)] (.int 0)) :
    MFn l (⟨"java/lang/StringUTF16", "coderFromArrayLen", "([BI)B"⟩ : MethodName) jdk_52_method_15_code 2 (some .byte) ws (Rm 0 0 0 0) #[(.ref a0), (.int 1)] Z h0 (QP n0 h0 (some (.int vcCn1_2))) := by
  refine own_mf (C := "java/lang/StringUTF16") rfl (plainFor_of_name pn_48) (fun m => efcCn1 m a0) ?_
  intro p e s m below meth cd0 s₁ En hx hby hml hown hnm hZ X0 e0 hlk hrt go0
  have N0 := Fr.nil n0
  have K0 : Keep h0 h0 [] := Keep.refl _ _
  obtain ⟨cl1, Ar1, q1, S1, N1, H1, G1⟩ := id V_a0
  have go3 : Go p.tables e below s₁ (mkF m 8 #[rv a0, iv 1] [(.int vcCn1_2)]) En := by
    intro t k
    refine go0 _ ?_
    refine XS.iloadN X0.here hx rfl (hb hby d18_0) rfl ?_
    refine XS.aloadN X0.here hx rfl (hb hby d18_1) rfl rfl ?_
    refine X0.arraylength hx (by rw [e0]; exact Ar1.1) (State.isArrayOf_alike hZ.alike Ar1.2.1) (g := (mkF m 2 #[rv a0, iv 1] [(.ref a0), (.int 1)])) rfl rfl (hb hby d18_2) _ ?_
    rw [len_of S1 N1]
    show Steps _ _ _ (s₁.setTop (mkF m 3 #[rv a0, iv 1] [(.int 1), (.int 1)])) _
    refine XS.isub X0.here hx rfl (hb hby d18_3) rfl ?_
    refine XS.bipush X0.here hx rfl (hb hby d18_4) ?_
    refine XS.iushr X0.here hx rfl (hb hby d18_6) rfl ?_
    show Steps _ _ _ (s₁.setTop (mkF m 7 #[rv a0, iv 1] [(.int (((0 : Int32).toUInt32 >>> ((31 : Int32) &&& 31).toUInt32).toInt32))])) _
    refine XS.i2b X0.here hx rfl (hb hby d18_7) rfl ?_
    exact k
  refine own_out (w := (.int vcCn1_2)) X0 hx hlk go3 hrt rfl (Or.inl ⟨rfl, Or.inr (Or.inr (Or.inl rfl)), _, rfl⟩) (hb hby d18_8) e0 (by decide) (by decide) ?_
  exact ⟨rfl, N0, rfl⟩
theorem d2_27 : decode jdk_42_method_149_code 27 = .ok (.getstatic 38, 3) := by decide +kernel
theorem d2_30 : decode jdk_42_method_149_code 30 = .ok (.ifCond .eq 28, 3) := by decide +kernel
theorem d2_33 : decode jdk_42_method_149_code 33 = .ok (.aload_n 1, 1) := by decide +kernel
theorem d2_34 : decode jdk_42_method_149_code 34 = .ok (.iload_n 2, 1) := by decide +kernel
theorem d2_35 : decode jdk_42_method_149_code 35 = .ok (.iload_n 3, 1) := by decide +kernel
theorem d2_36 : decode jdk_42_method_149_code 36 = .ok (.invokestatic 177, 3) := by decide +kernel
theorem own_site81 {Z : State} {aZ : Array Value} (hw : ∀ d ∈ tables_1, d.before aZ Z = true) : SSt aZ Z (⟨"java/lang/StringUTF16", "compress", "([CII)[B"⟩ : MethodName) jdk_52_method_16_code 6 (some (.array .byte)) := ⟨⟨(hw _ (mi 130 rfl)), (hw _ (mi 131 rfl))⟩, (hw _ (mi 132 rfl))⟩
theorem pd_82 : parseMethodDescriptor "([CII)[B" = some ⟨[(.array .char), .int, .int], some (.array .byte)⟩ := by decide +kernel
theorem d2_39 : decode jdk_42_method_149_code 39 = .ok (.astore 5, 2) := by decide +kernel
theorem d2_41 : decode jdk_42_method_149_code 41 = .ok (.aload_n 0, 1) := by decide +kernel
theorem d2_42 : decode jdk_42_method_149_code 42 = .ok (.aload 5, 2) := by decide +kernel
theorem d2_44 : decode jdk_42_method_149_code 44 = .ok (.iload_n 3, 1) := by decide +kernel
theorem d2_45 : decode jdk_42_method_149_code 45 = .ok (.invokestatic 47, 3) := by decide +kernel
theorem own_site88 {Z : State} {aZ : Array Value} (hw : ∀ d ∈ tables_1, d.before aZ Z = true) : SSt aZ Z (⟨"java/lang/StringUTF16", "coderFromArrayLen", "([BI)B"⟩ : MethodName) jdk_52_method_15_code 2 (some .byte) := ⟨⟨(hw _ (mi 137 rfl)), (hw _ (mi 131 rfl))⟩, (hw _ (mi 138 rfl))⟩
theorem pd_89 : parseMethodDescriptor "([BI)B" = some ⟨[(.array .byte), .int], some .byte⟩ := by decide +kernel
theorem d2_48 : decode jdk_42_method_149_code 48 = .ok (.putfield 15, 3) := by decide +kernel
theorem d2_51 : decode jdk_42_method_149_code 51 = .ok (.aload_n 0, 1) := by decide +kernel
theorem d2_52 : decode jdk_42_method_149_code 52 = .ok (.aload 5, 2) := by decide +kernel
theorem d2_54 : decode jdk_42_method_149_code 54 = .ok (.putfield 9, 3) := by decide +kernel
theorem d2_57 : decode jdk_42_method_149_code 57 = .ok (.return_, 1) := by decide +kernel
def QiAn1 (Z : State) (n0 : Nat) (a0 : Addr) (a1 : Addr) (k_a1 : ClassId) (x0 : Int32) (s_COMPACT_STRINGS : Int32) (h0 : Heap) (v : Option Value) (h : Heap) (L : List Loc) : Prop := v = none ∧ Fr n0 L ∧ Keep h0 h [a0] ∧ Exa Z h a0 "java/lang/String" ∧ Fld Z h a0 "java/lang/String" "coder" "B" (.int (0 : Int32))
theorem efiAn1 (m : MethodId) (a0 : Addr) (a1 : Addr) : entryFrame m #[(.ref a0), (.ref a1), (.int (0 : Int32)), (.int (1 : Int32)), .null] 6 = mkF m 0 #[rv a0, rv a1, iv (0 : Int32), iv (1 : Int32), .val .null, .unset] [] := by first | (simp [entryFrame, mkF, argsToLocals, Value.category]; done) | rfl
abbrev LiAn1_0 (a0 : Addr) (a1 : Addr) : Array Slot := #[rv a0, rv a1, iv 0, iv 1, .val .null, .unset]
abbrev LiAn1_1 (a0 : Addr) (a1 : Addr) (b8 : Addr) : Array Slot := #[rv a0, rv a1, iv 0, iv 1, .val .null, rv b8]
set_option maxRecDepth 65536 in
set_option maxHeartbeats 40000000 in
theorem rmiAn1 (l : Launch) (Z : State) (aZ : Array Value) (hw : ∀ d ∈ tables_1, d.before aZ Z = true) (ws : List Jvm.Cond) (a0 : Addr) (a1 : Addr) (k_a1 : ClassId) (x0 : Int32) (s_COMPACT_STRINGS : Int32) (h0 : Heap) (n0 : Nat) (Z0 : n0 ≤ h0.size) (E_a0 : Exa Z h0 a0 "java/lang/String") (F_a0_value : Fld Z h0 a0 "java/lang/String" "value" "[B" .null) (F_a0_coder : Fld Z h0 a0 "java/lang/String" "coder" "B" (.int 0)) (g_a0 : n0 ≤ a0) (V_a1 : Arv Z h0 a1 k_a1 .char (1 : Int32) [(.int x0)] (.int 0)) (S_COMPACT_STRINGS : Sta Z h0 "java/lang/String" "COMPACT_STRINGS" "Z" (.int s_COMPACT_STRINGS)) (hcs : ¬ s_COMPACT_STRINGS = (0 : Int32)) (hx0 : ¬ (255 : Int32) < x0) :
    MFn l (⟨"java/lang/String", "<init>", "([CIILjava/lang/Void;)V"⟩ : MethodName) jdk_42_method_149_code 6 none ws (Rm 2 1 1 35) #[(.ref a0), (.ref a1), (.int 0), (.int 1), .null] Z h0 (QiAn1 Z n0 a0 a1 k_a1 x0 s_COMPACT_STRINGS h0) := by
  refine own_mf (C := "java/lang/String") rfl (plainFor_of_name pn_15) (fun m => efiAn1 m a0 a1) ?_
  intro p e s m below meth cd0 s₁ En hx hby hml hown hnm hZ X0 e0 hlk hrt go0
  have neA1 : a0 ≠ a1 := own_exa_arv_ne E_a0 V_a1 (hw _ (mi 2 rfl))
  have N0 := Fr.nil n0
  have K0 : Keep h0 h0 [a0] := Keep.refl _ _
  have go1 : Go p.tables e below s₁ (mkF m 1 (LiAn1_0 a0 a1) [(.ref a0)]) En := by
    intro t k
    refine go0 _ ?_
    refine XS.aloadN X0.here hx rfl (hb hby d2_0) rfl rfl ?_
    exact k
  obtain ⟨T2, X2, e2, st2⟩ := initO X0 hx hZ hown (hw _ (mi 11 rfl)) (hw _ (mi 12 rfl)) (hw _ (mi 13 rfl)) e0 (g := (mkF m 1 (LiAn1_0 a0 a1) [(.ref a0)])) rfl (by rw [hml]; rfl) rfl (hb hby d2_1) (by decide) (W := 0) (by show 2 * 0 + _ ≤ _; exact Nat.le_of_eq rfl) (by decide)
  have go3 := gap go1 st2
  have go4 : Go p.tables e below T2 (mkF m 27 (LiAn1_0 a0 a1) []) En := by
    intro t k
    refine go3 _ ?_
    refine XS.iloadN X2.here hx rfl (hb hby d2_4) rfl ?_
    refine XS.ifYes X2.here hx rfl (pc0 := 5) (pc' := 27) rfl (hb hby d2_5) rfl (XT.i0_ne_t (by decide : ¬ ((1 : Int32) = (0 : Int32)))) (by decide) (by decide) ?_
    exact k
  obtain ⟨T5, X5, e5, st5⟩ := getS2 X2 hx hZ hown (host := "") (Or.inl (hw _ (mi 128 rfl))) Via.refl e2 S_COMPACT_STRINGS (g := (mkF m 27 (LiAn1_0 a0 a1) [])) rfl (hb hby d2_27)
  have go6 := gap go4 st5
  have go7 : Go p.tables e below T5 (mkF m 36 (LiAn1_0 a0 a1) [(.int 1), (.int 0), (.ref a1)]) En := by
    intro t k
    refine go6 _ ?_
    refine XS.ifNo X5.here hx rfl (hb hby d2_30) rfl (XT.i0_eq_f hcs) ?_
    refine XS.aloadN X5.here hx rfl (hb hby d2_33) rfl rfl ?_
    refine XS.iloadN X5.here hx rfl (hb hby d2_34) rfl ?_
    show Steps _ _ _ (T5.setTop (mkF m 35 (LiAn1_0 a0 a1) [(.int 0), (.ref a1)])) _
    refine XS.iloadN X5.here hx rfl (hb hby d2_35) rfl ?_
    exact k
  obtain ⟨_, T8, Lc8, X8, hQ8, st8⟩ := own_cs X5 hx hZ hown hml go7 (hb hby d2_36) e5 (hw _ (mi 129 rfl)) (own_site81 hw) (rmcBn1 l Z aZ hw [] a1 _ x0 h0 n0 Z0 V_a1 hx0) (by decide) (argsL := [(.ref a1), (.int 0), (.int 1)]) (rest := []) rfl rfl rfl (lenOf pd_82 rfl) (W := 0) rfl (by decide) (by decide) (by decide : 0 + 1 ≤ _) (by decide : 0 + 1 ≤ _)
  obtain ⟨b8, kb8, rfl, N8q, K8q, fr8, G8_0⟩ := hQ8
  have N8 := Fr.app N0 N8q
  have K8 : Keep h0 T8.heap [a0] := K0.trans K8q all0
  have low8 : n0 ≤ b8 := Nat.le_trans Z0 fr8
  have fsh8 : h0.size ≤ b8 := Nat.le_trans K0.1 fr8
  have ne9 : a0 ≠ b8 := Nat.ne_of_lt (Nat.lt_of_lt_of_le E_a0.lt fr8)
  have ne10 : a1 ≠ b8 := Nat.ne_of_lt (Nat.lt_of_lt_of_le V_a1.lt fr8)
  have Zs8 : n0 ≤ T8.heap.size := Nat.le_trans Z0 K8q.1
  have F11 := F_a0_value.keep K8q nin0
  have F12 := F_a0_coder.keep K8q nin0
  have go13 : Go p.tables e below T8 (mkF m 45 (LiAn1_1 a0 a1 b8) [(.int 1), (.ref b8), (.ref a0)]) En := by
    intro t k
    refine st8 _ ?_
    refine XS.astore X8.here hx rfl (hb hby d2_39) rfl rfl (l' := (LiAn1_1 a0 a1 b8)) rfl ?_
    refine XS.aloadN X8.here hx rfl (hb hby d2_41) rfl rfl ?_
    refine XS.aload X8.here hx rfl (hb hby d2_42) rfl rfl ?_
    show Steps _ _ _ (T8.setTop (mkF m 44 (LiAn1_1 a0 a1 b8) [(.ref b8), (.ref a0)])) _
    refine XS.iloadN X8.here hx rfl (hb hby d2_44) rfl ?_
    exact k
  obtain ⟨_, T14, Lc14, X14, hQ14, st14⟩ := own_cs X8 hx hZ hown hml go13 (hb hby d2_45) rfl (hw _ (mi 136 rfl)) (own_site88 hw) (rmcCn1 l Z aZ hw [] b8 kb8 _ T8.heap n0 Zs8 G8_0) (by decide) (argsL := [(.ref b8), (.int 1)]) (rest := [(.ref a0)]) rfl rfl rfl (lenOf pd_89 rfl) (W := 1) rfl (by decide) (by decide) (by decide : 1 + 0 ≤ _) (by decide : 1 + 0 ≤ _)
  obtain ⟨rfl, N14q, e14⟩ := hQ14
  have N14 := Fr.app N8 N14q
  obtain ⟨T15, h15, X15, e15, W15, st15⟩ := putFN X14 hx hZ hown (hw _ (mi 21 rfl)) Via.refl e14 F12 (E_a0.keep K8) (Or.inr ⟨(hw _ (mi 17 rfl)), rfl, hnm⟩) (hw _ (mi 2 rfl)) (ty := .byte) (v' := (.int 0)) (by decide) rfl rfl (g := (mkF m 48 (LiAn1_1 a0 a1 b8) [(.int vcCn1_2), (.ref a0)])) rfl rfl (hb hby d2_48)
  have go16 := gap st14 st15
  have N15 := Fr.snoc X15 N14 g_a0
  have K15 : Keep h0 h15 [a0] := K8.wr W15 (Or.inl (List.mem_of_getElem? (i := 0) rfl))
  have Zs15 : n0 ≤ h15.size := Nat.le_trans Zs8 (Keep.of_wr W15).1
  have F17 := F11.other W15 (Or.inr (slot_ne (Or.inr (hw _ (mi 16 rfl))) (Or.inr (hw _ (mi 17 rfl))) (by decide) (t := (.array .byte)) (t' := .byte) (by decide) (by decide)))
  have F18 : Fld Z h15 a0 "java/lang/String" "coder" "B" (.int 0) := F12.same W15
  have F19 := G8_0.other W15 (Ne.symm ne9)
  have go20 : Go p.tables e below T15 (mkF m 54 (LiAn1_1 a0 a1 b8) [(.ref b8), (.ref a0)]) En := by
    intro t k
    refine go16 _ ?_
    refine XS.aloadN X15.here hx rfl (hb hby d2_51) rfl rfl ?_
    refine XS.aload X15.here hx rfl (hb hby d2_52) rfl rfl ?_
    exact k
  obtain ⟨T21, h21, X21, e21, W21, st21⟩ := putF X15 hx hZ hown (host := "") (Or.inl (hw _ (mi 20 rfl))) Via.refl e15 F17 (E_a0.keep K15) (Or.inr ⟨(hw _ (mi 16 rfl)), rfl, hnm⟩) (hw _ (mi 2 rfl)) (ty := (.array .byte)) (by decide) rfl rfl (g := (mkF m 54 (LiAn1_1 a0 a1 b8) [(.ref b8), (.ref a0)])) rfl rfl (hb hby d2_54)
  have go22 := gap go20 st21
  have N21 := Fr.snoc X21 N15 g_a0
  have K21 : Keep h0 h21 [a0] := K15.wr W21 (Or.inl (List.mem_of_getElem? (i := 0) rfl))
  have Zs21 : n0 ≤ h21.size := Nat.le_trans Zs15 (Keep.of_wr W21).1
  have F23 : Fld Z h21 a0 "java/lang/String" "value" "[B" (.ref b8) := F17.same W21
  have F24 := F18.other W21 (Or.inr (slot_ne (Or.inr (hw _ (mi 17 rfl))) (Or.inr (hw _ (mi 16 rfl))) (by decide) (t := .byte) (t' := (.array .byte)) (by decide) (by decide)))
  have F25 := F19.other W21 (Ne.symm ne9)
  refine own_outV X21 hx hlk go22 hrt (hb hby d2_57) e21 (by decide) (by decide) ?_
  exact ⟨rfl, N21, K21, (E_a0.keep K21), F24⟩
theorem own_site95 {Z : State} {aZ : Array Value} (hw : ∀ d ∈ tables_1, d.before aZ Z = true) : SIt aZ Z (⟨"java/lang/String", "<init>", "([CIILjava/lang/Void;)V"⟩ : MethodName) jdk_42_method_149_code 6 := ⟨⟨(hw _ (mi 8 rfl)), (hw _ (mi 3 rfl))⟩, (hw _ (mi 10 rfl))⟩
def QiBn1 (Z : State) (n0 : Nat) (a0 : Addr) (a1 : Addr) (k_a1 : ClassId) (x0 : Int32) (s_COMPACT_STRINGS : Int32) (h0 : Heap) (v : Option Value) (h : Heap) (L : List Loc) : Prop := v = none ∧ Fr n0 L ∧ Keep h0 h [a0] ∧ Exa Z h a0 "java/lang/String" ∧ Fld Z h a0 "java/lang/String" "coder" "B" (.int (0 : Int32))
theorem efiBn1 (m : MethodId) (a0 : Addr) (a1 : Addr) : entryFrame m #[(.ref a0), (.ref a1)] 2 = mkF m 0 #[rv a0, rv a1] [] := by first | (simp [entryFrame, mkF, argsToLocals, Value.category]; done) | rfl
set_option maxRecDepth 65536 in
set_option maxHeartbeats 40000000 in
theorem rmiBn1 (l : Launch) (Z : State) (aZ : Array Value) (hw : ∀ d ∈ tables_1, d.before aZ Z = true) (ws : List Jvm.Cond) (a0 : Addr) (a1 : Addr) (k_a1 : ClassId) (x0 : Int32) (s_COMPACT_STRINGS : Int32) (h0 : Heap) (n0 : Nat) (Z0 : n0 ≤ h0.size) (E_a0 : Exa Z h0 a0 "java/lang/String") (F_a0_value : Fld Z h0 a0 "java/lang/String" "value" "[B" .null) (F_a0_coder : Fld Z h0 a0 "java/lang/String" "coder" "B" (.int 0)) (g_a0 : n0 ≤ a0) (V_a1 : Arv Z h0 a1 k_a1 .char (1 : Int32) [(.int x0)] (.int 0)) (S_COMPACT_STRINGS : Sta Z h0 "java/lang/String" "COMPACT_STRINGS" "Z" (.int s_COMPACT_STRINGS)) (hcs : ¬ s_COMPACT_STRINGS = (0 : Int32)) (hx0 : ¬ (255 : Int32) < x0) :
    MFn l (⟨"java/lang/String", "<init>", "([C)V"⟩ : MethodName) jdk_42_method_3_code 2 none ws (Rm 3 1 1 52) #[(.ref a0), (.ref a1)] Z h0 (QiBn1 Z n0 a0 a1 k_a1 x0 s_COMPACT_STRINGS h0) := by
  refine own_mf (C := "java/lang/String") rfl (plainFor_of_name pn_15) (fun m => efiBn1 m a0 a1) ?_
  intro p e s m below meth cd0 s₁ En hx hby hml hown hnm hZ X0 e0 hlk hrt go0
  have neA1 : a0 ≠ a1 := own_exa_arv_ne E_a0 V_a1 (hw _ (mi 2 rfl))
  have N0 := Fr.nil n0
  have K0 : Keep h0 h0 [a0] := Keep.refl _ _
  obtain ⟨cl1, Ar1, q1, S1, N1, H1, G1⟩ := id V_a1
  have go2 : Go p.tables e below s₁ (mkF m 6 #[rv a0, rv a1] [.null, (.int 1), (.int 0), (.ref a1), (.ref a0)]) En := by
    intro t k
    refine go0 _ ?_
    refine XS.aloadN X0.here hx rfl (hb hby d1_0) rfl rfl ?_
    refine XS.aloadN X0.here hx rfl (hb hby d1_1) rfl rfl ?_
    refine XS.iconst X0.here hx rfl (hb hby d1_2) ?_
    show Steps _ _ _ (s₁.setTop (mkF m 3 #[rv a0, rv a1] [(.int 0), (.ref a1), (.ref a0)])) _
    refine XS.aloadN X0.here hx rfl (hb hby d1_3) rfl rfl ?_
    refine X0.arraylength hx (by rw [e0]; exact Ar1.1) (State.isArrayOf_alike hZ.alike Ar1.2.1) (g := (mkF m 4 #[rv a0, rv a1] [(.ref a1), (.int 0), (.ref a1), (.ref a0)])) rfl rfl (hb hby d1_4) _ ?_
    rw [len_of S1 N1]
    show Steps _ _ _ (s₁.setTop (mkF m 5 #[rv a0, rv a1] [(.int 1), (.int 0), (.ref a1), (.ref a0)])) _
    refine XS.aconstNull X0.here hx rfl (hb hby d1_5) ?_
    exact k
  obtain ⟨_, T3, Lc3, X3, hQ3, st3⟩ := own_ci X0 hx hZ hown hml go2 (hb hby d1_6) e0 (hw _ (mi 7 rfl)) (own_site95 hw) rfl (rmiAn1 l Z aZ hw [] a0 a1 _ x0 _ h0 n0 Z0 E_a0 F_a0_value F_a0_coder g_a0 V_a1 S_COMPACT_STRINGS hcs hx0) (by decide) (argsL := [(.ref a1), (.int 0), (.int 1), .null]) (rest := []) rfl rfl rfl (lenOf pd_23 rfl) (W := 0) rfl (by decide) (by decide) (by decide : 0 + 1 ≤ _) (by decide : 0 + 1 ≤ _)
  obtain ⟨rfl, N3q, K3q, G3_0, G3_1⟩ := hQ3
  have N3 := Fr.app N0 N3q
  have K3 : Keep h0 T3.heap [a0] := K0.trans K3q (allS (Or.inl (List.mem_of_getElem? (i := 0) rfl)) all0)
  have Zs3 : n0 ≤ T3.heap.size := Nat.le_trans Z0 K3q.1
  refine own_outV X3 hx hlk st3 hrt (hb hby d1_9) rfl (by decide) (by decide) ?_
  exact ⟨rfl, N3, K3, G3_0, G3_1⟩
def QcAn2 (Z : State) (n0 : Nat) (a0 : Addr) (a2 : Addr) (k_a0 : ClassId) (x0 : Int32) (x1 : Int32) (k_a2 : ClassId) (y0 : Int32) (y1 : Int32) (h0 : Heap) (v : Option Value) (h : Heap) (L : List Loc) : Prop := v = some (.int (2 : Int32)) ∧ Fr n0 L ∧ Keep h0 h [a2] ∧ Arv Z h a2 k_a2 .byte (2 : Int32) [(.int x0.toInt8.toInt32.toInt8.toInt32), (.int x1.toInt8.toInt32.toInt8.toInt32)] (.int (0 : Int32))
theorem efcAn2 (m : MethodId) (a0 : Addr) (a2 : Addr) : entryFrame m #[(.ref a0), (.int (0 : Int32)), (.ref a2), (.int (0 : Int32)), (.int (2 : Int32))] 7 = mkF m 0 #[rv a0, iv (0 : Int32), rv a2, iv (0 : Int32), iv (2 : Int32), .unset, .unset] [] := by first | (simp [entryFrame, mkF, argsToLocals, Value.category]; done) | rfl
abbrev LcAn2_0 (a0 : Addr) (a2 : Addr) (x0 : Int32) : Array Slot := #[rv a0, iv 0, rv a2, iv 0, iv 2, iv 0, iv x0]
abbrev LcAn2_1 (a0 : Addr) (a2 : Addr) : Array Slot := #[rv a0, iv 0, rv a2, iv 0, iv 2, iv 0, .unset]
abbrev LcAn2_2 (a0 : Addr) (a2 : Addr) (x1 : Int32) : Array Slot := #[rv a0, iv 1, rv a2, iv 1, iv 2, iv 1, iv x1]
abbrev LcAn2_3 (a0 : Addr) (a2 : Addr) (x0 : Int32) : Array Slot := #[rv a0, iv 1, rv a2, iv 1, iv 2, iv 1, iv x0]
set_option maxRecDepth 65536 in
set_option maxHeartbeats 40000000 in
theorem rmcAn2 (l : Launch) (Z : State) (aZ : Array Value) (hw : ∀ d ∈ tables_1, d.before aZ Z = true) (ws : List Jvm.Cond) (a0 : Addr) (a2 : Addr) (k_a0 : ClassId) (x0 : Int32) (x1 : Int32) (k_a2 : ClassId) (y0 : Int32) (y1 : Int32) (h0 : Heap) (n0 : Nat) (Z0 : n0 ≤ h0.size) (V_a0 : Arv Z h0 a0 k_a0 .char (2 : Int32) [(.int x0), (.int x1)] (.int 0)) (V_a2 : Arv Z h0 a2 k_a2 .byte (2 : Int32) [(.int y0), (.int y1)] (.int 0)) (g_a2 : n0 ≤ a2) (ne02 : a0 ≠ a2) (hx0 : ¬ (255 : Int32) < x0) (hx1 : ¬ (255 : Int32) < x1) :
    MFn l (⟨"java/lang/StringUTF16", "compress", "([CI[BII)I"⟩ : MethodName) jdk_52_method_21_code 7 (some .int) ws (Rm 0 0 0 0) #[(.ref a0), (.int 0), (.ref a2), (.int 0), (.int 2)] Z h0 (QcAn2 Z n0 a0 a2 k_a0 x0 x1 k_a2 y0 y1 h0) := by
  refine own_mf (C := "java/lang/StringUTF16") rfl (plainFor_of_name pn_48) (fun m => efcAn2 m a0 a2) ?_
  intro p e s m below meth cd0 s₁ En hx hby hml hown hnm hZ X0 e0 hlk hrt go0
  have N0 := Fr.nil n0
  have K0 : Keep h0 h0 [a2] := Keep.refl _ _
  obtain ⟨cl1, Ar1, q1, S1, N1, H1, G1⟩ := id V_a0
  have go2 : Go p.tables e below s₁ (mkF m 31 (LcAn2_0 a0 a2 x0) [(.int x0.toInt8.toInt32), (.int 0), (.ref a2)]) En := by
    intro t k
    refine go0 _ ?_
    refine XS.iconst X0.here hx rfl (hb hby d17_0) ?_
    refine XS.istore X0.here hx rfl (hb hby d17_1) rfl (l' := (LcAn2_1 a0 a2)) rfl ?_
    refine XS.iload X0.here hx rfl (hb hby d17_3) rfl ?_
    show Steps _ _ _ (s₁.setTop (mkF m 5 (LcAn2_1 a0 a2) [(.int 0)])) _
    refine XS.iload X0.here hx rfl (hb hby d17_5) rfl ?_
    refine XS.icmpNo X0.here hx rfl (hb hby d17_7) rfl (XT.ii_ge_f (by decide : ((0 : Int32) < (2 : Int32)))) ?_
    refine XS.aloadN X0.here hx rfl (hb hby d17_10) rfl rfl ?_
    show Steps _ _ _ (s₁.setTop (mkF m 11 (LcAn2_1 a0 a2) [(.ref a0)])) _
    refine XS.iloadN X0.here hx rfl (hb hby d17_11) rfl ?_
    refine X0.caload hx (j := (0 : Int32)) (v := (.int x0)) (by rw [e0]; exact Ar1.1) (State.isArrayOf_alike hZ.alike Ar1.2.1) Ar1.2.2 (inb_of S1 ⟨by decide, by decide⟩) (Has.at H1 (inb_of S1 ⟨by decide, by decide⟩) rfl) (g := (mkF m 12 (LcAn2_1 a0 a2) [(.int 0), (.ref a0)])) rfl rfl (hb hby d17_12) _ ?_
    refine XS.istore X0.here hx rfl (hb hby d17_13) rfl (l' := (LcAn2_0 a0 a2 x0)) rfl ?_
    show Steps _ _ _ (s₁.setTop (mkF m 15 (LcAn2_0 a0 a2 x0) [])) _
    refine XS.iload X0.here hx rfl (hb hby d17_15) rfl ?_
    refine XS.sipush X0.here hx rfl (hb hby d17_17) ?_
    refine XS.icmpYes X0.here hx rfl (pc0 := 20) (pc' := 26) rfl (hb hby d17_20) rfl (XT.ii_le_t hx0) (by decide) (by decide) ?_
    show Steps _ _ _ (s₁.setTop (mkF m 26 (LcAn2_0 a0 a2 x0) [])) _
    refine XS.aloadN X0.here hx rfl (hb hby d17_26) rfl rfl ?_
    refine XS.iloadN X0.here hx rfl (hb hby d17_27) rfl ?_
    refine XS.iload X0.here hx rfl (hb hby d17_28) rfl ?_
    show Steps _ _ _ (s₁.setTop (mkF m 30 (LcAn2_0 a0 a2 x0) [(.int x0), (.int 0), (.ref a2)])) _
    refine XS.i2b X0.here hx rfl (hb hby d17_30) rfl ?_
    exact k
  obtain ⟨cl4, Ar4, q4, S4, N4, H4, G4⟩ := id V_a2
  obtain ⟨T3, h3, X3, e3, W3, st3⟩ := stB X0 hx hZ e0 Ar4 (j := (0 : Int32)) (inb_of S4 ⟨by decide, by decide⟩) (g := (mkF m 31 (LcAn2_0 a0 a2 x0) [(.int x0.toInt8.toInt32), (.int 0), (.ref a2)])) rfl rfl (hb hby d17_31)
  have go5 := gap go2 st3
  have N3 := Fr.snoc X3 N0 g_a2
  have K3 : Keep h0 h3 [a2] := K0.wr W3 (Or.inl (List.mem_of_getElem? (i := 0) rfl))
  have Zs3 : n0 ≤ h3.size := Nat.le_trans Z0 (Keep.of_wr W3).1
  have F6 : Arv Z h3 a2 k_a2 .byte (2 : Int32) [(.int x0.toInt8.toInt32.toInt8.toInt32), (.int y1)] (.int 0) := Arv.set Ar4 q4 S4 N4 H4 G4 (fits_nar_byte _) W3 0 rfl (Nat.le_of_ble_eq_true rfl)
  obtain ⟨cl7, Ar7, q7, S7, N7, H7, G7⟩ := id (V_a0.keep K3 (ninS ne02 nin0))
  have go8 : Go p.tables e below T3 (mkF m 31 (LcAn2_2 a0 a2 x1) [(.int x1.toInt8.toInt32), (.int 1), (.ref a2)]) En := by
    intro t k
    refine go5 _ ?_
    refine XS.iinc X3.here hx rfl (hb hby d17_32) rfl (l' := #[rv a0, iv 1, rv a2, iv 0, iv 2, iv 0, iv x0]) rfl ?_
    refine XS.iinc X3.here hx rfl (hb hby d17_35) rfl (l' := #[rv a0, iv 1, rv a2, iv 1, iv 2, iv 0, iv x0]) rfl ?_
    refine XS.iinc X3.here hx rfl (hb hby d17_38) rfl (l' := (LcAn2_3 a0 a2 x0)) rfl ?_
    show Steps _ _ _ (T3.setTop (mkF m 41 (LcAn2_3 a0 a2 x0) [])) _
    refine XS.goto X3.here hx rfl (pc0 := 41) (pc' := 3) rfl (hb hby d17_41) (by decide) (by decide) ?_
    refine XS.iload X3.here hx rfl (hb hby d17_3) rfl ?_
    refine XS.iload X3.here hx rfl (hb hby d17_5) rfl ?_
    show Steps _ _ _ (T3.setTop (mkF m 7 (LcAn2_3 a0 a2 x0) [(.int 2), (.int 1)])) _
    refine XS.icmpNo X3.here hx rfl (hb hby d17_7) rfl (XT.ii_ge_f (by decide : ((1 : Int32) < (2 : Int32)))) ?_
    refine XS.aloadN X3.here hx rfl (hb hby d17_10) rfl rfl ?_
    refine XS.iloadN X3.here hx rfl (hb hby d17_11) rfl ?_
    show Steps _ _ _ (T3.setTop (mkF m 12 (LcAn2_3 a0 a2 x0) [(.int 1), (.ref a0)])) _
    refine X3.caload hx (j := (1 : Int32)) (v := (.int x1)) (by rw [e3]; exact Ar7.1) (State.isArrayOf_alike hZ.alike Ar7.2.1) Ar7.2.2 (inb_of S7 ⟨by decide, by decide⟩) (Has.at H7 (inb_of S7 ⟨by decide, by decide⟩) rfl) (g := (mkF m 12 (LcAn2_3 a0 a2 x0) [(.int 1), (.ref a0)])) rfl rfl (hb hby d17_12) _ ?_
    refine XS.istore X3.here hx rfl (hb hby d17_13) rfl (l' := (LcAn2_2 a0 a2 x1)) rfl ?_
    refine XS.iload X3.here hx rfl (hb hby d17_15) rfl ?_
    show Steps _ _ _ (T3.setTop (mkF m 17 (LcAn2_2 a0 a2 x1) [(.int x1)])) _
    refine XS.sipush X3.here hx rfl (hb hby d17_17) ?_
    refine XS.icmpYes X3.here hx rfl (pc0 := 20) (pc' := 26) rfl (hb hby d17_20) rfl (XT.ii_le_t hx1) (by decide) (by decide) ?_
    refine XS.aloadN X3.here hx rfl (hb hby d17_26) rfl rfl ?_
    show Steps _ _ _ (T3.setTop (mkF m 27 (LcAn2_2 a0 a2 x1) [(.ref a2)])) _
    refine XS.iloadN X3.here hx rfl (hb hby d17_27) rfl ?_
    refine XS.iload X3.here hx rfl (hb hby d17_28) rfl ?_
    refine XS.i2b X3.here hx rfl (hb hby d17_30) rfl ?_
    show Steps _ _ _ (T3.setTop (mkF m 31 (LcAn2_2 a0 a2 x1) [(.int x1.toInt8.toInt32), (.int 1), (.ref a2)])) _
    exact k
  obtain ⟨cl10, Ar10, q10, S10, N10, H10, G10⟩ := id F6
  obtain ⟨T9, h9, X9, e9, W9, st9⟩ := stB X3 hx hZ e3 Ar10 (j := (1 : Int32)) (inb_of S10 ⟨by decide, by decide⟩) (g := (mkF m 31 (LcAn2_2 a0 a2 x1) [(.int x1.toInt8.toInt32), (.int 1), (.ref a2)])) rfl rfl (hb hby d17_31)
  have go11 := gap go8 st9
  have N9 := Fr.snoc X9 N3 g_a2
  have K9 : Keep h0 h9 [a2] := K3.wr W9 (Or.inl (List.mem_of_getElem? (i := 0) rfl))
  have Zs9 : n0 ≤ h9.size := Nat.le_trans Zs3 (Keep.of_wr W9).1
  have F12 : Arv Z h9 a2 k_a2 .byte (2 : Int32) [(.int x0.toInt8.toInt32.toInt8.toInt32), (.int x1.toInt8.toInt32.toInt8.toInt32)] (.int 0) := Arv.set Ar10 q10 S10 N10 H10 G10 (fits_nar_byte _) W9 1 rfl (Nat.le_of_ble_eq_true rfl)
  have go13 : Go p.tables e below T9 (mkF m 46 #[rv a0, iv 2, rv a2, iv 2, iv 2, iv 2, iv x1] [(.int 2)]) En := by
    intro t k
    refine go11 _ ?_
    refine XS.iinc X9.here hx rfl (hb hby d17_32) rfl (l' := #[rv a0, iv 2, rv a2, iv 1, iv 2, iv 1, iv x1]) rfl ?_
    refine XS.iinc X9.here hx rfl (hb hby d17_35) rfl (l' := #[rv a0, iv 2, rv a2, iv 2, iv 2, iv 1, iv x1]) rfl ?_
    refine XS.iinc X9.here hx rfl (hb hby d17_38) rfl (l' := #[rv a0, iv 2, rv a2, iv 2, iv 2, iv 2, iv x1]) rfl ?_
    show Steps _ _ _ (T9.setTop (mkF m 41 #[rv a0, iv 2, rv a2, iv 2, iv 2, iv 2, iv x1] [])) _
    refine XS.goto X9.here hx rfl (pc0 := 41) (pc' := 3) rfl (hb hby d17_41) (by decide) (by decide) ?_
    refine XS.iload X9.here hx rfl (hb hby d17_3) rfl ?_
    refine XS.iload X9.here hx rfl (hb hby d17_5) rfl ?_
    show Steps _ _ _ (T9.setTop (mkF m 7 #[rv a0, iv 2, rv a2, iv 2, iv 2, iv 2, iv x1] [(.int 2), (.int 2)])) _
    refine XS.icmpYes X9.here hx rfl (pc0 := 7) (pc' := 44) rfl (hb hby d17_7) rfl (XT.ii_ge_t (by decide : ¬ ((2 : Int32) < (2 : Int32)))) (by decide) (by decide) ?_
    refine XS.iload X9.here hx rfl (hb hby d17_44) rfl ?_
    exact k
  refine own_out (w := (.int 2)) X9 hx hlk go13 hrt rfl (Or.inl ⟨rfl, Or.inl rfl, _, rfl⟩) (hb hby d17_46) e9 (by decide) (by decide) ?_
  exact ⟨rfl, N9, K9, F12⟩
def QcBn2 (Z : State) (n0 : Nat) (a0 : Addr) (k_a0 : ClassId) (x0 : Int32) (x1 : Int32) (h0 : Heap) (v : Option Value) (h : Heap) (L : List Loc) : Prop := ∃ (b : Addr) (kb : ClassId), v = some (.ref b) ∧ Fr n0 L ∧ Keep h0 h [] ∧ h0.size ≤ b ∧ Arv Z h b kb .byte (2 : Int32) [(.int x0.toInt8.toInt32.toInt8.toInt32), (.int x1.toInt8.toInt32.toInt8.toInt32)] (.int (0 : Int32))
theorem efcBn2 (m : MethodId) (a0 : Addr) : entryFrame m #[(.ref a0), (.int (0 : Int32)), (.int (2 : Int32))] 6 = mkF m 0 #[rv a0, iv (0 : Int32), iv (2 : Int32), .unset, .unset, .unset] [] := by first | (simp [entryFrame, mkF, argsToLocals, Value.category]; done) | rfl
set_option maxRecDepth 65536 in
set_option maxHeartbeats 40000000 in
theorem rmcBn2 (l : Launch) (Z : State) (aZ : Array Value) (hw : ∀ d ∈ tables_1, d.before aZ Z = true) (ws : List Jvm.Cond) (a0 : Addr) (k_a0 : ClassId) (x0 : Int32) (x1 : Int32) (h0 : Heap) (n0 : Nat) (Z0 : n0 ≤ h0.size) (V_a0 : Arv Z h0 a0 k_a0 .char (2 : Int32) [(.int x0), (.int x1)] (.int 0)) (hx0 : ¬ (255 : Int32) < x0) (hx1 : ¬ (255 : Int32) < x1) :
    MFn l (⟨"java/lang/StringUTF16", "compress", "([CII)[B"⟩ : MethodName) jdk_52_method_16_code 6 (some (.array .byte)) ws (Rm 1 1 2 18) #[(.ref a0), (.int 0), (.int 2)] Z h0 (QcBn2 Z n0 a0 k_a0 x0 x1 h0) := by
  refine own_mf (C := "java/lang/StringUTF16") rfl (plainFor_of_name pn_48) (fun m => efcBn2 m a0) ?_
  intro p e s m below meth cd0 s₁ En hx hby hml hown hnm hZ X0 e0 hlk hrt go0
  have N0 := Fr.nil n0
  have K0 : Keep h0 h0 [] := Keep.refl _ _
  have go1 : Go p.tables e below s₁ (mkF m 1 #[rv a0, iv 0, iv 2, .unset, .unset, .unset] [(.int 2)]) En := by
    intro t k
    refine go0 _ ?_
    refine XS.iloadN X0.here hx rfl (hb hby d16_0) rfl ?_
    exact k
  obtain ⟨T2, h2, k2, X2, e2, E2, A2, st2⟩ := newP X0 hx hZ (hw _ (mi 15 rfl)) e0 (g := (mkF m 1 #[rv a0, iv 0, iv 2, .unset, .unset, .unset] [(.int 2)])) rfl (hb hby d16_1) rfl (by decide) (cap := 2) (by decide) (by decide) (by decide) (by decide)
  obtain ⟨b2, g2⟩ : ∃ z, z = h0.size := ⟨_, rfl⟩
  rw [← g2] at A2 st2
  have ne3 : a0 ≠ b2 := Nat.ne_of_lt (Nat.lt_of_lt_of_le V_a0.lt (Nat.le_of_eq g2.symm))
  have low2 : n0 ≤ b2 := Nat.le_trans Z0 (Nat.le_of_eq g2.symm)
  have fsh2 : h0.size ≤ b2 := Nat.le_trans K0.1 (Nat.le_of_eq g2.symm)
  have K2 : Keep h0 h2 [] := K0.ext E2
  have Zs2 : n0 ≤ h2.size := Nat.le_trans Z0 E2.1
  have go4 := gap go1 st2
  have F5 : Arv Z h2 b2 k2 .byte (2 : Int32) [(.int 0), (.int 0)] (.int 0) := (Arv.new A2 (by decide)).pad (pad_rep [] (.int 0) 2)
  have go6 : Go p.tables e below T2 (mkF m 9 #[rv a0, iv 0, iv 2, rv b2, .unset, .unset] [(.int 2), (.int 0), (.ref b2), (.int 0), (.ref a0)]) En := by
    intro t k
    refine go4 _ ?_
    refine XS.astoreN X2.here hx rfl (hb hby d16_3) rfl rfl (l' := #[rv a0, iv 0, iv 2, rv b2, .unset, .unset]) rfl ?_
    refine XS.aloadN X2.here hx rfl (hb hby d16_4) rfl rfl ?_
    refine XS.iloadN X2.here hx rfl (hb hby d16_5) rfl ?_
    show Steps _ _ _ (T2.setTop (mkF m 6 #[rv a0, iv 0, iv 2, rv b2, .unset, .unset] [(.int 0), (.ref a0)])) _
    refine XS.aloadN X2.here hx rfl (hb hby d16_6) rfl rfl ?_
    refine XS.iconst X2.here hx rfl (hb hby d16_7) ?_
    refine XS.iloadN X2.here hx rfl (hb hby d16_8) rfl ?_
    show Steps _ _ _ (T2.setTop (mkF m 9 #[rv a0, iv 0, iv 2, rv b2, .unset, .unset] [(.int 2), (.int 0), (.ref b2), (.int 0), (.ref a0)])) _
    exact k
  obtain ⟨_, T7, Lc7, X7, hQ7, st7⟩ := own_cs X2 hx hZ hown hml go6 (hb hby d16_9) e2 (hw _ (mi 133 rfl)) (own_site58 hw) (rmcAn2 l Z aZ hw [] a0 b2 _ x0 x1 k2 _ _ h2 n0 Zs2 (V_a0.keep K2 nin0) F5 low2 ne3 hx0 hx1) (by decide) (argsL := [(.ref a0), (.int 0), (.ref b2), (.int 0), (.int 2)]) (rest := []) rfl rfl rfl (lenOf pd_59 rfl) (W := 0) rfl (by decide) (by decide) (by decide : 1 + 0 ≤ _) (by decide : 2 + 0 ≤ _)
  obtain ⟨rfl, N7q, K7q, G7_0⟩ := hQ7
  have N7 := Fr.app N0 N7q
  have K7 : Keep h0 T7.heap [] := K2.trans K7q (allS (Or.inr fsh2) all0)
  have Zs7 : n0 ≤ T7.heap.size := Nat.le_trans Zs2 K7q.1
  have go8 : Go p.tables e below T7 (mkF m 58 #[rv a0, iv 0, iv 2, rv b2, iv 2, .unset] [(.ref b2)]) En := by
    intro t k
    refine st7 _ ?_
    refine XS.istore X7.here hx rfl (hb hby d16_12) rfl (l' := #[rv a0, iv 0, iv 2, rv b2, iv 2, .unset]) rfl ?_
    refine XS.iload X7.here hx rfl (hb hby d16_14) rfl ?_
    refine XS.iloadN X7.here hx rfl (hb hby d16_16) rfl ?_
    show Steps _ _ _ (T7.setTop (mkF m 17 #[rv a0, iv 0, iv 2, rv b2, iv 2, .unset] [(.int 2), (.int 2)])) _
    refine XS.icmpYes X7.here hx rfl (pc0 := 17) (pc' := 57) rfl (hb hby d16_17) rfl (XT.ii_eq_t (by decide : ((2 : Int32) = (2 : Int32)))) (by decide) (by decide) ?_
    refine XS.aloadN X7.here hx rfl (hb hby d16_57) rfl rfl ?_
    exact k
  refine own_out (w := (.ref b2)) X7 hx hlk go8 hrt rfl (Or.inr (Or.inr (Or.inr (Or.inr ⟨rfl, rfl, rfl⟩)))) (hb hby d16_58) rfl (by decide) (by decide) ?_
  exact ⟨b2, k2, rfl, N7, K7, fsh2, G7_0⟩
theorem efcCn2 (m : MethodId) (a0 : Addr) : entryFrame m #[(.ref a0), (.int (2 : Int32))] 2 = mkF m 0 #[rv a0, iv (2 : Int32)] [] := by first | (simp [entryFrame, mkF, argsToLocals, Value.category]; done) | rfl
set_option maxRecDepth 65536 in
set_option maxHeartbeats 40000000 in
theorem rmcCn2 (l : Launch) (Z : State) (aZ : Array Value) (hw : ∀ d ∈ tables_1, d.before aZ Z = true) (ws : List Jvm.Cond) (a0 : Addr) (k_a0 : ClassId) (y0 : Int32) (y1 : Int32) (h0 : Heap) (n0 : Nat) (Z0 : n0 ≤ h0.size) (V_a0 : Arv Z h0 a0 k_a0 .byte (2 : Int32) [(.int y0), (.int y1)] (.int 0)) :
    MFn l (⟨"java/lang/StringUTF16", "coderFromArrayLen", "([BI)B"⟩ : MethodName) jdk_52_method_15_code 2 (some .byte) ws (Rm 0 0 0 0) #[(.ref a0), (.int 2)] Z h0 (QP n0 h0 (some (.int vcCn1_2))) := by
  refine own_mf (C := "java/lang/StringUTF16") rfl (plainFor_of_name pn_48) (fun m => efcCn2 m a0) ?_
  intro p e s m below meth cd0 s₁ En hx hby hml hown hnm hZ X0 e0 hlk hrt go0
  have N0 := Fr.nil n0
  have K0 : Keep h0 h0 [] := Keep.refl _ _
  obtain ⟨cl1, Ar1, q1, S1, N1, H1, G1⟩ := id V_a0
  have go2 : Go p.tables e below s₁ (mkF m 8 #[rv a0, iv 2] [(.int vcCn1_2)]) En := by
    intro t k
    refine go0 _ ?_
    refine XS.iloadN X0.here hx rfl (hb hby d18_0) rfl ?_
    refine XS.aloadN X0.here hx rfl (hb hby d18_1) rfl rfl ?_
    refine X0.arraylength hx (by rw [e0]; exact Ar1.1) (State.isArrayOf_alike hZ.alike Ar1.2.1) (g := (mkF m 2 #[rv a0, iv 2] [(.ref a0), (.int 2)])) rfl rfl (hb hby d18_2) _ ?_
    rw [len_of S1 N1]
    show Steps _ _ _ (s₁.setTop (mkF m 3 #[rv a0, iv 2] [(.int 2), (.int 2)])) _
    refine XS.isub X0.here hx rfl (hb hby d18_3) rfl ?_
    refine XS.bipush X0.here hx rfl (hb hby d18_4) ?_
    refine XS.iushr X0.here hx rfl (hb hby d18_6) rfl ?_
    show Steps _ _ _ (s₁.setTop (mkF m 7 #[rv a0, iv 2] [(.int (((0 : Int32).toUInt32 >>> ((31 : Int32) &&& 31).toUInt32).toInt32))])) _
    refine XS.i2b X0.here hx rfl (hb hby d18_7) rfl ?_
    exact k
  refine own_out (w := (.int vcCn1_2)) X0 hx hlk go2 hrt rfl (Or.inl ⟨rfl, Or.inr (Or.inr (Or.inl rfl)), _, rfl⟩) (hb hby d18_8) e0 (by decide) (by decide) ?_
  exact ⟨rfl, N0, rfl⟩
def QiAn2 (Z : State) (n0 : Nat) (a0 : Addr) (a1 : Addr) (k_a1 : ClassId) (x0 : Int32) (x1 : Int32) (s_COMPACT_STRINGS : Int32) (h0 : Heap) (v : Option Value) (h : Heap) (L : List Loc) : Prop := v = none ∧ Fr n0 L ∧ Keep h0 h [a0] ∧ Exa Z h a0 "java/lang/String" ∧ Fld Z h a0 "java/lang/String" "coder" "B" (.int (0 : Int32))
theorem efiAn2 (m : MethodId) (a0 : Addr) (a1 : Addr) : entryFrame m #[(.ref a0), (.ref a1), (.int (0 : Int32)), (.int (2 : Int32)), .null] 6 = mkF m 0 #[rv a0, rv a1, iv (0 : Int32), iv (2 : Int32), .val .null, .unset] [] := by first | (simp [entryFrame, mkF, argsToLocals, Value.category]; done) | rfl
abbrev LiAn2_0 (a0 : Addr) (a1 : Addr) : Array Slot := #[rv a0, rv a1, iv 0, iv 2, .val .null, .unset]
abbrev LiAn2_1 (a0 : Addr) (a1 : Addr) (b8 : Addr) : Array Slot := #[rv a0, rv a1, iv 0, iv 2, .val .null, rv b8]
set_option maxRecDepth 65536 in
set_option maxHeartbeats 40000000 in
theorem rmiAn2 (l : Launch) (Z : State) (aZ : Array Value) (hw : ∀ d ∈ tables_1, d.before aZ Z = true) (ws : List Jvm.Cond) (a0 : Addr) (a1 : Addr) (k_a1 : ClassId) (x0 : Int32) (x1 : Int32) (s_COMPACT_STRINGS : Int32) (h0 : Heap) (n0 : Nat) (Z0 : n0 ≤ h0.size) (E_a0 : Exa Z h0 a0 "java/lang/String") (F_a0_value : Fld Z h0 a0 "java/lang/String" "value" "[B" .null) (F_a0_coder : Fld Z h0 a0 "java/lang/String" "coder" "B" (.int 0)) (g_a0 : n0 ≤ a0) (V_a1 : Arv Z h0 a1 k_a1 .char (2 : Int32) [(.int x0), (.int x1)] (.int 0)) (S_COMPACT_STRINGS : Sta Z h0 "java/lang/String" "COMPACT_STRINGS" "Z" (.int s_COMPACT_STRINGS)) (hcs : ¬ s_COMPACT_STRINGS = (0 : Int32)) (hx0 : ¬ (255 : Int32) < x0) (hx1 : ¬ (255 : Int32) < x1) :
    MFn l (⟨"java/lang/String", "<init>", "([CIILjava/lang/Void;)V"⟩ : MethodName) jdk_42_method_149_code 6 none ws (Rm 2 1 2 35) #[(.ref a0), (.ref a1), (.int 0), (.int 2), .null] Z h0 (QiAn2 Z n0 a0 a1 k_a1 x0 x1 s_COMPACT_STRINGS h0) := by
  refine own_mf (C := "java/lang/String") rfl (plainFor_of_name pn_15) (fun m => efiAn2 m a0 a1) ?_
  intro p e s m below meth cd0 s₁ En hx hby hml hown hnm hZ X0 e0 hlk hrt go0
  have neA1 : a0 ≠ a1 := own_exa_arv_ne E_a0 V_a1 (hw _ (mi 2 rfl))
  have N0 := Fr.nil n0
  have K0 : Keep h0 h0 [a0] := Keep.refl _ _
  have go1 : Go p.tables e below s₁ (mkF m 1 (LiAn2_0 a0 a1) [(.ref a0)]) En := by
    intro t k
    refine go0 _ ?_
    refine XS.aloadN X0.here hx rfl (hb hby d2_0) rfl rfl ?_
    exact k
  obtain ⟨T2, X2, e2, st2⟩ := initO X0 hx hZ hown (hw _ (mi 11 rfl)) (hw _ (mi 12 rfl)) (hw _ (mi 13 rfl)) e0 (g := (mkF m 1 (LiAn2_0 a0 a1) [(.ref a0)])) rfl (by rw [hml]; rfl) rfl (hb hby d2_1) (by decide) (W := 0) (by show 2 * 0 + _ ≤ _; exact Nat.le_of_eq rfl) (by decide)
  have go3 := gap go1 st2
  have go4 : Go p.tables e below T2 (mkF m 27 (LiAn2_0 a0 a1) []) En := by
    intro t k
    refine go3 _ ?_
    refine XS.iloadN X2.here hx rfl (hb hby d2_4) rfl ?_
    refine XS.ifYes X2.here hx rfl (pc0 := 5) (pc' := 27) rfl (hb hby d2_5) rfl (XT.i0_ne_t (by decide : ¬ ((2 : Int32) = (0 : Int32)))) (by decide) (by decide) ?_
    exact k
  obtain ⟨T5, X5, e5, st5⟩ := getS2 X2 hx hZ hown (host := "") (Or.inl (hw _ (mi 128 rfl))) Via.refl e2 S_COMPACT_STRINGS (g := (mkF m 27 (LiAn2_0 a0 a1) [])) rfl (hb hby d2_27)
  have go6 := gap go4 st5
  have go7 : Go p.tables e below T5 (mkF m 36 (LiAn2_0 a0 a1) [(.int 2), (.int 0), (.ref a1)]) En := by
    intro t k
    refine go6 _ ?_
    refine XS.ifNo X5.here hx rfl (hb hby d2_30) rfl (XT.i0_eq_f hcs) ?_
    refine XS.aloadN X5.here hx rfl (hb hby d2_33) rfl rfl ?_
    refine XS.iloadN X5.here hx rfl (hb hby d2_34) rfl ?_
    show Steps _ _ _ (T5.setTop (mkF m 35 (LiAn2_0 a0 a1) [(.int 0), (.ref a1)])) _
    refine XS.iloadN X5.here hx rfl (hb hby d2_35) rfl ?_
    exact k
  obtain ⟨_, T8, Lc8, X8, hQ8, st8⟩ := own_cs X5 hx hZ hown hml go7 (hb hby d2_36) e5 (hw _ (mi 129 rfl)) (own_site81 hw) (rmcBn2 l Z aZ hw [] a1 _ x0 x1 h0 n0 Z0 V_a1 hx0 hx1) (by decide) (argsL := [(.ref a1), (.int 0), (.int 2)]) (rest := []) rfl rfl rfl (lenOf pd_82 rfl) (W := 0) rfl (by decide) (by decide) (by decide : 0 + 1 ≤ _) (by decide : 0 + 2 ≤ _)
  obtain ⟨b8, kb8, rfl, N8q, K8q, fr8, G8_0⟩ := hQ8
  have N8 := Fr.app N0 N8q
  have K8 : Keep h0 T8.heap [a0] := K0.trans K8q all0
  have low8 : n0 ≤ b8 := Nat.le_trans Z0 fr8
  have fsh8 : h0.size ≤ b8 := Nat.le_trans K0.1 fr8
  have ne9 : a0 ≠ b8 := Nat.ne_of_lt (Nat.lt_of_lt_of_le E_a0.lt fr8)
  have ne10 : a1 ≠ b8 := Nat.ne_of_lt (Nat.lt_of_lt_of_le V_a1.lt fr8)
  have Zs8 : n0 ≤ T8.heap.size := Nat.le_trans Z0 K8q.1
  have F11 := F_a0_value.keep K8q nin0
  have F12 := F_a0_coder.keep K8q nin0
  have go13 : Go p.tables e below T8 (mkF m 45 (LiAn2_1 a0 a1 b8) [(.int 2), (.ref b8), (.ref a0)]) En := by
    intro t k
    refine st8 _ ?_
    refine XS.astore X8.here hx rfl (hb hby d2_39) rfl rfl (l' := (LiAn2_1 a0 a1 b8)) rfl ?_
    refine XS.aloadN X8.here hx rfl (hb hby d2_41) rfl rfl ?_
    refine XS.aload X8.here hx rfl (hb hby d2_42) rfl rfl ?_
    show Steps _ _ _ (T8.setTop (mkF m 44 (LiAn2_1 a0 a1 b8) [(.ref b8), (.ref a0)])) _
    refine XS.iloadN X8.here hx rfl (hb hby d2_44) rfl ?_
    exact k
  obtain ⟨_, T14, Lc14, X14, hQ14, st14⟩ := own_cs X8 hx hZ hown hml go13 (hb hby d2_45) rfl (hw _ (mi 136 rfl)) (own_site88 hw) (rmcCn2 l Z aZ hw [] b8 kb8 _ _ T8.heap n0 Zs8 G8_0) (by decide) (argsL := [(.ref b8), (.int 2)]) (rest := [(.ref a0)]) rfl rfl rfl (lenOf pd_89 rfl) (W := 1) rfl (by decide) (by decide) (by decide : 1 + 0 ≤ _) (by decide : 2 + 0 ≤ _)
  obtain ⟨rfl, N14q, e14⟩ := hQ14
  have N14 := Fr.app N8 N14q
  obtain ⟨T15, h15, X15, e15, W15, st15⟩ := putFN X14 hx hZ hown (hw _ (mi 21 rfl)) Via.refl e14 F12 (E_a0.keep K8) (Or.inr ⟨(hw _ (mi 17 rfl)), rfl, hnm⟩) (hw _ (mi 2 rfl)) (ty := .byte) (v' := (.int 0)) (by decide) rfl rfl (g := (mkF m 48 (LiAn2_1 a0 a1 b8) [(.int vcCn1_2), (.ref a0)])) rfl rfl (hb hby d2_48)
  have go16 := gap st14 st15
  have N15 := Fr.snoc X15 N14 g_a0
  have K15 : Keep h0 h15 [a0] := K8.wr W15 (Or.inl (List.mem_of_getElem? (i := 0) rfl))
  have Zs15 : n0 ≤ h15.size := Nat.le_trans Zs8 (Keep.of_wr W15).1
  have F17 := F11.other W15 (Or.inr (slot_ne (Or.inr (hw _ (mi 16 rfl))) (Or.inr (hw _ (mi 17 rfl))) (by decide) (t := (.array .byte)) (t' := .byte) (by decide) (by decide)))
  have F18 : Fld Z h15 a0 "java/lang/String" "coder" "B" (.int 0) := F12.same W15
  have F19 := G8_0.other W15 (Ne.symm ne9)
  have go20 : Go p.tables e below T15 (mkF m 54 (LiAn2_1 a0 a1 b8) [(.ref b8), (.ref a0)]) En := by
    intro t k
    refine go16 _ ?_
    refine XS.aloadN X15.here hx rfl (hb hby d2_51) rfl rfl ?_
    refine XS.aload X15.here hx rfl (hb hby d2_52) rfl rfl ?_
    exact k
  obtain ⟨T21, h21, X21, e21, W21, st21⟩ := putF X15 hx hZ hown (host := "") (Or.inl (hw _ (mi 20 rfl))) Via.refl e15 F17 (E_a0.keep K15) (Or.inr ⟨(hw _ (mi 16 rfl)), rfl, hnm⟩) (hw _ (mi 2 rfl)) (ty := (.array .byte)) (by decide) rfl rfl (g := (mkF m 54 (LiAn2_1 a0 a1 b8) [(.ref b8), (.ref a0)])) rfl rfl (hb hby d2_54)
  have go22 := gap go20 st21
  have N21 := Fr.snoc X21 N15 g_a0
  have K21 : Keep h0 h21 [a0] := K15.wr W21 (Or.inl (List.mem_of_getElem? (i := 0) rfl))
  have Zs21 : n0 ≤ h21.size := Nat.le_trans Zs15 (Keep.of_wr W21).1
  have F23 : Fld Z h21 a0 "java/lang/String" "value" "[B" (.ref b8) := F17.same W21
  have F24 := F18.other W21 (Or.inr (slot_ne (Or.inr (hw _ (mi 17 rfl))) (Or.inr (hw _ (mi 16 rfl))) (by decide) (t := .byte) (t' := (.array .byte)) (by decide) (by decide)))
  have F25 := F19.other W21 (Ne.symm ne9)
  refine own_outV X21 hx hlk go22 hrt (hb hby d2_57) e21 (by decide) (by decide) ?_
  exact ⟨rfl, N21, K21, (E_a0.keep K21), F24⟩
def QiBn2 (Z : State) (n0 : Nat) (a0 : Addr) (a1 : Addr) (k_a1 : ClassId) (x0 : Int32) (x1 : Int32) (s_COMPACT_STRINGS : Int32) (h0 : Heap) (v : Option Value) (h : Heap) (L : List Loc) : Prop := v = none ∧ Fr n0 L ∧ Keep h0 h [a0] ∧ Exa Z h a0 "java/lang/String" ∧ Fld Z h a0 "java/lang/String" "coder" "B" (.int (0 : Int32))
theorem efiBn2 (m : MethodId) (a0 : Addr) (a1 : Addr) : entryFrame m #[(.ref a0), (.ref a1)] 2 = mkF m 0 #[rv a0, rv a1] [] := by first | (simp [entryFrame, mkF, argsToLocals, Value.category]; done) | rfl
set_option maxRecDepth 65536 in
set_option maxHeartbeats 40000000 in
theorem rmiBn2 (l : Launch) (Z : State) (aZ : Array Value) (hw : ∀ d ∈ tables_1, d.before aZ Z = true) (ws : List Jvm.Cond) (a0 : Addr) (a1 : Addr) (k_a1 : ClassId) (x0 : Int32) (x1 : Int32) (s_COMPACT_STRINGS : Int32) (h0 : Heap) (n0 : Nat) (Z0 : n0 ≤ h0.size) (E_a0 : Exa Z h0 a0 "java/lang/String") (F_a0_value : Fld Z h0 a0 "java/lang/String" "value" "[B" .null) (F_a0_coder : Fld Z h0 a0 "java/lang/String" "coder" "B" (.int 0)) (g_a0 : n0 ≤ a0) (V_a1 : Arv Z h0 a1 k_a1 .char (2 : Int32) [(.int x0), (.int x1)] (.int 0)) (S_COMPACT_STRINGS : Sta Z h0 "java/lang/String" "COMPACT_STRINGS" "Z" (.int s_COMPACT_STRINGS)) (hcs : ¬ s_COMPACT_STRINGS = (0 : Int32)) (hx0 : ¬ (255 : Int32) < x0) (hx1 : ¬ (255 : Int32) < x1) :
    MFn l (⟨"java/lang/String", "<init>", "([C)V"⟩ : MethodName) jdk_42_method_3_code 2 none ws (Rm 3 1 2 52) #[(.ref a0), (.ref a1)] Z h0 (QiBn2 Z n0 a0 a1 k_a1 x0 x1 s_COMPACT_STRINGS h0) := by
  refine own_mf (C := "java/lang/String") rfl (plainFor_of_name pn_15) (fun m => efiBn2 m a0 a1) ?_
  intro p e s m below meth cd0 s₁ En hx hby hml hown hnm hZ X0 e0 hlk hrt go0
  have neA1 : a0 ≠ a1 := own_exa_arv_ne E_a0 V_a1 (hw _ (mi 2 rfl))
  have N0 := Fr.nil n0
  have K0 : Keep h0 h0 [a0] := Keep.refl _ _
  obtain ⟨cl1, Ar1, q1, S1, N1, H1, G1⟩ := id V_a1
  have go2 : Go p.tables e below s₁ (mkF m 6 #[rv a0, rv a1] [.null, (.int 2), (.int 0), (.ref a1), (.ref a0)]) En := by
    intro t k
    refine go0 _ ?_
    refine XS.aloadN X0.here hx rfl (hb hby d1_0) rfl rfl ?_
    refine XS.aloadN X0.here hx rfl (hb hby d1_1) rfl rfl ?_
    refine XS.iconst X0.here hx rfl (hb hby d1_2) ?_
    show Steps _ _ _ (s₁.setTop (mkF m 3 #[rv a0, rv a1] [(.int 0), (.ref a1), (.ref a0)])) _
    refine XS.aloadN X0.here hx rfl (hb hby d1_3) rfl rfl ?_
    refine X0.arraylength hx (by rw [e0]; exact Ar1.1) (State.isArrayOf_alike hZ.alike Ar1.2.1) (g := (mkF m 4 #[rv a0, rv a1] [(.ref a1), (.int 0), (.ref a1), (.ref a0)])) rfl rfl (hb hby d1_4) _ ?_
    rw [len_of S1 N1]
    show Steps _ _ _ (s₁.setTop (mkF m 5 #[rv a0, rv a1] [(.int 2), (.int 0), (.ref a1), (.ref a0)])) _
    refine XS.aconstNull X0.here hx rfl (hb hby d1_5) ?_
    exact k
  obtain ⟨_, T3, Lc3, X3, hQ3, st3⟩ := own_ci X0 hx hZ hown hml go2 (hb hby d1_6) e0 (hw _ (mi 7 rfl)) (own_site95 hw) rfl (rmiAn2 l Z aZ hw [] a0 a1 _ x0 x1 _ h0 n0 Z0 E_a0 F_a0_value F_a0_coder g_a0 V_a1 S_COMPACT_STRINGS hcs hx0 hx1) (by decide) (argsL := [(.ref a1), (.int 0), (.int 2), .null]) (rest := []) rfl rfl rfl (lenOf pd_23 rfl) (W := 0) rfl (by decide) (by decide) (by decide : 0 + 1 ≤ _) (by decide : 0 + 2 ≤ _)
  obtain ⟨rfl, N3q, K3q, G3_0, G3_1⟩ := hQ3
  have N3 := Fr.app N0 N3q
  have K3 : Keep h0 T3.heap [a0] := K0.trans K3q (allS (Or.inl (List.mem_of_getElem? (i := 0) rfl)) all0)
  have Zs3 : n0 ≤ T3.heap.size := Nat.le_trans Z0 K3q.1
  refine own_outV X3 hx hlk st3 hrt (hb hby d1_9) rfl (by decide) (by decide) ?_
  exact ⟨rfl, N3, K3, G3_0, G3_1⟩
def QcAn3 (Z : State) (n0 : Nat) (a0 : Addr) (a2 : Addr) (k_a0 : ClassId) (x0 : Int32) (x1 : Int32) (x2 : Int32) (k_a2 : ClassId) (y0 : Int32) (y1 : Int32) (y2 : Int32) (h0 : Heap) (v : Option Value) (h : Heap) (L : List Loc) : Prop := v = some (.int (3 : Int32)) ∧ Fr n0 L ∧ Keep h0 h [a2] ∧ Arv Z h a2 k_a2 .byte (3 : Int32) [(.int x0.toInt8.toInt32.toInt8.toInt32), (.int x1.toInt8.toInt32.toInt8.toInt32), (.int x2.toInt8.toInt32.toInt8.toInt32)] (.int (0 : Int32))
theorem efcAn3 (m : MethodId) (a0 : Addr) (a2 : Addr) : entryFrame m #[(.ref a0), (.int (0 : Int32)), (.ref a2), (.int (0 : Int32)), (.int (3 : Int32))] 7 = mkF m 0 #[rv a0, iv (0 : Int32), rv a2, iv (0 : Int32), iv (3 : Int32), .unset, .unset] [] := by first | (simp [entryFrame, mkF, argsToLocals, Value.category]; done) | rfl
abbrev LcAn3_0 (a0 : Addr) (a2 : Addr) (x0 : Int32) : Array Slot := #[rv a0, iv 0, rv a2, iv 0, iv 3, iv 0, iv x0]
abbrev LcAn3_1 (a0 : Addr) (a2 : Addr) : Array Slot := #[rv a0, iv 0, rv a2, iv 0, iv 3, iv 0, .unset]
abbrev LcAn3_2 (a0 : Addr) (a2 : Addr) (x1 : Int32) : Array Slot := #[rv a0, iv 1, rv a2, iv 1, iv 3, iv 1, iv x1]
abbrev LcAn3_3 (a0 : Addr) (a2 : Addr) (x0 : Int32) : Array Slot := #[rv a0, iv 1, rv a2, iv 1, iv 3, iv 1, iv x0]
abbrev LcAn3_4 (a0 : Addr) (a2 : Addr) (x2 : Int32) : Array Slot := #[rv a0, iv 2, rv a2, iv 2, iv 3, iv 2, iv x2]
abbrev LcAn3_5 (a0 : Addr) (a2 : Addr) (x1 : Int32) : Array Slot := #[rv a0, iv 2, rv a2, iv 2, iv 3, iv 2, iv x1]
set_option maxRecDepth 65536 in
set_option maxHeartbeats 40000000 in
theorem rmcAn3 (l : Launch) (Z : State) (aZ : Array Value) (hw : ∀ d ∈ tables_1, d.before aZ Z = true) (ws : List Jvm.Cond) (a0 : Addr) (a2 : Addr) (k_a0 : ClassId) (x0 : Int32) (x1 : Int32) (x2 : Int32) (k_a2 : ClassId) (y0 : Int32) (y1 : Int32) (y2 : Int32) (h0 : Heap) (n0 : Nat) (Z0 : n0 ≤ h0.size) (V_a0 : Arv Z h0 a0 k_a0 .char (3 : Int32) [(.int x0), (.int x1), (.int x2)] (.int 0)) (V_a2 : Arv Z h0 a2 k_a2 .byte (3 : Int32) [(.int y0), (.int y1), (.int y2)] (.int 0)) (g_a2 : n0 ≤ a2) (ne02 : a0 ≠ a2) (hx0 : ¬ (255 : Int32) < x0) (hx1 : ¬ (255 : Int32) < x1) (hx2 : ¬ (255 : Int32) < x2) :
    MFn l (⟨"java/lang/StringUTF16", "compress", "([CI[BII)I"⟩ : MethodName) jdk_52_method_21_code 7 (some .int) ws (Rm 0 0 0 0) #[(.ref a0), (.int 0), (.ref a2), (.int 0), (.int 3)] Z h0 (QcAn3 Z n0 a0 a2 k_a0 x0 x1 x2 k_a2 y0 y1 y2 h0) := by
  refine own_mf (C := "java/lang/StringUTF16") rfl (plainFor_of_name pn_48) (fun m => efcAn3 m a0 a2) ?_
  intro p e s m below meth cd0 s₁ En hx hby hml hown hnm hZ X0 e0 hlk hrt go0
  have N0 := Fr.nil n0
  have K0 : Keep h0 h0 [a2] := Keep.refl _ _
  obtain ⟨cl1, Ar1, q1, S1, N1, H1, G1⟩ := id V_a0
  have go2 : Go p.tables e below s₁ (mkF m 31 (LcAn3_0 a0 a2 x0) [(.int x0.toInt8.toInt32), (.int 0), (.ref a2)]) En := by
    intro t k
    refine go0 _ ?_
    refine XS.iconst X0.here hx rfl (hb hby d17_0) ?_
    refine XS.istore X0.here hx rfl (hb hby d17_1) rfl (l' := (LcAn3_1 a0 a2)) rfl ?_
    refine XS.iload X0.here hx rfl (hb hby d17_3) rfl ?_
    show Steps _ _ _ (s₁.setTop (mkF m 5 (LcAn3_1 a0 a2) [(.int 0)])) _
    refine XS.iload X0.here hx rfl (hb hby d17_5) rfl ?_
    refine XS.icmpNo X0.here hx rfl (hb hby d17_7) rfl (XT.ii_ge_f (by decide : ((0 : Int32) < (3 : Int32)))) ?_
    refine XS.aloadN X0.here hx rfl (hb hby d17_10) rfl rfl ?_
    show Steps _ _ _ (s₁.setTop (mkF m 11 (LcAn3_1 a0 a2) [(.ref a0)])) _
    refine XS.iloadN X0.here hx rfl (hb hby d17_11) rfl ?_
    refine X0.caload hx (j := (0 : Int32)) (v := (.int x0)) (by rw [e0]; exact Ar1.1) (State.isArrayOf_alike hZ.alike Ar1.2.1) Ar1.2.2 (inb_of S1 ⟨by decide, by decide⟩) (Has.at H1 (inb_of S1 ⟨by decide, by decide⟩) rfl) (g := (mkF m 12 (LcAn3_1 a0 a2) [(.int 0), (.ref a0)])) rfl rfl (hb hby d17_12) _ ?_
    refine XS.istore X0.here hx rfl (hb hby d17_13) rfl (l' := (LcAn3_0 a0 a2 x0)) rfl ?_
    show Steps _ _ _ (s₁.setTop (mkF m 15 (LcAn3_0 a0 a2 x0) [])) _
    refine XS.iload X0.here hx rfl (hb hby d17_15) rfl ?_
    refine XS.sipush X0.here hx rfl (hb hby d17_17) ?_
    refine XS.icmpYes X0.here hx rfl (pc0 := 20) (pc' := 26) rfl (hb hby d17_20) rfl (XT.ii_le_t hx0) (by decide) (by decide) ?_
    show Steps _ _ _ (s₁.setTop (mkF m 26 (LcAn3_0 a0 a2 x0) [])) _
    refine XS.aloadN X0.here hx rfl (hb hby d17_26) rfl rfl ?_
    refine XS.iloadN X0.here hx rfl (hb hby d17_27) rfl ?_
    refine XS.iload X0.here hx rfl (hb hby d17_28) rfl ?_
    show Steps _ _ _ (s₁.setTop (mkF m 30 (LcAn3_0 a0 a2 x0) [(.int x0), (.int 0), (.ref a2)])) _
    refine XS.i2b X0.here hx rfl (hb hby d17_30) rfl ?_
    exact k
  obtain ⟨cl4, Ar4, q4, S4, N4, H4, G4⟩ := id V_a2
  obtain ⟨T3, h3, X3, e3, W3, st3⟩ := stB X0 hx hZ e0 Ar4 (j := (0 : Int32)) (inb_of S4 ⟨by decide, by decide⟩) (g := (mkF m 31 (LcAn3_0 a0 a2 x0) [(.int x0.toInt8.toInt32), (.int 0), (.ref a2)])) rfl rfl (hb hby d17_31)
  have go5 := gap go2 st3
  have N3 := Fr.snoc X3 N0 g_a2
  have K3 : Keep h0 h3 [a2] := K0.wr W3 (Or.inl (List.mem_of_getElem? (i := 0) rfl))
  have Zs3 : n0 ≤ h3.size := Nat.le_trans Z0 (Keep.of_wr W3).1
  have F6 : Arv Z h3 a2 k_a2 .byte (3 : Int32) [(.int x0.toInt8.toInt32.toInt8.toInt32), (.int y1), (.int y2)] (.int 0) := Arv.set Ar4 q4 S4 N4 H4 G4 (fits_nar_byte _) W3 0 rfl (Nat.le_of_ble_eq_true rfl)
  obtain ⟨cl7, Ar7, q7, S7, N7, H7, G7⟩ := id (V_a0.keep K3 (ninS ne02 nin0))
  have go8 : Go p.tables e below T3 (mkF m 31 (LcAn3_2 a0 a2 x1) [(.int x1.toInt8.toInt32), (.int 1), (.ref a2)]) En := by
    intro t k
    refine go5 _ ?_
    refine XS.iinc X3.here hx rfl (hb hby d17_32) rfl (l' := #[rv a0, iv 1, rv a2, iv 0, iv 3, iv 0, iv x0]) rfl ?_
    refine XS.iinc X3.here hx rfl (hb hby d17_35) rfl (l' := #[rv a0, iv 1, rv a2, iv 1, iv 3, iv 0, iv x0]) rfl ?_
    refine XS.iinc X3.here hx rfl (hb hby d17_38) rfl (l' := (LcAn3_3 a0 a2 x0)) rfl ?_
    show Steps _ _ _ (T3.setTop (mkF m 41 (LcAn3_3 a0 a2 x0) [])) _
    refine XS.goto X3.here hx rfl (pc0 := 41) (pc' := 3) rfl (hb hby d17_41) (by decide) (by decide) ?_
    refine XS.iload X3.here hx rfl (hb hby d17_3) rfl ?_
    refine XS.iload X3.here hx rfl (hb hby d17_5) rfl ?_
    show Steps _ _ _ (T3.setTop (mkF m 7 (LcAn3_3 a0 a2 x0) [(.int 3), (.int 1)])) _
    refine XS.icmpNo X3.here hx rfl (hb hby d17_7) rfl (XT.ii_ge_f (by decide : ((1 : Int32) < (3 : Int32)))) ?_
    refine XS.aloadN X3.here hx rfl (hb hby d17_10) rfl rfl ?_
    refine XS.iloadN X3.here hx rfl (hb hby d17_11) rfl ?_
    show Steps _ _ _ (T3.setTop (mkF m 12 (LcAn3_3 a0 a2 x0) [(.int 1), (.ref a0)])) _
    refine X3.caload hx (j := (1 : Int32)) (v := (.int x1)) (by rw [e3]; exact Ar7.1) (State.isArrayOf_alike hZ.alike Ar7.2.1) Ar7.2.2 (inb_of S7 ⟨by decide, by decide⟩) (Has.at H7 (inb_of S7 ⟨by decide, by decide⟩) rfl) (g := (mkF m 12 (LcAn3_3 a0 a2 x0) [(.int 1), (.ref a0)])) rfl rfl (hb hby d17_12) _ ?_
    refine XS.istore X3.here hx rfl (hb hby d17_13) rfl (l' := (LcAn3_2 a0 a2 x1)) rfl ?_
    refine XS.iload X3.here hx rfl (hb hby d17_15) rfl ?_
    show Steps _ _ _ (T3.setTop (mkF m 17 (LcAn3_2 a0 a2 x1) [(.int x1)])) _
    refine XS.sipush X3.here hx rfl (hb hby d17_17) ?_
    refine XS.icmpYes X3.here hx rfl (pc0 := 20) (pc' := 26) rfl (hb hby d17_20) rfl (XT.ii_le_t hx1) (by decide) (by decide) ?_
    refine XS.aloadN X3.here hx rfl (hb hby d17_26) rfl rfl ?_
    show Steps _ _ _ (T3.setTop (mkF m 27 (LcAn3_2 a0 a2 x1) [(.ref a2)])) _
    refine XS.iloadN X3.here hx rfl (hb hby d17_27) rfl ?_
    refine XS.iload X3.here hx rfl (hb hby d17_28) rfl ?_
    refine XS.i2b X3.here hx rfl (hb hby d17_30) rfl ?_
    show Steps _ _ _ (T3.setTop (mkF m 31 (LcAn3_2 a0 a2 x1) [(.int x1.toInt8.toInt32), (.int 1), (.ref a2)])) _
    exact k
  obtain ⟨cl10, Ar10, q10, S10, N10, H10, G10⟩ := id F6
  obtain ⟨T9, h9, X9, e9, W9, st9⟩ := stB X3 hx hZ e3 Ar10 (j := (1 : Int32)) (inb_of S10 ⟨by decide, by decide⟩) (g := (mkF m 31 (LcAn3_2 a0 a2 x1) [(.int x1.toInt8.toInt32), (.int 1), (.ref a2)])) rfl rfl (hb hby d17_31)
  have go11 := gap go8 st9
  have N9 := Fr.snoc X9 N3 g_a2
  have K9 : Keep h0 h9 [a2] := K3.wr W9 (Or.inl (List.mem_of_getElem? (i := 0) rfl))
  have Zs9 : n0 ≤ h9.size := Nat.le_trans Zs3 (Keep.of_wr W9).1
  have F12 : Arv Z h9 a2 k_a2 .byte (3 : Int32) [(.int x0.toInt8.toInt32.toInt8.toInt32), (.int x1.toInt8.toInt32.toInt8.toInt32), (.int y2)] (.int 0) := Arv.set Ar10 q10 S10 N10 H10 G10 (fits_nar_byte _) W9 1 rfl (Nat.le_of_ble_eq_true rfl)
  obtain ⟨cl13, Ar13, q13, S13, N13, H13, G13⟩ := id (V_a0.keep K9 (ninS ne02 nin0))
  have go14 : Go p.tables e below T9 (mkF m 31 (LcAn3_4 a0 a2 x2) [(.int x2.toInt8.toInt32), (.int 2), (.ref a2)]) En := by
    intro t k
    refine go11 _ ?_
    refine XS.iinc X9.here hx rfl (hb hby d17_32) rfl (l' := #[rv a0, iv 2, rv a2, iv 1, iv 3, iv 1, iv x1]) rfl ?_
    refine XS.iinc X9.here hx rfl (hb hby d17_35) rfl (l' := #[rv a0, iv 2, rv a2, iv 2, iv 3, iv 1, iv x1]) rfl ?_
    refine XS.iinc X9.here hx rfl (hb hby d17_38) rfl (l' := (LcAn3_5 a0 a2 x1)) rfl ?_
    show Steps _ _ _ (T9.setTop (mkF m 41 (LcAn3_5 a0 a2 x1) [])) _
    refine XS.goto X9.here hx rfl (pc0 := 41) (pc' := 3) rfl (hb hby d17_41) (by decide) (by decide) ?_
    refine XS.iload X9.here hx rfl (hb hby d17_3) rfl ?_
    refine XS.iload X9.here hx rfl (hb hby d17_5) rfl ?_
    show Steps _ _ _ (T9.setTop (mkF m 7 (LcAn3_5 a0 a2 x1) [(.int 3), (.int 2)])) _
    refine XS.icmpNo X9.here hx rfl (hb hby d17_7) rfl (XT.ii_ge_f (by decide : ((2 : Int32) < (3 : Int32)))) ?_
    refine XS.aloadN X9.here hx rfl (hb hby d17_10) rfl rfl ?_
    refine XS.iloadN X9.here hx rfl (hb hby d17_11) rfl ?_
    show Steps _ _ _ (T9.setTop (mkF m 12 (LcAn3_5 a0 a2 x1) [(.int 2), (.ref a0)])) _
    refine X9.caload hx (j := (2 : Int32)) (v := (.int x2)) (by rw [e9]; exact Ar13.1) (State.isArrayOf_alike hZ.alike Ar13.2.1) Ar13.2.2 (inb_of S13 ⟨by decide, by decide⟩) (Has.at H13 (inb_of S13 ⟨by decide, by decide⟩) rfl) (g := (mkF m 12 (LcAn3_5 a0 a2 x1) [(.int 2), (.ref a0)])) rfl rfl (hb hby d17_12) _ ?_
    refine XS.istore X9.here hx rfl (hb hby d17_13) rfl (l' := (LcAn3_4 a0 a2 x2)) rfl ?_
    refine XS.iload X9.here hx rfl (hb hby d17_15) rfl ?_
    show Steps _ _ _ (T9.setTop (mkF m 17 (LcAn3_4 a0 a2 x2) [(.int x2)])) _
    refine XS.sipush X9.here hx rfl (hb hby d17_17) ?_
    refine XS.icmpYes X9.here hx rfl (pc0 := 20) (pc' := 26) rfl (hb hby d17_20) rfl (XT.ii_le_t hx2) (by decide) (by decide) ?_
    refine XS.aloadN X9.here hx rfl (hb hby d17_26) rfl rfl ?_
    show Steps _ _ _ (T9.setTop (mkF m 27 (LcAn3_4 a0 a2 x2) [(.ref a2)])) _
    refine XS.iloadN X9.here hx rfl (hb hby d17_27) rfl ?_
    refine XS.iload X9.here hx rfl (hb hby d17_28) rfl ?_
    refine XS.i2b X9.here hx rfl (hb hby d17_30) rfl ?_
    show Steps _ _ _ (T9.setTop (mkF m 31 (LcAn3_4 a0 a2 x2) [(.int x2.toInt8.toInt32), (.int 2), (.ref a2)])) _
    exact k
  obtain ⟨cl16, Ar16, q16, S16, N16, H16, G16⟩ := id F12
  obtain ⟨T15, h15, X15, e15, W15, st15⟩ := stB X9 hx hZ e9 Ar16 (j := (2 : Int32)) (inb_of S16 ⟨by decide, by decide⟩) (g := (mkF m 31 (LcAn3_4 a0 a2 x2) [(.int x2.toInt8.toInt32), (.int 2), (.ref a2)])) rfl rfl (hb hby d17_31)
  have go17 := gap go14 st15
  have N15 := Fr.snoc X15 N9 g_a2
  have K15 : Keep h0 h15 [a2] := K9.wr W15 (Or.inl (List.mem_of_getElem? (i := 0) rfl))
  have Zs15 : n0 ≤ h15.size := Nat.le_trans Zs9 (Keep.of_wr W15).1
  have F18 : Arv Z h15 a2 k_a2 .byte (3 : Int32) [(.int x0.toInt8.toInt32.toInt8.toInt32), (.int x1.toInt8.toInt32.toInt8.toInt32), (.int x2.toInt8.toInt32.toInt8.toInt32)] (.int 0) := Arv.set Ar16 q16 S16 N16 H16 G16 (fits_nar_byte _) W15 2 rfl (Nat.le_of_ble_eq_true rfl)
  have go19 : Go p.tables e below T15 (mkF m 46 #[rv a0, iv 3, rv a2, iv 3, iv 3, iv 3, iv x2] [(.int 3)]) En := by
    intro t k
    refine go17 _ ?_
    refine XS.iinc X15.here hx rfl (hb hby d17_32) rfl (l' := #[rv a0, iv 3, rv a2, iv 2, iv 3, iv 2, iv x2]) rfl ?_
    refine XS.iinc X15.here hx rfl (hb hby d17_35) rfl (l' := #[rv a0, iv 3, rv a2, iv 3, iv 3, iv 2, iv x2]) rfl ?_
    refine XS.iinc X15.here hx rfl (hb hby d17_38) rfl (l' := #[rv a0, iv 3, rv a2, iv 3, iv 3, iv 3, iv x2]) rfl ?_
    show Steps _ _ _ (T15.setTop (mkF m 41 #[rv a0, iv 3, rv a2, iv 3, iv 3, iv 3, iv x2] [])) _
    refine XS.goto X15.here hx rfl (pc0 := 41) (pc' := 3) rfl (hb hby d17_41) (by decide) (by decide) ?_
    refine XS.iload X15.here hx rfl (hb hby d17_3) rfl ?_
    refine XS.iload X15.here hx rfl (hb hby d17_5) rfl ?_
    show Steps _ _ _ (T15.setTop (mkF m 7 #[rv a0, iv 3, rv a2, iv 3, iv 3, iv 3, iv x2] [(.int 3), (.int 3)])) _
    refine XS.icmpYes X15.here hx rfl (pc0 := 7) (pc' := 44) rfl (hb hby d17_7) rfl (XT.ii_ge_t (by decide : ¬ ((3 : Int32) < (3 : Int32)))) (by decide) (by decide) ?_
    refine XS.iload X15.here hx rfl (hb hby d17_44) rfl ?_
    exact k
  refine own_out (w := (.int 3)) X15 hx hlk go19 hrt rfl (Or.inl ⟨rfl, Or.inl rfl, _, rfl⟩) (hb hby d17_46) e15 (by decide) (by decide) ?_
  exact ⟨rfl, N15, K15, F18⟩
def QcBn3 (Z : State) (n0 : Nat) (a0 : Addr) (k_a0 : ClassId) (x0 : Int32) (x1 : Int32) (x2 : Int32) (h0 : Heap) (v : Option Value) (h : Heap) (L : List Loc) : Prop := ∃ (b : Addr) (kb : ClassId), v = some (.ref b) ∧ Fr n0 L ∧ Keep h0 h [] ∧ h0.size ≤ b ∧ Arv Z h b kb .byte (3 : Int32) [(.int x0.toInt8.toInt32.toInt8.toInt32), (.int x1.toInt8.toInt32.toInt8.toInt32), (.int x2.toInt8.toInt32.toInt8.toInt32)] (.int (0 : Int32))
theorem efcBn3 (m : MethodId) (a0 : Addr) : entryFrame m #[(.ref a0), (.int (0 : Int32)), (.int (3 : Int32))] 6 = mkF m 0 #[rv a0, iv (0 : Int32), iv (3 : Int32), .unset, .unset, .unset] [] := by first | (simp [entryFrame, mkF, argsToLocals, Value.category]; done) | rfl
set_option maxRecDepth 65536 in
set_option maxHeartbeats 40000000 in
theorem rmcBn3 (l : Launch) (Z : State) (aZ : Array Value) (hw : ∀ d ∈ tables_1, d.before aZ Z = true) (ws : List Jvm.Cond) (a0 : Addr) (k_a0 : ClassId) (x0 : Int32) (x1 : Int32) (x2 : Int32) (h0 : Heap) (n0 : Nat) (Z0 : n0 ≤ h0.size) (V_a0 : Arv Z h0 a0 k_a0 .char (3 : Int32) [(.int x0), (.int x1), (.int x2)] (.int 0)) (hx0 : ¬ (255 : Int32) < x0) (hx1 : ¬ (255 : Int32) < x1) (hx2 : ¬ (255 : Int32) < x2) :
    MFn l (⟨"java/lang/StringUTF16", "compress", "([CII)[B"⟩ : MethodName) jdk_52_method_16_code 6 (some (.array .byte)) ws (Rm 1 1 3 18) #[(.ref a0), (.int 0), (.int 3)] Z h0 (QcBn3 Z n0 a0 k_a0 x0 x1 x2 h0) := by
  refine own_mf (C := "java/lang/StringUTF16") rfl (plainFor_of_name pn_48) (fun m => efcBn3 m a0) ?_
  intro p e s m below meth cd0 s₁ En hx hby hml hown hnm hZ X0 e0 hlk hrt go0
  have N0 := Fr.nil n0
  have K0 : Keep h0 h0 [] := Keep.refl _ _
  have go1 : Go p.tables e below s₁ (mkF m 1 #[rv a0, iv 0, iv 3, .unset, .unset, .unset] [(.int 3)]) En := by
    intro t k
    refine go0 _ ?_
    refine XS.iloadN X0.here hx rfl (hb hby d16_0) rfl ?_
    exact k
  obtain ⟨T2, h2, k2, X2, e2, E2, A2, st2⟩ := newP X0 hx hZ (hw _ (mi 15 rfl)) e0 (g := (mkF m 1 #[rv a0, iv 0, iv 3, .unset, .unset, .unset] [(.int 3)])) rfl (hb hby d16_1) rfl (by decide) (cap := 3) (by decide) (by decide) (by decide) (by decide)
  obtain ⟨b2, g2⟩ : ∃ z, z = h0.size := ⟨_, rfl⟩
  rw [← g2] at A2 st2
  have ne3 : a0 ≠ b2 := Nat.ne_of_lt (Nat.lt_of_lt_of_le V_a0.lt (Nat.le_of_eq g2.symm))
  have low2 : n0 ≤ b2 := Nat.le_trans Z0 (Nat.le_of_eq g2.symm)
  have fsh2 : h0.size ≤ b2 := Nat.le_trans K0.1 (Nat.le_of_eq g2.symm)
  have K2 : Keep h0 h2 [] := K0.ext E2
  have Zs2 : n0 ≤ h2.size := Nat.le_trans Z0 E2.1
  have go4 := gap go1 st2
  have F5 : Arv Z h2 b2 k2 .byte (3 : Int32) [(.int 0), (.int 0), (.int 0)] (.int 0) := (Arv.new A2 (by decide)).pad (pad_rep [] (.int 0) 3)
  have go6 : Go p.tables e below T2 (mkF m 9 #[rv a0, iv 0, iv 3, rv b2, .unset, .unset] [(.int 3), (.int 0), (.ref b2), (.int 0), (.ref a0)]) En := by
    intro t k
    refine go4 _ ?_
    refine XS.astoreN X2.here hx rfl (hb hby d16_3) rfl rfl (l' := #[rv a0, iv 0, iv 3, rv b2, .unset, .unset]) rfl ?_
    refine XS.aloadN X2.here hx rfl (hb hby d16_4) rfl rfl ?_
    refine XS.iloadN X2.here hx rfl (hb hby d16_5) rfl ?_
    show Steps _ _ _ (T2.setTop (mkF m 6 #[rv a0, iv 0, iv 3, rv b2, .unset, .unset] [(.int 0), (.ref a0)])) _
    refine XS.aloadN X2.here hx rfl (hb hby d16_6) rfl rfl ?_
    refine XS.iconst X2.here hx rfl (hb hby d16_7) ?_
    refine XS.iloadN X2.here hx rfl (hb hby d16_8) rfl ?_
    show Steps _ _ _ (T2.setTop (mkF m 9 #[rv a0, iv 0, iv 3, rv b2, .unset, .unset] [(.int 3), (.int 0), (.ref b2), (.int 0), (.ref a0)])) _
    exact k
  obtain ⟨_, T7, Lc7, X7, hQ7, st7⟩ := own_cs X2 hx hZ hown hml go6 (hb hby d16_9) e2 (hw _ (mi 133 rfl)) (own_site58 hw) (rmcAn3 l Z aZ hw [] a0 b2 _ x0 x1 x2 k2 _ _ _ h2 n0 Zs2 (V_a0.keep K2 nin0) F5 low2 ne3 hx0 hx1 hx2) (by decide) (argsL := [(.ref a0), (.int 0), (.ref b2), (.int 0), (.int 3)]) (rest := []) rfl rfl rfl (lenOf pd_59 rfl) (W := 0) rfl (by decide) (by decide) (by decide : 1 + 0 ≤ _) (by decide : 3 + 0 ≤ _)
  obtain ⟨rfl, N7q, K7q, G7_0⟩ := hQ7
  have N7 := Fr.app N0 N7q
  have K7 : Keep h0 T7.heap [] := K2.trans K7q (allS (Or.inr fsh2) all0)
  have Zs7 : n0 ≤ T7.heap.size := Nat.le_trans Zs2 K7q.1
  have go8 : Go p.tables e below T7 (mkF m 58 #[rv a0, iv 0, iv 3, rv b2, iv 3, .unset] [(.ref b2)]) En := by
    intro t k
    refine st7 _ ?_
    refine XS.istore X7.here hx rfl (hb hby d16_12) rfl (l' := #[rv a0, iv 0, iv 3, rv b2, iv 3, .unset]) rfl ?_
    refine XS.iload X7.here hx rfl (hb hby d16_14) rfl ?_
    refine XS.iloadN X7.here hx rfl (hb hby d16_16) rfl ?_
    show Steps _ _ _ (T7.setTop (mkF m 17 #[rv a0, iv 0, iv 3, rv b2, iv 3, .unset] [(.int 3), (.int 3)])) _
    refine XS.icmpYes X7.here hx rfl (pc0 := 17) (pc' := 57) rfl (hb hby d16_17) rfl (XT.ii_eq_t (by decide : ((3 : Int32) = (3 : Int32)))) (by decide) (by decide) ?_
    refine XS.aloadN X7.here hx rfl (hb hby d16_57) rfl rfl ?_
    exact k
  refine own_out (w := (.ref b2)) X7 hx hlk go8 hrt rfl (Or.inr (Or.inr (Or.inr (Or.inr ⟨rfl, rfl, rfl⟩)))) (hb hby d16_58) rfl (by decide) (by decide) ?_
  exact ⟨b2, k2, rfl, N7, K7, fsh2, G7_0⟩
theorem efcCn3 (m : MethodId) (a0 : Addr) : entryFrame m #[(.ref a0), (.int (3 : Int32))] 2 = mkF m 0 #[rv a0, iv (3 : Int32)] [] := by first | (simp [entryFrame, mkF, argsToLocals, Value.category]; done) | rfl
set_option maxRecDepth 65536 in
set_option maxHeartbeats 40000000 in
theorem rmcCn3 (l : Launch) (Z : State) (aZ : Array Value) (hw : ∀ d ∈ tables_1, d.before aZ Z = true) (ws : List Jvm.Cond) (a0 : Addr) (k_a0 : ClassId) (y0 : Int32) (y1 : Int32) (y2 : Int32) (h0 : Heap) (n0 : Nat) (Z0 : n0 ≤ h0.size) (V_a0 : Arv Z h0 a0 k_a0 .byte (3 : Int32) [(.int y0), (.int y1), (.int y2)] (.int 0)) :
    MFn l (⟨"java/lang/StringUTF16", "coderFromArrayLen", "([BI)B"⟩ : MethodName) jdk_52_method_15_code 2 (some .byte) ws (Rm 0 0 0 0) #[(.ref a0), (.int 3)] Z h0 (QP n0 h0 (some (.int vcCn1_2))) := by
  refine own_mf (C := "java/lang/StringUTF16") rfl (plainFor_of_name pn_48) (fun m => efcCn3 m a0) ?_
  intro p e s m below meth cd0 s₁ En hx hby hml hown hnm hZ X0 e0 hlk hrt go0
  have N0 := Fr.nil n0
  have K0 : Keep h0 h0 [] := Keep.refl _ _
  obtain ⟨cl1, Ar1, q1, S1, N1, H1, G1⟩ := id V_a0
  have go2 : Go p.tables e below s₁ (mkF m 8 #[rv a0, iv 3] [(.int vcCn1_2)]) En := by
    intro t k
    refine go0 _ ?_
    refine XS.iloadN X0.here hx rfl (hb hby d18_0) rfl ?_
    refine XS.aloadN X0.here hx rfl (hb hby d18_1) rfl rfl ?_
    refine X0.arraylength hx (by rw [e0]; exact Ar1.1) (State.isArrayOf_alike hZ.alike Ar1.2.1) (g := (mkF m 2 #[rv a0, iv 3] [(.ref a0), (.int 3)])) rfl rfl (hb hby d18_2) _ ?_
    rw [len_of S1 N1]
    show Steps _ _ _ (s₁.setTop (mkF m 3 #[rv a0, iv 3] [(.int 3), (.int 3)])) _
    refine XS.isub X0.here hx rfl (hb hby d18_3) rfl ?_
    refine XS.bipush X0.here hx rfl (hb hby d18_4) ?_
    refine XS.iushr X0.here hx rfl (hb hby d18_6) rfl ?_
    show Steps _ _ _ (s₁.setTop (mkF m 7 #[rv a0, iv 3] [(.int (((0 : Int32).toUInt32 >>> ((31 : Int32) &&& 31).toUInt32).toInt32))])) _
    refine XS.i2b X0.here hx rfl (hb hby d18_7) rfl ?_
    exact k
  refine own_out (w := (.int vcCn1_2)) X0 hx hlk go2 hrt rfl (Or.inl ⟨rfl, Or.inr (Or.inr (Or.inl rfl)), _, rfl⟩) (hb hby d18_8) e0 (by decide) (by decide) ?_
  exact ⟨rfl, N0, rfl⟩
def QiAn3 (Z : State) (n0 : Nat) (a0 : Addr) (a1 : Addr) (k_a1 : ClassId) (x0 : Int32) (x1 : Int32) (x2 : Int32) (s_COMPACT_STRINGS : Int32) (h0 : Heap) (v : Option Value) (h : Heap) (L : List Loc) : Prop := v = none ∧ Fr n0 L ∧ Keep h0 h [a0] ∧ Exa Z h a0 "java/lang/String" ∧ Fld Z h a0 "java/lang/String" "coder" "B" (.int (0 : Int32))
theorem efiAn3 (m : MethodId) (a0 : Addr) (a1 : Addr) : entryFrame m #[(.ref a0), (.ref a1), (.int (0 : Int32)), (.int (3 : Int32)), .null] 6 = mkF m 0 #[rv a0, rv a1, iv (0 : Int32), iv (3 : Int32), .val .null, .unset] [] := by first | (simp [entryFrame, mkF, argsToLocals, Value.category]; done) | rfl
abbrev LiAn3_0 (a0 : Addr) (a1 : Addr) : Array Slot := #[rv a0, rv a1, iv 0, iv 3, .val .null, .unset]
abbrev LiAn3_1 (a0 : Addr) (a1 : Addr) (b8 : Addr) : Array Slot := #[rv a0, rv a1, iv 0, iv 3, .val .null, rv b8]
set_option maxRecDepth 65536 in
set_option maxHeartbeats 40000000 in
theorem rmiAn3 (l : Launch) (Z : State) (aZ : Array Value) (hw : ∀ d ∈ tables_1, d.before aZ Z = true) (ws : List Jvm.Cond) (a0 : Addr) (a1 : Addr) (k_a1 : ClassId) (x0 : Int32) (x1 : Int32) (x2 : Int32) (s_COMPACT_STRINGS : Int32) (h0 : Heap) (n0 : Nat) (Z0 : n0 ≤ h0.size) (E_a0 : Exa Z h0 a0 "java/lang/String") (F_a0_value : Fld Z h0 a0 "java/lang/String" "value" "[B" .null) (F_a0_coder : Fld Z h0 a0 "java/lang/String" "coder" "B" (.int 0)) (g_a0 : n0 ≤ a0) (V_a1 : Arv Z h0 a1 k_a1 .char (3 : Int32) [(.int x0), (.int x1), (.int x2)] (.int 0)) (S_COMPACT_STRINGS : Sta Z h0 "java/lang/String" "COMPACT_STRINGS" "Z" (.int s_COMPACT_STRINGS)) (hcs : ¬ s_COMPACT_STRINGS = (0 : Int32)) (hx0 : ¬ (255 : Int32) < x0) (hx1 : ¬ (255 : Int32) < x1) (hx2 : ¬ (255 : Int32) < x2) :
    MFn l (⟨"java/lang/String", "<init>", "([CIILjava/lang/Void;)V"⟩ : MethodName) jdk_42_method_149_code 6 none ws (Rm 2 1 3 35) #[(.ref a0), (.ref a1), (.int 0), (.int 3), .null] Z h0 (QiAn3 Z n0 a0 a1 k_a1 x0 x1 x2 s_COMPACT_STRINGS h0) := by
  refine own_mf (C := "java/lang/String") rfl (plainFor_of_name pn_15) (fun m => efiAn3 m a0 a1) ?_
  intro p e s m below meth cd0 s₁ En hx hby hml hown hnm hZ X0 e0 hlk hrt go0
  have neA1 : a0 ≠ a1 := own_exa_arv_ne E_a0 V_a1 (hw _ (mi 2 rfl))
  have N0 := Fr.nil n0
  have K0 : Keep h0 h0 [a0] := Keep.refl _ _
  have go1 : Go p.tables e below s₁ (mkF m 1 (LiAn3_0 a0 a1) [(.ref a0)]) En := by
    intro t k
    refine go0 _ ?_
    refine XS.aloadN X0.here hx rfl (hb hby d2_0) rfl rfl ?_
    exact k
  obtain ⟨T2, X2, e2, st2⟩ := initO X0 hx hZ hown (hw _ (mi 11 rfl)) (hw _ (mi 12 rfl)) (hw _ (mi 13 rfl)) e0 (g := (mkF m 1 (LiAn3_0 a0 a1) [(.ref a0)])) rfl (by rw [hml]; rfl) rfl (hb hby d2_1) (by decide) (W := 0) (by show 2 * 0 + _ ≤ _; exact Nat.le_of_eq rfl) (by decide)
  have go3 := gap go1 st2
  have go4 : Go p.tables e below T2 (mkF m 27 (LiAn3_0 a0 a1) []) En := by
    intro t k
    refine go3 _ ?_
    refine XS.iloadN X2.here hx rfl (hb hby d2_4) rfl ?_
    refine XS.ifYes X2.here hx rfl (pc0 := 5) (pc' := 27) rfl (hb hby d2_5) rfl (XT.i0_ne_t (by decide : ¬ ((3 : Int32) = (0 : Int32)))) (by decide) (by decide) ?_
    exact k
  obtain ⟨T5, X5, e5, st5⟩ := getS2 X2 hx hZ hown (host := "") (Or.inl (hw _ (mi 128 rfl))) Via.refl e2 S_COMPACT_STRINGS (g := (mkF m 27 (LiAn3_0 a0 a1) [])) rfl (hb hby d2_27)
  have go6 := gap go4 st5
  have go7 : Go p.tables e below T5 (mkF m 36 (LiAn3_0 a0 a1) [(.int 3), (.int 0), (.ref a1)]) En := by
    intro t k
    refine go6 _ ?_
    refine XS.ifNo X5.here hx rfl (hb hby d2_30) rfl (XT.i0_eq_f hcs) ?_
    refine XS.aloadN X5.here hx rfl (hb hby d2_33) rfl rfl ?_
    refine XS.iloadN X5.here hx rfl (hb hby d2_34) rfl ?_
    show Steps _ _ _ (T5.setTop (mkF m 35 (LiAn3_0 a0 a1) [(.int 0), (.ref a1)])) _
    refine XS.iloadN X5.here hx rfl (hb hby d2_35) rfl ?_
    exact k
  obtain ⟨_, T8, Lc8, X8, hQ8, st8⟩ := own_cs X5 hx hZ hown hml go7 (hb hby d2_36) e5 (hw _ (mi 129 rfl)) (own_site81 hw) (rmcBn3 l Z aZ hw [] a1 _ x0 x1 x2 h0 n0 Z0 V_a1 hx0 hx1 hx2) (by decide) (argsL := [(.ref a1), (.int 0), (.int 3)]) (rest := []) rfl rfl rfl (lenOf pd_82 rfl) (W := 0) rfl (by decide) (by decide) (by decide : 0 + 1 ≤ _) (by decide : 0 + 3 ≤ _)
  obtain ⟨b8, kb8, rfl, N8q, K8q, fr8, G8_0⟩ := hQ8
  have N8 := Fr.app N0 N8q
  have K8 : Keep h0 T8.heap [a0] := K0.trans K8q all0
  have low8 : n0 ≤ b8 := Nat.le_trans Z0 fr8
  have fsh8 : h0.size ≤ b8 := Nat.le_trans K0.1 fr8
  have ne9 : a0 ≠ b8 := Nat.ne_of_lt (Nat.lt_of_lt_of_le E_a0.lt fr8)
  have ne10 : a1 ≠ b8 := Nat.ne_of_lt (Nat.lt_of_lt_of_le V_a1.lt fr8)
  have Zs8 : n0 ≤ T8.heap.size := Nat.le_trans Z0 K8q.1
  have F11 := F_a0_value.keep K8q nin0
  have F12 := F_a0_coder.keep K8q nin0
  have go13 : Go p.tables e below T8 (mkF m 45 (LiAn3_1 a0 a1 b8) [(.int 3), (.ref b8), (.ref a0)]) En := by
    intro t k
    refine st8 _ ?_
    refine XS.astore X8.here hx rfl (hb hby d2_39) rfl rfl (l' := (LiAn3_1 a0 a1 b8)) rfl ?_
    refine XS.aloadN X8.here hx rfl (hb hby d2_41) rfl rfl ?_
    refine XS.aload X8.here hx rfl (hb hby d2_42) rfl rfl ?_
    show Steps _ _ _ (T8.setTop (mkF m 44 (LiAn3_1 a0 a1 b8) [(.ref b8), (.ref a0)])) _
    refine XS.iloadN X8.here hx rfl (hb hby d2_44) rfl ?_
    exact k
  obtain ⟨_, T14, Lc14, X14, hQ14, st14⟩ := own_cs X8 hx hZ hown hml go13 (hb hby d2_45) rfl (hw _ (mi 136 rfl)) (own_site88 hw) (rmcCn3 l Z aZ hw [] b8 kb8 _ _ _ T8.heap n0 Zs8 G8_0) (by decide) (argsL := [(.ref b8), (.int 3)]) (rest := [(.ref a0)]) rfl rfl rfl (lenOf pd_89 rfl) (W := 1) rfl (by decide) (by decide) (by decide : 1 + 0 ≤ _) (by decide : 3 + 0 ≤ _)
  obtain ⟨rfl, N14q, e14⟩ := hQ14
  have N14 := Fr.app N8 N14q
  obtain ⟨T15, h15, X15, e15, W15, st15⟩ := putFN X14 hx hZ hown (hw _ (mi 21 rfl)) Via.refl e14 F12 (E_a0.keep K8) (Or.inr ⟨(hw _ (mi 17 rfl)), rfl, hnm⟩) (hw _ (mi 2 rfl)) (ty := .byte) (v' := (.int 0)) (by decide) rfl rfl (g := (mkF m 48 (LiAn3_1 a0 a1 b8) [(.int vcCn1_2), (.ref a0)])) rfl rfl (hb hby d2_48)
  have go16 := gap st14 st15
  have N15 := Fr.snoc X15 N14 g_a0
  have K15 : Keep h0 h15 [a0] := K8.wr W15 (Or.inl (List.mem_of_getElem? (i := 0) rfl))
  have Zs15 : n0 ≤ h15.size := Nat.le_trans Zs8 (Keep.of_wr W15).1
  have F17 := F11.other W15 (Or.inr (slot_ne (Or.inr (hw _ (mi 16 rfl))) (Or.inr (hw _ (mi 17 rfl))) (by decide) (t := (.array .byte)) (t' := .byte) (by decide) (by decide)))
  have F18 : Fld Z h15 a0 "java/lang/String" "coder" "B" (.int 0) := F12.same W15
  have F19 := G8_0.other W15 (Ne.symm ne9)
  have go20 : Go p.tables e below T15 (mkF m 54 (LiAn3_1 a0 a1 b8) [(.ref b8), (.ref a0)]) En := by
    intro t k
    refine go16 _ ?_
    refine XS.aloadN X15.here hx rfl (hb hby d2_51) rfl rfl ?_
    refine XS.aload X15.here hx rfl (hb hby d2_52) rfl rfl ?_
    exact k
  obtain ⟨T21, h21, X21, e21, W21, st21⟩ := putF X15 hx hZ hown (host := "") (Or.inl (hw _ (mi 20 rfl))) Via.refl e15 F17 (E_a0.keep K15) (Or.inr ⟨(hw _ (mi 16 rfl)), rfl, hnm⟩) (hw _ (mi 2 rfl)) (ty := (.array .byte)) (by decide) rfl rfl (g := (mkF m 54 (LiAn3_1 a0 a1 b8) [(.ref b8), (.ref a0)])) rfl rfl (hb hby d2_54)
  have go22 := gap go20 st21
  have N21 := Fr.snoc X21 N15 g_a0
  have K21 : Keep h0 h21 [a0] := K15.wr W21 (Or.inl (List.mem_of_getElem? (i := 0) rfl))
  have Zs21 : n0 ≤ h21.size := Nat.le_trans Zs15 (Keep.of_wr W21).1
  have F23 : Fld Z h21 a0 "java/lang/String" "value" "[B" (.ref b8) := F17.same W21
  have F24 := F18.other W21 (Or.inr (slot_ne (Or.inr (hw _ (mi 17 rfl))) (Or.inr (hw _ (mi 16 rfl))) (by decide) (t := .byte) (t' := (.array .byte)) (by decide) (by decide)))
  have F25 := F19.other W21 (Ne.symm ne9)
  refine own_outV X21 hx hlk go22 hrt (hb hby d2_57) e21 (by decide) (by decide) ?_
  exact ⟨rfl, N21, K21, (E_a0.keep K21), F24⟩
def QiBn3 (Z : State) (n0 : Nat) (a0 : Addr) (a1 : Addr) (k_a1 : ClassId) (x0 : Int32) (x1 : Int32) (x2 : Int32) (s_COMPACT_STRINGS : Int32) (h0 : Heap) (v : Option Value) (h : Heap) (L : List Loc) : Prop := v = none ∧ Fr n0 L ∧ Keep h0 h [a0] ∧ Exa Z h a0 "java/lang/String" ∧ Fld Z h a0 "java/lang/String" "coder" "B" (.int (0 : Int32))
theorem efiBn3 (m : MethodId) (a0 : Addr) (a1 : Addr) : entryFrame m #[(.ref a0), (.ref a1)] 2 = mkF m 0 #[rv a0, rv a1] [] := by first | (simp [entryFrame, mkF, argsToLocals, Value.category]; done) | rfl
set_option maxRecDepth 65536 in
set_option maxHeartbeats 40000000 in
theorem rmiBn3 (l : Launch) (Z : State) (aZ : Array Value) (hw : ∀ d ∈ tables_1, d.before aZ Z = true) (ws : List Jvm.Cond) (a0 : Addr) (a1 : Addr) (k_a1 : ClassId) (x0 : Int32) (x1 : Int32) (x2 : Int32) (s_COMPACT_STRINGS : Int32) (h0 : Heap) (n0 : Nat) (Z0 : n0 ≤ h0.size) (E_a0 : Exa Z h0 a0 "java/lang/String") (F_a0_value : Fld Z h0 a0 "java/lang/String" "value" "[B" .null) (F_a0_coder : Fld Z h0 a0 "java/lang/String" "coder" "B" (.int 0)) (g_a0 : n0 ≤ a0) (V_a1 : Arv Z h0 a1 k_a1 .char (3 : Int32) [(.int x0), (.int x1), (.int x2)] (.int 0)) (S_COMPACT_STRINGS : Sta Z h0 "java/lang/String" "COMPACT_STRINGS" "Z" (.int s_COMPACT_STRINGS)) (hcs : ¬ s_COMPACT_STRINGS = (0 : Int32)) (hx0 : ¬ (255 : Int32) < x0) (hx1 : ¬ (255 : Int32) < x1) (hx2 : ¬ (255 : Int32) < x2) :
    MFn l (⟨"java/lang/String", "<init>", "([C)V"⟩ : MethodName) jdk_42_method_3_code 2 none ws (Rm 3 1 3 52) #[(.ref a0), (.ref a1)] Z h0 (QiBn3 Z n0 a0 a1 k_a1 x0 x1 x2 s_COMPACT_STRINGS h0) := by
  refine own_mf (C := "java/lang/String") rfl (plainFor_of_name pn_15) (fun m => efiBn3 m a0 a1) ?_
  intro p e s m below meth cd0 s₁ En hx hby hml hown hnm hZ X0 e0 hlk hrt go0
  have neA1 : a0 ≠ a1 := own_exa_arv_ne E_a0 V_a1 (hw _ (mi 2 rfl))
  have N0 := Fr.nil n0
  have K0 : Keep h0 h0 [a0] := Keep.refl _ _
  obtain ⟨cl1, Ar1, q1, S1, N1, H1, G1⟩ := id V_a1
  have go2 : Go p.tables e below s₁ (mkF m 6 #[rv a0, rv a1] [.null, (.int 3), (.int 0), (.ref a1), (.ref a0)]) En := by
    intro t k
    refine go0 _ ?_
    refine XS.aloadN X0.here hx rfl (hb hby d1_0) rfl rfl ?_
    refine XS.aloadN X0.here hx rfl (hb hby d1_1) rfl rfl ?_
    refine XS.iconst X0.here hx rfl (hb hby d1_2) ?_
    show Steps _ _ _ (s₁.setTop (mkF m 3 #[rv a0, rv a1] [(.int 0), (.ref a1), (.ref a0)])) _
    refine XS.aloadN X0.here hx rfl (hb hby d1_3) rfl rfl ?_
    refine X0.arraylength hx (by rw [e0]; exact Ar1.1) (State.isArrayOf_alike hZ.alike Ar1.2.1) (g := (mkF m 4 #[rv a0, rv a1] [(.ref a1), (.int 0), (.ref a1), (.ref a0)])) rfl rfl (hb hby d1_4) _ ?_
    rw [len_of S1 N1]
    show Steps _ _ _ (s₁.setTop (mkF m 5 #[rv a0, rv a1] [(.int 3), (.int 0), (.ref a1), (.ref a0)])) _
    refine XS.aconstNull X0.here hx rfl (hb hby d1_5) ?_
    exact k
  obtain ⟨_, T3, Lc3, X3, hQ3, st3⟩ := own_ci X0 hx hZ hown hml go2 (hb hby d1_6) e0 (hw _ (mi 7 rfl)) (own_site95 hw) rfl (rmiAn3 l Z aZ hw [] a0 a1 _ x0 x1 x2 _ h0 n0 Z0 E_a0 F_a0_value F_a0_coder g_a0 V_a1 S_COMPACT_STRINGS hcs hx0 hx1 hx2) (by decide) (argsL := [(.ref a1), (.int 0), (.int 3), .null]) (rest := []) rfl rfl rfl (lenOf pd_23 rfl) (W := 0) rfl (by decide) (by decide) (by decide : 0 + 1 ≤ _) (by decide : 0 + 3 ≤ _)
  obtain ⟨rfl, N3q, K3q, G3_0, G3_1⟩ := hQ3
  have N3 := Fr.app N0 N3q
  have K3 : Keep h0 T3.heap [a0] := K0.trans K3q (allS (Or.inl (List.mem_of_getElem? (i := 0) rfl)) all0)
  have Zs3 : n0 ≤ T3.heap.size := Nat.le_trans Z0 K3q.1
  refine own_outV X3 hx hlk st3 hrt (hb hby d1_9) rfl (by decide) (by decide) ?_
  exact ⟨rfl, N3, K3, G3_0, G3_1⟩
theorem d6_0 : decode jdk_30_method_1_code 0 = .ok (.aload_n 0, 1) := by decide +kernel
theorem d6_1 : decode jdk_30_method_1_code 1 = .ok (.invokespecial 1, 3) := by decide +kernel
theorem d6_4 : decode jdk_30_method_1_code 4 = .ok (.return_, 1) := by decide +kernel
theorem pn_99 : plainName "java/lang/Record" = true := by first | (simp [plainName, overriddenIn]; done) | decide +kernel
theorem ef6 (m : MethodId) (a0 : Addr) : entryFrame m #[(.ref a0)] 1 = mkF m 0 #[rv a0] [] := by first | (simp [entryFrame, mkF, argsToLocals, Value.category]; done) | rfl
set_option maxRecDepth 65536 in
set_option maxHeartbeats 40000000 in
theorem rm6 (l : Launch) (Z : State) (aZ : Array Value) (hw : ∀ d ∈ tables_1, d.before aZ Z = true) (ws : List Jvm.Cond) (a0 : Addr) (h0 : Heap) (n0 : Nat) (Z0 : n0 ≤ h0.size) :
    MFn l (⟨"java/lang/Record", "<init>", "()V"⟩ : MethodName) jdk_30_method_1_code 1 none ws (Rm 1 0 0 12) #[(.ref a0)] Z h0 (QP n0 h0 (none)) := by
  refine own_mf (C := "java/lang/Record") rfl (plainFor_of_name pn_99) (fun m => ef6 m a0) ?_
  intro p e s m below meth cd0 s₁ En hx hby hml hown hnm hZ X0 e0 hlk hrt go0
  have N0 := Fr.nil n0
  have K0 : Keep h0 h0 [] := Keep.refl _ _
  have go1 : Go p.tables e below s₁ (mkF m 1 #[rv a0] [(.ref a0)]) En := by
    intro t k
    refine go0 _ ?_
    refine XS.aloadN X0.here hx rfl (hb hby d6_0) rfl rfl ?_
    exact k
  obtain ⟨T2, X2, e2, st2⟩ := initO X0 hx hZ hown (hw _ (mi 65 rfl)) (hw _ (mi 12 rfl)) (hw _ (mi 13 rfl)) e0 (g := (mkF m 1 #[rv a0] [(.ref a0)])) rfl (by rw [hml]; rfl) rfl (hb hby d6_1) (by decide) (W := 0) (by show 2 * 0 + _ ≤ _; exact Nat.le_of_eq rfl) (by decide)
  have go3 := gap go1 st2
  refine own_outV X2 hx hlk go3 hrt (hb hby d6_4) e2 (by decide) (by decide) ?_
  exact ⟨rfl, N0, rfl⟩
theorem d5_0 : decode prog_8_method_1_code 0 = .ok (.aload_n 0, 1) := by decide +kernel
theorem d5_1 : decode prog_8_method_1_code 1 = .ok (.invokespecial 1, 3) := by decide +kernel
theorem own_site102 {Z : State} {aZ : Array Value} (hw : ∀ d ∈ tables_1, d.before aZ Z = true) : SIt aZ Z (⟨"java/lang/Record", "<init>", "()V"⟩ : MethodName) jdk_30_method_1_code 1 := ⟨⟨(hw _ (mi 61 rfl)), (hw _ (mi 63 rfl))⟩, (hw _ (mi 64 rfl))⟩
theorem pd_103 : parseMethodDescriptor "()V" = some ⟨[], none⟩ := by decide +kernel
theorem d5_4 : decode prog_8_method_1_code 4 = .ok (.aload_n 0, 1) := by decide +kernel
theorem d5_5 : decode prog_8_method_1_code 5 = .ok (.aload_n 1, 1) := by decide +kernel
theorem d5_6 : decode prog_8_method_1_code 6 = .ok (.putfield 7, 3) := by decide +kernel
theorem d5_9 : decode prog_8_method_1_code 9 = .ok (.aload_n 0, 1) := by decide +kernel
theorem d5_10 : decode prog_8_method_1_code 10 = .ok (.aload_n 2, 1) := by decide +kernel
theorem d5_11 : decode prog_8_method_1_code 11 = .ok (.putfield 13, 3) := by decide +kernel
theorem d5_14 : decode prog_8_method_1_code 14 = .ok (.aload_n 0, 1) := by decide +kernel
theorem d5_15 : decode prog_8_method_1_code 15 = .ok (.aload_n 3, 1) := by decide +kernel
theorem d5_16 : decode prog_8_method_1_code 16 = .ok (.putfield 17, 3) := by decide +kernel
theorem d5_19 : decode prog_8_method_1_code 19 = .ok (.aload_n 0, 1) := by decide +kernel
theorem d5_20 : decode prog_8_method_1_code 20 = .ok (.iload 4, 2) := by decide +kernel
theorem d5_22 : decode prog_8_method_1_code 22 = .ok (.putfield 20, 3) := by decide +kernel
theorem d5_25 : decode prog_8_method_1_code 25 = .ok (.aload_n 0, 1) := by decide +kernel
theorem d5_26 : decode prog_8_method_1_code 26 = .ok (.aload 5, 2) := by decide +kernel
theorem d5_28 : decode prog_8_method_1_code 28 = .ok (.putfield 24, 3) := by decide +kernel
theorem d5_31 : decode prog_8_method_1_code 31 = .ok (.aload_n 0, 1) := by decide +kernel
theorem d5_32 : decode prog_8_method_1_code 32 = .ok (.aload 6, 2) := by decide +kernel
theorem d5_34 : decode prog_8_method_1_code 34 = .ok (.putfield 27, 3) := by decide +kernel
theorem d5_37 : decode prog_8_method_1_code 37 = .ok (.return_, 1) := by decide +kernel
theorem pn_123 : plainName "com/example/hauora_id/hauoraid/model/Consent" = true := by first | (simp [plainName, overriddenIn]; done) | decide +kernel
def Q5 (Z : State) (n0 : Nat) (a0 : Addr) (a1 : Addr) (w_a0_clientId : Value) (w_a0_claims : Value) (w_a0_description : Value) (w_a0_offlineAccess : Value) (w_a0_resource : Value) (w_a0_resourceScopes : Value) (h0 : Heap) (v : Option Value) (h : Heap) (L : List Loc) : Prop := v = none ∧ Fr n0 L ∧ Keep h0 h [a0] ∧ Exa Z h a0 "com/example/hauora_id/hauoraid/model/Consent" ∧ Fld Z h a0 "com/example/hauora_id/hauoraid/model/Consent" "clientId" "Ljava/lang/String;" (.ref a1) ∧ Fld Z h a0 "com/example/hauora_id/hauoraid/model/Consent" "claims" "Ljava/util/List;" .null ∧ Fld Z h a0 "com/example/hauora_id/hauoraid/model/Consent" "description" "Ljava/lang/String;" .null ∧ Fld Z h a0 "com/example/hauora_id/hauoraid/model/Consent" "offlineAccess" "Z" (.int (1 : Int32)) ∧ Fld Z h a0 "com/example/hauora_id/hauoraid/model/Consent" "resource" "Ljava/lang/String;" .null ∧ Fld Z h a0 "com/example/hauora_id/hauoraid/model/Consent" "resourceScopes" "Ljava/util/List;" .null
theorem ef5 (m : MethodId) (a0 : Addr) (a1 : Addr) : entryFrame m #[(.ref a0), (.ref a1), .null, .null, (.int (1 : Int32)), .null, .null] 7 = mkF m 0 #[rv a0, rv a1, .val .null, .val .null, iv (1 : Int32), .val .null, .val .null] [] := by first | (simp [entryFrame, mkF, argsToLocals, Value.category]; done) | rfl
abbrev L5_0 (a0 : Addr) (a1 : Addr) : Array Slot := #[rv a0, rv a1, .val .null, .val .null, iv 1, .val .null, .val .null]
set_option maxRecDepth 65536 in
set_option maxHeartbeats 40000000 in
theorem rm5 (l : Launch) (Z : State) (aZ : Array Value) (hw : ∀ d ∈ tables_1, d.before aZ Z = true) (ws : List Jvm.Cond) (a0 : Addr) (a1 : Addr) (w_a0_clientId : Value) (w_a0_claims : Value) (w_a0_description : Value) (w_a0_offlineAccess : Value) (w_a0_resource : Value) (w_a0_resourceScopes : Value) (h0 : Heap) (n0 : Nat) (Z0 : n0 ≤ h0.size) (E_a0 : Exa Z h0 a0 "com/example/hauora_id/hauoraid/model/Consent") (F_a0_clientId : Fld Z h0 a0 "com/example/hauora_id/hauoraid/model/Consent" "clientId" "Ljava/lang/String;" w_a0_clientId) (F_a0_claims : Fld Z h0 a0 "com/example/hauora_id/hauoraid/model/Consent" "claims" "Ljava/util/List;" w_a0_claims) (F_a0_description : Fld Z h0 a0 "com/example/hauora_id/hauoraid/model/Consent" "description" "Ljava/lang/String;" w_a0_description) (F_a0_offlineAccess : Fld Z h0 a0 "com/example/hauora_id/hauoraid/model/Consent" "offlineAccess" "Z" w_a0_offlineAccess) (F_a0_resource : Fld Z h0 a0 "com/example/hauora_id/hauoraid/model/Consent" "resource" "Ljava/lang/String;" w_a0_resource) (F_a0_resourceScopes : Fld Z h0 a0 "com/example/hauora_id/hauoraid/model/Consent" "resourceScopes" "Ljava/util/List;" w_a0_resourceScopes) (g_a0 : n0 ≤ a0) :
    MFn l (⟨"com/example/hauora_id/hauoraid/model/Consent", "<init>", "(Ljava/lang/String;Ljava/util/List;Ljava/lang/String;ZLjava/lang/String;Ljava/util/List;)V"⟩ : MethodName) prog_8_method_1_code 7 none ws (Rm 2 0 0 24) #[(.ref a0), (.ref a1), .null, .null, (.int 1), .null, .null] Z h0 (Q5 Z n0 a0 a1 w_a0_clientId w_a0_claims w_a0_description w_a0_offlineAccess w_a0_resource w_a0_resourceScopes h0) := by
  refine own_mf (C := "com/example/hauora_id/hauoraid/model/Consent") rfl (plainFor_of_name pn_123) (fun m => ef5 m a0 a1) ?_
  intro p e s m below meth cd0 s₁ En hx hby hml hown hnm hZ X0 e0 hlk hrt go0
  have N0 := Fr.nil n0
  have K0 : Keep h0 h0 [a0] := Keep.refl _ _
  have go1 : Go p.tables e below s₁ (mkF m 1 (L5_0 a0 a1) [(.ref a0)]) En := by
    intro t k
    refine go0 _ ?_
    refine XS.aloadN X0.here hx rfl (hb hby d5_0) rfl rfl ?_
    exact k
  obtain ⟨_, T2, Lc2, X2, hQ2, st2⟩ := own_ci X0 hx hZ hown hml go1 (hb hby d5_1) e0 (hw _ (mi 60 rfl)) (own_site102 hw) rfl (rm6 l Z aZ hw [] a0 h0 n0 Z0 ) (by decide) (argsL := []) (rest := []) rfl rfl rfl (lenOf pd_103 rfl) (W := 0) rfl (by decide) (by decide) (by decide : 0 + 0 ≤ _) (by decide : 0 + 0 ≤ _)
  obtain ⟨rfl, N2q, e2⟩ := hQ2
  have N2 := Fr.app N0 N2q
  have go3 : Go p.tables e below T2 (mkF m 6 (L5_0 a0 a1) [(.ref a1), (.ref a0)]) En := by
    intro t k
    refine st2 _ ?_
    refine XS.aloadN X2.here hx rfl (hb hby d5_4) rfl rfl ?_
    refine XS.aloadN X2.here hx rfl (hb hby d5_5) rfl rfl ?_
    exact k
  obtain ⟨T4, h4, X4, e4, W4, st4⟩ := putF X2 hx hZ hown (host := "") (Or.inl (hw _ (mi 66 rfl))) Via.refl e2 F_a0_clientId E_a0 (Or.inr ⟨(hw _ (mi 67 rfl)), rfl, hnm⟩) (hw _ (mi 56 rfl)) (ty := (.object "java/lang/String")) (by decide) rfl rfl (g := (mkF m 6 (L5_0 a0 a1) [(.ref a1), (.ref a0)])) rfl rfl (hb hby d5_6)
  have go5 := gap go3 st4
  have N4 := Fr.snoc X4 N2 g_a0
  have K4 : Keep h0 h4 [a0] := K0.wr W4 (Or.inl (List.mem_of_getElem? (i := 0) rfl))
  have Zs4 : n0 ≤ h4.size := Nat.le_trans Z0 (Keep.of_wr W4).1
  have F6 : Fld Z h4 a0 "com/example/hauora_id/hauoraid/model/Consent" "clientId" "Ljava/lang/String;" (.ref a1) := F_a0_clientId.same W4
  have F7 := F_a0_claims.other W4 (Or.inr (slot_ne (Or.inr (hw _ (mi 69 rfl))) (Or.inr (hw _ (mi 67 rfl))) (by decide) (t := (.object "java/util/List")) (t' := (.object "java/lang/String")) (by decide) (by decide)))
  have F8 := F_a0_description.other W4 (Or.inr (slot_ne (Or.inr (hw _ (mi 71 rfl))) (Or.inr (hw _ (mi 67 rfl))) (by decide) (t := (.object "java/lang/String")) (t' := (.object "java/lang/String")) (by decide) (by decide)))
  have F9 := F_a0_offlineAccess.other W4 (Or.inr (slot_ne (Or.inr (hw _ (mi 73 rfl))) (Or.inr (hw _ (mi 67 rfl))) (by decide) (t := .boolean) (t' := (.object "java/lang/String")) (by decide) (by decide)))
  have F10 := F_a0_resource.other W4 (Or.inr (slot_ne (Or.inr (hw _ (mi 75 rfl))) (Or.inr (hw _ (mi 67 rfl))) (by decide) (t := (.object "java/lang/String")) (t' := (.object "java/lang/String")) (by decide) (by decide)))
  have F11 := F_a0_resourceScopes.other W4 (Or.inr (slot_ne (Or.inr (hw _ (mi 77 rfl))) (Or.inr (hw _ (mi 67 rfl))) (by decide) (t := (.object "java/util/List")) (t' := (.object "java/lang/String")) (by decide) (by decide)))
  have go12 : Go p.tables e below T4 (mkF m 11 (L5_0 a0 a1) [.null, (.ref a0)]) En := by
    intro t k
    refine go5 _ ?_
    refine XS.aloadN X4.here hx rfl (hb hby d5_9) rfl rfl ?_
    refine XS.aloadN X4.here hx rfl (hb hby d5_10) rfl rfl ?_
    exact k
  obtain ⟨T13, h13, X13, e13, W13, st13⟩ := putF X4 hx hZ hown (host := "") (Or.inl (hw _ (mi 68 rfl))) Via.refl e4 F7 (E_a0.keep K4) (Or.inr ⟨(hw _ (mi 69 rfl)), rfl, hnm⟩) (hw _ (mi 56 rfl)) (ty := (.object "java/util/List")) (by decide) rfl rfl (g := (mkF m 11 (L5_0 a0 a1) [.null, (.ref a0)])) rfl rfl (hb hby d5_11)
  have go14 := gap go12 st13
  have N13 := Fr.snoc X13 N4 g_a0
  have K13 : Keep h0 h13 [a0] := K4.wr W13 (Or.inl (List.mem_of_getElem? (i := 0) rfl))
  have Zs13 : n0 ≤ h13.size := Nat.le_trans Zs4 (Keep.of_wr W13).1
  have F15 := F6.other W13 (Or.inr (slot_ne (Or.inr (hw _ (mi 67 rfl))) (Or.inr (hw _ (mi 69 rfl))) (by decide) (t := (.object "java/lang/String")) (t' := (.object "java/util/List")) (by decide) (by decide)))
  have F16 : Fld Z h13 a0 "com/example/hauora_id/hauoraid/model/Consent" "claims" "Ljava/util/List;" .null := F7.same W13
  have F17 := F8.other W13 (Or.inr (slot_ne (Or.inr (hw _ (mi 71 rfl))) (Or.inr (hw _ (mi 69 rfl))) (by decide) (t := (.object "java/lang/String")) (t' := (.object "java/util/List")) (by decide) (by decide)))
  have F18 := F9.other W13 (Or.inr (slot_ne (Or.inr (hw _ (mi 73 rfl))) (Or.inr (hw _ (mi 69 rfl))) (by decide) (t := .boolean) (t' := (.object "java/util/List")) (by decide) (by decide)))
  have F19 := F10.other W13 (Or.inr (slot_ne (Or.inr (hw _ (mi 75 rfl))) (Or.inr (hw _ (mi 69 rfl))) (by decide) (t := (.object "java/lang/String")) (t' := (.object "java/util/List")) (by decide) (by decide)))
  have F20 := F11.other W13 (Or.inr (slot_ne (Or.inr (hw _ (mi 77 rfl))) (Or.inr (hw _ (mi 69 rfl))) (by decide) (t := (.object "java/util/List")) (t' := (.object "java/util/List")) (by decide) (by decide)))
  have go21 : Go p.tables e below T13 (mkF m 16 (L5_0 a0 a1) [.null, (.ref a0)]) En := by
    intro t k
    refine go14 _ ?_
    refine XS.aloadN X13.here hx rfl (hb hby d5_14) rfl rfl ?_
    refine XS.aloadN X13.here hx rfl (hb hby d5_15) rfl rfl ?_
    exact k
  obtain ⟨T22, h22, X22, e22, W22, st22⟩ := putF X13 hx hZ hown (host := "") (Or.inl (hw _ (mi 70 rfl))) Via.refl e13 F17 (E_a0.keep K13) (Or.inr ⟨(hw _ (mi 71 rfl)), rfl, hnm⟩) (hw _ (mi 56 rfl)) (ty := (.object "java/lang/String")) (by decide) rfl rfl (g := (mkF m 16 (L5_0 a0 a1) [.null, (.ref a0)])) rfl rfl (hb hby d5_16)
  have go23 := gap go21 st22
  have N22 := Fr.snoc X22 N13 g_a0
  have K22 : Keep h0 h22 [a0] := K13.wr W22 (Or.inl (List.mem_of_getElem? (i := 0) rfl))
  have Zs22 : n0 ≤ h22.size := Nat.le_trans Zs13 (Keep.of_wr W22).1
  have F24 := F15.other W22 (Or.inr (slot_ne (Or.inr (hw _ (mi 67 rfl))) (Or.inr (hw _ (mi 71 rfl))) (by decide) (t := (.object "java/lang/String")) (t' := (.object "java/lang/String")) (by decide) (by decide)))
  have F25 := F16.other W22 (Or.inr (slot_ne (Or.inr (hw _ (mi 69 rfl))) (Or.inr (hw _ (mi 71 rfl))) (by decide) (t := (.object "java/util/List")) (t' := (.object "java/lang/String")) (by decide) (by decide)))
  have F26 : Fld Z h22 a0 "com/example/hauora_id/hauoraid/model/Consent" "description" "Ljava/lang/String;" .null := F17.same W22
  have F27 := F18.other W22 (Or.inr (slot_ne (Or.inr (hw _ (mi 73 rfl))) (Or.inr (hw _ (mi 71 rfl))) (by decide) (t := .boolean) (t' := (.object "java/lang/String")) (by decide) (by decide)))
  have F28 := F19.other W22 (Or.inr (slot_ne (Or.inr (hw _ (mi 75 rfl))) (Or.inr (hw _ (mi 71 rfl))) (by decide) (t := (.object "java/lang/String")) (t' := (.object "java/lang/String")) (by decide) (by decide)))
  have F29 := F20.other W22 (Or.inr (slot_ne (Or.inr (hw _ (mi 77 rfl))) (Or.inr (hw _ (mi 71 rfl))) (by decide) (t := (.object "java/util/List")) (t' := (.object "java/lang/String")) (by decide) (by decide)))
  have go30 : Go p.tables e below T22 (mkF m 22 (L5_0 a0 a1) [(.int 1), (.ref a0)]) En := by
    intro t k
    refine go23 _ ?_
    refine XS.aloadN X22.here hx rfl (hb hby d5_19) rfl rfl ?_
    refine XS.iload X22.here hx rfl (hb hby d5_20) rfl ?_
    exact k
  obtain ⟨T31, h31, X31, e31, W31, st31⟩ := putFN X22 hx hZ hown (hw _ (mi 72 rfl)) Via.refl e22 F27 (E_a0.keep K22) (Or.inr ⟨(hw _ (mi 73 rfl)), rfl, hnm⟩) (hw _ (mi 56 rfl)) (ty := .boolean) (v' := (.int 1)) (by decide) rfl rfl (g := (mkF m 22 (L5_0 a0 a1) [(.int 1), (.ref a0)])) rfl rfl (hb hby d5_22)
  have go32 := gap go30 st31
  have N31 := Fr.snoc X31 N22 g_a0
  have K31 : Keep h0 h31 [a0] := K22.wr W31 (Or.inl (List.mem_of_getElem? (i := 0) rfl))
  have Zs31 : n0 ≤ h31.size := Nat.le_trans Zs22 (Keep.of_wr W31).1
  have F33 := F24.other W31 (Or.inr (slot_ne (Or.inr (hw _ (mi 67 rfl))) (Or.inr (hw _ (mi 73 rfl))) (by decide) (t := (.object "java/lang/String")) (t' := .boolean) (by decide) (by decide)))
  have F34 := F25.other W31 (Or.inr (slot_ne (Or.inr (hw _ (mi 69 rfl))) (Or.inr (hw _ (mi 73 rfl))) (by decide) (t := (.object "java/util/List")) (t' := .boolean) (by decide) (by decide)))
  have F35 := F26.other W31 (Or.inr (slot_ne (Or.inr (hw _ (mi 71 rfl))) (Or.inr (hw _ (mi 73 rfl))) (by decide) (t := (.object "java/lang/String")) (t' := .boolean) (by decide) (by decide)))
  have F36 : Fld Z h31 a0 "com/example/hauora_id/hauoraid/model/Consent" "offlineAccess" "Z" (.int 1) := F27.same W31
  have F37 := F28.other W31 (Or.inr (slot_ne (Or.inr (hw _ (mi 75 rfl))) (Or.inr (hw _ (mi 73 rfl))) (by decide) (t := (.object "java/lang/String")) (t' := .boolean) (by decide) (by decide)))
  have F38 := F29.other W31 (Or.inr (slot_ne (Or.inr (hw _ (mi 77 rfl))) (Or.inr (hw _ (mi 73 rfl))) (by decide) (t := (.object "java/util/List")) (t' := .boolean) (by decide) (by decide)))
  have go39 : Go p.tables e below T31 (mkF m 28 (L5_0 a0 a1) [.null, (.ref a0)]) En := by
    intro t k
    refine go32 _ ?_
    refine XS.aloadN X31.here hx rfl (hb hby d5_25) rfl rfl ?_
    refine XS.aload X31.here hx rfl (hb hby d5_26) rfl rfl ?_
    exact k
  obtain ⟨T40, h40, X40, e40, W40, st40⟩ := putF X31 hx hZ hown (host := "") (Or.inl (hw _ (mi 74 rfl))) Via.refl e31 F37 (E_a0.keep K31) (Or.inr ⟨(hw _ (mi 75 rfl)), rfl, hnm⟩) (hw _ (mi 56 rfl)) (ty := (.object "java/lang/String")) (by decide) rfl rfl (g := (mkF m 28 (L5_0 a0 a1) [.null, (.ref a0)])) rfl rfl (hb hby d5_28)
  have go41 := gap go39 st40
  have N40 := Fr.snoc X40 N31 g_a0
  have K40 : Keep h0 h40 [a0] := K31.wr W40 (Or.inl (List.mem_of_getElem? (i := 0) rfl))
  have Zs40 : n0 ≤ h40.size := Nat.le_trans Zs31 (Keep.of_wr W40).1
  have F42 := F33.other W40 (Or.inr (slot_ne (Or.inr (hw _ (mi 67 rfl))) (Or.inr (hw _ (mi 75 rfl))) (by decide) (t := (.object "java/lang/String")) (t' := (.object "java/lang/String")) (by decide) (by decide)))
  have F43 := F34.other W40 (Or.inr (slot_ne (Or.inr (hw _ (mi 69 rfl))) (Or.inr (hw _ (mi 75 rfl))) (by decide) (t := (.object "java/util/List")) (t' := (.object "java/lang/String")) (by decide) (by decide)))
  have F44 := F35.other W40 (Or.inr (slot_ne (Or.inr (hw _ (mi 71 rfl))) (Or.inr (hw _ (mi 75 rfl))) (by decide) (t := (.object "java/lang/String")) (t' := (.object "java/lang/String")) (by decide) (by decide)))
  have F45 := F36.other W40 (Or.inr (slot_ne (Or.inr (hw _ (mi 73 rfl))) (Or.inr (hw _ (mi 75 rfl))) (by decide) (t := .boolean) (t' := (.object "java/lang/String")) (by decide) (by decide)))
  have F46 : Fld Z h40 a0 "com/example/hauora_id/hauoraid/model/Consent" "resource" "Ljava/lang/String;" .null := F37.same W40
  have F47 := F38.other W40 (Or.inr (slot_ne (Or.inr (hw _ (mi 77 rfl))) (Or.inr (hw _ (mi 75 rfl))) (by decide) (t := (.object "java/util/List")) (t' := (.object "java/lang/String")) (by decide) (by decide)))
  have go48 : Go p.tables e below T40 (mkF m 34 (L5_0 a0 a1) [.null, (.ref a0)]) En := by
    intro t k
    refine go41 _ ?_
    refine XS.aloadN X40.here hx rfl (hb hby d5_31) rfl rfl ?_
    refine XS.aload X40.here hx rfl (hb hby d5_32) rfl rfl ?_
    exact k
  obtain ⟨T49, h49, X49, e49, W49, st49⟩ := putF X40 hx hZ hown (host := "") (Or.inl (hw _ (mi 76 rfl))) Via.refl e40 F47 (E_a0.keep K40) (Or.inr ⟨(hw _ (mi 77 rfl)), rfl, hnm⟩) (hw _ (mi 56 rfl)) (ty := (.object "java/util/List")) (by decide) rfl rfl (g := (mkF m 34 (L5_0 a0 a1) [.null, (.ref a0)])) rfl rfl (hb hby d5_34)
  have go50 := gap go48 st49
  have N49 := Fr.snoc X49 N40 g_a0
  have K49 : Keep h0 h49 [a0] := K40.wr W49 (Or.inl (List.mem_of_getElem? (i := 0) rfl))
  have Zs49 : n0 ≤ h49.size := Nat.le_trans Zs40 (Keep.of_wr W49).1
  have F51 := F42.other W49 (Or.inr (slot_ne (Or.inr (hw _ (mi 67 rfl))) (Or.inr (hw _ (mi 77 rfl))) (by decide) (t := (.object "java/lang/String")) (t' := (.object "java/util/List")) (by decide) (by decide)))
  have F52 := F43.other W49 (Or.inr (slot_ne (Or.inr (hw _ (mi 69 rfl))) (Or.inr (hw _ (mi 77 rfl))) (by decide) (t := (.object "java/util/List")) (t' := (.object "java/util/List")) (by decide) (by decide)))
  have F53 := F44.other W49 (Or.inr (slot_ne (Or.inr (hw _ (mi 71 rfl))) (Or.inr (hw _ (mi 77 rfl))) (by decide) (t := (.object "java/lang/String")) (t' := (.object "java/util/List")) (by decide) (by decide)))
  have F54 := F45.other W49 (Or.inr (slot_ne (Or.inr (hw _ (mi 73 rfl))) (Or.inr (hw _ (mi 77 rfl))) (by decide) (t := .boolean) (t' := (.object "java/util/List")) (by decide) (by decide)))
  have F55 := F46.other W49 (Or.inr (slot_ne (Or.inr (hw _ (mi 75 rfl))) (Or.inr (hw _ (mi 77 rfl))) (by decide) (t := (.object "java/lang/String")) (t' := (.object "java/util/List")) (by decide) (by decide)))
  have F56 : Fld Z h49 a0 "com/example/hauora_id/hauoraid/model/Consent" "resourceScopes" "Ljava/util/List;" .null := F47.same W49
  refine own_outV X49 hx hlk go50 hrt (hb hby d5_37) e49 (by decide) (by decide) ?_
  exact ⟨rfl, N49, K49, (E_a0.keep K49), F51, F52, F53, F54, F55, F56⟩
theorem d4_0 : decode prog_8_method_2_code 0 = .ok (.new 8, 3) := by decide +kernel
theorem d4_3 : decode prog_8_method_2_code 3 = .ok (.dup, 1) := by decide +kernel
theorem d4_4 : decode prog_8_method_2_code 4 = .ok (.aload_n 0, 1) := by decide +kernel
theorem d4_5 : decode prog_8_method_2_code 5 = .ok (.aconst_null, 1) := by decide +kernel
theorem d4_6 : decode prog_8_method_2_code 6 = .ok (.aconst_null, 1) := by decide +kernel
theorem d4_7 : decode prog_8_method_2_code 7 = .ok (.iconst 1, 1) := by decide +kernel
theorem d4_8 : decode prog_8_method_2_code 8 = .ok (.aconst_null, 1) := by decide +kernel
theorem d4_9 : decode prog_8_method_2_code 9 = .ok (.aconst_null, 1) := by decide +kernel
theorem d4_10 : decode prog_8_method_2_code 10 = .ok (.invokespecial 30, 3) := by decide +kernel
theorem own_site133 {Z : State} {aZ : Array Value} (hw : ∀ d ∈ tables_1, d.before aZ Z = true) : SIt aZ Z (⟨"com/example/hauora_id/hauoraid/model/Consent", "<init>", "(Ljava/lang/String;Ljava/util/List;Ljava/lang/String;ZLjava/lang/String;Ljava/util/List;)V"⟩ : MethodName) prog_8_method_1_code 7 := ⟨⟨(hw _ (mi 58 rfl)), (hw _ (mi 53 rfl))⟩, (hw _ (mi 59 rfl))⟩
theorem pd_134 : parseMethodDescriptor "(Ljava/lang/String;Ljava/util/List;Ljava/lang/String;ZLjava/lang/String;Ljava/util/List;)V" = some ⟨[(.object "java/lang/String"), (.object "java/util/List"), (.object "java/lang/String"), .boolean, (.object "java/lang/String"), (.object "java/util/List")], none⟩ := by decide +kernel
theorem d4_13 : decode prog_8_method_2_code 13 = .ok (.areturn, 1) := by decide +kernel
def Q4 (Z : State) (n0 : Nat) (a0 : Addr) (h0 : Heap) (v : Option Value) (h : Heap) (L : List Loc) : Prop := ∃ b : Addr, v = some (.ref b) ∧ Fr n0 L ∧ Keep h0 h [] ∧ h0.size ≤ b ∧ Exa Z h b "com/example/hauora_id/hauoraid/model/Consent" ∧ Fld Z h b "com/example/hauora_id/hauoraid/model/Consent" "clientId" "Ljava/lang/String;" (.ref a0) ∧ Fld Z h b "com/example/hauora_id/hauoraid/model/Consent" "claims" "Ljava/util/List;" .null ∧ Fld Z h b "com/example/hauora_id/hauoraid/model/Consent" "description" "Ljava/lang/String;" .null ∧ Fld Z h b "com/example/hauora_id/hauoraid/model/Consent" "offlineAccess" "Z" (.int (1 : Int32)) ∧ Fld Z h b "com/example/hauora_id/hauoraid/model/Consent" "resource" "Ljava/lang/String;" .null ∧ Fld Z h b "com/example/hauora_id/hauoraid/model/Consent" "resourceScopes" "Ljava/util/List;" .null
theorem ef4 (m : MethodId) (a0 : Addr) : entryFrame m #[(.ref a0)] 1 = mkF m 0 #[rv a0] [] := by first | (simp [entryFrame, mkF, argsToLocals, Value.category]; done) | rfl
set_option maxRecDepth 65536 in
set_option maxHeartbeats 40000000 in
theorem rm4 (l : Launch) (Z : State) (aZ : Array Value) (hw : ∀ d ∈ tables_1, d.before aZ Z = true) (ws : List Jvm.Cond) (a0 : Addr) (h0 : Heap) (n0 : Nat) (Z0 : n0 ≤ h0.size) :
    MFn l (⟨"com/example/hauora_id/hauoraid/model/Consent", "toEverything", "(Ljava/lang/String;)Lcom/example/hauora_id/hauoraid/model/Consent;"⟩ : MethodName) prog_8_method_2_code 1 (some (.object "com/example/hauora_id/hauoraid/model/Consent")) ws (Rm 3 1 6 43) #[(.ref a0)] Z h0 (Q4 Z n0 a0 h0) := by
  refine own_mf (C := "com/example/hauora_id/hauoraid/model/Consent") rfl (plainFor_of_name pn_123) (fun m => ef4 m a0) ?_
  intro p e s m below meth cd0 s₁ En hx hby hml hown hnm hZ X0 e0 hlk hrt go0
  have N0 := Fr.nil n0
  have K0 : Keep h0 h0 [] := Keep.refl _ _
  obtain ⟨T1, h1, X1, e1, E1, A1, D1, -, st1⟩ := newO X0 hx hZ hown (hw _ (mi 55 rfl)) (hw _ (mi 56 rfl)) (hw _ (mi 53 rfl)) e0 (g := (mkF m 0 #[rv a0] [])) rfl (hb hby d4_0) (by decide) (by decide)
  obtain ⟨b1, g1⟩ : ∃ z, z = h0.size := ⟨_, rfl⟩
  rw [← g1] at A1 D1 st1
  have low1 : n0 ≤ b1 := Nat.le_trans Z0 (Nat.le_of_eq g1.symm)
  have fsh1 : h0.size ≤ b1 := Nat.le_trans K0.1 (Nat.le_of_eq g1.symm)
  have K1 : Keep h0 h1 [] := K0.ext E1
  have Zs1 : n0 ≤ h1.size := Nat.le_trans Z0 E1.1
  have go2 := gap go0 st1
  have F3 : Fld Z h1 b1 "com/example/hauora_id/hauoraid/model/Consent" "clientId" "Ljava/lang/String;" .null := D1 (Or.inr (hw _ (mi 67 rfl))) (ty := (.object "java/lang/String")) (by decide)
  have F4 : Fld Z h1 b1 "com/example/hauora_id/hauoraid/model/Consent" "claims" "Ljava/util/List;" .null := D1 (Or.inr (hw _ (mi 69 rfl))) (ty := (.object "java/util/List")) (by decide)
  have F5 : Fld Z h1 b1 "com/example/hauora_id/hauoraid/model/Consent" "description" "Ljava/lang/String;" .null := D1 (Or.inr (hw _ (mi 71 rfl))) (ty := (.object "java/lang/String")) (by decide)
  have F6 : Fld Z h1 b1 "com/example/hauora_id/hauoraid/model/Consent" "offlineAccess" "Z" (.int 0) := D1 (Or.inr (hw _ (mi 73 rfl))) (ty := .boolean) (by decide)
  have F7 : Fld Z h1 b1 "com/example/hauora_id/hauoraid/model/Consent" "resource" "Ljava/lang/String;" .null := D1 (Or.inr (hw _ (mi 75 rfl))) (ty := (.object "java/lang/String")) (by decide)
  have F8 : Fld Z h1 b1 "com/example/hauora_id/hauoraid/model/Consent" "resourceScopes" "Ljava/util/List;" .null := D1 (Or.inr (hw _ (mi 77 rfl))) (ty := (.object "java/util/List")) (by decide)
  have go9 : Go p.tables e below T1 (mkF m 10 #[rv a0] [.null, .null, (.int 1), .null, .null, (.ref a0), (.ref b1), (.ref b1)]) En := by
    intro t k
    refine go2 _ ?_
    refine XS.dup X1.here hx rfl (hb hby d4_3) rfl rfl ?_
    refine XS.aloadN X1.here hx rfl (hb hby d4_4) rfl rfl ?_
    refine XS.aconstNull X1.here hx rfl (hb hby d4_5) ?_
    show Steps _ _ _ (T1.setTop (mkF m 6 #[rv a0] [.null, (.ref a0), (.ref b1), (.ref b1)])) _
    refine XS.aconstNull X1.here hx rfl (hb hby d4_6) ?_
    refine XS.iconst X1.here hx rfl (hb hby d4_7) ?_
    refine XS.aconstNull X1.here hx rfl (hb hby d4_8) ?_
    show Steps _ _ _ (T1.setTop (mkF m 9 #[rv a0] [.null, (.int 1), .null, .null, (.ref a0), (.ref b1), (.ref b1)])) _
    refine XS.aconstNull X1.here hx rfl (hb hby d4_9) ?_
    exact k
  obtain ⟨_, T10, Lc10, X10, hQ10, st10⟩ := own_ci X1 hx hZ hown hml go9 (hb hby d4_10) e1 (hw _ (mi 57 rfl)) (own_site133 hw) rfl (rm5 l Z aZ hw [] b1 a0 _ _ _ _ _ _ h1 n0 Zs1 A1 F3 F4 F5 F6 F7 F8 low1) (by decide) (argsL := [(.ref a0), .null, .null, (.int 1), .null, .null]) (rest := [(.ref b1)]) rfl rfl rfl (lenOf pd_134 rfl) (W := 1) rfl (by decide) (by decide) (by decide : 1 + 0 ≤ _) (by decide : 6 + 0 ≤ _)
  obtain ⟨rfl, N10q, K10q, G10_0, G10_1, G10_2, G10_3, G10_4, G10_5, G10_6⟩ := hQ10
  have N10 := Fr.app N0 N10q
  have K10 : Keep h0 T10.heap [] := K1.trans K10q (allS (Or.inr fsh1) all0)
  have Zs10 : n0 ≤ T10.heap.size := Nat.le_trans Zs1 K10q.1
  have F11 := A1.keep K10q
  refine own_out (w := (.ref b1)) X10 hx hlk st10 hrt rfl (Or.inr (Or.inr (Or.inr (Or.inr ⟨rfl, rfl, rfl⟩)))) (hb hby d4_13) rfl (by decide) (by decide) ?_
  exact ⟨b1, rfl, N10, K10, fsh1, G10_0, G10_1, G10_2, G10_3, G10_4, G10_5, G10_6⟩
theorem d7_0 : decode prog_8_method_9_code 0 = .ok (.aload_n 0, 1) := by decide +kernel
theorem d7_1 : decode prog_8_method_9_code 1 = .ok (.getfield 7, 3) := by decide +kernel
theorem d7_4 : decode prog_8_method_9_code 4 = .ok (.areturn, 1) := by decide +kernel
theorem ef7 (m : MethodId) (a0 : Addr) : entryFrame m #[(.ref a0)] 1 = mkF m 0 #[rv a0] [] := by first | (simp [entryFrame, mkF, argsToLocals, Value.category]; done) | rfl
set_option maxRecDepth 65536 in
set_option maxHeartbeats 40000000 in
theorem rm7 (l : Launch) (Z : State) (aZ : Array Value) (hw : ∀ d ∈ tables_1, d.before aZ Z = true) (ws : List Jvm.Cond) (a0 : Addr) (w_a0_clientId : Addr) (h0 : Heap) (n0 : Nat) (Z0 : n0 ≤ h0.size) (F_a0_clientId : Fld Z h0 a0 "com/example/hauora_id/hauoraid/model/Consent" "clientId" "Ljava/lang/String;" (.ref w_a0_clientId)) :
    MFn l (⟨"com/example/hauora_id/hauoraid/model/Consent", "clientId", "()Ljava/lang/String;"⟩ : MethodName) prog_8_method_9_code 1 (some (.object "java/lang/String")) ws (Rm 0 0 0 0) #[(.ref a0)] Z h0 (QP n0 h0 (some (.ref w_a0_clientId))) := by
  refine own_mf (C := "com/example/hauora_id/hauoraid/model/Consent") rfl (plainFor_of_name pn_123) (fun m => ef7 m a0) ?_
  intro p e s m below meth cd0 s₁ En hx hby hml hown hnm hZ X0 e0 hlk hrt go0
  have N0 := Fr.nil n0
  have K0 : Keep h0 h0 [] := Keep.refl _ _
  have go1 : Go p.tables e below s₁ (mkF m 1 #[rv a0] [(.ref a0)]) En := by
    intro t k
    refine go0 _ ?_
    refine XS.aloadN X0.here hx rfl (hb hby d7_0) rfl rfl ?_
    exact k
  obtain ⟨T2, X2, e2, st2⟩ := getF X0 hx hZ hown (host := "") (Or.inl (hw _ (mi 66 rfl))) Via.refl e0 F_a0_clientId (g := (mkF m 1 #[rv a0] [(.ref a0)])) rfl rfl (hb hby d7_1)
  have go3 := gap go1 st2
  refine own_out (w := (.ref w_a0_clientId)) X2 hx hlk go3 hrt rfl (Or.inr (Or.inr (Or.inr (Or.inr ⟨rfl, rfl, rfl⟩)))) (hb hby d7_4) e2 (by decide) (by decide) ?_
  exact ⟨rfl, N0, rfl⟩
theorem d9_0 : decode prog_8_method_10_code 0 = .ok (.aload_n 0, 1) := by decide +kernel
theorem d9_1 : decode prog_8_method_10_code 1 = .ok (.getfield 13, 3) := by decide +kernel
theorem d9_4 : decode prog_8_method_10_code 4 = .ok (.areturn, 1) := by decide +kernel
def f9 : Value := (.null : Value)
theorem ef9 (m : MethodId) (a0 : Addr) : entryFrame m #[(.ref a0)] 1 = mkF m 0 #[rv a0] [] := by first | (simp [entryFrame, mkF, argsToLocals, Value.category]; done) | rfl
set_option maxRecDepth 65536 in
set_option maxHeartbeats 40000000 in
theorem rm9 (l : Launch) (Z : State) (aZ : Array Value) (hw : ∀ d ∈ tables_1, d.before aZ Z = true) (ws : List Jvm.Cond) (a0 : Addr) (h0 : Heap) (n0 : Nat) (Z0 : n0 ≤ h0.size) (F_a0_claims : Fld Z h0 a0 "com/example/hauora_id/hauoraid/model/Consent" "claims" "Ljava/util/List;" .null) :
    MFn l (⟨"com/example/hauora_id/hauoraid/model/Consent", "claims", "()Ljava/util/List;"⟩ : MethodName) prog_8_method_10_code 1 (some (.object "java/util/List")) ws (Rm 0 0 0 0) #[(.ref a0)] Z h0 (QP n0 h0 (some f9)) := by
  refine own_mf (C := "com/example/hauora_id/hauoraid/model/Consent") rfl (plainFor_of_name pn_123) (fun m => ef9 m a0) ?_
  intro p e s m below meth cd0 s₁ En hx hby hml hown hnm hZ X0 e0 hlk hrt go0
  have N0 := Fr.nil n0
  have K0 : Keep h0 h0 [] := Keep.refl _ _
  have go1 : Go p.tables e below s₁ (mkF m 1 #[rv a0] [(.ref a0)]) En := by
    intro t k
    refine go0 _ ?_
    refine XS.aloadN X0.here hx rfl (hb hby d9_0) rfl rfl ?_
    exact k
  obtain ⟨T2, X2, e2, st2⟩ := getF X0 hx hZ hown (host := "") (Or.inl (hw _ (mi 68 rfl))) Via.refl e0 F_a0_claims (g := (mkF m 1 #[rv a0] [(.ref a0)])) rfl rfl (hb hby d9_1)
  have go3 := gap go1 st2
  refine own_out (w := .null) X2 hx hlk go3 hrt rfl (Or.inr (Or.inr (Or.inr (Or.inr ⟨rfl, rfl, rfl⟩)))) (hb hby d9_4) e2 (by decide) (by decide) ?_
  exact ⟨by rw [f9], N0, rfl⟩
theorem f9_ref : (f9).isRef = true := by unfold f9; (repeat' split) <;> rfl
theorem d10_0 : decode prog_8_method_11_code 0 = .ok (.aload_n 0, 1) := by decide +kernel
theorem d10_1 : decode prog_8_method_11_code 1 = .ok (.getfield 17, 3) := by decide +kernel
theorem d10_4 : decode prog_8_method_11_code 4 = .ok (.areturn, 1) := by decide +kernel
def f10 : Value := (.null : Value)
theorem ef10 (m : MethodId) (a0 : Addr) : entryFrame m #[(.ref a0)] 1 = mkF m 0 #[rv a0] [] := by first | (simp [entryFrame, mkF, argsToLocals, Value.category]; done) | rfl
set_option maxRecDepth 65536 in
set_option maxHeartbeats 40000000 in
theorem rm10 (l : Launch) (Z : State) (aZ : Array Value) (hw : ∀ d ∈ tables_1, d.before aZ Z = true) (ws : List Jvm.Cond) (a0 : Addr) (h0 : Heap) (n0 : Nat) (Z0 : n0 ≤ h0.size) (F_a0_description : Fld Z h0 a0 "com/example/hauora_id/hauoraid/model/Consent" "description" "Ljava/lang/String;" .null) :
    MFn l (⟨"com/example/hauora_id/hauoraid/model/Consent", "description", "()Ljava/lang/String;"⟩ : MethodName) prog_8_method_11_code 1 (some (.object "java/lang/String")) ws (Rm 0 0 0 0) #[(.ref a0)] Z h0 (QP n0 h0 (some f10)) := by
  refine own_mf (C := "com/example/hauora_id/hauoraid/model/Consent") rfl (plainFor_of_name pn_123) (fun m => ef10 m a0) ?_
  intro p e s m below meth cd0 s₁ En hx hby hml hown hnm hZ X0 e0 hlk hrt go0
  have N0 := Fr.nil n0
  have K0 : Keep h0 h0 [] := Keep.refl _ _
  have go1 : Go p.tables e below s₁ (mkF m 1 #[rv a0] [(.ref a0)]) En := by
    intro t k
    refine go0 _ ?_
    refine XS.aloadN X0.here hx rfl (hb hby d10_0) rfl rfl ?_
    exact k
  obtain ⟨T2, X2, e2, st2⟩ := getF X0 hx hZ hown (host := "") (Or.inl (hw _ (mi 70 rfl))) Via.refl e0 F_a0_description (g := (mkF m 1 #[rv a0] [(.ref a0)])) rfl rfl (hb hby d10_1)
  have go3 := gap go1 st2
  refine own_out (w := .null) X2 hx hlk go3 hrt rfl (Or.inr (Or.inr (Or.inr (Or.inr ⟨rfl, rfl, rfl⟩)))) (hb hby d10_4) e2 (by decide) (by decide) ?_
  exact ⟨by rw [f10], N0, rfl⟩
theorem f10_ref : (f10).isRef = true := by unfold f10; (repeat' split) <;> rfl
theorem d12_0 : decode prog_8_method_13_code 0 = .ok (.aload_n 0, 1) := by decide +kernel
theorem d12_1 : decode prog_8_method_13_code 1 = .ok (.getfield 24, 3) := by decide +kernel
theorem d12_4 : decode prog_8_method_13_code 4 = .ok (.areturn, 1) := by decide +kernel
def f12 : Value := (.null : Value)
theorem ef12 (m : MethodId) (a0 : Addr) : entryFrame m #[(.ref a0)] 1 = mkF m 0 #[rv a0] [] := by first | (simp [entryFrame, mkF, argsToLocals, Value.category]; done) | rfl
set_option maxRecDepth 65536 in
set_option maxHeartbeats 40000000 in
theorem rm12 (l : Launch) (Z : State) (aZ : Array Value) (hw : ∀ d ∈ tables_1, d.before aZ Z = true) (ws : List Jvm.Cond) (a0 : Addr) (h0 : Heap) (n0 : Nat) (Z0 : n0 ≤ h0.size) (F_a0_resource : Fld Z h0 a0 "com/example/hauora_id/hauoraid/model/Consent" "resource" "Ljava/lang/String;" .null) :
    MFn l (⟨"com/example/hauora_id/hauoraid/model/Consent", "resource", "()Ljava/lang/String;"⟩ : MethodName) prog_8_method_13_code 1 (some (.object "java/lang/String")) ws (Rm 0 0 0 0) #[(.ref a0)] Z h0 (QP n0 h0 (some f12)) := by
  refine own_mf (C := "com/example/hauora_id/hauoraid/model/Consent") rfl (plainFor_of_name pn_123) (fun m => ef12 m a0) ?_
  intro p e s m below meth cd0 s₁ En hx hby hml hown hnm hZ X0 e0 hlk hrt go0
  have N0 := Fr.nil n0
  have K0 : Keep h0 h0 [] := Keep.refl _ _
  have go1 : Go p.tables e below s₁ (mkF m 1 #[rv a0] [(.ref a0)]) En := by
    intro t k
    refine go0 _ ?_
    refine XS.aloadN X0.here hx rfl (hb hby d12_0) rfl rfl ?_
    exact k
  obtain ⟨T2, X2, e2, st2⟩ := getF X0 hx hZ hown (host := "") (Or.inl (hw _ (mi 74 rfl))) Via.refl e0 F_a0_resource (g := (mkF m 1 #[rv a0] [(.ref a0)])) rfl rfl (hb hby d12_1)
  have go3 := gap go1 st2
  refine own_out (w := .null) X2 hx hlk go3 hrt rfl (Or.inr (Or.inr (Or.inr (Or.inr ⟨rfl, rfl, rfl⟩)))) (hb hby d12_4) e2 (by decide) (by decide) ?_
  exact ⟨by rw [f12], N0, rfl⟩
theorem f12_ref : (f12).isRef = true := by unfold f12; (repeat' split) <;> rfl
theorem d13_0 : decode prog_8_method_14_code 0 = .ok (.aload_n 0, 1) := by decide +kernel
theorem d13_1 : decode prog_8_method_14_code 1 = .ok (.getfield 27, 3) := by decide +kernel
theorem d13_4 : decode prog_8_method_14_code 4 = .ok (.areturn, 1) := by decide +kernel
def f13 : Value := (.null : Value)
theorem ef13 (m : MethodId) (a0 : Addr) : entryFrame m #[(.ref a0)] 1 = mkF m 0 #[rv a0] [] := by first | (simp [entryFrame, mkF, argsToLocals, Value.category]; done) | rfl
set_option maxRecDepth 65536 in
set_option maxHeartbeats 40000000 in
theorem rm13 (l : Launch) (Z : State) (aZ : Array Value) (hw : ∀ d ∈ tables_1, d.before aZ Z = true) (ws : List Jvm.Cond) (a0 : Addr) (h0 : Heap) (n0 : Nat) (Z0 : n0 ≤ h0.size) (F_a0_resourceScopes : Fld Z h0 a0 "com/example/hauora_id/hauoraid/model/Consent" "resourceScopes" "Ljava/util/List;" .null) :
    MFn l (⟨"com/example/hauora_id/hauoraid/model/Consent", "resourceScopes", "()Ljava/util/List;"⟩ : MethodName) prog_8_method_14_code 1 (some (.object "java/util/List")) ws (Rm 0 0 0 0) #[(.ref a0)] Z h0 (QP n0 h0 (some f13)) := by
  refine own_mf (C := "com/example/hauora_id/hauoraid/model/Consent") rfl (plainFor_of_name pn_123) (fun m => ef13 m a0) ?_
  intro p e s m below meth cd0 s₁ En hx hby hml hown hnm hZ X0 e0 hlk hrt go0
  have N0 := Fr.nil n0
  have K0 : Keep h0 h0 [] := Keep.refl _ _
  have go1 : Go p.tables e below s₁ (mkF m 1 #[rv a0] [(.ref a0)]) En := by
    intro t k
    refine go0 _ ?_
    refine XS.aloadN X0.here hx rfl (hb hby d13_0) rfl rfl ?_
    exact k
  obtain ⟨T2, X2, e2, st2⟩ := getF X0 hx hZ hown (host := "") (Or.inl (hw _ (mi 76 rfl))) Via.refl e0 F_a0_resourceScopes (g := (mkF m 1 #[rv a0] [(.ref a0)])) rfl rfl (hb hby d13_1)
  have go3 := gap go1 st2
  refine own_out (w := .null) X2 hx hlk go3 hrt rfl (Or.inr (Or.inr (Or.inr (Or.inr ⟨rfl, rfl, rfl⟩)))) (hb hby d13_4) e2 (by decide) (by decide) ?_
  exact ⟨by rw [f13], N0, rfl⟩
theorem f13_ref : (f13).isRef = true := by unfold f13; (repeat' split) <;> rfl
theorem d11_0 : decode prog_8_method_12_code 0 = .ok (.aload_n 0, 1) := by decide +kernel
theorem d11_1 : decode prog_8_method_12_code 1 = .ok (.getfield 20, 3) := by decide +kernel
theorem d11_4 : decode prog_8_method_12_code 4 = .ok (.ireturn, 1) := by decide +kernel
theorem ef11 (m : MethodId) (a0 : Addr) : entryFrame m #[(.ref a0)] 1 = mkF m 0 #[rv a0] [] := by first | (simp [entryFrame, mkF, argsToLocals, Value.category]; done) | rfl
set_option maxRecDepth 65536 in
set_option maxHeartbeats 40000000 in
theorem rm11 (l : Launch) (Z : State) (aZ : Array Value) (hw : ∀ d ∈ tables_1, d.before aZ Z = true) (ws : List Jvm.Cond) (a0 : Addr) (h0 : Heap) (n0 : Nat) (Z0 : n0 ≤ h0.size) (F_a0_offlineAccess : Fld Z h0 a0 "com/example/hauora_id/hauoraid/model/Consent" "offlineAccess" "Z" (.int 1)) :
    MFn l (⟨"com/example/hauora_id/hauoraid/model/Consent", "offlineAccess", "()Z"⟩ : MethodName) prog_8_method_12_code 1 (some .boolean) ws (Rm 0 0 0 0) #[(.ref a0)] Z h0 (QP n0 h0 (some (.int 1))) := by
  refine own_mf (C := "com/example/hauora_id/hauoraid/model/Consent") rfl (plainFor_of_name pn_123) (fun m => ef11 m a0) ?_
  intro p e s m below meth cd0 s₁ En hx hby hml hown hnm hZ X0 e0 hlk hrt go0
  have N0 := Fr.nil n0
  have K0 : Keep h0 h0 [] := Keep.refl _ _
  have go1 : Go p.tables e below s₁ (mkF m 1 #[rv a0] [(.ref a0)]) En := by
    intro t k
    refine go0 _ ?_
    refine XS.aloadN X0.here hx rfl (hb hby d11_0) rfl rfl ?_
    exact k
  obtain ⟨T2, X2, e2, st2⟩ := getF X0 hx hZ hown (host := "") (Or.inl (hw _ (mi 72 rfl))) Via.refl e0 F_a0_offlineAccess (g := (mkF m 1 #[rv a0] [(.ref a0)])) rfl rfl (hb hby d11_1)
  have go3 := gap go1 st2
  refine own_out (w := (.int 1)) X2 hx hlk go3 hrt rfl (Or.inl ⟨rfl, Or.inr (Or.inl rfl), _, rfl⟩) (hb hby d11_4) e2 (by decide) (by decide) ?_
  exact ⟨rfl, N0, rfl⟩
theorem d8_0 : decode jdk_42_method_66_code 0 = .ok (.aload_n 0, 1) := by decide +kernel
theorem d8_1 : decode jdk_42_method_66_code 1 = .ok (.aload_n 1, 1) := by decide +kernel
theorem d8_2 : decode jdk_42_method_66_code 2 = .ok (.if_acmp .ne 5, 3) := by decide +kernel
theorem d8_5 : decode jdk_42_method_66_code 5 = .ok (.iconst 1, 1) := by decide +kernel
theorem d8_6 : decode jdk_42_method_66_code 6 = .ok (.ireturn, 1) := by decide +kernel
theorem ef8 (m : MethodId) (a0 : Addr) : entryFrame m #[(.ref a0), (.ref a0)] 3 = mkF m 0 #[rv a0, rv a0, .unset] [] := by first | (simp [entryFrame, mkF, argsToLocals, Value.category]; done) | rfl
set_option maxRecDepth 65536 in
set_option maxHeartbeats 40000000 in
theorem rm8 (l : Launch) (Z : State) (aZ : Array Value) (hw : ∀ d ∈ tables_1, d.before aZ Z = true) (ws : List Jvm.Cond) (a0 : Addr) (h0 : Heap) (n0 : Nat) (Z0 : n0 ≤ h0.size) :
    MFn l (⟨"java/lang/String", "equals", "(Ljava/lang/Object;)Z"⟩ : MethodName) jdk_42_method_66_code 3 (some .boolean) ws (Rm 0 0 0 0) #[(.ref a0), (.ref a0)] Z h0 (QP n0 h0 (some (.int 1))) := by
  refine own_mf (C := "java/lang/String") rfl (plainFor_of_name pn_15) (fun m => ef8 m a0) ?_
  intro p e s m below meth cd0 s₁ En hx hby hml hown hnm hZ X0 e0 hlk hrt go0
  have N0 := Fr.nil n0
  have K0 : Keep h0 h0 [] := Keep.refl _ _
  have go1 : Go p.tables e below s₁ (mkF m 6 #[rv a0, rv a0, .unset] [(.int 1)]) En := by
    intro t k
    refine go0 _ ?_
    refine XS.aloadN X0.here hx rfl (hb hby d8_0) rfl rfl ?_
    refine XS.aloadN X0.here hx rfl (hb hby d8_1) rfl rfl ?_
    refine Jvm.RoadKit.acmp (g := (mkF m 2 #[rv a0, rv a0, .unset] [(.ref a0), (.ref a0)])) X0 hx rfl rfl rfl (pc0 := 2) (pc' := 5) (same := true) rfl (hb hby d8_2) rfl (decide_eq_true (congrArg Value.ref rfl)) (by decide) (by decide) ?_
    show Steps _ _ _ (s₁.setTop (mkF m 5 #[rv a0, rv a0, .unset] [])) _
    refine XS.iconst X0.here hx rfl (hb hby d8_5) ?_
    exact k
  refine own_out (w := (.int 1)) X0 hx hlk go1 hrt rfl (Or.inl ⟨rfl, Or.inr (Or.inl rfl), _, rfl⟩) (hb hby d8_6) e0 (by decide) (by decide) ?_
  exact ⟨rfl, N0, rfl⟩
theorem d15_0 : decode prog_3_method_8_code 0 = .ok (.aload_n 0, 1) := by decide +kernel
theorem d15_1 : decode prog_3_method_8_code 1 = .ok (.getfield 74, 3) := by decide +kernel
theorem d15_4 : decode prog_3_method_8_code 4 = .ok (.getstatic 102, 3) := by decide +kernel
theorem d15_7 : decode prog_3_method_8_code 7 = .ok (.if_acmp .eq 7, 3) := by decide +kernel
theorem d15_14 : decode prog_3_method_8_code 14 = .ok (.iconst 0, 1) := by decide +kernel
theorem d15_10 : decode prog_3_method_8_code 10 = .ok (.iconst 1, 1) := by decide +kernel
theorem d15_11 : decode prog_3_method_8_code 11 = .ok (.goto 4, 3) := by decide +kernel
theorem d15_15 : decode prog_3_method_8_code 15 = .ok (.ireturn, 1) := by decide +kernel
theorem pn_168 : plainName "com/example/hauora_id/hauoraid/model/Claim" = true := by first | (simp [plainName, overriddenIn]; done) | decide +kernel
def b15_8 (w_a0_release : Addr) (s_ALWAYS : Addr) : Int32 := (if w_a0_release = s_ALWAYS then (0 : Int32) else (1 : Int32))
def f15 (w_a0_release : Addr) (s_ALWAYS : Addr) : Int32 := (b15_8 w_a0_release s_ALWAYS)
theorem ef15 (m : MethodId) (a0 : Addr) : entryFrame m #[(.ref a0)] 1 = mkF m 0 #[rv a0] [] := by first | (simp [entryFrame, mkF, argsToLocals, Value.category]; done) | rfl
set_option maxRecDepth 65536 in
set_option maxHeartbeats 40000000 in
theorem rm15 (l : Launch) (Z : State) (aZ : Array Value) (hw : ∀ d ∈ tables_1, d.before aZ Z = true) (ws : List Jvm.Cond) (a0 : Addr) (w_a0_release : Addr) (s_ALWAYS : Addr) (h0 : Heap) (n0 : Nat) (Z0 : n0 ≤ h0.size) (F_a0_release : Fld Z h0 a0 "com/example/hauora_id/hauoraid/model/Claim" "release" "Lcom/example/hauora_id/hauoraid/model/Claim$Release;" (.ref w_a0_release)) (S_ALWAYS : Sta Z h0 "com/example/hauora_id/hauoraid/model/Claim$Release" "ALWAYS" "Lcom/example/hauora_id/hauoraid/model/Claim$Release;" (.ref s_ALWAYS)) :
    MFn l (⟨"com/example/hauora_id/hauoraid/model/Claim", "needsEntitlement", "()Z"⟩ : MethodName) prog_3_method_8_code 1 (some .boolean) ws (Rm 0 0 0 0) #[(.ref a0)] Z h0 (QP n0 h0 (some (.int (f15 w_a0_release s_ALWAYS)))) := by
  refine own_mf (C := "com/example/hauora_id/hauoraid/model/Claim") rfl (plainFor_of_name pn_168) (fun m => ef15 m a0) ?_
  intro p e s m below meth cd0 s₁ En hx hby hml hown hnm hZ X0 e0 hlk hrt go0
  have N0 := Fr.nil n0
  have K0 : Keep h0 h0 [] := Keep.refl _ _
  have go1 : Go p.tables e below s₁ (mkF m 1 #[rv a0] [(.ref a0)]) En := by
    intro t k
    refine go0 _ ?_
    refine XS.aloadN X0.here hx rfl (hb hby d15_0) rfl rfl ?_
    exact k
  obtain ⟨T2, X2, e2, st2⟩ := getF X0 hx hZ hown (host := "") (Or.inl (hw _ (mi 123 rfl))) Via.refl e0 F_a0_release (g := (mkF m 1 #[rv a0] [(.ref a0)])) rfl rfl (hb hby d15_1)
  have go3 := gap go1 st2
  obtain ⟨T4, X4, e4, st4⟩ := getS2 X2 hx hZ hown (host := "") (Or.inl (hw _ (mi 127 rfl))) Via.refl e2 S_ALWAYS (g := (mkF m 4 #[rv a0] [(.ref w_a0_release)])) rfl (hb hby d15_4)
  have go5 := gap go3 st4
  have go7 : Go p.tables e below T4 (mkF m 15 #[rv a0] [(.int (b15_8 w_a0_release s_ALWAYS))]) En := by
    intro t k
    have k : Steps p.tables e below (T4.setTop (mkF m  15 #[rv a0] [(.int (b15_8 w_a0_release s_ALWAYS))])) t := k
    refine go5 _ ?_
    by_cases hc6 : w_a0_release = s_ALWAYS
    · refine Jvm.RoadKit.acmp (g := (mkF m 7 #[rv a0] [(.ref s_ALWAYS), (.ref w_a0_release)])) X4 hx rfl rfl rfl (pc0 := 7) (pc' := 14) (same := true) rfl (hb hby d15_7) rfl (decide_eq_true (congrArg Value.ref hc6)) (by decide) (by decide) ?_
      refine XS.iconst X4.here hx rfl (hb hby d15_14) ?_
      have hq9 : (b15_8 w_a0_release s_ALWAYS) = (0 : Int32) := by rw [b15_8, if_pos hc6]
      rw [hq9] at k
      exact k
    · refine Jvm.RoadKit.acmp (g := (mkF m 7 #[rv a0] [(.ref s_ALWAYS), (.ref w_a0_release)])) X4 hx rfl rfl rfl (pc0 := 7) (pc' := 10) (same := false) rfl (hb hby d15_7) rfl (decide_eq_false fun q => hc6 (Value.ref.inj q)) (by decide) (by decide) ?_
      refine XS.iconst X4.here hx rfl (hb hby d15_10) ?_
      refine XS.goto X4.here hx rfl (pc0 := 11) (pc' := 15) rfl (hb hby d15_11) (by decide) (by decide) ?_
      have hq10 : (b15_8 w_a0_release s_ALWAYS) = (1 : Int32) := by rw [b15_8, if_neg hc6]
      rw [hq10] at k
      exact k
  refine own_out (w := (.int (b15_8 w_a0_release s_ALWAYS))) X4 hx hlk go7 hrt (own_nz (by unfold b15_8; (repeat' split) <;> first | exact Or.inl rfl | exact Or.inr rfl)) (Or.inl ⟨rfl, Or.inr (Or.inl rfl), _, rfl⟩) (hb hby d15_15) e4 (by decide) (by decide) ?_
  exact ⟨by rw [f15], N0, rfl⟩
theorem d14_0 : decode prog_8_method_4_code 0 = .ok (.aload_n 1, 1) := by decide +kernel
theorem d14_1 : decode prog_8_method_4_code 1 = .ok (.invokevirtual 66, 3) := by decide +kernel
theorem own_site171 {Z : State} {aZ : Array Value} (hw : ∀ d ∈ tables_1, d.before aZ Z = true) : SVt aZ Z "com/example/hauora_id/hauoraid/model/Claim" (⟨"com/example/hauora_id/hauoraid/model/Claim", "needsEntitlement", "()Z"⟩ : MethodName) prog_3_method_8_code 1 (some .boolean) := ⟨⟨⟨(hw _ (mi 119 rfl)), (hw _ (mi 121 rfl))⟩, (hw _ (mi 120 rfl)), (hw _ (mi 25 rfl))⟩, (hw _ (mi 122 rfl))⟩
theorem pd_172 : parseMethodDescriptor "()Z" = some ⟨[], some .boolean⟩ := by decide +kernel
theorem d14_4 : decode prog_8_method_4_code 4 = .ok (.ifCond .eq 23, 3) := by decide +kernel
theorem d14_27 : decode prog_8_method_4_code 27 = .ok (.iconst 1, 1) := by decide +kernel
theorem d14_28 : decode prog_8_method_4_code 28 = .ok (.goto 4, 3) := by decide +kernel
theorem d14_32 : decode prog_8_method_4_code 32 = .ok (.ireturn, 1) := by decide +kernel
theorem d14_7 : decode prog_8_method_4_code 7 = .ok (.aload_n 0, 1) := by decide +kernel
theorem d14_8 : decode prog_8_method_4_code 8 = .ok (.getfield 13, 3) := by decide +kernel
theorem d14_11 : decode prog_8_method_4_code 11 = .ok (.ifnull 16, 3) := by decide +kernel
def f14 (w_a1_release : Addr) (s_ALWAYS : Addr) : Int32 := (if (f15 w_a1_release s_ALWAYS) = (0 : Int32) then (1 : Int32) else (1 : Int32))
theorem ef14 (m : MethodId) (a0 : Addr) (a1 : Addr) : entryFrame m #[(.ref a0), (.ref a1)] 2 = mkF m 0 #[rv a0, rv a1] [] := by first | (simp [entryFrame, mkF, argsToLocals, Value.category]; done) | rfl
set_option maxRecDepth 65536 in
set_option maxHeartbeats 40000000 in
theorem rm14 (l : Launch) (Z : State) (aZ : Array Value) (hw : ∀ d ∈ tables_1, d.before aZ Z = true) (ws : List Jvm.Cond) (a0 : Addr) (a1 : Addr) (w_a1_release : Addr) (s_ALWAYS : Addr) (h0 : Heap) (n0 : Nat) (Z0 : n0 ≤ h0.size) (F_a0_claims : Fld Z h0 a0 "com/example/hauora_id/hauoraid/model/Consent" "claims" "Ljava/util/List;" .null) (E_a1 : Exa Z h0 a1 "com/example/hauora_id/hauoraid/model/Claim") (F_a1_release : Fld Z h0 a1 "com/example/hauora_id/hauoraid/model/Claim" "release" "Lcom/example/hauora_id/hauoraid/model/Claim$Release;" (.ref w_a1_release)) (S_ALWAYS : Sta Z h0 "com/example/hauora_id/hauoraid/model/Claim$Release" "ALWAYS" "Lcom/example/hauora_id/hauoraid/model/Claim$Release;" (.ref s_ALWAYS)) :
    MFn l (⟨"com/example/hauora_id/hauoraid/model/Consent", "agreesTo", "(Lcom/example/hauora_id/hauoraid/model/Claim;)Z"⟩ : MethodName) prog_8_method_4_code 2 (some .boolean) ws (Rm 1 0 0 12) #[(.ref a0), (.ref a1)] Z h0 (QP n0 h0 (some (.int (f14 w_a1_release s_ALWAYS)))) := by
  refine own_mf (C := "com/example/hauora_id/hauoraid/model/Consent") rfl (plainFor_of_name pn_123) (fun m => ef14 m a0 a1) ?_
  intro p e s m below meth cd0 s₁ En hx hby hml hown hnm hZ X0 e0 hlk hrt go0
  have N0 := Fr.nil n0
  have K0 : Keep h0 h0 [] := Keep.refl _ _
  have go1 : Go p.tables e below s₁ (mkF m 1 #[rv a0, rv a1] [(.ref a1)]) En := by
    intro t k
    refine go0 _ ?_
    refine XS.aloadN X0.here hx rfl (hb hby d14_0) rfl rfl ?_
    exact k
  obtain ⟨_, T2, Lc2, X2, hQ2, st2⟩ := own_cv X0 hx hZ hown hml go1 (hb hby d14_1) e0 (hw _ (mi 118 rfl)) (own_site171 hw) E_a1 (rm15 l Z aZ hw [] a1 _ _ h0 n0 Z0 F_a1_release S_ALWAYS) (by decide) (argsL := []) (rest := []) rfl rfl rfl (lenOf pd_172 rfl) (W := 0) rfl (by decide) (by decide) (by decide : 0 + 0 ≤ _) (by decide : 0 + 0 ≤ _)
  obtain ⟨rfl, N2q, e2⟩ := hQ2
  have N2 := Fr.app N0 N2q
  by_cases hs3 : (f15 w_a1_release s_ALWAYS) = (0 : Int32)
  · have go4 : Go p.tables e below T2 (mkF m 32 #[rv a0, rv a1] [(.int 1)]) En := by
      intro t k
      refine st2 _ ?_
      refine XS.ifYes X2.here hx rfl (pc0 := 4) (pc' := 27) rfl (hb hby d14_4) rfl (XT.i0_eq_t hs3) (by decide) (by decide) ?_
      refine XS.iconst X2.here hx rfl (hb hby d14_27) ?_
      refine XS.goto X2.here hx rfl (pc0 := 28) (pc' := 32) rfl (hb hby d14_28) (by decide) (by decide) ?_
      show Steps _ _ _ (T2.setTop (mkF m 32 #[rv a0, rv a1] [(.int 1)])) _
      exact k
    refine own_out (w := (.int 1)) X2 hx hlk go4 hrt rfl (Or.inl ⟨rfl, Or.inr (Or.inl rfl), _, rfl⟩) (hb hby d14_32) e2 (by decide) (by decide) ?_
    exact ⟨by rw [f14, if_pos hs3], N2, rfl⟩
  have go5 : Go p.tables e below T2 (mkF m 8 #[rv a0, rv a1] [(.ref a0)]) En := by
    intro t k
    refine st2 _ ?_
    refine XS.ifNo X2.here hx rfl (hb hby d14_4) rfl (XT.i0_eq_f hs3) ?_
    refine XS.aloadN X2.here hx rfl (hb hby d14_7) rfl rfl ?_
    exact k
  obtain ⟨T6, X6, e6, st6⟩ := getF X2 hx hZ hown (host := "") (Or.inl (hw _ (mi 68 rfl))) Via.refl e2 F_a0_claims (g := (mkF m 8 #[rv a0, rv a1] [(.ref a0)])) rfl rfl (hb hby d14_8)
  have go7 := gap go5 st6
  have go8 : Go p.tables e below T6 (mkF m 32 #[rv a0, rv a1] [(.int 1)]) En := by
    intro t k
    refine go7 _ ?_
    refine XT.nullYes X6.here hx rfl (pc0 := 11) (pc' := 27) rfl (hb hby d14_11) rfl rfl (by decide) (by decide) ?_
    refine XS.iconst X6.here hx rfl (hb hby d14_27) ?_
    refine XS.goto X6.here hx rfl (pc0 := 28) (pc' := 32) rfl (hb hby d14_28) (by decide) (by decide) ?_
    show Steps _ _ _ (T6.setTop (mkF m 32 #[rv a0, rv a1] [(.int 1)])) _
    exact k
  refine own_out (w := (.int 1)) X6 hx hlk go8 hrt rfl (Or.inl ⟨rfl, Or.inr (Or.inl rfl), _, rfl⟩) (hb hby d14_32) e6 (by decide) (by decide) ?_
  exact ⟨by rw [f14, if_neg hs3], N2, rfl⟩
theorem own_dead4 (x : Int32) (h0 : ¬ (x &&& 3) = 0) (h1 : ¬ (x &&& 3) = 1) (h2 : ¬ (x &&& 3) = 2) (h3 : ¬ (x &&& 3) = 3) : False := by
  have hm := c_mask x 3 2 (by decide) (by decide)
  have g0 := own_ne 0 rfl h0
  have g1 := own_ne 1 rfl h1
  have g2 := own_ne 2 rfl h2
  have g3 := own_ne 3 rfl h3
  omega
theorem own_c255 (x : Int32) : ¬ (255 : Int32) < (x &&& 255).toUInt32.toUInt16.toUInt32.toInt32.toUInt32.toUInt16.toUInt32.toInt32 := by
  have h := c_mask x 255 8 (by decide) (by decide)
  have a := c_i2c (x &&& 255); have b := c_i2c (x &&& 255).toUInt32.toUInt16.toUInt32.toInt32
  have e : (255 : Int32).toInt = 255 := rfl
  rw [Int32.lt_iff_toInt_lt]; omega
theorem own_in12 (x : Int32) : (x &&& 2147483647) % 12 = 0 ∨ (x &&& 2147483647) % 12 = 1 ∨ (x &&& 2147483647) % 12 = 2 ∨ (x &&& 2147483647) % 12 = 3 ∨ (x &&& 2147483647) % 12 = 4 ∨ (x &&& 2147483647) % 12 = 5 ∨ (x &&& 2147483647) % 12 = 6 ∨ (x &&& 2147483647) % 12 = 7 ∨ (x &&& 2147483647) % 12 = 8 ∨ (x &&& 2147483647) % 12 = 9 ∨ (x &&& 2147483647) % 12 = 10 ∨ (x &&& 2147483647) % 12 = 11 := by
  have hm := c_mask x 2147483647 31 (by decide) (by decide)
  have hr := (c_irem (x &&& 2147483647) 12 12 (by decide)).1 (by omega)
  simp only [← Int32.toInt_inj]
  have e0 : (0 : Int32).toInt = 0 := rfl
  have e1 : (1 : Int32).toInt = 1 := rfl
  have e2 : (2 : Int32).toInt = 2 := rfl
  have e3 : (3 : Int32).toInt = 3 := rfl
  have e4 : (4 : Int32).toInt = 4 := rfl
  have e5 : (5 : Int32).toInt = 5 := rfl
  have e6 : (6 : Int32).toInt = 6 := rfl
  have e7 : (7 : Int32).toInt = 7 := rfl
  have e8 : (8 : Int32).toInt = 8 := rfl
  have e9 : (9 : Int32).toInt = 9 := rfl
  have e10 : (10 : Int32).toInt = 10 := rfl
  have e11 : (11 : Int32).toInt = 11 := rfl
  omega
theorem own_b12 (x : Int32) : ¬ ((x &&& 2147483647) % 12) < 0 ∧ ((x &&& 2147483647) % 12) < 12 := by
  have hm := c_mask x 2147483647 31 (by decide) (by decide)
  have hr := (c_irem (x &&& 2147483647) 12 12 (by decide)).1 (by omega)
  simp only [Int32.lt_iff_toInt_lt]
  have e0 : (0 : Int32).toInt = 0 := rfl
  have e12 : (12 : Int32).toInt = 12 := rfl
  omega
theorem own_eqi {a : Term} {args : Array Value} {s : State} {k : Int32} (h : (Jvm.Cond.eq a (Term.int k)).value args s none s [] = some true) : a.eval args s none [] s = some (.int k) := by
  cases ha : a.eval args s none [] s with
  | none => simp [Cond.value, ha] at h
  | some x => cases x <;> simp [Cond.value, ha, Term.eval] at h ⊢; exact h
theorem own_eqr {a b : Term} {args : Array Value} {s : State} {y : Addr} (hb : b.eval args s none [] s = some (.ref y)) (h : (Jvm.Cond.eq a b).value args s none s [] = some true) : a.eval args s none [] s = some (.ref y) := by
  cases ha : a.eval args s none [] s with
  | none => simp [Cond.value, ha] at h
  | some x => cases x <;> simp [Cond.value, ha, hb] at h ⊢; exact h
theorem own_len {t : Term} {args : Array Value} {s : State} {n : Int32} {x : Addr} {c : Cell} {ty : FieldType} (h : (Term.length t).eval args s none [] s = some (.int n)) (ht : t.eval args s none [] s = some (.ref x)) (A : Arr s s.heap x c ty) : c.slots.size < 2 ^ 31 ∧ c.slots.size.toInt32 = n := by
  have ha : s.arrayAt? x = some c := Arr.fin (Vm.Alike.refl _) A
  simp only [Term.eval, ht, ha, Option.bind_eq_bind, Option.bind_some] at h
  split at h
  · rename_i hl; simp at h; exact ⟨hl, h⟩
  · cases h
theorem pd_180 : parseMethodDescriptor "([C)V" = some ⟨[(.array .char)], none⟩ := by decide +kernel
theorem own_site181 {Z : State} {aZ : Array Value} (hw : ∀ d ∈ tables_1, d.before aZ Z = true) : SSt aZ Z (⟨"com/example/hauora_id/hauoraid/model/Consent", "toEverything", "(Ljava/lang/String;)Lcom/example/hauora_id/hauoraid/model/Consent;"⟩ : MethodName) prog_8_method_2_code 1 (some (.object "com/example/hauora_id/hauoraid/model/Consent")) := ⟨⟨(hw _ (mi 52 rfl)), (hw _ (mi 53 rfl))⟩, (hw _ (mi 54 rfl))⟩
theorem pd_182 : parseMethodDescriptor "(Ljava/lang/String;)Lcom/example/hauora_id/hauoraid/model/Consent;" = some ⟨[(.object "java/lang/String")], some (.object "com/example/hauora_id/hauoraid/model/Consent")⟩ := by decide +kernel
theorem own_site183 {Z : State} {aZ : Array Value} (hw : ∀ d ∈ tables_1, d.before aZ Z = true) : SVt aZ Z "com/example/hauora_id/hauoraid/model/Consent" (⟨"com/example/hauora_id/hauoraid/model/Consent", "clientId", "()Ljava/lang/String;"⟩ : MethodName) prog_8_method_9_code 1 (some (.object "java/lang/String")) := ⟨⟨⟨(hw _ (mi 79 rfl)), (hw _ (mi 81 rfl))⟩, (hw _ (mi 80 rfl)), (hw _ (mi 53 rfl))⟩, (hw _ (mi 82 rfl))⟩
theorem pd_184 : parseMethodDescriptor "()Ljava/lang/String;" = some ⟨[], some (.object "java/lang/String")⟩ := by decide +kernel
theorem own_site185 {Z : State} {aZ : Array Value} (hw : ∀ d ∈ tables_1, d.before aZ Z = true) : SVt aZ Z "java/lang/String" (⟨"java/lang/String", "equals", "(Ljava/lang/Object;)Z"⟩ : MethodName) jdk_42_method_66_code 3 (some .boolean) := ⟨⟨⟨(hw _ (mi 84 rfl)), (hw _ (mi 86 rfl))⟩, (hw _ (mi 85 rfl)), (hw _ (mi 3 rfl))⟩, (hw _ (mi 87 rfl))⟩
theorem pd_186 : parseMethodDescriptor "(Ljava/lang/Object;)Z" = some ⟨[(.object "java/lang/Object")], some .boolean⟩ := by decide +kernel
theorem own_site187 {Z : State} {aZ : Array Value} (hw : ∀ d ∈ tables_1, d.before aZ Z = true) : SVt aZ Z "com/example/hauora_id/hauoraid/model/Consent" (⟨"com/example/hauora_id/hauoraid/model/Consent", "claims", "()Ljava/util/List;"⟩ : MethodName) prog_8_method_10_code 1 (some (.object "java/util/List")) := ⟨⟨⟨(hw _ (mi 89 rfl)), (hw _ (mi 91 rfl))⟩, (hw _ (mi 90 rfl)), (hw _ (mi 53 rfl))⟩, (hw _ (mi 92 rfl))⟩
theorem pd_188 : parseMethodDescriptor "()Ljava/util/List;" = some ⟨[], some (.object "java/util/List")⟩ := by decide +kernel
theorem own_site189 {Z : State} {aZ : Array Value} (hw : ∀ d ∈ tables_1, d.before aZ Z = true) : SVt aZ Z "com/example/hauora_id/hauoraid/model/Consent" (⟨"com/example/hauora_id/hauoraid/model/Consent", "description", "()Ljava/lang/String;"⟩ : MethodName) prog_8_method_11_code 1 (some (.object "java/lang/String")) := ⟨⟨⟨(hw _ (mi 94 rfl)), (hw _ (mi 96 rfl))⟩, (hw _ (mi 95 rfl)), (hw _ (mi 53 rfl))⟩, (hw _ (mi 97 rfl))⟩
theorem own_site190 {Z : State} {aZ : Array Value} (hw : ∀ d ∈ tables_1, d.before aZ Z = true) : SVt aZ Z "com/example/hauora_id/hauoraid/model/Consent" (⟨"com/example/hauora_id/hauoraid/model/Consent", "offlineAccess", "()Z"⟩ : MethodName) prog_8_method_12_code 1 (some .boolean) := ⟨⟨⟨(hw _ (mi 99 rfl)), (hw _ (mi 101 rfl))⟩, (hw _ (mi 100 rfl)), (hw _ (mi 53 rfl))⟩, (hw _ (mi 102 rfl))⟩
theorem own_site191 {Z : State} {aZ : Array Value} (hw : ∀ d ∈ tables_1, d.before aZ Z = true) : SVt aZ Z "com/example/hauora_id/hauoraid/model/Consent" (⟨"com/example/hauora_id/hauoraid/model/Consent", "resource", "()Ljava/lang/String;"⟩ : MethodName) prog_8_method_13_code 1 (some (.object "java/lang/String")) := ⟨⟨⟨(hw _ (mi 104 rfl)), (hw _ (mi 106 rfl))⟩, (hw _ (mi 105 rfl)), (hw _ (mi 53 rfl))⟩, (hw _ (mi 107 rfl))⟩
theorem own_site192 {Z : State} {aZ : Array Value} (hw : ∀ d ∈ tables_1, d.before aZ Z = true) : SVt aZ Z "com/example/hauora_id/hauoraid/model/Consent" (⟨"com/example/hauora_id/hauoraid/model/Consent", "resourceScopes", "()Ljava/util/List;"⟩ : MethodName) prog_8_method_14_code 1 (some (.object "java/util/List")) := ⟨⟨⟨(hw _ (mi 109 rfl)), (hw _ (mi 111 rfl))⟩, (hw _ (mi 110 rfl)), (hw _ (mi 53 rfl))⟩, (hw _ (mi 112 rfl))⟩
theorem own_site193 {Z : State} {aZ : Array Value} (hw : ∀ d ∈ tables_1, d.before aZ Z = true) : SVt aZ Z "com/example/hauora_id/hauoraid/model/Consent" (⟨"com/example/hauora_id/hauoraid/model/Consent", "agreesTo", "(Lcom/example/hauora_id/hauoraid/model/Claim;)Z"⟩ : MethodName) prog_8_method_4_code 2 (some .boolean) := ⟨⟨⟨(hw _ (mi 114 rfl)), (hw _ (mi 116 rfl))⟩, (hw _ (mi 115 rfl)), (hw _ (mi 53 rfl))⟩, (hw _ (mi 117 rfl))⟩
theorem pd_194 : parseMethodDescriptor "(Lcom/example/hauora_id/hauoraid/model/Claim;)Z" = some ⟨[(.object "com/example/hauora_id/hauoraid/model/Claim")], some .boolean⟩ := by decide +kernel
theorem own_site197 {Z : State} {aZ : Array Value} (hw : ∀ d ∈ tables_1, d.before aZ Z = true) : SIt aZ Z (⟨"java/lang/String", "<init>", "([C)V"⟩ : MethodName) jdk_42_method_3_code 2 := ⟨⟨(hw _ (mi 5 rfl)), (hw _ (mi 3 rfl))⟩, (hw _ (mi 6 rfl))⟩
def b0_212 (s_ALWAYS : Addr) (rk : Addr) : Int32 := (if (f14 rk s_ALWAYS) = (0 : Int32) then (0 : Int32) else (1 : Int32))
def v0_233 (p1 : Int32) : Int32 := (p1 &&& (255 : Int32)).toUInt32.toUInt16.toUInt32.toInt32
def v0_455 (p2 : Int32) : Int32 := (p2 &&& (255 : Int32)).toUInt32.toUInt16.toUInt32.toInt32
def v0_682 (p3 : Int32) : Int32 := (p3 &&& (255 : Int32)).toUInt32.toUInt16.toUInt32.toInt32
def f0 (p0 : Int32) (s_ALWAYS : Addr) (rk : Addr) : Int32 := (if (p0 &&& (3 : Int32)) = (0 : Int32) then (b0_212 s_ALWAYS rk) else (if (p0 &&& (3 : Int32)) = (1 : Int32) then (b0_212 s_ALWAYS rk) else (if (p0 &&& (3 : Int32)) = (2 : Int32) then (b0_212 s_ALWAYS rk) else (if (p0 &&& (3 : Int32)) = (3 : Int32) then (b0_212 s_ALWAYS rk) else (1 : Int32)))))
theorem own_ag (a b : Addr) : ¬ f14 a b = 0 := by
  unfold f14; split <;> decide
theorem f0_one (p0 : Int32) (s_ALWAYS : Addr) (rk : Addr) : f0 p0 s_ALWAYS rk = 1 := by
  unfold f0 b0_212
  rw [if_neg (own_ag _ _)]; simp
theorem pn_200 : plainName "com/example/hauora_id/hauoraid/model/ConsentToEverythingPinLaw" = true := by first | (simp [plainName, overriddenIn]; done) | decide +kernel
def Q0 (Z : State) (n0 : Nat) (p0 : Int32) (p1 : Int32) (p2 : Int32) (p3 : Int32) (p4 : Int32) (s_SUB : Addr) (s_EMAIL : Addr) (s_GIVEN_NAME : Addr) (s_MIDDLE_NAME : Addr) (s_FAMILY_NAME : Addr) (s_NICKNAME : Addr) (s_BIRTHDATE : Addr) (s_MOBILE_NUMBER : Addr) (s_NHI : Addr) (s_CPN : Addr) (s_RELATIONSHIPS : Addr) (s_CONFIDENCE_LEVEL : Addr) (s_ALWAYS : Addr) (s_USERINFO : Addr) (s_ID_TOKEN : Addr) (s_COMPACT_STRINGS : Int32) (h0 : Heap) (v : Option Value) (h : Heap) (L : List Loc) : Prop := v = some (.int 1) ∧ Fr n0 L
theorem ef0 (m : MethodId) (p0 : Int32) (p1 : Int32) (p2 : Int32) (p3 : Int32) (p4 : Int32) : entryFrame m #[(.int p0), (.int p1), (.int p2), (.int p3), (.int p4)] maxLocals = mkF m 0 #[iv p0, iv p1, iv p2, iv p3, iv p4, .unset, .unset, .unset, .unset, .unset, .unset, .unset] [] := by first | (simp [entryFrame, mkF, argsToLocals, Value.category, maxLocals]; done) | rfl
abbrev L0_0 (p0 : Int32) (p1 : Int32) (p2 : Int32) (p3 : Int32) (p4 : Int32) : Array Slot := #[iv p0, iv p1, iv p2, iv p3, iv p4, iv 0, .unset, .unset, .unset, .unset, .unset, .unset]
abbrev L0_1 (p0 : Int32) (p1 : Int32) (p2 : Int32) (p3 : Int32) (p4 : Int32) (b5 : Addr) : Array Slot := #[iv p0, iv p1, iv p2, iv p3, iv p4, iv 0, rv b5, .unset, .unset, .unset, .unset, .unset]
abbrev L0_2 (p0 : Int32) (p1 : Int32) (p2 : Int32) (p3 : Int32) (p4 : Int32) (b5 : Addr) (b21 : Addr) : Array Slot := #[iv p0, iv p1, iv p2, iv p3, iv p4, iv 0, rv b5, rv b21, .unset, .unset, .unset, .unset]
abbrev L0_3 (p0 : Int32) (p1 : Int32) (p2 : Int32) (p3 : Int32) (p4 : Int32) (b5 : Addr) (b21 : Addr) (b45 : Addr) : Array Slot := #[iv p0, iv p1, iv p2, iv p3, iv p4, iv 0, rv b5, rv b21, rv b45, .unset, .unset, .unset]
abbrev L0_4 (p0 : Int32) (p1 : Int32) (p2 : Int32) (p3 : Int32) (p4 : Int32) (b5 : Addr) (b21 : Addr) (b45 : Addr) (b187 : Addr) (xk : Addr) : Array Slot := #[iv p0, iv p1, iv p2, iv p3, iv p4, iv 0, rv b5, rv b21, rv b45, rv xk, rv b187, rv b21]
abbrev L0_5 (p0 : Int32) (p1 : Int32) (p2 : Int32) (p3 : Int32) (p4 : Int32) : Array Slot := #[iv p0, iv p1, iv p2, iv p3, iv p4, iv 1, .unset, .unset, .unset, .unset, .unset, .unset]
abbrev L0_6 (p0 : Int32) (p1 : Int32) (p2 : Int32) (p3 : Int32) (p4 : Int32) (b218 : Addr) : Array Slot := #[iv p0, iv p1, iv p2, iv p3, iv p4, iv 1, rv b218, .unset, .unset, .unset, .unset, .unset]
abbrev L0_7 (p0 : Int32) (p1 : Int32) (p2 : Int32) (p3 : Int32) (p4 : Int32) (b218 : Addr) (b240 : Addr) : Array Slot := #[iv p0, iv p1, iv p2, iv p3, iv p4, iv 1, rv b218, rv b240, .unset, .unset, .unset, .unset]
abbrev L0_8 (p0 : Int32) (p1 : Int32) (p2 : Int32) (p3 : Int32) (p4 : Int32) (b218 : Addr) (b240 : Addr) (b263 : Addr) : Array Slot := #[iv p0, iv p1, iv p2, iv p3, iv p4, iv 1, rv b218, rv b240, rv b263, .unset, .unset, .unset]
abbrev L0_9 (p0 : Int32) (p1 : Int32) (p2 : Int32) (p3 : Int32) (p4 : Int32) (b218 : Addr) (b240 : Addr) (b263 : Addr) (b405 : Addr) (xk : Addr) : Array Slot := #[iv p0, iv p1, iv p2, iv p3, iv p4, iv 1, rv b218, rv b240, rv b263, rv xk, rv b405, rv b240]
abbrev L0_10 (p0 : Int32) (p1 : Int32) (p2 : Int32) (p3 : Int32) (p4 : Int32) (b435 : Addr) : Array Slot := #[iv p0, iv p1, iv p2, iv p3, iv p4, iv 2, rv b435, .unset, .unset, .unset, .unset, .unset]
abbrev L0_11 (p0 : Int32) (p1 : Int32) (p2 : Int32) (p3 : Int32) (p4 : Int32) (b435 : Addr) (b462 : Addr) : Array Slot := #[iv p0, iv p1, iv p2, iv p3, iv p4, iv 2, rv b435, rv b462, .unset, .unset, .unset, .unset]
abbrev L0_12 (p0 : Int32) (p1 : Int32) (p2 : Int32) (p3 : Int32) (p4 : Int32) (b435 : Addr) (b462 : Addr) (b485 : Addr) : Array Slot := #[iv p0, iv p1, iv p2, iv p3, iv p4, iv 2, rv b435, rv b462, rv b485, .unset, .unset, .unset]
abbrev L0_13 (p0 : Int32) (p1 : Int32) (p2 : Int32) (p3 : Int32) (p4 : Int32) (b435 : Addr) (b462 : Addr) (b485 : Addr) (b627 : Addr) (xk : Addr) : Array Slot := #[iv p0, iv p1, iv p2, iv p3, iv p4, iv 2, rv b435, rv b462, rv b485, rv xk, rv b627, rv b462]
abbrev L0_14 (p0 : Int32) (p1 : Int32) (p2 : Int32) (p3 : Int32) (p4 : Int32) (b657 : Addr) : Array Slot := #[iv p0, iv p1, iv p2, iv p3, iv p4, iv 3, rv b657, .unset, .unset, .unset, .unset, .unset]
abbrev L0_15 (p0 : Int32) (p1 : Int32) (p2 : Int32) (p3 : Int32) (p4 : Int32) (b657 : Addr) (b688 : Addr) : Array Slot := #[iv p0, iv p1, iv p2, iv p3, iv p4, iv 3, rv b657, rv b688, .unset, .unset, .unset, .unset]
abbrev L0_16 (p0 : Int32) (p1 : Int32) (p2 : Int32) (p3 : Int32) (p4 : Int32) (b657 : Addr) (b688 : Addr) (b711 : Addr) : Array Slot := #[iv p0, iv p1, iv p2, iv p3, iv p4, iv 3, rv b657, rv b688, rv b711, .unset, .unset, .unset]
abbrev L0_17 (p0 : Int32) (p1 : Int32) (p2 : Int32) (p3 : Int32) (p4 : Int32) (b657 : Addr) (b688 : Addr) (b711 : Addr) (xk : Addr) (b853 : Addr) : Array Slot := #[iv p0, iv p1, iv p2, iv p3, iv p4, iv 3, rv b657, rv b688, rv b711, rv xk, rv b853, rv b688]
set_option maxRecDepth 65536 in
set_option maxHeartbeats 40000000 in
theorem rm0 (l : Launch) (Z : State) (aZ : Array Value) (hw : ∀ d ∈ tables_1, d.before aZ Z = true) (ws : List Jvm.Cond) (p0 : Int32) (p1 : Int32) (p2 : Int32) (p3 : Int32) (p4 : Int32) (s_SUB : Addr) (s_EMAIL : Addr) (s_GIVEN_NAME : Addr) (s_MIDDLE_NAME : Addr) (s_FAMILY_NAME : Addr) (s_NICKNAME : Addr) (s_BIRTHDATE : Addr) (s_MOBILE_NUMBER : Addr) (s_NHI : Addr) (s_CPN : Addr) (s_RELATIONSHIPS : Addr) (s_CONFIDENCE_LEVEL : Addr) (s_ALWAYS : Addr) (s_USERINFO : Addr) (s_ID_TOKEN : Addr) (s_COMPACT_STRINGS : Int32) (h0 : Heap) (n0 : Nat) (Z0 : n0 ≤ h0.size) (S_SUB : Sta Z h0 "com/example/hauora_id/hauoraid/model/Claim" "SUB" "Lcom/example/hauora_id/hauoraid/model/Claim;" (.ref s_SUB)) (E_SUB : Exa Z h0 s_SUB "com/example/hauora_id/hauoraid/model/Claim") (S_EMAIL : Sta Z h0 "com/example/hauora_id/hauoraid/model/Claim" "EMAIL" "Lcom/example/hauora_id/hauoraid/model/Claim;" (.ref s_EMAIL)) (E_EMAIL : Exa Z h0 s_EMAIL "com/example/hauora_id/hauoraid/model/Claim") (S_GIVEN_NAME : Sta Z h0 "com/example/hauora_id/hauoraid/model/Claim" "GIVEN_NAME" "Lcom/example/hauora_id/hauoraid/model/Claim;" (.ref s_GIVEN_NAME)) (E_GIVEN_NAME : Exa Z h0 s_GIVEN_NAME "com/example/hauora_id/hauoraid/model/Claim") (S_MIDDLE_NAME : Sta Z h0 "com/example/hauora_id/hauoraid/model/Claim" "MIDDLE_NAME" "Lcom/example/hauora_id/hauoraid/model/Claim;" (.ref s_MIDDLE_NAME)) (E_MIDDLE_NAME : Exa Z h0 s_MIDDLE_NAME "com/example/hauora_id/hauoraid/model/Claim") (S_FAMILY_NAME : Sta Z h0 "com/example/hauora_id/hauoraid/model/Claim" "FAMILY_NAME" "Lcom/example/hauora_id/hauoraid/model/Claim;" (.ref s_FAMILY_NAME)) (E_FAMILY_NAME : Exa Z h0 s_FAMILY_NAME "com/example/hauora_id/hauoraid/model/Claim") (S_NICKNAME : Sta Z h0 "com/example/hauora_id/hauoraid/model/Claim" "NICKNAME" "Lcom/example/hauora_id/hauoraid/model/Claim;" (.ref s_NICKNAME)) (E_NICKNAME : Exa Z h0 s_NICKNAME "com/example/hauora_id/hauoraid/model/Claim") (S_BIRTHDATE : Sta Z h0 "com/example/hauora_id/hauoraid/model/Claim" "BIRTHDATE" "Lcom/example/hauora_id/hauoraid/model/Claim;" (.ref s_BIRTHDATE)) (E_BIRTHDATE : Exa Z h0 s_BIRTHDATE "com/example/hauora_id/hauoraid/model/Claim") (S_MOBILE_NUMBER : Sta Z h0 "com/example/hauora_id/hauoraid/model/Claim" "MOBILE_NUMBER" "Lcom/example/hauora_id/hauoraid/model/Claim;" (.ref s_MOBILE_NUMBER)) (E_MOBILE_NUMBER : Exa Z h0 s_MOBILE_NUMBER "com/example/hauora_id/hauoraid/model/Claim") (S_NHI : Sta Z h0 "com/example/hauora_id/hauoraid/model/Claim" "NHI" "Lcom/example/hauora_id/hauoraid/model/Claim;" (.ref s_NHI)) (E_NHI : Exa Z h0 s_NHI "com/example/hauora_id/hauoraid/model/Claim") (S_CPN : Sta Z h0 "com/example/hauora_id/hauoraid/model/Claim" "CPN" "Lcom/example/hauora_id/hauoraid/model/Claim;" (.ref s_CPN)) (E_CPN : Exa Z h0 s_CPN "com/example/hauora_id/hauoraid/model/Claim") (S_RELATIONSHIPS : Sta Z h0 "com/example/hauora_id/hauoraid/model/Claim" "RELATIONSHIPS" "Lcom/example/hauora_id/hauoraid/model/Claim;" (.ref s_RELATIONSHIPS)) (E_RELATIONSHIPS : Exa Z h0 s_RELATIONSHIPS "com/example/hauora_id/hauoraid/model/Claim") (S_CONFIDENCE_LEVEL : Sta Z h0 "com/example/hauora_id/hauoraid/model/Claim" "CONFIDENCE_LEVEL" "Lcom/example/hauora_id/hauoraid/model/Claim;" (.ref s_CONFIDENCE_LEVEL)) (E_CONFIDENCE_LEVEL : Exa Z h0 s_CONFIDENCE_LEVEL "com/example/hauora_id/hauoraid/model/Claim") (S_ALWAYS : Sta Z h0 "com/example/hauora_id/hauoraid/model/Claim$Release" "ALWAYS" "Lcom/example/hauora_id/hauoraid/model/Claim$Release;" (.ref s_ALWAYS)) (E_ALWAYS : Exa Z h0 s_ALWAYS "com/example/hauora_id/hauoraid/model/Claim$Release") (F_SUB_release : Fld Z h0 s_SUB "com/example/hauora_id/hauoraid/model/Claim" "release" "Lcom/example/hauora_id/hauoraid/model/Claim$Release;" (.ref s_ALWAYS)) (S_USERINFO : Sta Z h0 "com/example/hauora_id/hauoraid/model/Claim$Release" "USERINFO" "Lcom/example/hauora_id/hauoraid/model/Claim$Release;" (.ref s_USERINFO)) (E_USERINFO : Exa Z h0 s_USERINFO "com/example/hauora_id/hauoraid/model/Claim$Release") (F_MOBILE_NUMBER_release : Fld Z h0 s_MOBILE_NUMBER "com/example/hauora_id/hauoraid/model/Claim" "release" "Lcom/example/hauora_id/hauoraid/model/Claim$Release;" (.ref s_USERINFO)) (F_USERINFO_ordinal : Fld Z h0 s_USERINFO "java/lang/Enum" "ordinal" "I" (.int 2)) (F_ALWAYS_ordinal : Fld Z h0 s_ALWAYS "java/lang/Enum" "ordinal" "I" (.int 0)) (S_ID_TOKEN : Sta Z h0 "com/example/hauora_id/hauoraid/model/Claim$Release" "ID_TOKEN" "Lcom/example/hauora_id/hauoraid/model/Claim$Release;" (.ref s_ID_TOKEN)) (E_ID_TOKEN : Exa Z h0 s_ID_TOKEN "com/example/hauora_id/hauoraid/model/Claim$Release") (F_NICKNAME_release : Fld Z h0 s_NICKNAME "com/example/hauora_id/hauoraid/model/Claim" "release" "Lcom/example/hauora_id/hauoraid/model/Claim$Release;" (.ref s_ID_TOKEN)) (F_ID_TOKEN_ordinal : Fld Z h0 s_ID_TOKEN "java/lang/Enum" "ordinal" "I" (.int 1)) (F_MIDDLE_NAME_release : Fld Z h0 s_MIDDLE_NAME "com/example/hauora_id/hauoraid/model/Claim" "release" "Lcom/example/hauora_id/hauoraid/model/Claim$Release;" (.ref s_ID_TOKEN)) (F_CPN_release : Fld Z h0 s_CPN "com/example/hauora_id/hauoraid/model/Claim" "release" "Lcom/example/hauora_id/hauoraid/model/Claim$Release;" (.ref s_USERINFO)) (F_EMAIL_release : Fld Z h0 s_EMAIL "com/example/hauora_id/hauoraid/model/Claim" "release" "Lcom/example/hauora_id/hauoraid/model/Claim$Release;" (.ref s_ID_TOKEN)) (F_FAMILY_NAME_release : Fld Z h0 s_FAMILY_NAME "com/example/hauora_id/hauoraid/model/Claim" "release" "Lcom/example/hauora_id/hauoraid/model/Claim$Release;" (.ref s_ID_TOKEN)) (F_CONFIDENCE_LEVEL_release : Fld Z h0 s_CONFIDENCE_LEVEL "com/example/hauora_id/hauoraid/model/Claim" "release" "Lcom/example/hauora_id/hauoraid/model/Claim$Release;" (.ref s_ALWAYS)) (F_GIVEN_NAME_release : Fld Z h0 s_GIVEN_NAME "com/example/hauora_id/hauoraid/model/Claim" "release" "Lcom/example/hauora_id/hauoraid/model/Claim$Release;" (.ref s_ID_TOKEN)) (F_BIRTHDATE_release : Fld Z h0 s_BIRTHDATE "com/example/hauora_id/hauoraid/model/Claim" "release" "Lcom/example/hauora_id/hauoraid/model/Claim$Release;" (.ref s_USERINFO)) (F_NHI_release : Fld Z h0 s_NHI "com/example/hauora_id/hauoraid/model/Claim" "release" "Lcom/example/hauora_id/hauoraid/model/Claim$Release;" (.ref s_USERINFO)) (F_RELATIONSHIPS_release : Fld Z h0 s_RELATIONSHIPS "com/example/hauora_id/hauoraid/model/Claim" "release" "Lcom/example/hauora_id/hauoraid/model/Claim$Release;" (.ref s_USERINFO)) (hkp : ∀ (b : Addr) (cl : Cell), Z.heap[b]? = some cl → h0[b]? = some cl) (hcn7 : Jvm.Lit.constHeld Z "java/lang/String" 7) (hcw : Jvm.Lit.compactW.before aZ Z = true) (S_COMPACT_STRINGS : Sta Z h0 "java/lang/String" "COMPACT_STRINGS" "Z" (.int s_COMPACT_STRINGS)) (hcs : ¬ s_COMPACT_STRINGS = (0 : Int32)) :
    MetFree l x (head1 (Jvm.Cond.code x code maxLocals ret :: ws) room_1) (fun a U => a = #[(.int p0), (.int p1), (.int p2), (.int p3), (.int p4)] ∧ Z.Warmed39 U.vm ∧ U.heap = h0 ∧ IB Z U.vm []) (fun _ _ _ _ _ => True) (fun _ U o U' => ∃ v L, o = .returned v ∧ Q0 Z n0 p0 p1 p2 p3 p4 s_SUB s_EMAIL s_GIVEN_NAME s_MIDDLE_NAME s_FAMILY_NAME s_NICKNAME s_BIRTHDATE s_MOBILE_NUMBER s_NHI s_CPN s_RELATIONSHIPS s_CONFIDENCE_LEVEL s_ALWAYS s_USERINFO s_ID_TOKEN s_COMPACT_STRINGS h0 v U'.heap L ∧ ReturnedEndW U o U' L room_1.cells room_1.slots) := by
  refine MetFree.of_bodySF (plainFor_of_name pn_200) hisR ?_
  intro p e s m args below meth c s₁ Bd hml0 hP hK
  obtain ⟨rfl, hZ, hh, IB0⟩ := hP
  have hx := Bd.exec
  have hby := Bd.bytes
  have hml : c.maxLocals = 12 := hml0
  have hown : s.vm.findClass "com/example/hauora_id/hauoraid/model/ConsentToEverythingPinLaw" = some m.cls := findClass_of_methodNamed Bd.named
  have hnm := (name_of_methodNamed Bd.named Bd.method).1
  have X0 : Stand p l e room_1 (s.setVm s.vm) m #[(.int p0), (.int p1), (.int p2), (.int p3), (.int p4)] below meth c s₁ [] 0 0 := Stand.of_body Bd
  have e0 : s₁.heap = h0 := by rw [← hh, Bd.state]; rfl
  have N0 := Fr.nil n0
  have K0 : Keep h0 h0 [] := Keep.refl _ _
  obtain ⟨En, hEn⟩ : ∃ z, z = (s₁.setTop (entryFrame m #[(.int p0), (.int p1), (.int p2), (.int p3), (.int p4)] maxLocals)) := ⟨_, rfl⟩
  have go0 : Go p.tables e below s₁ (mkF m 0 #[iv p0, iv p1, iv p2, iv p3, iv p4, .unset, .unset, .unset, .unset, .unset, .unset, .unset] []) En := fun t k => by subst hEn; exact castTop (ef0 m p0 p1 p2 p3 p4) k
  have hS0 : s.Since s.vm s.heap.size := (State.WarmedH.refl s).since _
  have hk0 : s.heap.size ≤ h0.size := by rw [← hh]; exact Nat.le_refl _
  have hkS : ∀ (b : Addr) (cl : Cell), Z.heap[b]? = some cl → s.heap[b]? = some cl := fun b cl q => by rw [hh]; exact hkp b cl q
  have go1 : Go p.tables e below s₁ (mkF m 5 #[iv p0, iv p1, iv p2, iv p3, iv p4, iv (p0 &&& (3 : Int32)), .unset, .unset, .unset, .unset, .unset, .unset] []) En := by
    intro t k
    refine go0 _ ?_
    refine XS.iloadN X0.here hx rfl (hb hby at_0) rfl ?_
    refine XS.iconst X0.here hx rfl (hb hby at_1) ?_
    refine XS.iand X0.here hx rfl (hb hby at_2) rfl ?_
    show Steps _ _ _ (s₁.setTop (mkF m 3 #[iv p0, iv p1, iv p2, iv p3, iv p4, .unset, .unset, .unset, .unset, .unset, .unset, .unset] [(.int (p0 &&& (3 : Int32)))])) _
    refine XS.istore X0.here hx rfl (hb hby at_3) rfl (l' := #[iv p0, iv p1, iv p2, iv p3, iv p4, iv (p0 &&& (3 : Int32)), .unset, .unset, .unset, .unset, .unset, .unset]) rfl ?_
    exact k
  by_cases hs2 : (p0 &&& (3 : Int32)) = (0 : Int32)
  · have go3 : Go p.tables e below s₁ (mkF m 5 (L0_0 p0 p1 p2 p3 p4) []) En := by
      have q : Go p.tables e below s₁ (mkF m  5 #[iv p0, iv p1, iv p2, iv p3, iv p4, iv (p0 &&& (3 : Int32)), .unset, .unset, .unset, .unset, .unset, .unset] []) En := go1
      rw [hs2] at q
      exact q
    have go4 : Go p.tables e below s₁ (mkF m 7 (L0_0 p0 p1 p2 p3 p4) [(.int 0)]) En := by
      intro t k
      refine go3 _ ?_
      refine XS.iload X0.here hx rfl (hb hby at_5) rfl ?_
      exact k
    obtain ⟨T5, h5, k5, X5, e5, E5, A5, st5⟩ := newP X0 hx hZ (hw _ (mi 0 rfl)) e0 (g := (mkF m 7 (L0_0 p0 p1 p2 p3 p4) [(.int 0)])) rfl (hb hby at_7) rfl (by decide) (cap := 0) (by decide) (by decide) (by decide) (by decide)
    obtain ⟨b5, g5⟩ : ∃ z, z = h0.size := ⟨_, rfl⟩
    rw [← g5] at A5 st5
    have ne6 : s_SUB ≠ b5 := Nat.ne_of_lt (Nat.lt_of_lt_of_le E_SUB.lt (Nat.le_of_eq g5.symm))
    have ne7 : s_EMAIL ≠ b5 := Nat.ne_of_lt (Nat.lt_of_lt_of_le E_EMAIL.lt (Nat.le_of_eq g5.symm))
    have ne8 : s_GIVEN_NAME ≠ b5 := Nat.ne_of_lt (Nat.lt_of_lt_of_le E_GIVEN_NAME.lt (Nat.le_of_eq g5.symm))
    have ne9 : s_MIDDLE_NAME ≠ b5 := Nat.ne_of_lt (Nat.lt_of_lt_of_le E_MIDDLE_NAME.lt (Nat.le_of_eq g5.symm))
    have ne10 : s_FAMILY_NAME ≠ b5 := Nat.ne_of_lt (Nat.lt_of_lt_of_le E_FAMILY_NAME.lt (Nat.le_of_eq g5.symm))
    have ne11 : s_NICKNAME ≠ b5 := Nat.ne_of_lt (Nat.lt_of_lt_of_le E_NICKNAME.lt (Nat.le_of_eq g5.symm))
    have ne12 : s_BIRTHDATE ≠ b5 := Nat.ne_of_lt (Nat.lt_of_lt_of_le E_BIRTHDATE.lt (Nat.le_of_eq g5.symm))
    have ne13 : s_MOBILE_NUMBER ≠ b5 := Nat.ne_of_lt (Nat.lt_of_lt_of_le E_MOBILE_NUMBER.lt (Nat.le_of_eq g5.symm))
    have ne14 : s_NHI ≠ b5 := Nat.ne_of_lt (Nat.lt_of_lt_of_le E_NHI.lt (Nat.le_of_eq g5.symm))
    have ne15 : s_CPN ≠ b5 := Nat.ne_of_lt (Nat.lt_of_lt_of_le E_CPN.lt (Nat.le_of_eq g5.symm))
    have ne16 : s_RELATIONSHIPS ≠ b5 := Nat.ne_of_lt (Nat.lt_of_lt_of_le E_RELATIONSHIPS.lt (Nat.le_of_eq g5.symm))
    have ne17 : s_CONFIDENCE_LEVEL ≠ b5 := Nat.ne_of_lt (Nat.lt_of_lt_of_le E_CONFIDENCE_LEVEL.lt (Nat.le_of_eq g5.symm))
    have low5 : n0 ≤ b5 := Nat.le_trans Z0 (Nat.le_of_eq g5.symm)
    have fsh5 : h0.size ≤ b5 := Nat.le_trans K0.1 (Nat.le_of_eq g5.symm)
    have K5 : Keep h0 h5 [] := K0.ext E5
    have Zs5 : n0 ≤ h5.size := Nat.le_trans Z0 E5.1
    have hk5 : s.heap.size ≤ h5.size := Nat.le_trans hk0 E5.1
    have go18 := gap go4 st5
    have F19 : Arv Z h5 b5 k5 .char (0 : Int32) [] (.int 0) := (Arv.new A5 (by decide)).pad (pad_rep [] (.int 0) 0)
    have go20 : Go p.tables e below T5 (mkF m 58 (L0_1 p0 p1 p2 p3 p4 b5) []) En := by
      intro t k
      refine go18 _ ?_
      refine XS.astore X5.here hx rfl (hb hby at_9) rfl rfl (l' := (L0_1 p0 p1 p2 p3 p4 b5)) rfl ?_
      refine XS.iload X5.here hx rfl (hb hby at_11) rfl ?_
      refine XS.ifYes X5.here hx rfl (pc0 := 13) (pc' := 26) rfl (hb hby at_13) rfl (XT.i0_le_t (by decide : ¬ ((0 : Int32) < (0 : Int32)))) (by decide) (by decide) ?_
      show Steps _ _ _ (T5.setTop (mkF m 26 (L0_1 p0 p1 p2 p3 p4 b5) [])) _
      refine XS.iload X5.here hx rfl (hb hby at_26) rfl ?_
      refine XS.iconst X5.here hx rfl (hb hby at_28) ?_
      refine XS.icmpYes X5.here hx rfl (pc0 := 29) (pc' := 42) rfl (hb hby at_29) rfl (XT.ii_le_t (by decide : ¬ ((1 : Int32) < (0 : Int32)))) (by decide) (by decide) ?_
      show Steps _ _ _ (T5.setTop (mkF m 42 (L0_1 p0 p1 p2 p3 p4 b5) [])) _
      refine XS.iload X5.here hx rfl (hb hby at_42) rfl ?_
      refine XS.iconst X5.here hx rfl (hb hby at_44) ?_
      refine XS.icmpYes X5.here hx rfl (pc0 := 45) (pc' := 58) rfl (hb hby at_45) rfl (XT.ii_le_t (by decide : ¬ ((2 : Int32) < (0 : Int32)))) (by decide) (by decide) ?_
      show Steps _ _ _ (T5.setTop (mkF m 58 (L0_1 p0 p1 p2 p3 p4 b5) [])) _
      exact k
    obtain ⟨T21, h21, X21, e21, E21, A21, D21, -, st21⟩ := newO X5 hx hZ hown (hw _ (mi 1 rfl)) (hw _ (mi 2 rfl)) (hw _ (mi 3 rfl)) e5 (g := (mkF m 58 (L0_1 p0 p1 p2 p3 p4 b5) [])) rfl (hb hby at_58) (by decide) (by decide)
    obtain ⟨b21, g21⟩ : ∃ z, z = h5.size := ⟨_, rfl⟩
    rw [← g21] at A21 D21 st21
    have ne22 : s_SUB ≠ b21 := Nat.ne_of_lt (Nat.lt_of_lt_of_le (E_SUB.keep K5).lt (Nat.le_of_eq g21.symm))
    have ne23 : s_EMAIL ≠ b21 := Nat.ne_of_lt (Nat.lt_of_lt_of_le (E_EMAIL.keep K5).lt (Nat.le_of_eq g21.symm))
    have ne24 : s_GIVEN_NAME ≠ b21 := Nat.ne_of_lt (Nat.lt_of_lt_of_le (E_GIVEN_NAME.keep K5).lt (Nat.le_of_eq g21.symm))
    have ne25 : s_MIDDLE_NAME ≠ b21 := Nat.ne_of_lt (Nat.lt_of_lt_of_le (E_MIDDLE_NAME.keep K5).lt (Nat.le_of_eq g21.symm))
    have ne26 : s_FAMILY_NAME ≠ b21 := Nat.ne_of_lt (Nat.lt_of_lt_of_le (E_FAMILY_NAME.keep K5).lt (Nat.le_of_eq g21.symm))
    have ne27 : s_NICKNAME ≠ b21 := Nat.ne_of_lt (Nat.lt_of_lt_of_le (E_NICKNAME.keep K5).lt (Nat.le_of_eq g21.symm))
    have ne28 : s_BIRTHDATE ≠ b21 := Nat.ne_of_lt (Nat.lt_of_lt_of_le (E_BIRTHDATE.keep K5).lt (Nat.le_of_eq g21.symm))
    have ne29 : s_MOBILE_NUMBER ≠ b21 := Nat.ne_of_lt (Nat.lt_of_lt_of_le (E_MOBILE_NUMBER.keep K5).lt (Nat.le_of_eq g21.symm))
    have ne30 : s_NHI ≠ b21 := Nat.ne_of_lt (Nat.lt_of_lt_of_le (E_NHI.keep K5).lt (Nat.le_of_eq g21.symm))
    have ne31 : s_CPN ≠ b21 := Nat.ne_of_lt (Nat.lt_of_lt_of_le (E_CPN.keep K5).lt (Nat.le_of_eq g21.symm))
    have ne32 : s_RELATIONSHIPS ≠ b21 := Nat.ne_of_lt (Nat.lt_of_lt_of_le (E_RELATIONSHIPS.keep K5).lt (Nat.le_of_eq g21.symm))
    have ne33 : s_CONFIDENCE_LEVEL ≠ b21 := Nat.ne_of_lt (Nat.lt_of_lt_of_le (E_CONFIDENCE_LEVEL.keep K5).lt (Nat.le_of_eq g21.symm))
    have ne34 : b5 ≠ b21 := Nat.ne_of_lt (Nat.lt_of_lt_of_le F19.lt (Nat.le_of_eq g21.symm))
    have low21 : n0 ≤ b21 := Nat.le_trans Zs5 (Nat.le_of_eq g21.symm)
    have fsh21 : h0.size ≤ b21 := Nat.le_trans K5.1 (Nat.le_of_eq g21.symm)
    have K21 : Keep h0 h21 [] := K5.ext E21
    have Zs21 : n0 ≤ h21.size := Nat.le_trans Zs5 E21.1
    have hk21 : s.heap.size ≤ h21.size := Nat.le_trans hk5 E21.1
    have go35 := gap go20 st21
    have F36 := F19.ext E21
    have F37 : Fld Z h21 b21 "java/lang/String" "value" "[B" .null := D21 (Or.inr (hw _ (mi 16 rfl))) (ty := (.array .byte)) (by decide)
    have F38 : Fld Z h21 b21 "java/lang/String" "coder" "B" (.int 0) := D21 (Or.inr (hw _ (mi 17 rfl))) (ty := .byte) (by decide)
    have go39 : Go p.tables e below T21 (mkF m 64 (L0_1 p0 p1 p2 p3 p4 b5) [(.ref b5), (.ref b21), (.ref b21)]) En := by
      intro t k
      refine go35 _ ?_
      refine XS.dup X21.here hx rfl (hb hby at_61) rfl rfl ?_
      refine XS.aload X21.here hx rfl (hb hby at_62) rfl rfl ?_
      exact k
    obtain ⟨_, _, ⟨T40, L40, k40, n40⟩, -, X40q, hS40q, hg40, ⟨Lc40, hQ40, l40, y40, z40⟩, st40⟩ := X21.specialBackS hx (y := (⟨"java/lang/String", "<init>", "([C)V"⟩ : MethodName)) rfl hown (mvT hZ (hw _ (mi 4 rfl))) (mvT hZ (hw _ (mi 5 rfl))) (mvT hZ (hw _ (mi 6 rfl))) (by decide) (own_backOfSI (W := 1) (rmiBn0 l Z aZ hw [] b21 b5 k5 h21 n0 Zs21 A21 F37 F38 low21 F36 (fun b cl q => K21.2.1 b cl (hkp b cl q) nin0) hcn7 hcw) hZ (hw _ (mi 6 rfl)) (hw _ (mi 3 rfl)) (by decide) (by decide) IB0) (g := (mkF m 64 (L0_1 p0 p1 p2 p3 p4 b5) [(.ref b5), (.ref b21), (.ref b21)])) rfl (by rw [hml]; rfl) (Steps.refl _) (a := b21) (argsL := [(.ref b5)]) (rest := [(.ref b21)]) (lenOf pd_180 rfl) rfl (by show 2 * 0 + _ ≤ _; exact Nat.le_of_eq rfl) (hb hby at_64) (fun _ _ => ⟨rfl, e21, (by decide : 2 + 2 ≤ _), (by decide : 4 + 4 ≤ _)⟩)
    dsimp only [Pt.U, Pt.locs, Pt.cells, Pt.slots] at X40q hS40q hg40 l40 y40 z40 st40 hQ40
    subst l40 y40 z40
    have hk40q : s.heap.size ≤ T21.heap.size := by rw [e21]; exact hk21
    obtain ⟨X40, hS40, hZ40, hown40⟩ := rebS hS0 hk40q X40q hS40q hg40 hZ hown
    have hk40r : T40.heap.size ≤ T40.heap.size := Nat.le_refl _
    obtain ⟨rfl, N40q, K40q, G40_0, G40_1⟩ := hQ40
    have N40 := Fr.app N0 N40q
    have K40 : Keep h0 T40.heap [] := K21.trans K40q (allS (Or.inr fsh21) all0)
    have Zs40 : n0 ≤ T40.heap.size := Nat.le_trans Zs21 K40q.1
    have hk40 : s.heap.size ≤ T40.heap.size := Nat.le_trans hk21 K40q.1
    have F41 := F36.keep K40q (ninS ne34 nin0)
    have F42 := A21.keep K40q
    have go43 := gapT go39 st40
    have go44 : Go p.tables e below T40 (mkF m 71 (L0_2 p0 p1 p2 p3 p4 b5 b21) [(.int 12)]) En := by
      intro t k
      refine go43 _ ?_
      refine XS.astore X40.here hx rfl (hb hby at_67) rfl rfl (l' := (L0_2 p0 p1 p2 p3 p4 b5 b21)) rfl ?_
      refine XS.bipush X40.here hx rfl (hb hby at_69) ?_
      exact k
    obtain ⟨T45, h45, k45, X45, e45, E45, A45, O45, st45⟩ := newR X40 hx hZ40 hown40 (hw _ (mi 22 rfl)) (hw _ (mi 23 rfl)) rfl (g := (mkF m 71 (L0_2 p0 p1 p2 p3 p4 b5 b21) [(.int 12)])) rfl (hb hby at_71) rfl (by decide) (cap := 12) (by decide) (by decide) (by decide) (by decide)
    obtain ⟨b45, g45⟩ : ∃ z, z = T40.heap.size := ⟨_, rfl⟩
    rw [← g45] at A45 st45
    have ne46 : s_SUB ≠ b45 := Nat.ne_of_lt (Nat.lt_of_lt_of_le (E_SUB.keep K40).lt (Nat.le_of_eq g45.symm))
    have ne47 : s_EMAIL ≠ b45 := Nat.ne_of_lt (Nat.lt_of_lt_of_le (E_EMAIL.keep K40).lt (Nat.le_of_eq g45.symm))
    have ne48 : s_GIVEN_NAME ≠ b45 := Nat.ne_of_lt (Nat.lt_of_lt_of_le (E_GIVEN_NAME.keep K40).lt (Nat.le_of_eq g45.symm))
    have ne49 : s_MIDDLE_NAME ≠ b45 := Nat.ne_of_lt (Nat.lt_of_lt_of_le (E_MIDDLE_NAME.keep K40).lt (Nat.le_of_eq g45.symm))
    have ne50 : s_FAMILY_NAME ≠ b45 := Nat.ne_of_lt (Nat.lt_of_lt_of_le (E_FAMILY_NAME.keep K40).lt (Nat.le_of_eq g45.symm))
    have ne51 : s_NICKNAME ≠ b45 := Nat.ne_of_lt (Nat.lt_of_lt_of_le (E_NICKNAME.keep K40).lt (Nat.le_of_eq g45.symm))
    have ne52 : s_BIRTHDATE ≠ b45 := Nat.ne_of_lt (Nat.lt_of_lt_of_le (E_BIRTHDATE.keep K40).lt (Nat.le_of_eq g45.symm))
    have ne53 : s_MOBILE_NUMBER ≠ b45 := Nat.ne_of_lt (Nat.lt_of_lt_of_le (E_MOBILE_NUMBER.keep K40).lt (Nat.le_of_eq g45.symm))
    have ne54 : s_NHI ≠ b45 := Nat.ne_of_lt (Nat.lt_of_lt_of_le (E_NHI.keep K40).lt (Nat.le_of_eq g45.symm))
    have ne55 : s_CPN ≠ b45 := Nat.ne_of_lt (Nat.lt_of_lt_of_le (E_CPN.keep K40).lt (Nat.le_of_eq g45.symm))
    have ne56 : s_RELATIONSHIPS ≠ b45 := Nat.ne_of_lt (Nat.lt_of_lt_of_le (E_RELATIONSHIPS.keep K40).lt (Nat.le_of_eq g45.symm))
    have ne57 : s_CONFIDENCE_LEVEL ≠ b45 := Nat.ne_of_lt (Nat.lt_of_lt_of_le (E_CONFIDENCE_LEVEL.keep K40).lt (Nat.le_of_eq g45.symm))
    have ne58 : b5 ≠ b45 := Nat.ne_of_lt (Nat.lt_of_lt_of_le F41.lt (Nat.le_of_eq g45.symm))
    have ne59 : b21 ≠ b45 := Nat.ne_of_lt (Nat.lt_of_lt_of_le G40_0.lt (Nat.le_of_eq g45.symm))
    have low45 : n0 ≤ b45 := Nat.le_trans Zs40 (Nat.le_of_eq g45.symm)
    have fsh45 : h0.size ≤ b45 := Nat.le_trans K40.1 (Nat.le_of_eq g45.symm)
    have K45 : Keep h0 h45 [] := K40.ext E45
    have Zs45 : n0 ≤ h45.size := Nat.le_trans Zs40 E45.1
    have hk45 : T40.heap.size ≤ h45.size := Nat.le_trans hk40r E45.1
    have go60 := gap go44 st45
    have F61 := F41.ext E45
    have F62 := G40_0.ext E45
    have F63 := G40_1.ext E45
    have F64 : Arv Z h45 b45 k45 (.object "com/example/hauora_id/hauoraid/model/Claim") (12 : Int32) [.null, .null, .null, .null, .null, .null, .null, .null, .null, .null, .null, .null] .null := (Arv.new A45 (by decide)).pad (pad_rep [] .null 12)
    have go65 : Go p.tables e below T45 (mkF m 76 (L0_2 p0 p1 p2 p3 p4 b5 b21) [(.int 0), (.ref b45), (.ref b45)]) En := by
      intro t k
      refine go60 _ ?_
      refine XS.dup X45.here hx rfl (hb hby at_74) rfl rfl ?_
      refine XS.iconst X45.here hx rfl (hb hby at_75) ?_
      exact k
    obtain ⟨T66, X66, e66, st66⟩ := getS2 X45 hx hZ40 hown40 (host := "") (Or.inl (hw _ (mi 24 rfl))) Via.refl e45 (own_sta_keep S_SUB K45 all0) (g := (mkF m 76 (L0_2 p0 p1 p2 p3 p4 b5 b21) [(.int 0), (.ref b45), (.ref b45)])) rfl (hb hby at_76)
    have go67 := gap go65 st66
    obtain ⟨cl69, Ar69, q69, S69, N69, H69, G69⟩ := id F64
    obtain ⟨T68, h68, X68, e68, W68, st68⟩ := stR X66 hx hZ40 e66 Ar69 (j := (0 : Int32)) (inb_of S69 ⟨by decide, by decide⟩) rfl (Sto.ofV Ar69 q69 O45 (Ins.self (E_SUB.keep K45))) (g := (mkF m 79 (L0_2 p0 p1 p2 p3 p4 b5 b21) [(.ref s_SUB), (.int 0), (.ref b45), (.ref b45)])) rfl rfl (hb hby at_79)
    have go70 := gap go67 st68
    have N68 := Fr.snoc X68 N40 low45
    have K68 : Keep h0 h68 [] := K45.wr W68 (Or.inr fsh45)
    have Zs68 : n0 ≤ h68.size := Nat.le_trans Zs45 (Keep.of_wr W68).1
    have hk68 : T40.heap.size ≤ h68.size := Nat.le_trans hk45 (Keep.of_wr W68).1
    have F71 := F61.other W68 ne58
    have F72 := F62.wr W68
    have F73 := F63.other W68 (Or.inl ne59)
    have F74 : Arv Z h68 b45 k45 (.object "com/example/hauora_id/hauoraid/model/Claim") (12 : Int32) [(.ref s_SUB), .null, .null, .null, .null, .null, .null, .null, .null, .null, .null, .null] .null := Arv.set Ar69 q69 S69 N69 H69 G69 rfl W68 0 rfl (Nat.le_of_ble_eq_true rfl)
    have go75 : Go p.tables e below T68 (mkF m 82 (L0_2 p0 p1 p2 p3 p4 b5 b21) [(.int 1), (.ref b45), (.ref b45)]) En := by
      intro t k
      refine go70 _ ?_
      refine XS.dup X68.here hx rfl (hb hby at_80) rfl rfl ?_
      refine XS.iconst X68.here hx rfl (hb hby at_81) ?_
      exact k
    obtain ⟨T76, X76, e76, st76⟩ := getS2 X68 hx hZ40 hown40 (host := "") (Or.inl (hw _ (mi 28 rfl))) Via.refl e68 (own_sta_keep S_EMAIL K68 all0) (g := (mkF m 82 (L0_2 p0 p1 p2 p3 p4 b5 b21) [(.int 1), (.ref b45), (.ref b45)])) rfl (hb hby at_82)
    have go77 := gap go75 st76
    obtain ⟨cl79, Ar79, q79, S79, N79, H79, G79⟩ := id F74
    obtain ⟨T78, h78, X78, e78, W78, st78⟩ := stR X76 hx hZ40 e76 Ar79 (j := (1 : Int32)) (inb_of S79 ⟨by decide, by decide⟩) rfl (Sto.ofV Ar79 q79 O45 (Ins.self (E_EMAIL.keep K68))) (g := (mkF m 85 (L0_2 p0 p1 p2 p3 p4 b5 b21) [(.ref s_EMAIL), (.int 1), (.ref b45), (.ref b45)])) rfl rfl (hb hby at_85)
    have go80 := gap go77 st78
    have N78 := Fr.snoc X78 N68 low45
    have K78 : Keep h0 h78 [] := K68.wr W78 (Or.inr fsh45)
    have Zs78 : n0 ≤ h78.size := Nat.le_trans Zs68 (Keep.of_wr W78).1
    have hk78 : T40.heap.size ≤ h78.size := Nat.le_trans hk68 (Keep.of_wr W78).1
    have F81 := F71.other W78 ne58
    have F82 := F72.wr W78
    have F83 := F73.other W78 (Or.inl ne59)
    have F84 : Arv Z h78 b45 k45 (.object "com/example/hauora_id/hauoraid/model/Claim") (12 : Int32) [(.ref s_SUB), (.ref s_EMAIL), .null, .null, .null, .null, .null, .null, .null, .null, .null, .null] .null := Arv.set Ar79 q79 S79 N79 H79 G79 rfl W78 1 rfl (Nat.le_of_ble_eq_true rfl)
    have go85 : Go p.tables e below T78 (mkF m 88 (L0_2 p0 p1 p2 p3 p4 b5 b21) [(.int 2), (.ref b45), (.ref b45)]) En := by
      intro t k
      refine go80 _ ?_
      refine XS.dup X78.here hx rfl (hb hby at_86) rfl rfl ?_
      refine XS.iconst X78.here hx rfl (hb hby at_87) ?_
      exact k
    obtain ⟨T86, X86, e86, st86⟩ := getS2 X78 hx hZ40 hown40 (host := "") (Or.inl (hw _ (mi 30 rfl))) Via.refl e78 (own_sta_keep S_GIVEN_NAME K78 all0) (g := (mkF m 88 (L0_2 p0 p1 p2 p3 p4 b5 b21) [(.int 2), (.ref b45), (.ref b45)])) rfl (hb hby at_88)
    have go87 := gap go85 st86
    obtain ⟨cl89, Ar89, q89, S89, N89, H89, G89⟩ := id F84
    obtain ⟨T88, h88, X88, e88, W88, st88⟩ := stR X86 hx hZ40 e86 Ar89 (j := (2 : Int32)) (inb_of S89 ⟨by decide, by decide⟩) rfl (Sto.ofV Ar89 q89 O45 (Ins.self (E_GIVEN_NAME.keep K78))) (g := (mkF m 91 (L0_2 p0 p1 p2 p3 p4 b5 b21) [(.ref s_GIVEN_NAME), (.int 2), (.ref b45), (.ref b45)])) rfl rfl (hb hby at_91)
    have go90 := gap go87 st88
    have N88 := Fr.snoc X88 N78 low45
    have K88 : Keep h0 h88 [] := K78.wr W88 (Or.inr fsh45)
    have Zs88 : n0 ≤ h88.size := Nat.le_trans Zs78 (Keep.of_wr W88).1
    have hk88 : T40.heap.size ≤ h88.size := Nat.le_trans hk78 (Keep.of_wr W88).1
    have F91 := F81.other W88 ne58
    have F92 := F82.wr W88
    have F93 := F83.other W88 (Or.inl ne59)
    have F94 : Arv Z h88 b45 k45 (.object "com/example/hauora_id/hauoraid/model/Claim") (12 : Int32) [(.ref s_SUB), (.ref s_EMAIL), (.ref s_GIVEN_NAME), .null, .null, .null, .null, .null, .null, .null, .null, .null] .null := Arv.set Ar89 q89 S89 N89 H89 G89 rfl W88 2 rfl (Nat.le_of_ble_eq_true rfl)
    have go95 : Go p.tables e below T88 (mkF m 94 (L0_2 p0 p1 p2 p3 p4 b5 b21) [(.int 3), (.ref b45), (.ref b45)]) En := by
      intro t k
      refine go90 _ ?_
      refine XS.dup X88.here hx rfl (hb hby at_92) rfl rfl ?_
      refine XS.iconst X88.here hx rfl (hb hby at_93) ?_
      exact k
    obtain ⟨T96, X96, e96, st96⟩ := getS2 X88 hx hZ40 hown40 (host := "") (Or.inl (hw _ (mi 32 rfl))) Via.refl e88 (own_sta_keep S_MIDDLE_NAME K88 all0) (g := (mkF m 94 (L0_2 p0 p1 p2 p3 p4 b5 b21) [(.int 3), (.ref b45), (.ref b45)])) rfl (hb hby at_94)
    have go97 := gap go95 st96
    obtain ⟨cl99, Ar99, q99, S99, N99, H99, G99⟩ := id F94
    obtain ⟨T98, h98, X98, e98, W98, st98⟩ := stR X96 hx hZ40 e96 Ar99 (j := (3 : Int32)) (inb_of S99 ⟨by decide, by decide⟩) rfl (Sto.ofV Ar99 q99 O45 (Ins.self (E_MIDDLE_NAME.keep K88))) (g := (mkF m 97 (L0_2 p0 p1 p2 p3 p4 b5 b21) [(.ref s_MIDDLE_NAME), (.int 3), (.ref b45), (.ref b45)])) rfl rfl (hb hby at_97)
    have go100 := gap go97 st98
    have N98 := Fr.snoc X98 N88 low45
    have K98 : Keep h0 h98 [] := K88.wr W98 (Or.inr fsh45)
    have Zs98 : n0 ≤ h98.size := Nat.le_trans Zs88 (Keep.of_wr W98).1
    have hk98 : T40.heap.size ≤ h98.size := Nat.le_trans hk88 (Keep.of_wr W98).1
    have F101 := F91.other W98 ne58
    have F102 := F92.wr W98
    have F103 := F93.other W98 (Or.inl ne59)
    have F104 : Arv Z h98 b45 k45 (.object "com/example/hauora_id/hauoraid/model/Claim") (12 : Int32) [(.ref s_SUB), (.ref s_EMAIL), (.ref s_GIVEN_NAME), (.ref s_MIDDLE_NAME), .null, .null, .null, .null, .null, .null, .null, .null] .null := Arv.set Ar99 q99 S99 N99 H99 G99 rfl W98 3 rfl (Nat.le_of_ble_eq_true rfl)
    have go105 : Go p.tables e below T98 (mkF m 100 (L0_2 p0 p1 p2 p3 p4 b5 b21) [(.int 4), (.ref b45), (.ref b45)]) En := by
      intro t k
      refine go100 _ ?_
      refine XS.dup X98.here hx rfl (hb hby at_98) rfl rfl ?_
      refine XS.iconst X98.here hx rfl (hb hby at_99) ?_
      exact k
    obtain ⟨T106, X106, e106, st106⟩ := getS2 X98 hx hZ40 hown40 (host := "") (Or.inl (hw _ (mi 34 rfl))) Via.refl e98 (own_sta_keep S_FAMILY_NAME K98 all0) (g := (mkF m 100 (L0_2 p0 p1 p2 p3 p4 b5 b21) [(.int 4), (.ref b45), (.ref b45)])) rfl (hb hby at_100)
    have go107 := gap go105 st106
    obtain ⟨cl109, Ar109, q109, S109, N109, H109, G109⟩ := id F104
    obtain ⟨T108, h108, X108, e108, W108, st108⟩ := stR X106 hx hZ40 e106 Ar109 (j := (4 : Int32)) (inb_of S109 ⟨by decide, by decide⟩) rfl (Sto.ofV Ar109 q109 O45 (Ins.self (E_FAMILY_NAME.keep K98))) (g := (mkF m 103 (L0_2 p0 p1 p2 p3 p4 b5 b21) [(.ref s_FAMILY_NAME), (.int 4), (.ref b45), (.ref b45)])) rfl rfl (hb hby at_103)
    have go110 := gap go107 st108
    have N108 := Fr.snoc X108 N98 low45
    have K108 : Keep h0 h108 [] := K98.wr W108 (Or.inr fsh45)
    have Zs108 : n0 ≤ h108.size := Nat.le_trans Zs98 (Keep.of_wr W108).1
    have hk108 : T40.heap.size ≤ h108.size := Nat.le_trans hk98 (Keep.of_wr W108).1
    have F111 := F101.other W108 ne58
    have F112 := F102.wr W108
    have F113 := F103.other W108 (Or.inl ne59)
    have F114 : Arv Z h108 b45 k45 (.object "com/example/hauora_id/hauoraid/model/Claim") (12 : Int32) [(.ref s_SUB), (.ref s_EMAIL), (.ref s_GIVEN_NAME), (.ref s_MIDDLE_NAME), (.ref s_FAMILY_NAME), .null, .null, .null, .null, .null, .null, .null] .null := Arv.set Ar109 q109 S109 N109 H109 G109 rfl W108 4 rfl (Nat.le_of_ble_eq_true rfl)
    have go115 : Go p.tables e below T108 (mkF m 106 (L0_2 p0 p1 p2 p3 p4 b5 b21) [(.int 5), (.ref b45), (.ref b45)]) En := by
      intro t k
      refine go110 _ ?_
      refine XS.dup X108.here hx rfl (hb hby at_104) rfl rfl ?_
      refine XS.iconst X108.here hx rfl (hb hby at_105) ?_
      exact k
    obtain ⟨T116, X116, e116, st116⟩ := getS2 X108 hx hZ40 hown40 (host := "") (Or.inl (hw _ (mi 36 rfl))) Via.refl e108 (own_sta_keep S_NICKNAME K108 all0) (g := (mkF m 106 (L0_2 p0 p1 p2 p3 p4 b5 b21) [(.int 5), (.ref b45), (.ref b45)])) rfl (hb hby at_106)
    have go117 := gap go115 st116
    obtain ⟨cl119, Ar119, q119, S119, N119, H119, G119⟩ := id F114
    obtain ⟨T118, h118, X118, e118, W118, st118⟩ := stR X116 hx hZ40 e116 Ar119 (j := (5 : Int32)) (inb_of S119 ⟨by decide, by decide⟩) rfl (Sto.ofV Ar119 q119 O45 (Ins.self (E_NICKNAME.keep K108))) (g := (mkF m 109 (L0_2 p0 p1 p2 p3 p4 b5 b21) [(.ref s_NICKNAME), (.int 5), (.ref b45), (.ref b45)])) rfl rfl (hb hby at_109)
    have go120 := gap go117 st118
    have N118 := Fr.snoc X118 N108 low45
    have K118 : Keep h0 h118 [] := K108.wr W118 (Or.inr fsh45)
    have Zs118 : n0 ≤ h118.size := Nat.le_trans Zs108 (Keep.of_wr W118).1
    have hk118 : T40.heap.size ≤ h118.size := Nat.le_trans hk108 (Keep.of_wr W118).1
    have F121 := F111.other W118 ne58
    have F122 := F112.wr W118
    have F123 := F113.other W118 (Or.inl ne59)
    have F124 : Arv Z h118 b45 k45 (.object "com/example/hauora_id/hauoraid/model/Claim") (12 : Int32) [(.ref s_SUB), (.ref s_EMAIL), (.ref s_GIVEN_NAME), (.ref s_MIDDLE_NAME), (.ref s_FAMILY_NAME), (.ref s_NICKNAME), .null, .null, .null, .null, .null, .null] .null := Arv.set Ar119 q119 S119 N119 H119 G119 rfl W118 5 rfl (Nat.le_of_ble_eq_true rfl)
    have go125 : Go p.tables e below T118 (mkF m 113 (L0_2 p0 p1 p2 p3 p4 b5 b21) [(.int 6), (.ref b45), (.ref b45)]) En := by
      intro t k
      refine go120 _ ?_
      refine XS.dup X118.here hx rfl (hb hby at_110) rfl rfl ?_
      refine XS.bipush X118.here hx rfl (hb hby at_111) ?_
      exact k
    obtain ⟨T126, X126, e126, st126⟩ := getS2 X118 hx hZ40 hown40 (host := "") (Or.inl (hw _ (mi 38 rfl))) Via.refl e118 (own_sta_keep S_BIRTHDATE K118 all0) (g := (mkF m 113 (L0_2 p0 p1 p2 p3 p4 b5 b21) [(.int 6), (.ref b45), (.ref b45)])) rfl (hb hby at_113)
    have go127 := gap go125 st126
    obtain ⟨cl129, Ar129, q129, S129, N129, H129, G129⟩ := id F124
    obtain ⟨T128, h128, X128, e128, W128, st128⟩ := stR X126 hx hZ40 e126 Ar129 (j := (6 : Int32)) (inb_of S129 ⟨by decide, by decide⟩) rfl (Sto.ofV Ar129 q129 O45 (Ins.self (E_BIRTHDATE.keep K118))) (g := (mkF m 116 (L0_2 p0 p1 p2 p3 p4 b5 b21) [(.ref s_BIRTHDATE), (.int 6), (.ref b45), (.ref b45)])) rfl rfl (hb hby at_116)
    have go130 := gap go127 st128
    have N128 := Fr.snoc X128 N118 low45
    have K128 : Keep h0 h128 [] := K118.wr W128 (Or.inr fsh45)
    have Zs128 : n0 ≤ h128.size := Nat.le_trans Zs118 (Keep.of_wr W128).1
    have hk128 : T40.heap.size ≤ h128.size := Nat.le_trans hk118 (Keep.of_wr W128).1
    have F131 := F121.other W128 ne58
    have F132 := F122.wr W128
    have F133 := F123.other W128 (Or.inl ne59)
    have F134 : Arv Z h128 b45 k45 (.object "com/example/hauora_id/hauoraid/model/Claim") (12 : Int32) [(.ref s_SUB), (.ref s_EMAIL), (.ref s_GIVEN_NAME), (.ref s_MIDDLE_NAME), (.ref s_FAMILY_NAME), (.ref s_NICKNAME), (.ref s_BIRTHDATE), .null, .null, .null, .null, .null] .null := Arv.set Ar129 q129 S129 N129 H129 G129 rfl W128 6 rfl (Nat.le_of_ble_eq_true rfl)
    have go135 : Go p.tables e below T128 (mkF m 120 (L0_2 p0 p1 p2 p3 p4 b5 b21) [(.int 7), (.ref b45), (.ref b45)]) En := by
      intro t k
      refine go130 _ ?_
      refine XS.dup X128.here hx rfl (hb hby at_117) rfl rfl ?_
      refine XS.bipush X128.here hx rfl (hb hby at_118) ?_
      exact k
    obtain ⟨T136, X136, e136, st136⟩ := getS2 X128 hx hZ40 hown40 (host := "") (Or.inl (hw _ (mi 40 rfl))) Via.refl e128 (own_sta_keep S_MOBILE_NUMBER K128 all0) (g := (mkF m 120 (L0_2 p0 p1 p2 p3 p4 b5 b21) [(.int 7), (.ref b45), (.ref b45)])) rfl (hb hby at_120)
    have go137 := gap go135 st136
    obtain ⟨cl139, Ar139, q139, S139, N139, H139, G139⟩ := id F134
    obtain ⟨T138, h138, X138, e138, W138, st138⟩ := stR X136 hx hZ40 e136 Ar139 (j := (7 : Int32)) (inb_of S139 ⟨by decide, by decide⟩) rfl (Sto.ofV Ar139 q139 O45 (Ins.self (E_MOBILE_NUMBER.keep K128))) (g := (mkF m 123 (L0_2 p0 p1 p2 p3 p4 b5 b21) [(.ref s_MOBILE_NUMBER), (.int 7), (.ref b45), (.ref b45)])) rfl rfl (hb hby at_123)
    have go140 := gap go137 st138
    have N138 := Fr.snoc X138 N128 low45
    have K138 : Keep h0 h138 [] := K128.wr W138 (Or.inr fsh45)
    have Zs138 : n0 ≤ h138.size := Nat.le_trans Zs128 (Keep.of_wr W138).1
    have hk138 : T40.heap.size ≤ h138.size := Nat.le_trans hk128 (Keep.of_wr W138).1
    have F141 := F131.other W138 ne58
    have F142 := F132.wr W138
    have F143 := F133.other W138 (Or.inl ne59)
    have F144 : Arv Z h138 b45 k45 (.object "com/example/hauora_id/hauoraid/model/Claim") (12 : Int32) [(.ref s_SUB), (.ref s_EMAIL), (.ref s_GIVEN_NAME), (.ref s_MIDDLE_NAME), (.ref s_FAMILY_NAME), (.ref s_NICKNAME), (.ref s_BIRTHDATE), (.ref s_MOBILE_NUMBER), .null, .null, .null, .null] .null := Arv.set Ar139 q139 S139 N139 H139 G139 rfl W138 7 rfl (Nat.le_of_ble_eq_true rfl)
    have go145 : Go p.tables e below T138 (mkF m 127 (L0_2 p0 p1 p2 p3 p4 b5 b21) [(.int 8), (.ref b45), (.ref b45)]) En := by
      intro t k
      refine go140 _ ?_
      refine XS.dup X138.here hx rfl (hb hby at_124) rfl rfl ?_
      refine XS.bipush X138.here hx rfl (hb hby at_125) ?_
      exact k
    obtain ⟨T146, X146, e146, st146⟩ := getS2 X138 hx hZ40 hown40 (host := "") (Or.inl (hw _ (mi 42 rfl))) Via.refl e138 (own_sta_keep S_NHI K138 all0) (g := (mkF m 127 (L0_2 p0 p1 p2 p3 p4 b5 b21) [(.int 8), (.ref b45), (.ref b45)])) rfl (hb hby at_127)
    have go147 := gap go145 st146
    obtain ⟨cl149, Ar149, q149, S149, N149, H149, G149⟩ := id F144
    obtain ⟨T148, h148, X148, e148, W148, st148⟩ := stR X146 hx hZ40 e146 Ar149 (j := (8 : Int32)) (inb_of S149 ⟨by decide, by decide⟩) rfl (Sto.ofV Ar149 q149 O45 (Ins.self (E_NHI.keep K138))) (g := (mkF m 130 (L0_2 p0 p1 p2 p3 p4 b5 b21) [(.ref s_NHI), (.int 8), (.ref b45), (.ref b45)])) rfl rfl (hb hby at_130)
    have go150 := gap go147 st148
    have N148 := Fr.snoc X148 N138 low45
    have K148 : Keep h0 h148 [] := K138.wr W148 (Or.inr fsh45)
    have Zs148 : n0 ≤ h148.size := Nat.le_trans Zs138 (Keep.of_wr W148).1
    have hk148 : T40.heap.size ≤ h148.size := Nat.le_trans hk138 (Keep.of_wr W148).1
    have F151 := F141.other W148 ne58
    have F152 := F142.wr W148
    have F153 := F143.other W148 (Or.inl ne59)
    have F154 : Arv Z h148 b45 k45 (.object "com/example/hauora_id/hauoraid/model/Claim") (12 : Int32) [(.ref s_SUB), (.ref s_EMAIL), (.ref s_GIVEN_NAME), (.ref s_MIDDLE_NAME), (.ref s_FAMILY_NAME), (.ref s_NICKNAME), (.ref s_BIRTHDATE), (.ref s_MOBILE_NUMBER), (.ref s_NHI), .null, .null, .null] .null := Arv.set Ar149 q149 S149 N149 H149 G149 rfl W148 8 rfl (Nat.le_of_ble_eq_true rfl)
    have go155 : Go p.tables e below T148 (mkF m 134 (L0_2 p0 p1 p2 p3 p4 b5 b21) [(.int 9), (.ref b45), (.ref b45)]) En := by
      intro t k
      refine go150 _ ?_
      refine XS.dup X148.here hx rfl (hb hby at_131) rfl rfl ?_
      refine XS.bipush X148.here hx rfl (hb hby at_132) ?_
      exact k
    obtain ⟨T156, X156, e156, st156⟩ := getS2 X148 hx hZ40 hown40 (host := "") (Or.inl (hw _ (mi 44 rfl))) Via.refl e148 (own_sta_keep S_CPN K148 all0) (g := (mkF m 134 (L0_2 p0 p1 p2 p3 p4 b5 b21) [(.int 9), (.ref b45), (.ref b45)])) rfl (hb hby at_134)
    have go157 := gap go155 st156
    obtain ⟨cl159, Ar159, q159, S159, N159, H159, G159⟩ := id F154
    obtain ⟨T158, h158, X158, e158, W158, st158⟩ := stR X156 hx hZ40 e156 Ar159 (j := (9 : Int32)) (inb_of S159 ⟨by decide, by decide⟩) rfl (Sto.ofV Ar159 q159 O45 (Ins.self (E_CPN.keep K148))) (g := (mkF m 137 (L0_2 p0 p1 p2 p3 p4 b5 b21) [(.ref s_CPN), (.int 9), (.ref b45), (.ref b45)])) rfl rfl (hb hby at_137)
    have go160 := gap go157 st158
    have N158 := Fr.snoc X158 N148 low45
    have K158 : Keep h0 h158 [] := K148.wr W158 (Or.inr fsh45)
    have Zs158 : n0 ≤ h158.size := Nat.le_trans Zs148 (Keep.of_wr W158).1
    have hk158 : T40.heap.size ≤ h158.size := Nat.le_trans hk148 (Keep.of_wr W158).1
    have F161 := F151.other W158 ne58
    have F162 := F152.wr W158
    have F163 := F153.other W158 (Or.inl ne59)
    have F164 : Arv Z h158 b45 k45 (.object "com/example/hauora_id/hauoraid/model/Claim") (12 : Int32) [(.ref s_SUB), (.ref s_EMAIL), (.ref s_GIVEN_NAME), (.ref s_MIDDLE_NAME), (.ref s_FAMILY_NAME), (.ref s_NICKNAME), (.ref s_BIRTHDATE), (.ref s_MOBILE_NUMBER), (.ref s_NHI), (.ref s_CPN), .null, .null] .null := Arv.set Ar159 q159 S159 N159 H159 G159 rfl W158 9 rfl (Nat.le_of_ble_eq_true rfl)
    have go165 : Go p.tables e below T158 (mkF m 141 (L0_2 p0 p1 p2 p3 p4 b5 b21) [(.int 10), (.ref b45), (.ref b45)]) En := by
      intro t k
      refine go160 _ ?_
      refine XS.dup X158.here hx rfl (hb hby at_138) rfl rfl ?_
      refine XS.bipush X158.here hx rfl (hb hby at_139) ?_
      exact k
    obtain ⟨T166, X166, e166, st166⟩ := getS2 X158 hx hZ40 hown40 (host := "") (Or.inl (hw _ (mi 46 rfl))) Via.refl e158 (own_sta_keep S_RELATIONSHIPS K158 all0) (g := (mkF m 141 (L0_2 p0 p1 p2 p3 p4 b5 b21) [(.int 10), (.ref b45), (.ref b45)])) rfl (hb hby at_141)
    have go167 := gap go165 st166
    obtain ⟨cl169, Ar169, q169, S169, N169, H169, G169⟩ := id F164
    obtain ⟨T168, h168, X168, e168, W168, st168⟩ := stR X166 hx hZ40 e166 Ar169 (j := (10 : Int32)) (inb_of S169 ⟨by decide, by decide⟩) rfl (Sto.ofV Ar169 q169 O45 (Ins.self (E_RELATIONSHIPS.keep K158))) (g := (mkF m 144 (L0_2 p0 p1 p2 p3 p4 b5 b21) [(.ref s_RELATIONSHIPS), (.int 10), (.ref b45), (.ref b45)])) rfl rfl (hb hby at_144)
    have go170 := gap go167 st168
    have N168 := Fr.snoc X168 N158 low45
    have K168 : Keep h0 h168 [] := K158.wr W168 (Or.inr fsh45)
    have Zs168 : n0 ≤ h168.size := Nat.le_trans Zs158 (Keep.of_wr W168).1
    have hk168 : T40.heap.size ≤ h168.size := Nat.le_trans hk158 (Keep.of_wr W168).1
    have F171 := F161.other W168 ne58
    have F172 := F162.wr W168
    have F173 := F163.other W168 (Or.inl ne59)
    have F174 : Arv Z h168 b45 k45 (.object "com/example/hauora_id/hauoraid/model/Claim") (12 : Int32) [(.ref s_SUB), (.ref s_EMAIL), (.ref s_GIVEN_NAME), (.ref s_MIDDLE_NAME), (.ref s_FAMILY_NAME), (.ref s_NICKNAME), (.ref s_BIRTHDATE), (.ref s_MOBILE_NUMBER), (.ref s_NHI), (.ref s_CPN), (.ref s_RELATIONSHIPS), .null] .null := Arv.set Ar169 q169 S169 N169 H169 G169 rfl W168 10 rfl (Nat.le_of_ble_eq_true rfl)
    have go175 : Go p.tables e below T168 (mkF m 148 (L0_2 p0 p1 p2 p3 p4 b5 b21) [(.int 11), (.ref b45), (.ref b45)]) En := by
      intro t k
      refine go170 _ ?_
      refine XS.dup X168.here hx rfl (hb hby at_145) rfl rfl ?_
      refine XS.bipush X168.here hx rfl (hb hby at_146) ?_
      exact k
    obtain ⟨T176, X176, e176, st176⟩ := getS2 X168 hx hZ40 hown40 (host := "") (Or.inl (hw _ (mi 48 rfl))) Via.refl e168 (own_sta_keep S_CONFIDENCE_LEVEL K168 all0) (g := (mkF m 148 (L0_2 p0 p1 p2 p3 p4 b5 b21) [(.int 11), (.ref b45), (.ref b45)])) rfl (hb hby at_148)
    have go177 := gap go175 st176
    obtain ⟨cl179, Ar179, q179, S179, N179, H179, G179⟩ := id F174
    obtain ⟨T178, h178, X178, e178, W178, st178⟩ := stR X176 hx hZ40 e176 Ar179 (j := (11 : Int32)) (inb_of S179 ⟨by decide, by decide⟩) rfl (Sto.ofV Ar179 q179 O45 (Ins.self (E_CONFIDENCE_LEVEL.keep K168))) (g := (mkF m 151 (L0_2 p0 p1 p2 p3 p4 b5 b21) [(.ref s_CONFIDENCE_LEVEL), (.int 11), (.ref b45), (.ref b45)])) rfl rfl (hb hby at_151)
    have go180 := gap go177 st178
    have N178 := Fr.snoc X178 N168 low45
    have K178 : Keep h0 h178 [] := K168.wr W178 (Or.inr fsh45)
    have Zs178 : n0 ≤ h178.size := Nat.le_trans Zs168 (Keep.of_wr W178).1
    have hk178 : T40.heap.size ≤ h178.size := Nat.le_trans hk168 (Keep.of_wr W178).1
    have F181 := F171.other W178 ne58
    have F182 := F172.wr W178
    have F183 := F173.other W178 (Or.inl ne59)
    have F184 : Arv Z h178 b45 k45 (.object "com/example/hauora_id/hauoraid/model/Claim") (12 : Int32) [(.ref s_SUB), (.ref s_EMAIL), (.ref s_GIVEN_NAME), (.ref s_MIDDLE_NAME), (.ref s_FAMILY_NAME), (.ref s_NICKNAME), (.ref s_BIRTHDATE), (.ref s_MOBILE_NUMBER), (.ref s_NHI), (.ref s_CPN), (.ref s_RELATIONSHIPS), (.ref s_CONFIDENCE_LEVEL)] .null := Arv.set Ar179 q179 S179 N179 H179 G179 rfl W178 11 rfl (Nat.le_of_ble_eq_true rfl)
    obtain ⟨cl185, Ar185, q185, S185, N185, H185, G185⟩ := id F184
    obtain ⟨xk, rk, hel, Ek, Fk⟩ : ∃ xk rk : Addr, ([(.ref s_SUB), (.ref s_EMAIL), (.ref s_GIVEN_NAME), (.ref s_MIDDLE_NAME), (.ref s_FAMILY_NAME), (.ref s_NICKNAME), (.ref s_BIRTHDATE), (.ref s_MOBILE_NUMBER), (.ref s_NHI), (.ref s_CPN), (.ref s_RELATIONSHIPS), (.ref s_CONFIDENCE_LEVEL)] : List Value).getD (((p4 &&& (2147483647 : Int32)) % (12 : Int32))).toNatClampNeg .null = .ref xk ∧ Exa Z h178 xk "com/example/hauora_id/hauoraid/model/Claim" ∧ Fld Z h178 xk "com/example/hauora_id/hauoraid/model/Claim" "release" "Lcom/example/hauora_id/hauoraid/model/Claim$Release;" (.ref rk) := by
      rcases own_in12 p4 with h | h | h | h | h | h | h | h | h | h | h | h
      · rw [h]; exact ⟨_, _, rfl, (E_SUB.keep K178), (F_SUB_release.keep K178 nin0)⟩
      · rw [h]; exact ⟨_, _, rfl, (E_EMAIL.keep K178), (F_EMAIL_release.keep K178 nin0)⟩
      · rw [h]; exact ⟨_, _, rfl, (E_GIVEN_NAME.keep K178), (F_GIVEN_NAME_release.keep K178 nin0)⟩
      · rw [h]; exact ⟨_, _, rfl, (E_MIDDLE_NAME.keep K178), (F_MIDDLE_NAME_release.keep K178 nin0)⟩
      · rw [h]; exact ⟨_, _, rfl, (E_FAMILY_NAME.keep K178), (F_FAMILY_NAME_release.keep K178 nin0)⟩
      · rw [h]; exact ⟨_, _, rfl, (E_NICKNAME.keep K178), (F_NICKNAME_release.keep K178 nin0)⟩
      · rw [h]; exact ⟨_, _, rfl, (E_BIRTHDATE.keep K178), (F_BIRTHDATE_release.keep K178 nin0)⟩
      · rw [h]; exact ⟨_, _, rfl, (E_MOBILE_NUMBER.keep K178), (F_MOBILE_NUMBER_release.keep K178 nin0)⟩
      · rw [h]; exact ⟨_, _, rfl, (E_NHI.keep K178), (F_NHI_release.keep K178 nin0)⟩
      · rw [h]; exact ⟨_, _, rfl, (E_CPN.keep K178), (F_CPN_release.keep K178 nin0)⟩
      · rw [h]; exact ⟨_, _, rfl, (E_RELATIONSHIPS.keep K178), (F_RELATIONSHIPS_release.keep K178 nin0)⟩
      · rw [h]; exact ⟨_, _, rfl, (E_CONFIDENCE_LEVEL.keep K178), (F_CONFIDENCE_LEVEL_release.keep K178 nin0)⟩
    have go186 : Go p.tables e below T178 (mkF m 169 #[iv p0, iv p1, iv p2, iv p3, iv p4, iv 0, rv b5, rv b21, rv b45, rv xk, .unset, .unset] [(.ref b21)]) En := by
      intro t k
      refine go180 _ ?_
      refine XS.astore X178.here hx rfl (hb hby at_152) rfl rfl (l' := (L0_3 p0 p1 p2 p3 p4 b5 b21 b45)) rfl ?_
      refine XS.aload X178.here hx rfl (hb hby at_154) rfl rfl ?_
      refine XS.iload X178.here hx rfl (hb hby at_156) rfl ?_
      show Steps _ _ _ (T178.setTop (mkF m 158 (L0_3 p0 p1 p2 p3 p4 b5 b21 b45) [(.int p4), (.ref b45)])) _
      refine X178.ldcInt hx hown40 (mvT hZ40 (hw _ (mi 50 rfl))) (g := (mkF m 158 (L0_3 p0 p1 p2 p3 p4 b5 b21 b45) [(.int p4), (.ref b45)])) rfl (hb hby at_158) _ ?_
      refine XS.iand X178.here hx rfl (hb hby at_160) rfl ?_
      refine XS.bipush X178.here hx rfl (hb hby at_161) ?_
      show Steps _ _ _ (T178.setTop (mkF m 163 (L0_3 p0 p1 p2 p3 p4 b5 b21 b45) [(.int 12), (.int (p4 &&& (2147483647 : Int32))), (.ref b45)])) _
      refine iremM X178 hx rfl (hb hby at_163) rfl (by decide) ?_
      refine X178.aaload hx (j := ((p4 &&& (2147483647 : Int32)) % (12 : Int32))) (v := (.ref xk)) (by rw [e178]; exact Ar185.1) (State.isArrayOf_alike hZ40.alike Ar185.2.1) rfl Ar185.2.2 (inb_of S185 (own_b12 p4)) (Has.at H185 (inb_of S185 (own_b12 p4)) hel) (g := (mkF m 164 (L0_3 p0 p1 p2 p3 p4 b5 b21 b45) [(.int ((p4 &&& (2147483647 : Int32)) % (12 : Int32))), (.ref b45)])) rfl rfl (hb hby at_164) _ ?_
      refine XS.astore X178.here hx rfl (hb hby at_165) rfl rfl (l' := #[iv p0, iv p1, iv p2, iv p3, iv p4, iv 0, rv b5, rv b21, rv b45, rv xk, .unset, .unset]) rfl ?_
      show Steps _ _ _ (T178.setTop (mkF m 167 #[iv p0, iv p1, iv p2, iv p3, iv p4, iv 0, rv b5, rv b21, rv b45, rv xk, .unset, .unset] [])) _
      refine XS.aload X178.here hx rfl (hb hby at_167) rfl rfl ?_
      exact k
    obtain ⟨_, T187, Lc187, X187, hQ187, st187⟩ := own_cs X178 hx hZ40 hown40 hml go186 (hb hby at_169) e178 (hw _ (mi 51 rfl)) (own_site181 hw) (rm4 l Z aZ hw [] b21 h178 n0 Zs178 ) (by decide) (argsL := [(.ref b21)]) (rest := []) rfl rfl rfl (lenOf pd_182 rfl) (W := 0) rfl (by decide) (by decide) (by decide : 5 + 1 ≤ _) (by decide : 20 + 6 ≤ _)
    obtain ⟨b187, rfl, N187q, K187q, fr187, G187_0, G187_1, G187_2, G187_3, G187_4, G187_5, G187_6⟩ := hQ187
    have N187 := Fr.app N178 N187q
    have K187 : Keep h0 T187.heap [] := K178.trans K187q all0
    have low187 : n0 ≤ b187 := Nat.le_trans Zs178 fr187
    have fsh187 : h0.size ≤ b187 := Nat.le_trans K178.1 fr187
    have ne188 : b21 ≠ b187 := Nat.ne_of_lt (Nat.lt_of_lt_of_le F182.lt fr187)
    have ne189 : xk ≠ b187 := Nat.ne_of_lt (Nat.lt_of_lt_of_le Ek.lt fr187)
    have Zs187 : n0 ≤ T187.heap.size := Nat.le_trans Zs178 K187q.1
    have hk187 : T40.heap.size ≤ T187.heap.size := Nat.le_trans hk178 K187q.1
    have F190 := F182.keep K187q
    have F191 := F183.keep K187q nin0
    have F192 := Ek.keep K187q
    have F193 := Fk.keep K187q nin0
    have go194 : Go p.tables e below T187 (mkF m 176 #[iv p0, iv p1, iv p2, iv p3, iv p4, iv 0, rv b5, rv b21, rv b45, rv xk, rv b187, .unset] [(.ref b187)]) En := by
      intro t k
      refine st187 _ ?_
      refine XS.astore X187.here hx rfl (hb hby at_172) rfl rfl (l' := #[iv p0, iv p1, iv p2, iv p3, iv p4, iv 0, rv b5, rv b21, rv b45, rv xk, rv b187, .unset]) rfl ?_
      refine XS.aload X187.here hx rfl (hb hby at_174) rfl rfl ?_
      exact k
    obtain ⟨_, T195, Lc195, X195, hQ195, st195⟩ := own_cv X187 hx hZ40 hown40 hml go194 (hb hby at_176) rfl (hw _ (mi 78 rfl)) (own_site183 hw) G187_0 (rm7 l Z aZ hw [] _ b21 T187.heap n0 Zs187 G187_1) (by decide) (argsL := []) (rest := []) rfl rfl rfl (lenOf pd_184 rfl) (W := 0) rfl (by decide) (by decide) (by decide : 6 + 0 ≤ _) (by decide : 26 + 0 ≤ _)
    obtain ⟨rfl, N195q, e195⟩ := hQ195
    have N195 := Fr.app N187 N195q
    have go196 : Go p.tables e below T195 (mkF m 190 (L0_4 p0 p1 p2 p3 p4 b5 b21 b45 b187 xk) [(.ref b21), (.ref b21)]) En := by
      intro t k
      refine st195 _ ?_
      refine XS.astore X195.here hx rfl (hb hby at_179) rfl rfl (l' := (L0_4 p0 p1 p2 p3 p4 b5 b21 b45 b187 xk)) rfl ?_
      refine XS.aload X195.here hx rfl (hb hby at_181) rfl rfl ?_
      refine XT.nullNo X195.here hx rfl (hb hby at_183) rfl rfl (fun q => nomatch q) ?_
      show Steps _ _ _ (T195.setTop (mkF m 186 (L0_4 p0 p1 p2 p3 p4 b5 b21 b45 b187 xk) [])) _
      refine XS.aload X195.here hx rfl (hb hby at_186) rfl rfl ?_
      refine XS.aload X195.here hx rfl (hb hby at_188) rfl rfl ?_
      exact k
    obtain ⟨_, T197, Lc197, X197, hQ197, st197⟩ := own_cv X195 hx hZ40 hown40 hml go196 (hb hby at_190) e195 (hw _ (mi 83 rfl)) (own_site185 hw) F190 (rm8 l Z aZ hw [] b21 T187.heap n0 Zs187 ) (by decide) (argsL := [(.ref b21)]) (rest := []) rfl rfl rfl (lenOf pd_186 rfl) (W := 0) rfl (by decide) (by decide) (by decide : 6 + 0 ≤ _) (by decide : 26 + 0 ≤ _)
    obtain ⟨rfl, N197q, e197⟩ := hQ197
    have N197 := Fr.app N195 N197q
    have go198 : Go p.tables e below T197 (mkF m 198 (L0_4 p0 p1 p2 p3 p4 b5 b21 b45 b187 xk) [(.ref b187)]) En := by
      intro t k
      refine st197 _ ?_
      refine XS.ifNo X197.here hx rfl (hb hby at_193) rfl (XT.i0_eq_f (by decide : ¬ ((1 : Int32) = (0 : Int32)))) ?_
      refine XS.aload X197.here hx rfl (hb hby at_196) rfl rfl ?_
      exact k
    obtain ⟨_, T199, Lc199, X199, hQ199, st199⟩ := own_cv X197 hx hZ40 hown40 hml go198 (hb hby at_198) e197 (hw _ (mi 88 rfl)) (own_site187 hw) G187_0 (rm9 l Z aZ hw [] _ T187.heap n0 Zs187 G187_2) (by decide) (argsL := []) (rest := []) rfl rfl rfl (lenOf pd_188 rfl) (W := 0) rfl (by decide) (by decide) (by decide : 6 + 0 ≤ _) (by decide : 26 + 0 ≤ _)
    obtain ⟨rfl, N199q, e199⟩ := hQ199
    have N199 := Fr.app N197 N199q
    have go200 : Go p.tables e below T199 (mkF m 206 (L0_4 p0 p1 p2 p3 p4 b5 b21 b45 b187 xk) [(.ref b187)]) En := by
      intro t k
      refine st199 _ ?_
      refine XT.nonnullNo X199.here hx rfl (hb hby at_201) rfl rfl ?_
      refine XS.aload X199.here hx rfl (hb hby at_204) rfl rfl ?_
      exact k
    obtain ⟨_, T201, Lc201, X201, hQ201, st201⟩ := own_cv X199 hx hZ40 hown40 hml go200 (hb hby at_206) e199 (hw _ (mi 93 rfl)) (own_site189 hw) G187_0 (rm10 l Z aZ hw [] _ T187.heap n0 Zs187 G187_3) (by decide) (argsL := []) (rest := []) rfl rfl rfl (lenOf pd_184 rfl) (W := 0) rfl (by decide) (by decide) (by decide : 6 + 0 ≤ _) (by decide : 26 + 0 ≤ _)
    obtain ⟨rfl, N201q, e201⟩ := hQ201
    have N201 := Fr.app N199 N201q
    have go202 : Go p.tables e below T201 (mkF m 214 (L0_4 p0 p1 p2 p3 p4 b5 b21 b45 b187 xk) [(.ref b187)]) En := by
      intro t k
      refine st201 _ ?_
      refine XT.nonnullNo X201.here hx rfl (hb hby at_209) rfl rfl ?_
      refine XS.aload X201.here hx rfl (hb hby at_212) rfl rfl ?_
      exact k
    obtain ⟨_, T203, Lc203, X203, hQ203, st203⟩ := own_cv X201 hx hZ40 hown40 hml go202 (hb hby at_214) e201 (hw _ (mi 98 rfl)) (own_site190 hw) G187_0 (rm11 l Z aZ hw [] _ T187.heap n0 Zs187 G187_4) (by decide) (argsL := []) (rest := []) rfl rfl rfl (lenOf pd_172 rfl) (W := 0) rfl (by decide) (by decide) (by decide : 6 + 0 ≤ _) (by decide : 26 + 0 ≤ _)
    obtain ⟨rfl, N203q, e203⟩ := hQ203
    have N203 := Fr.app N201 N203q
    have go204 : Go p.tables e below T203 (mkF m 222 (L0_4 p0 p1 p2 p3 p4 b5 b21 b45 b187 xk) [(.ref b187)]) En := by
      intro t k
      refine st203 _ ?_
      refine XS.ifNo X203.here hx rfl (hb hby at_217) rfl (XT.i0_eq_f (by decide : ¬ ((1 : Int32) = (0 : Int32)))) ?_
      refine XS.aload X203.here hx rfl (hb hby at_220) rfl rfl ?_
      exact k
    obtain ⟨_, T205, Lc205, X205, hQ205, st205⟩ := own_cv X203 hx hZ40 hown40 hml go204 (hb hby at_222) e203 (hw _ (mi 103 rfl)) (own_site191 hw) G187_0 (rm12 l Z aZ hw [] _ T187.heap n0 Zs187 G187_5) (by decide) (argsL := []) (rest := []) rfl rfl rfl (lenOf pd_184 rfl) (W := 0) rfl (by decide) (by decide) (by decide : 6 + 0 ≤ _) (by decide : 26 + 0 ≤ _)
    obtain ⟨rfl, N205q, e205⟩ := hQ205
    have N205 := Fr.app N203 N205q
    have go206 : Go p.tables e below T205 (mkF m 230 (L0_4 p0 p1 p2 p3 p4 b5 b21 b45 b187 xk) [(.ref b187)]) En := by
      intro t k
      refine st205 _ ?_
      refine XT.nonnullNo X205.here hx rfl (hb hby at_225) rfl rfl ?_
      refine XS.aload X205.here hx rfl (hb hby at_228) rfl rfl ?_
      exact k
    obtain ⟨_, T207, Lc207, X207, hQ207, st207⟩ := own_cv X205 hx hZ40 hown40 hml go206 (hb hby at_230) e205 (hw _ (mi 108 rfl)) (own_site192 hw) G187_0 (rm13 l Z aZ hw [] _ T187.heap n0 Zs187 G187_6) (by decide) (argsL := []) (rest := []) rfl rfl rfl (lenOf pd_188 rfl) (W := 0) rfl (by decide) (by decide) (by decide : 6 + 0 ≤ _) (by decide : 26 + 0 ≤ _)
    obtain ⟨rfl, N207q, e207⟩ := hQ207
    have N207 := Fr.app N205 N207q
    have go208 : Go p.tables e below T207 (mkF m 240 (L0_4 p0 p1 p2 p3 p4 b5 b21 b45 b187 xk) [(.ref xk), (.ref b187)]) En := by
      intro t k
      refine st207 _ ?_
      refine XT.nonnullNo X207.here hx rfl (hb hby at_233) rfl rfl ?_
      refine XS.aload X207.here hx rfl (hb hby at_236) rfl rfl ?_
      refine XS.aload X207.here hx rfl (hb hby at_238) rfl rfl ?_
      show Steps _ _ _ (T207.setTop (mkF m 240 (L0_4 p0 p1 p2 p3 p4 b5 b21 b45 b187 xk) [(.ref xk), (.ref b187)])) _
      exact k
    obtain ⟨_, T209, Lc209, X209, hQ209, st209⟩ := own_cv X207 hx hZ40 hown40 hml go208 (hb hby at_240) e207 (hw _ (mi 113 rfl)) (own_site193 hw) G187_0 (rm14 l Z aZ hw [] _ xk rk _ T187.heap n0 Zs187 G187_2 F192 F193 (own_sta_keep S_ALWAYS K187 all0)) (by decide) (argsL := [(.ref xk)]) (rest := []) rfl rfl rfl (lenOf pd_194 rfl) (W := 0) rfl (by decide) (by decide) (by decide : 6 + 0 ≤ _) (by decide : 26 + 0 ≤ _)
    obtain ⟨rfl, N209q, e209⟩ := hQ209
    have N209 := Fr.app N207 N209q
    have go211 : Go p.tables e below T209 (mkF m 251 (L0_4 p0 p1 p2 p3 p4 b5 b21 b45 b187 xk) [(.int (b0_212 s_ALWAYS rk))]) En := by
      intro t k
      have k : Steps p.tables e below (T209.setTop (mkF m  251 #[iv p0, iv p1, iv p2, iv p3, iv p4, iv 0, rv b5, rv b21, rv b45, rv xk, rv b187, rv b21] [(.int (b0_212 s_ALWAYS rk))])) t := k
      refine st209 _ ?_
      by_cases hc210 : (f14 rk s_ALWAYS) = (0 : Int32)
      · refine XS.ifYes X209.here hx rfl (pc0 := 243) (pc' := 250) rfl (hb hby at_243) rfl (XT.i0_eq_t hc210) (by decide) (by decide) ?_
        refine XS.iconst X209.here hx rfl (hb hby at_250) ?_
        have hq213 : (b0_212 s_ALWAYS rk) = (0 : Int32) := by rw [b0_212, if_pos hc210]
        rw [hq213] at k
        exact k
      · refine XS.ifNo X209.here hx rfl (hb hby at_243) rfl (XT.i0_eq_f hc210) ?_
        refine XS.iconst X209.here hx rfl (hb hby at_246) ?_
        refine XS.goto X209.here hx rfl (pc0 := 247) (pc' := 251) rfl (hb hby at_247) (by decide) (by decide) ?_
        have hq214 : (b0_212 s_ALWAYS rk) = (1 : Int32) := by rw [b0_212, if_neg hc210]
        rw [hq214] at k
        exact k
    obtain ⟨fs, hr, hrun, hended, hRW⟩ := X209.leaveW hS40 (by rw [e209]; exact hk187) (v := some (.int (b0_212 s_ALWAYS rk))) (fun h => by rw [Bd.returns] at h; cases h) Bd.notSynchronized
    subst hEn
    refine ⟨_, _, go211 _ (Jvm.RoadKit.retOut X209 hx Bd.returns (own_nz (by unfold b0_212; (repeat' split) <;> first | exact Or.inl rfl | exact Or.inr rfl)) (Or.inl ⟨rfl, Or.inr (Or.inl rfl), _, rfl⟩) (hb hby at_251) hr), hrun, hended, _, _, rfl, ?_, hRW.1, hRW.2.1, hRW.2.2.1, hRW.2.2.2.mono (by decide) (by decide)⟩
    show Q0 _ _ p0 p1 p2 p3 p4 s_SUB s_EMAIL s_GIVEN_NAME s_MIDDLE_NAME s_FAMILY_NAME s_NICKNAME s_BIRTHDATE s_MOBILE_NUMBER s_NHI s_CPN s_RELATIONSHIPS s_CONFIDENCE_LEVEL s_ALWAYS s_USERINFO s_ID_TOKEN s_COMPACT_STRINGS h0 _ (T209.setFrames fs).heap _
    have hE : (T209.setFrames fs).heap = T187.heap := e209
    rw [hE]
    exact ⟨congrArg (fun z => some (Value.int z)) ((by rw [f0, if_pos hs2] : (b0_212 s_ALWAYS rk) = (f0 p0 s_ALWAYS rk)).trans (f0_one p0 s_ALWAYS rk)), N209⟩
  by_cases hs215 : (p0 &&& (3 : Int32)) = (1 : Int32)
  · have go216 : Go p.tables e below s₁ (mkF m 5 (L0_5 p0 p1 p2 p3 p4) []) En := by
      have q : Go p.tables e below s₁ (mkF m  5 #[iv p0, iv p1, iv p2, iv p3, iv p4, iv (p0 &&& (3 : Int32)), .unset, .unset, .unset, .unset, .unset, .unset] []) En := go1
      rw [hs215] at q
      exact q
    have go217 : Go p.tables e below s₁ (mkF m 7 (L0_5 p0 p1 p2 p3 p4) [(.int 1)]) En := by
      intro t k
      refine go216 _ ?_
      refine XS.iload X0.here hx rfl (hb hby at_5) rfl ?_
      exact k
    obtain ⟨T218, h218, k218, X218, e218, E218, A218, st218⟩ := newP X0 hx hZ (hw _ (mi 0 rfl)) e0 (g := (mkF m 7 (L0_5 p0 p1 p2 p3 p4) [(.int 1)])) rfl (hb hby at_7) rfl (by decide) (cap := 1) (by decide) (by decide) (by decide) (by decide)
    obtain ⟨b218, g218⟩ : ∃ z, z = h0.size := ⟨_, rfl⟩
    rw [← g218] at A218 st218
    have ne219 : s_SUB ≠ b218 := Nat.ne_of_lt (Nat.lt_of_lt_of_le E_SUB.lt (Nat.le_of_eq g218.symm))
    have ne220 : s_EMAIL ≠ b218 := Nat.ne_of_lt (Nat.lt_of_lt_of_le E_EMAIL.lt (Nat.le_of_eq g218.symm))
    have ne221 : s_GIVEN_NAME ≠ b218 := Nat.ne_of_lt (Nat.lt_of_lt_of_le E_GIVEN_NAME.lt (Nat.le_of_eq g218.symm))
    have ne222 : s_MIDDLE_NAME ≠ b218 := Nat.ne_of_lt (Nat.lt_of_lt_of_le E_MIDDLE_NAME.lt (Nat.le_of_eq g218.symm))
    have ne223 : s_FAMILY_NAME ≠ b218 := Nat.ne_of_lt (Nat.lt_of_lt_of_le E_FAMILY_NAME.lt (Nat.le_of_eq g218.symm))
    have ne224 : s_NICKNAME ≠ b218 := Nat.ne_of_lt (Nat.lt_of_lt_of_le E_NICKNAME.lt (Nat.le_of_eq g218.symm))
    have ne225 : s_BIRTHDATE ≠ b218 := Nat.ne_of_lt (Nat.lt_of_lt_of_le E_BIRTHDATE.lt (Nat.le_of_eq g218.symm))
    have ne226 : s_MOBILE_NUMBER ≠ b218 := Nat.ne_of_lt (Nat.lt_of_lt_of_le E_MOBILE_NUMBER.lt (Nat.le_of_eq g218.symm))
    have ne227 : s_NHI ≠ b218 := Nat.ne_of_lt (Nat.lt_of_lt_of_le E_NHI.lt (Nat.le_of_eq g218.symm))
    have ne228 : s_CPN ≠ b218 := Nat.ne_of_lt (Nat.lt_of_lt_of_le E_CPN.lt (Nat.le_of_eq g218.symm))
    have ne229 : s_RELATIONSHIPS ≠ b218 := Nat.ne_of_lt (Nat.lt_of_lt_of_le E_RELATIONSHIPS.lt (Nat.le_of_eq g218.symm))
    have ne230 : s_CONFIDENCE_LEVEL ≠ b218 := Nat.ne_of_lt (Nat.lt_of_lt_of_le E_CONFIDENCE_LEVEL.lt (Nat.le_of_eq g218.symm))
    have low218 : n0 ≤ b218 := Nat.le_trans Z0 (Nat.le_of_eq g218.symm)
    have fsh218 : h0.size ≤ b218 := Nat.le_trans K0.1 (Nat.le_of_eq g218.symm)
    have K218 : Keep h0 h218 [] := K0.ext E218
    have Zs218 : n0 ≤ h218.size := Nat.le_trans Z0 E218.1
    have hk218 : s.heap.size ≤ h218.size := Nat.le_trans hk0 E218.1
    have go231 := gap go217 st218
    have F232 : Arv Z h218 b218 k218 .char (1 : Int32) [(.int 0)] (.int 0) := (Arv.new A218 (by decide)).pad (pad_rep [] (.int 0) 1)
    have go234 : Go p.tables e below T218 (mkF m 25 (L0_6 p0 p1 p2 p3 p4 b218) [(.int (v0_233 p1)), (.int 0), (.ref b218)]) En := by
      intro t k
      refine go231 _ ?_
      refine XS.astore X218.here hx rfl (hb hby at_9) rfl rfl (l' := (L0_6 p0 p1 p2 p3 p4 b218)) rfl ?_
      refine XS.iload X218.here hx rfl (hb hby at_11) rfl ?_
      refine XS.ifNo X218.here hx rfl (hb hby at_13) rfl (XT.i0_le_f (by decide : ((0 : Int32) < (1 : Int32)))) ?_
      show Steps _ _ _ (T218.setTop (mkF m 16 (L0_6 p0 p1 p2 p3 p4 b218) [])) _
      refine XS.aload X218.here hx rfl (hb hby at_16) rfl rfl ?_
      refine XS.iconst X218.here hx rfl (hb hby at_18) ?_
      refine XS.iloadN X218.here hx rfl (hb hby at_19) rfl ?_
      show Steps _ _ _ (T218.setTop (mkF m 20 (L0_6 p0 p1 p2 p3 p4 b218) [(.int p1), (.int 0), (.ref b218)])) _
      refine XS.sipush X218.here hx rfl (hb hby at_20) ?_
      refine XS.iand X218.here hx rfl (hb hby at_23) rfl ?_
      refine XS.i2c X218.here hx rfl (hb hby at_24) rfl ?_
      show Steps _ _ _ (T218.setTop (mkF m 25 (L0_6 p0 p1 p2 p3 p4 b218) [(.int (v0_233 p1)), (.int 0), (.ref b218)])) _
      exact k
    obtain ⟨cl236, Ar236, q236, S236, N236, H236, G236⟩ := id F232
    obtain ⟨T235, h235, X235, e235, W235, st235⟩ := stC X218 hx hZ e218 Ar236 (j := (0 : Int32)) (inb_of S236 ⟨by decide, by decide⟩) (g := (mkF m 25 (L0_6 p0 p1 p2 p3 p4 b218) [(.int (v0_233 p1)), (.int 0), (.ref b218)])) rfl rfl (hb hby at_25)
    have go237 := gap go234 st235
    have N235 := Fr.snoc X235 N0 low218
    have K235 : Keep h0 h235 [] := K218.wr W235 (Or.inr fsh218)
    have Zs235 : n0 ≤ h235.size := Nat.le_trans Zs218 (Keep.of_wr W235).1
    have hk235 : s.heap.size ≤ h235.size := Nat.le_trans hk218 (Keep.of_wr W235).1
    have F238 : Arv Z h235 b218 k218 .char (1 : Int32) [(.int (v0_233 p1).toUInt32.toUInt16.toUInt32.toInt32)] (.int 0) := Arv.set Ar236 q236 S236 N236 H236 G236 (fits_nar_char _) W235 0 rfl (Nat.le_of_ble_eq_true rfl)
    have go239 : Go p.tables e below T235 (mkF m 58 (L0_6 p0 p1 p2 p3 p4 b218) []) En := by
      intro t k
      refine go237 _ ?_
      refine XS.iload X235.here hx rfl (hb hby at_26) rfl ?_
      refine XS.iconst X235.here hx rfl (hb hby at_28) ?_
      refine XS.icmpYes X235.here hx rfl (pc0 := 29) (pc' := 42) rfl (hb hby at_29) rfl (XT.ii_le_t (by decide : ¬ ((1 : Int32) < (1 : Int32)))) (by decide) (by decide) ?_
      show Steps _ _ _ (T235.setTop (mkF m 42 (L0_6 p0 p1 p2 p3 p4 b218) [])) _
      refine XS.iload X235.here hx rfl (hb hby at_42) rfl ?_
      refine XS.iconst X235.here hx rfl (hb hby at_44) ?_
      refine XS.icmpYes X235.here hx rfl (pc0 := 45) (pc' := 58) rfl (hb hby at_45) rfl (XT.ii_le_t (by decide : ¬ ((2 : Int32) < (1 : Int32)))) (by decide) (by decide) ?_
      show Steps _ _ _ (T235.setTop (mkF m 58 (L0_6 p0 p1 p2 p3 p4 b218) [])) _
      exact k
    obtain ⟨T240, h240, X240, e240, E240, A240, D240, -, st240⟩ := newO X235 hx hZ hown (hw _ (mi 1 rfl)) (hw _ (mi 2 rfl)) (hw _ (mi 3 rfl)) e235 (g := (mkF m 58 (L0_6 p0 p1 p2 p3 p4 b218) [])) rfl (hb hby at_58) (by decide) (by decide)
    obtain ⟨b240, g240⟩ : ∃ z, z = h235.size := ⟨_, rfl⟩
    rw [← g240] at A240 D240 st240
    have ne241 : s_SUB ≠ b240 := Nat.ne_of_lt (Nat.lt_of_lt_of_le (E_SUB.keep K235).lt (Nat.le_of_eq g240.symm))
    have ne242 : s_EMAIL ≠ b240 := Nat.ne_of_lt (Nat.lt_of_lt_of_le (E_EMAIL.keep K235).lt (Nat.le_of_eq g240.symm))
    have ne243 : s_GIVEN_NAME ≠ b240 := Nat.ne_of_lt (Nat.lt_of_lt_of_le (E_GIVEN_NAME.keep K235).lt (Nat.le_of_eq g240.symm))
    have ne244 : s_MIDDLE_NAME ≠ b240 := Nat.ne_of_lt (Nat.lt_of_lt_of_le (E_MIDDLE_NAME.keep K235).lt (Nat.le_of_eq g240.symm))
    have ne245 : s_FAMILY_NAME ≠ b240 := Nat.ne_of_lt (Nat.lt_of_lt_of_le (E_FAMILY_NAME.keep K235).lt (Nat.le_of_eq g240.symm))
    have ne246 : s_NICKNAME ≠ b240 := Nat.ne_of_lt (Nat.lt_of_lt_of_le (E_NICKNAME.keep K235).lt (Nat.le_of_eq g240.symm))
    have ne247 : s_BIRTHDATE ≠ b240 := Nat.ne_of_lt (Nat.lt_of_lt_of_le (E_BIRTHDATE.keep K235).lt (Nat.le_of_eq g240.symm))
    have ne248 : s_MOBILE_NUMBER ≠ b240 := Nat.ne_of_lt (Nat.lt_of_lt_of_le (E_MOBILE_NUMBER.keep K235).lt (Nat.le_of_eq g240.symm))
    have ne249 : s_NHI ≠ b240 := Nat.ne_of_lt (Nat.lt_of_lt_of_le (E_NHI.keep K235).lt (Nat.le_of_eq g240.symm))
    have ne250 : s_CPN ≠ b240 := Nat.ne_of_lt (Nat.lt_of_lt_of_le (E_CPN.keep K235).lt (Nat.le_of_eq g240.symm))
    have ne251 : s_RELATIONSHIPS ≠ b240 := Nat.ne_of_lt (Nat.lt_of_lt_of_le (E_RELATIONSHIPS.keep K235).lt (Nat.le_of_eq g240.symm))
    have ne252 : s_CONFIDENCE_LEVEL ≠ b240 := Nat.ne_of_lt (Nat.lt_of_lt_of_le (E_CONFIDENCE_LEVEL.keep K235).lt (Nat.le_of_eq g240.symm))
    have ne253 : b218 ≠ b240 := Nat.ne_of_lt (Nat.lt_of_lt_of_le F238.lt (Nat.le_of_eq g240.symm))
    have low240 : n0 ≤ b240 := Nat.le_trans Zs235 (Nat.le_of_eq g240.symm)
    have fsh240 : h0.size ≤ b240 := Nat.le_trans K235.1 (Nat.le_of_eq g240.symm)
    have K240 : Keep h0 h240 [] := K235.ext E240
    have Zs240 : n0 ≤ h240.size := Nat.le_trans Zs235 E240.1
    have hk240 : s.heap.size ≤ h240.size := Nat.le_trans hk235 E240.1
    have go254 := gap go239 st240
    have F255 := F238.ext E240
    have F256 : Fld Z h240 b240 "java/lang/String" "value" "[B" .null := D240 (Or.inr (hw _ (mi 16 rfl))) (ty := (.array .byte)) (by decide)
    have F257 : Fld Z h240 b240 "java/lang/String" "coder" "B" (.int 0) := D240 (Or.inr (hw _ (mi 17 rfl))) (ty := .byte) (by decide)
    have go258 : Go p.tables e below T240 (mkF m 64 (L0_6 p0 p1 p2 p3 p4 b218) [(.ref b218), (.ref b240), (.ref b240)]) En := by
      intro t k
      refine go254 _ ?_
      refine XS.dup X240.here hx rfl (hb hby at_61) rfl rfl ?_
      refine XS.aload X240.here hx rfl (hb hby at_62) rfl rfl ?_
      exact k
    obtain ⟨_, T259, Lc259, X259, hQ259, st259⟩ := own_ci X240 hx hZ hown hml go258 (hb hby at_64) e240 (hw _ (mi 4 rfl)) (own_site197 hw) rfl (rmiBn1 l Z aZ hw [] _ _ _ _ _ h240 n0 Zs240 A240 F256 F257 low240 F255 (own_sta_keep S_COMPACT_STRINGS K240 all0) hcs (own_c255 p1)) (by decide) (argsL := [(.ref b218)]) (rest := [(.ref b240)]) rfl rfl rfl (lenOf pd_180 rfl) (W := 1) rfl (by decide) (by decide) (by decide : 2 + 1 ≤ _) (by decide : 5 + 1 ≤ _)
    obtain ⟨rfl, N259q, K259q, G259_0, G259_1⟩ := hQ259
    have N259 := Fr.app N235 N259q
    have K259 : Keep h0 T259.heap [] := K240.trans K259q (allS (Or.inr fsh240) all0)
    have Zs259 : n0 ≤ T259.heap.size := Nat.le_trans Zs240 K259q.1
    have hk259 : s.heap.size ≤ T259.heap.size := Nat.le_trans hk240 K259q.1
    have F260 := F255.keep K259q (ninS ne253 nin0)
    have F261 := A240.keep K259q
    have go262 : Go p.tables e below T259 (mkF m 71 (L0_7 p0 p1 p2 p3 p4 b218 b240) [(.int 12)]) En := by
      intro t k
      refine st259 _ ?_
      refine XS.astore X259.here hx rfl (hb hby at_67) rfl rfl (l' := (L0_7 p0 p1 p2 p3 p4 b218 b240)) rfl ?_
      refine XS.bipush X259.here hx rfl (hb hby at_69) ?_
      exact k
    obtain ⟨T263, h263, k263, X263, e263, E263, A263, O263, st263⟩ := newR X259 hx hZ hown (hw _ (mi 22 rfl)) (hw _ (mi 23 rfl)) rfl (g := (mkF m 71 (L0_7 p0 p1 p2 p3 p4 b218 b240) [(.int 12)])) rfl (hb hby at_71) rfl (by decide) (cap := 12) (by decide) (by decide) (by decide) (by decide)
    obtain ⟨b263, g263⟩ : ∃ z, z = T259.heap.size := ⟨_, rfl⟩
    rw [← g263] at A263 st263
    have ne264 : s_SUB ≠ b263 := Nat.ne_of_lt (Nat.lt_of_lt_of_le (E_SUB.keep K259).lt (Nat.le_of_eq g263.symm))
    have ne265 : s_EMAIL ≠ b263 := Nat.ne_of_lt (Nat.lt_of_lt_of_le (E_EMAIL.keep K259).lt (Nat.le_of_eq g263.symm))
    have ne266 : s_GIVEN_NAME ≠ b263 := Nat.ne_of_lt (Nat.lt_of_lt_of_le (E_GIVEN_NAME.keep K259).lt (Nat.le_of_eq g263.symm))
    have ne267 : s_MIDDLE_NAME ≠ b263 := Nat.ne_of_lt (Nat.lt_of_lt_of_le (E_MIDDLE_NAME.keep K259).lt (Nat.le_of_eq g263.symm))
    have ne268 : s_FAMILY_NAME ≠ b263 := Nat.ne_of_lt (Nat.lt_of_lt_of_le (E_FAMILY_NAME.keep K259).lt (Nat.le_of_eq g263.symm))
    have ne269 : s_NICKNAME ≠ b263 := Nat.ne_of_lt (Nat.lt_of_lt_of_le (E_NICKNAME.keep K259).lt (Nat.le_of_eq g263.symm))
    have ne270 : s_BIRTHDATE ≠ b263 := Nat.ne_of_lt (Nat.lt_of_lt_of_le (E_BIRTHDATE.keep K259).lt (Nat.le_of_eq g263.symm))
    have ne271 : s_MOBILE_NUMBER ≠ b263 := Nat.ne_of_lt (Nat.lt_of_lt_of_le (E_MOBILE_NUMBER.keep K259).lt (Nat.le_of_eq g263.symm))
    have ne272 : s_NHI ≠ b263 := Nat.ne_of_lt (Nat.lt_of_lt_of_le (E_NHI.keep K259).lt (Nat.le_of_eq g263.symm))
    have ne273 : s_CPN ≠ b263 := Nat.ne_of_lt (Nat.lt_of_lt_of_le (E_CPN.keep K259).lt (Nat.le_of_eq g263.symm))
    have ne274 : s_RELATIONSHIPS ≠ b263 := Nat.ne_of_lt (Nat.lt_of_lt_of_le (E_RELATIONSHIPS.keep K259).lt (Nat.le_of_eq g263.symm))
    have ne275 : s_CONFIDENCE_LEVEL ≠ b263 := Nat.ne_of_lt (Nat.lt_of_lt_of_le (E_CONFIDENCE_LEVEL.keep K259).lt (Nat.le_of_eq g263.symm))
    have ne276 : b218 ≠ b263 := Nat.ne_of_lt (Nat.lt_of_lt_of_le F260.lt (Nat.le_of_eq g263.symm))
    have ne277 : b240 ≠ b263 := Nat.ne_of_lt (Nat.lt_of_lt_of_le G259_0.lt (Nat.le_of_eq g263.symm))
    have low263 : n0 ≤ b263 := Nat.le_trans Zs259 (Nat.le_of_eq g263.symm)
    have fsh263 : h0.size ≤ b263 := Nat.le_trans K259.1 (Nat.le_of_eq g263.symm)
    have K263 : Keep h0 h263 [] := K259.ext E263
    have Zs263 : n0 ≤ h263.size := Nat.le_trans Zs259 E263.1
    have hk263 : s.heap.size ≤ h263.size := Nat.le_trans hk259 E263.1
    have go278 := gap go262 st263
    have F279 := F260.ext E263
    have F280 := G259_0.ext E263
    have F281 := G259_1.ext E263
    have F282 : Arv Z h263 b263 k263 (.object "com/example/hauora_id/hauoraid/model/Claim") (12 : Int32) [.null, .null, .null, .null, .null, .null, .null, .null, .null, .null, .null, .null] .null := (Arv.new A263 (by decide)).pad (pad_rep [] .null 12)
    have go283 : Go p.tables e below T263 (mkF m 76 (L0_7 p0 p1 p2 p3 p4 b218 b240) [(.int 0), (.ref b263), (.ref b263)]) En := by
      intro t k
      refine go278 _ ?_
      refine XS.dup X263.here hx rfl (hb hby at_74) rfl rfl ?_
      refine XS.iconst X263.here hx rfl (hb hby at_75) ?_
      exact k
    obtain ⟨T284, X284, e284, st284⟩ := getS2 X263 hx hZ hown (host := "") (Or.inl (hw _ (mi 24 rfl))) Via.refl e263 (own_sta_keep S_SUB K263 all0) (g := (mkF m 76 (L0_7 p0 p1 p2 p3 p4 b218 b240) [(.int 0), (.ref b263), (.ref b263)])) rfl (hb hby at_76)
    have go285 := gap go283 st284
    obtain ⟨cl287, Ar287, q287, S287, N287, H287, G287⟩ := id F282
    obtain ⟨T286, h286, X286, e286, W286, st286⟩ := stR X284 hx hZ e284 Ar287 (j := (0 : Int32)) (inb_of S287 ⟨by decide, by decide⟩) rfl (Sto.ofV Ar287 q287 O263 (Ins.self (E_SUB.keep K263))) (g := (mkF m 79 (L0_7 p0 p1 p2 p3 p4 b218 b240) [(.ref s_SUB), (.int 0), (.ref b263), (.ref b263)])) rfl rfl (hb hby at_79)
    have go288 := gap go285 st286
    have N286 := Fr.snoc X286 N259 low263
    have K286 : Keep h0 h286 [] := K263.wr W286 (Or.inr fsh263)
    have Zs286 : n0 ≤ h286.size := Nat.le_trans Zs263 (Keep.of_wr W286).1
    have hk286 : s.heap.size ≤ h286.size := Nat.le_trans hk263 (Keep.of_wr W286).1
    have F289 := F279.other W286 ne276
    have F290 := F280.wr W286
    have F291 := F281.other W286 (Or.inl ne277)
    have F292 : Arv Z h286 b263 k263 (.object "com/example/hauora_id/hauoraid/model/Claim") (12 : Int32) [(.ref s_SUB), .null, .null, .null, .null, .null, .null, .null, .null, .null, .null, .null] .null := Arv.set Ar287 q287 S287 N287 H287 G287 rfl W286 0 rfl (Nat.le_of_ble_eq_true rfl)
    have go293 : Go p.tables e below T286 (mkF m 82 (L0_7 p0 p1 p2 p3 p4 b218 b240) [(.int 1), (.ref b263), (.ref b263)]) En := by
      intro t k
      refine go288 _ ?_
      refine XS.dup X286.here hx rfl (hb hby at_80) rfl rfl ?_
      refine XS.iconst X286.here hx rfl (hb hby at_81) ?_
      exact k
    obtain ⟨T294, X294, e294, st294⟩ := getS2 X286 hx hZ hown (host := "") (Or.inl (hw _ (mi 28 rfl))) Via.refl e286 (own_sta_keep S_EMAIL K286 all0) (g := (mkF m 82 (L0_7 p0 p1 p2 p3 p4 b218 b240) [(.int 1), (.ref b263), (.ref b263)])) rfl (hb hby at_82)
    have go295 := gap go293 st294
    obtain ⟨cl297, Ar297, q297, S297, N297, H297, G297⟩ := id F292
    obtain ⟨T296, h296, X296, e296, W296, st296⟩ := stR X294 hx hZ e294 Ar297 (j := (1 : Int32)) (inb_of S297 ⟨by decide, by decide⟩) rfl (Sto.ofV Ar297 q297 O263 (Ins.self (E_EMAIL.keep K286))) (g := (mkF m 85 (L0_7 p0 p1 p2 p3 p4 b218 b240) [(.ref s_EMAIL), (.int 1), (.ref b263), (.ref b263)])) rfl rfl (hb hby at_85)
    have go298 := gap go295 st296
    have N296 := Fr.snoc X296 N286 low263
    have K296 : Keep h0 h296 [] := K286.wr W296 (Or.inr fsh263)
    have Zs296 : n0 ≤ h296.size := Nat.le_trans Zs286 (Keep.of_wr W296).1
    have hk296 : s.heap.size ≤ h296.size := Nat.le_trans hk286 (Keep.of_wr W296).1
    have F299 := F289.other W296 ne276
    have F300 := F290.wr W296
    have F301 := F291.other W296 (Or.inl ne277)
    have F302 : Arv Z h296 b263 k263 (.object "com/example/hauora_id/hauoraid/model/Claim") (12 : Int32) [(.ref s_SUB), (.ref s_EMAIL), .null, .null, .null, .null, .null, .null, .null, .null, .null, .null] .null := Arv.set Ar297 q297 S297 N297 H297 G297 rfl W296 1 rfl (Nat.le_of_ble_eq_true rfl)
    have go303 : Go p.tables e below T296 (mkF m 88 (L0_7 p0 p1 p2 p3 p4 b218 b240) [(.int 2), (.ref b263), (.ref b263)]) En := by
      intro t k
      refine go298 _ ?_
      refine XS.dup X296.here hx rfl (hb hby at_86) rfl rfl ?_
      refine XS.iconst X296.here hx rfl (hb hby at_87) ?_
      exact k
    obtain ⟨T304, X304, e304, st304⟩ := getS2 X296 hx hZ hown (host := "") (Or.inl (hw _ (mi 30 rfl))) Via.refl e296 (own_sta_keep S_GIVEN_NAME K296 all0) (g := (mkF m 88 (L0_7 p0 p1 p2 p3 p4 b218 b240) [(.int 2), (.ref b263), (.ref b263)])) rfl (hb hby at_88)
    have go305 := gap go303 st304
    obtain ⟨cl307, Ar307, q307, S307, N307, H307, G307⟩ := id F302
    obtain ⟨T306, h306, X306, e306, W306, st306⟩ := stR X304 hx hZ e304 Ar307 (j := (2 : Int32)) (inb_of S307 ⟨by decide, by decide⟩) rfl (Sto.ofV Ar307 q307 O263 (Ins.self (E_GIVEN_NAME.keep K296))) (g := (mkF m 91 (L0_7 p0 p1 p2 p3 p4 b218 b240) [(.ref s_GIVEN_NAME), (.int 2), (.ref b263), (.ref b263)])) rfl rfl (hb hby at_91)
    have go308 := gap go305 st306
    have N306 := Fr.snoc X306 N296 low263
    have K306 : Keep h0 h306 [] := K296.wr W306 (Or.inr fsh263)
    have Zs306 : n0 ≤ h306.size := Nat.le_trans Zs296 (Keep.of_wr W306).1
    have hk306 : s.heap.size ≤ h306.size := Nat.le_trans hk296 (Keep.of_wr W306).1
    have F309 := F299.other W306 ne276
    have F310 := F300.wr W306
    have F311 := F301.other W306 (Or.inl ne277)
    have F312 : Arv Z h306 b263 k263 (.object "com/example/hauora_id/hauoraid/model/Claim") (12 : Int32) [(.ref s_SUB), (.ref s_EMAIL), (.ref s_GIVEN_NAME), .null, .null, .null, .null, .null, .null, .null, .null, .null] .null := Arv.set Ar307 q307 S307 N307 H307 G307 rfl W306 2 rfl (Nat.le_of_ble_eq_true rfl)
    have go313 : Go p.tables e below T306 (mkF m 94 (L0_7 p0 p1 p2 p3 p4 b218 b240) [(.int 3), (.ref b263), (.ref b263)]) En := by
      intro t k
      refine go308 _ ?_
      refine XS.dup X306.here hx rfl (hb hby at_92) rfl rfl ?_
      refine XS.iconst X306.here hx rfl (hb hby at_93) ?_
      exact k
    obtain ⟨T314, X314, e314, st314⟩ := getS2 X306 hx hZ hown (host := "") (Or.inl (hw _ (mi 32 rfl))) Via.refl e306 (own_sta_keep S_MIDDLE_NAME K306 all0) (g := (mkF m 94 (L0_7 p0 p1 p2 p3 p4 b218 b240) [(.int 3), (.ref b263), (.ref b263)])) rfl (hb hby at_94)
    have go315 := gap go313 st314
    obtain ⟨cl317, Ar317, q317, S317, N317, H317, G317⟩ := id F312
    obtain ⟨T316, h316, X316, e316, W316, st316⟩ := stR X314 hx hZ e314 Ar317 (j := (3 : Int32)) (inb_of S317 ⟨by decide, by decide⟩) rfl (Sto.ofV Ar317 q317 O263 (Ins.self (E_MIDDLE_NAME.keep K306))) (g := (mkF m 97 (L0_7 p0 p1 p2 p3 p4 b218 b240) [(.ref s_MIDDLE_NAME), (.int 3), (.ref b263), (.ref b263)])) rfl rfl (hb hby at_97)
    have go318 := gap go315 st316
    have N316 := Fr.snoc X316 N306 low263
    have K316 : Keep h0 h316 [] := K306.wr W316 (Or.inr fsh263)
    have Zs316 : n0 ≤ h316.size := Nat.le_trans Zs306 (Keep.of_wr W316).1
    have hk316 : s.heap.size ≤ h316.size := Nat.le_trans hk306 (Keep.of_wr W316).1
    have F319 := F309.other W316 ne276
    have F320 := F310.wr W316
    have F321 := F311.other W316 (Or.inl ne277)
    have F322 : Arv Z h316 b263 k263 (.object "com/example/hauora_id/hauoraid/model/Claim") (12 : Int32) [(.ref s_SUB), (.ref s_EMAIL), (.ref s_GIVEN_NAME), (.ref s_MIDDLE_NAME), .null, .null, .null, .null, .null, .null, .null, .null] .null := Arv.set Ar317 q317 S317 N317 H317 G317 rfl W316 3 rfl (Nat.le_of_ble_eq_true rfl)
    have go323 : Go p.tables e below T316 (mkF m 100 (L0_7 p0 p1 p2 p3 p4 b218 b240) [(.int 4), (.ref b263), (.ref b263)]) En := by
      intro t k
      refine go318 _ ?_
      refine XS.dup X316.here hx rfl (hb hby at_98) rfl rfl ?_
      refine XS.iconst X316.here hx rfl (hb hby at_99) ?_
      exact k
    obtain ⟨T324, X324, e324, st324⟩ := getS2 X316 hx hZ hown (host := "") (Or.inl (hw _ (mi 34 rfl))) Via.refl e316 (own_sta_keep S_FAMILY_NAME K316 all0) (g := (mkF m 100 (L0_7 p0 p1 p2 p3 p4 b218 b240) [(.int 4), (.ref b263), (.ref b263)])) rfl (hb hby at_100)
    have go325 := gap go323 st324
    obtain ⟨cl327, Ar327, q327, S327, N327, H327, G327⟩ := id F322
    obtain ⟨T326, h326, X326, e326, W326, st326⟩ := stR X324 hx hZ e324 Ar327 (j := (4 : Int32)) (inb_of S327 ⟨by decide, by decide⟩) rfl (Sto.ofV Ar327 q327 O263 (Ins.self (E_FAMILY_NAME.keep K316))) (g := (mkF m 103 (L0_7 p0 p1 p2 p3 p4 b218 b240) [(.ref s_FAMILY_NAME), (.int 4), (.ref b263), (.ref b263)])) rfl rfl (hb hby at_103)
    have go328 := gap go325 st326
    have N326 := Fr.snoc X326 N316 low263
    have K326 : Keep h0 h326 [] := K316.wr W326 (Or.inr fsh263)
    have Zs326 : n0 ≤ h326.size := Nat.le_trans Zs316 (Keep.of_wr W326).1
    have hk326 : s.heap.size ≤ h326.size := Nat.le_trans hk316 (Keep.of_wr W326).1
    have F329 := F319.other W326 ne276
    have F330 := F320.wr W326
    have F331 := F321.other W326 (Or.inl ne277)
    have F332 : Arv Z h326 b263 k263 (.object "com/example/hauora_id/hauoraid/model/Claim") (12 : Int32) [(.ref s_SUB), (.ref s_EMAIL), (.ref s_GIVEN_NAME), (.ref s_MIDDLE_NAME), (.ref s_FAMILY_NAME), .null, .null, .null, .null, .null, .null, .null] .null := Arv.set Ar327 q327 S327 N327 H327 G327 rfl W326 4 rfl (Nat.le_of_ble_eq_true rfl)
    have go333 : Go p.tables e below T326 (mkF m 106 (L0_7 p0 p1 p2 p3 p4 b218 b240) [(.int 5), (.ref b263), (.ref b263)]) En := by
      intro t k
      refine go328 _ ?_
      refine XS.dup X326.here hx rfl (hb hby at_104) rfl rfl ?_
      refine XS.iconst X326.here hx rfl (hb hby at_105) ?_
      exact k
    obtain ⟨T334, X334, e334, st334⟩ := getS2 X326 hx hZ hown (host := "") (Or.inl (hw _ (mi 36 rfl))) Via.refl e326 (own_sta_keep S_NICKNAME K326 all0) (g := (mkF m 106 (L0_7 p0 p1 p2 p3 p4 b218 b240) [(.int 5), (.ref b263), (.ref b263)])) rfl (hb hby at_106)
    have go335 := gap go333 st334
    obtain ⟨cl337, Ar337, q337, S337, N337, H337, G337⟩ := id F332
    obtain ⟨T336, h336, X336, e336, W336, st336⟩ := stR X334 hx hZ e334 Ar337 (j := (5 : Int32)) (inb_of S337 ⟨by decide, by decide⟩) rfl (Sto.ofV Ar337 q337 O263 (Ins.self (E_NICKNAME.keep K326))) (g := (mkF m 109 (L0_7 p0 p1 p2 p3 p4 b218 b240) [(.ref s_NICKNAME), (.int 5), (.ref b263), (.ref b263)])) rfl rfl (hb hby at_109)
    have go338 := gap go335 st336
    have N336 := Fr.snoc X336 N326 low263
    have K336 : Keep h0 h336 [] := K326.wr W336 (Or.inr fsh263)
    have Zs336 : n0 ≤ h336.size := Nat.le_trans Zs326 (Keep.of_wr W336).1
    have hk336 : s.heap.size ≤ h336.size := Nat.le_trans hk326 (Keep.of_wr W336).1
    have F339 := F329.other W336 ne276
    have F340 := F330.wr W336
    have F341 := F331.other W336 (Or.inl ne277)
    have F342 : Arv Z h336 b263 k263 (.object "com/example/hauora_id/hauoraid/model/Claim") (12 : Int32) [(.ref s_SUB), (.ref s_EMAIL), (.ref s_GIVEN_NAME), (.ref s_MIDDLE_NAME), (.ref s_FAMILY_NAME), (.ref s_NICKNAME), .null, .null, .null, .null, .null, .null] .null := Arv.set Ar337 q337 S337 N337 H337 G337 rfl W336 5 rfl (Nat.le_of_ble_eq_true rfl)
    have go343 : Go p.tables e below T336 (mkF m 113 (L0_7 p0 p1 p2 p3 p4 b218 b240) [(.int 6), (.ref b263), (.ref b263)]) En := by
      intro t k
      refine go338 _ ?_
      refine XS.dup X336.here hx rfl (hb hby at_110) rfl rfl ?_
      refine XS.bipush X336.here hx rfl (hb hby at_111) ?_
      exact k
    obtain ⟨T344, X344, e344, st344⟩ := getS2 X336 hx hZ hown (host := "") (Or.inl (hw _ (mi 38 rfl))) Via.refl e336 (own_sta_keep S_BIRTHDATE K336 all0) (g := (mkF m 113 (L0_7 p0 p1 p2 p3 p4 b218 b240) [(.int 6), (.ref b263), (.ref b263)])) rfl (hb hby at_113)
    have go345 := gap go343 st344
    obtain ⟨cl347, Ar347, q347, S347, N347, H347, G347⟩ := id F342
    obtain ⟨T346, h346, X346, e346, W346, st346⟩ := stR X344 hx hZ e344 Ar347 (j := (6 : Int32)) (inb_of S347 ⟨by decide, by decide⟩) rfl (Sto.ofV Ar347 q347 O263 (Ins.self (E_BIRTHDATE.keep K336))) (g := (mkF m 116 (L0_7 p0 p1 p2 p3 p4 b218 b240) [(.ref s_BIRTHDATE), (.int 6), (.ref b263), (.ref b263)])) rfl rfl (hb hby at_116)
    have go348 := gap go345 st346
    have N346 := Fr.snoc X346 N336 low263
    have K346 : Keep h0 h346 [] := K336.wr W346 (Or.inr fsh263)
    have Zs346 : n0 ≤ h346.size := Nat.le_trans Zs336 (Keep.of_wr W346).1
    have hk346 : s.heap.size ≤ h346.size := Nat.le_trans hk336 (Keep.of_wr W346).1
    have F349 := F339.other W346 ne276
    have F350 := F340.wr W346
    have F351 := F341.other W346 (Or.inl ne277)
    have F352 : Arv Z h346 b263 k263 (.object "com/example/hauora_id/hauoraid/model/Claim") (12 : Int32) [(.ref s_SUB), (.ref s_EMAIL), (.ref s_GIVEN_NAME), (.ref s_MIDDLE_NAME), (.ref s_FAMILY_NAME), (.ref s_NICKNAME), (.ref s_BIRTHDATE), .null, .null, .null, .null, .null] .null := Arv.set Ar347 q347 S347 N347 H347 G347 rfl W346 6 rfl (Nat.le_of_ble_eq_true rfl)
    have go353 : Go p.tables e below T346 (mkF m 120 (L0_7 p0 p1 p2 p3 p4 b218 b240) [(.int 7), (.ref b263), (.ref b263)]) En := by
      intro t k
      refine go348 _ ?_
      refine XS.dup X346.here hx rfl (hb hby at_117) rfl rfl ?_
      refine XS.bipush X346.here hx rfl (hb hby at_118) ?_
      exact k
    obtain ⟨T354, X354, e354, st354⟩ := getS2 X346 hx hZ hown (host := "") (Or.inl (hw _ (mi 40 rfl))) Via.refl e346 (own_sta_keep S_MOBILE_NUMBER K346 all0) (g := (mkF m 120 (L0_7 p0 p1 p2 p3 p4 b218 b240) [(.int 7), (.ref b263), (.ref b263)])) rfl (hb hby at_120)
    have go355 := gap go353 st354
    obtain ⟨cl357, Ar357, q357, S357, N357, H357, G357⟩ := id F352
    obtain ⟨T356, h356, X356, e356, W356, st356⟩ := stR X354 hx hZ e354 Ar357 (j := (7 : Int32)) (inb_of S357 ⟨by decide, by decide⟩) rfl (Sto.ofV Ar357 q357 O263 (Ins.self (E_MOBILE_NUMBER.keep K346))) (g := (mkF m 123 (L0_7 p0 p1 p2 p3 p4 b218 b240) [(.ref s_MOBILE_NUMBER), (.int 7), (.ref b263), (.ref b263)])) rfl rfl (hb hby at_123)
    have go358 := gap go355 st356
    have N356 := Fr.snoc X356 N346 low263
    have K356 : Keep h0 h356 [] := K346.wr W356 (Or.inr fsh263)
    have Zs356 : n0 ≤ h356.size := Nat.le_trans Zs346 (Keep.of_wr W356).1
    have hk356 : s.heap.size ≤ h356.size := Nat.le_trans hk346 (Keep.of_wr W356).1
    have F359 := F349.other W356 ne276
    have F360 := F350.wr W356
    have F361 := F351.other W356 (Or.inl ne277)
    have F362 : Arv Z h356 b263 k263 (.object "com/example/hauora_id/hauoraid/model/Claim") (12 : Int32) [(.ref s_SUB), (.ref s_EMAIL), (.ref s_GIVEN_NAME), (.ref s_MIDDLE_NAME), (.ref s_FAMILY_NAME), (.ref s_NICKNAME), (.ref s_BIRTHDATE), (.ref s_MOBILE_NUMBER), .null, .null, .null, .null] .null := Arv.set Ar357 q357 S357 N357 H357 G357 rfl W356 7 rfl (Nat.le_of_ble_eq_true rfl)
    have go363 : Go p.tables e below T356 (mkF m 127 (L0_7 p0 p1 p2 p3 p4 b218 b240) [(.int 8), (.ref b263), (.ref b263)]) En := by
      intro t k
      refine go358 _ ?_
      refine XS.dup X356.here hx rfl (hb hby at_124) rfl rfl ?_
      refine XS.bipush X356.here hx rfl (hb hby at_125) ?_
      exact k
    obtain ⟨T364, X364, e364, st364⟩ := getS2 X356 hx hZ hown (host := "") (Or.inl (hw _ (mi 42 rfl))) Via.refl e356 (own_sta_keep S_NHI K356 all0) (g := (mkF m 127 (L0_7 p0 p1 p2 p3 p4 b218 b240) [(.int 8), (.ref b263), (.ref b263)])) rfl (hb hby at_127)
    have go365 := gap go363 st364
    obtain ⟨cl367, Ar367, q367, S367, N367, H367, G367⟩ := id F362
    obtain ⟨T366, h366, X366, e366, W366, st366⟩ := stR X364 hx hZ e364 Ar367 (j := (8 : Int32)) (inb_of S367 ⟨by decide, by decide⟩) rfl (Sto.ofV Ar367 q367 O263 (Ins.self (E_NHI.keep K356))) (g := (mkF m 130 (L0_7 p0 p1 p2 p3 p4 b218 b240) [(.ref s_NHI), (.int 8), (.ref b263), (.ref b263)])) rfl rfl (hb hby at_130)
    have go368 := gap go365 st366
    have N366 := Fr.snoc X366 N356 low263
    have K366 : Keep h0 h366 [] := K356.wr W366 (Or.inr fsh263)
    have Zs366 : n0 ≤ h366.size := Nat.le_trans Zs356 (Keep.of_wr W366).1
    have hk366 : s.heap.size ≤ h366.size := Nat.le_trans hk356 (Keep.of_wr W366).1
    have F369 := F359.other W366 ne276
    have F370 := F360.wr W366
    have F371 := F361.other W366 (Or.inl ne277)
    have F372 : Arv Z h366 b263 k263 (.object "com/example/hauora_id/hauoraid/model/Claim") (12 : Int32) [(.ref s_SUB), (.ref s_EMAIL), (.ref s_GIVEN_NAME), (.ref s_MIDDLE_NAME), (.ref s_FAMILY_NAME), (.ref s_NICKNAME), (.ref s_BIRTHDATE), (.ref s_MOBILE_NUMBER), (.ref s_NHI), .null, .null, .null] .null := Arv.set Ar367 q367 S367 N367 H367 G367 rfl W366 8 rfl (Nat.le_of_ble_eq_true rfl)
    have go373 : Go p.tables e below T366 (mkF m 134 (L0_7 p0 p1 p2 p3 p4 b218 b240) [(.int 9), (.ref b263), (.ref b263)]) En := by
      intro t k
      refine go368 _ ?_
      refine XS.dup X366.here hx rfl (hb hby at_131) rfl rfl ?_
      refine XS.bipush X366.here hx rfl (hb hby at_132) ?_
      exact k
    obtain ⟨T374, X374, e374, st374⟩ := getS2 X366 hx hZ hown (host := "") (Or.inl (hw _ (mi 44 rfl))) Via.refl e366 (own_sta_keep S_CPN K366 all0) (g := (mkF m 134 (L0_7 p0 p1 p2 p3 p4 b218 b240) [(.int 9), (.ref b263), (.ref b263)])) rfl (hb hby at_134)
    have go375 := gap go373 st374
    obtain ⟨cl377, Ar377, q377, S377, N377, H377, G377⟩ := id F372
    obtain ⟨T376, h376, X376, e376, W376, st376⟩ := stR X374 hx hZ e374 Ar377 (j := (9 : Int32)) (inb_of S377 ⟨by decide, by decide⟩) rfl (Sto.ofV Ar377 q377 O263 (Ins.self (E_CPN.keep K366))) (g := (mkF m 137 (L0_7 p0 p1 p2 p3 p4 b218 b240) [(.ref s_CPN), (.int 9), (.ref b263), (.ref b263)])) rfl rfl (hb hby at_137)
    have go378 := gap go375 st376
    have N376 := Fr.snoc X376 N366 low263
    have K376 : Keep h0 h376 [] := K366.wr W376 (Or.inr fsh263)
    have Zs376 : n0 ≤ h376.size := Nat.le_trans Zs366 (Keep.of_wr W376).1
    have hk376 : s.heap.size ≤ h376.size := Nat.le_trans hk366 (Keep.of_wr W376).1
    have F379 := F369.other W376 ne276
    have F380 := F370.wr W376
    have F381 := F371.other W376 (Or.inl ne277)
    have F382 : Arv Z h376 b263 k263 (.object "com/example/hauora_id/hauoraid/model/Claim") (12 : Int32) [(.ref s_SUB), (.ref s_EMAIL), (.ref s_GIVEN_NAME), (.ref s_MIDDLE_NAME), (.ref s_FAMILY_NAME), (.ref s_NICKNAME), (.ref s_BIRTHDATE), (.ref s_MOBILE_NUMBER), (.ref s_NHI), (.ref s_CPN), .null, .null] .null := Arv.set Ar377 q377 S377 N377 H377 G377 rfl W376 9 rfl (Nat.le_of_ble_eq_true rfl)
    have go383 : Go p.tables e below T376 (mkF m 141 (L0_7 p0 p1 p2 p3 p4 b218 b240) [(.int 10), (.ref b263), (.ref b263)]) En := by
      intro t k
      refine go378 _ ?_
      refine XS.dup X376.here hx rfl (hb hby at_138) rfl rfl ?_
      refine XS.bipush X376.here hx rfl (hb hby at_139) ?_
      exact k
    obtain ⟨T384, X384, e384, st384⟩ := getS2 X376 hx hZ hown (host := "") (Or.inl (hw _ (mi 46 rfl))) Via.refl e376 (own_sta_keep S_RELATIONSHIPS K376 all0) (g := (mkF m 141 (L0_7 p0 p1 p2 p3 p4 b218 b240) [(.int 10), (.ref b263), (.ref b263)])) rfl (hb hby at_141)
    have go385 := gap go383 st384
    obtain ⟨cl387, Ar387, q387, S387, N387, H387, G387⟩ := id F382
    obtain ⟨T386, h386, X386, e386, W386, st386⟩ := stR X384 hx hZ e384 Ar387 (j := (10 : Int32)) (inb_of S387 ⟨by decide, by decide⟩) rfl (Sto.ofV Ar387 q387 O263 (Ins.self (E_RELATIONSHIPS.keep K376))) (g := (mkF m 144 (L0_7 p0 p1 p2 p3 p4 b218 b240) [(.ref s_RELATIONSHIPS), (.int 10), (.ref b263), (.ref b263)])) rfl rfl (hb hby at_144)
    have go388 := gap go385 st386
    have N386 := Fr.snoc X386 N376 low263
    have K386 : Keep h0 h386 [] := K376.wr W386 (Or.inr fsh263)
    have Zs386 : n0 ≤ h386.size := Nat.le_trans Zs376 (Keep.of_wr W386).1
    have hk386 : s.heap.size ≤ h386.size := Nat.le_trans hk376 (Keep.of_wr W386).1
    have F389 := F379.other W386 ne276
    have F390 := F380.wr W386
    have F391 := F381.other W386 (Or.inl ne277)
    have F392 : Arv Z h386 b263 k263 (.object "com/example/hauora_id/hauoraid/model/Claim") (12 : Int32) [(.ref s_SUB), (.ref s_EMAIL), (.ref s_GIVEN_NAME), (.ref s_MIDDLE_NAME), (.ref s_FAMILY_NAME), (.ref s_NICKNAME), (.ref s_BIRTHDATE), (.ref s_MOBILE_NUMBER), (.ref s_NHI), (.ref s_CPN), (.ref s_RELATIONSHIPS), .null] .null := Arv.set Ar387 q387 S387 N387 H387 G387 rfl W386 10 rfl (Nat.le_of_ble_eq_true rfl)
    have go393 : Go p.tables e below T386 (mkF m 148 (L0_7 p0 p1 p2 p3 p4 b218 b240) [(.int 11), (.ref b263), (.ref b263)]) En := by
      intro t k
      refine go388 _ ?_
      refine XS.dup X386.here hx rfl (hb hby at_145) rfl rfl ?_
      refine XS.bipush X386.here hx rfl (hb hby at_146) ?_
      exact k
    obtain ⟨T394, X394, e394, st394⟩ := getS2 X386 hx hZ hown (host := "") (Or.inl (hw _ (mi 48 rfl))) Via.refl e386 (own_sta_keep S_CONFIDENCE_LEVEL K386 all0) (g := (mkF m 148 (L0_7 p0 p1 p2 p3 p4 b218 b240) [(.int 11), (.ref b263), (.ref b263)])) rfl (hb hby at_148)
    have go395 := gap go393 st394
    obtain ⟨cl397, Ar397, q397, S397, N397, H397, G397⟩ := id F392
    obtain ⟨T396, h396, X396, e396, W396, st396⟩ := stR X394 hx hZ e394 Ar397 (j := (11 : Int32)) (inb_of S397 ⟨by decide, by decide⟩) rfl (Sto.ofV Ar397 q397 O263 (Ins.self (E_CONFIDENCE_LEVEL.keep K386))) (g := (mkF m 151 (L0_7 p0 p1 p2 p3 p4 b218 b240) [(.ref s_CONFIDENCE_LEVEL), (.int 11), (.ref b263), (.ref b263)])) rfl rfl (hb hby at_151)
    have go398 := gap go395 st396
    have N396 := Fr.snoc X396 N386 low263
    have K396 : Keep h0 h396 [] := K386.wr W396 (Or.inr fsh263)
    have Zs396 : n0 ≤ h396.size := Nat.le_trans Zs386 (Keep.of_wr W396).1
    have hk396 : s.heap.size ≤ h396.size := Nat.le_trans hk386 (Keep.of_wr W396).1
    have F399 := F389.other W396 ne276
    have F400 := F390.wr W396
    have F401 := F391.other W396 (Or.inl ne277)
    have F402 : Arv Z h396 b263 k263 (.object "com/example/hauora_id/hauoraid/model/Claim") (12 : Int32) [(.ref s_SUB), (.ref s_EMAIL), (.ref s_GIVEN_NAME), (.ref s_MIDDLE_NAME), (.ref s_FAMILY_NAME), (.ref s_NICKNAME), (.ref s_BIRTHDATE), (.ref s_MOBILE_NUMBER), (.ref s_NHI), (.ref s_CPN), (.ref s_RELATIONSHIPS), (.ref s_CONFIDENCE_LEVEL)] .null := Arv.set Ar397 q397 S397 N397 H397 G397 rfl W396 11 rfl (Nat.le_of_ble_eq_true rfl)
    obtain ⟨cl403, Ar403, q403, S403, N403, H403, G403⟩ := id F402
    obtain ⟨xk, rk, hel, Ek, Fk⟩ : ∃ xk rk : Addr, ([(.ref s_SUB), (.ref s_EMAIL), (.ref s_GIVEN_NAME), (.ref s_MIDDLE_NAME), (.ref s_FAMILY_NAME), (.ref s_NICKNAME), (.ref s_BIRTHDATE), (.ref s_MOBILE_NUMBER), (.ref s_NHI), (.ref s_CPN), (.ref s_RELATIONSHIPS), (.ref s_CONFIDENCE_LEVEL)] : List Value).getD (((p4 &&& (2147483647 : Int32)) % (12 : Int32))).toNatClampNeg .null = .ref xk ∧ Exa Z h396 xk "com/example/hauora_id/hauoraid/model/Claim" ∧ Fld Z h396 xk "com/example/hauora_id/hauoraid/model/Claim" "release" "Lcom/example/hauora_id/hauoraid/model/Claim$Release;" (.ref rk) := by
      rcases own_in12 p4 with h | h | h | h | h | h | h | h | h | h | h | h
      · rw [h]; exact ⟨_, _, rfl, (E_SUB.keep K396), (F_SUB_release.keep K396 nin0)⟩
      · rw [h]; exact ⟨_, _, rfl, (E_EMAIL.keep K396), (F_EMAIL_release.keep K396 nin0)⟩
      · rw [h]; exact ⟨_, _, rfl, (E_GIVEN_NAME.keep K396), (F_GIVEN_NAME_release.keep K396 nin0)⟩
      · rw [h]; exact ⟨_, _, rfl, (E_MIDDLE_NAME.keep K396), (F_MIDDLE_NAME_release.keep K396 nin0)⟩
      · rw [h]; exact ⟨_, _, rfl, (E_FAMILY_NAME.keep K396), (F_FAMILY_NAME_release.keep K396 nin0)⟩
      · rw [h]; exact ⟨_, _, rfl, (E_NICKNAME.keep K396), (F_NICKNAME_release.keep K396 nin0)⟩
      · rw [h]; exact ⟨_, _, rfl, (E_BIRTHDATE.keep K396), (F_BIRTHDATE_release.keep K396 nin0)⟩
      · rw [h]; exact ⟨_, _, rfl, (E_MOBILE_NUMBER.keep K396), (F_MOBILE_NUMBER_release.keep K396 nin0)⟩
      · rw [h]; exact ⟨_, _, rfl, (E_NHI.keep K396), (F_NHI_release.keep K396 nin0)⟩
      · rw [h]; exact ⟨_, _, rfl, (E_CPN.keep K396), (F_CPN_release.keep K396 nin0)⟩
      · rw [h]; exact ⟨_, _, rfl, (E_RELATIONSHIPS.keep K396), (F_RELATIONSHIPS_release.keep K396 nin0)⟩
      · rw [h]; exact ⟨_, _, rfl, (E_CONFIDENCE_LEVEL.keep K396), (F_CONFIDENCE_LEVEL_release.keep K396 nin0)⟩
    have go404 : Go p.tables e below T396 (mkF m 169 #[iv p0, iv p1, iv p2, iv p3, iv p4, iv 1, rv b218, rv b240, rv b263, rv xk, .unset, .unset] [(.ref b240)]) En := by
      intro t k
      refine go398 _ ?_
      refine XS.astore X396.here hx rfl (hb hby at_152) rfl rfl (l' := (L0_8 p0 p1 p2 p3 p4 b218 b240 b263)) rfl ?_
      refine XS.aload X396.here hx rfl (hb hby at_154) rfl rfl ?_
      refine XS.iload X396.here hx rfl (hb hby at_156) rfl ?_
      show Steps _ _ _ (T396.setTop (mkF m 158 (L0_8 p0 p1 p2 p3 p4 b218 b240 b263) [(.int p4), (.ref b263)])) _
      refine X396.ldcInt hx hown (mvT hZ (hw _ (mi 50 rfl))) (g := (mkF m 158 (L0_8 p0 p1 p2 p3 p4 b218 b240 b263) [(.int p4), (.ref b263)])) rfl (hb hby at_158) _ ?_
      refine XS.iand X396.here hx rfl (hb hby at_160) rfl ?_
      refine XS.bipush X396.here hx rfl (hb hby at_161) ?_
      show Steps _ _ _ (T396.setTop (mkF m 163 (L0_8 p0 p1 p2 p3 p4 b218 b240 b263) [(.int 12), (.int (p4 &&& (2147483647 : Int32))), (.ref b263)])) _
      refine iremM X396 hx rfl (hb hby at_163) rfl (by decide) ?_
      refine X396.aaload hx (j := ((p4 &&& (2147483647 : Int32)) % (12 : Int32))) (v := (.ref xk)) (by rw [e396]; exact Ar403.1) (State.isArrayOf_alike hZ.alike Ar403.2.1) rfl Ar403.2.2 (inb_of S403 (own_b12 p4)) (Has.at H403 (inb_of S403 (own_b12 p4)) hel) (g := (mkF m 164 (L0_8 p0 p1 p2 p3 p4 b218 b240 b263) [(.int ((p4 &&& (2147483647 : Int32)) % (12 : Int32))), (.ref b263)])) rfl rfl (hb hby at_164) _ ?_
      refine XS.astore X396.here hx rfl (hb hby at_165) rfl rfl (l' := #[iv p0, iv p1, iv p2, iv p3, iv p4, iv 1, rv b218, rv b240, rv b263, rv xk, .unset, .unset]) rfl ?_
      show Steps _ _ _ (T396.setTop (mkF m 167 #[iv p0, iv p1, iv p2, iv p3, iv p4, iv 1, rv b218, rv b240, rv b263, rv xk, .unset, .unset] [])) _
      refine XS.aload X396.here hx rfl (hb hby at_167) rfl rfl ?_
      exact k
    obtain ⟨_, T405, Lc405, X405, hQ405, st405⟩ := own_cs X396 hx hZ hown hml go404 (hb hby at_169) e396 (hw _ (mi 51 rfl)) (own_site181 hw) (rm4 l Z aZ hw [] b240 h396 n0 Zs396 ) (by decide) (argsL := [(.ref b240)]) (rest := []) rfl rfl rfl (lenOf pd_182 rfl) (W := 0) rfl (by decide) (by decide) (by decide : 4 + 1 ≤ _) (by decide : 18 + 6 ≤ _)
    obtain ⟨b405, rfl, N405q, K405q, fr405, G405_0, G405_1, G405_2, G405_3, G405_4, G405_5, G405_6⟩ := hQ405
    have N405 := Fr.app N396 N405q
    have K405 : Keep h0 T405.heap [] := K396.trans K405q all0
    have low405 : n0 ≤ b405 := Nat.le_trans Zs396 fr405
    have fsh405 : h0.size ≤ b405 := Nat.le_trans K396.1 fr405
    have ne406 : b240 ≠ b405 := Nat.ne_of_lt (Nat.lt_of_lt_of_le F400.lt fr405)
    have ne407 : xk ≠ b405 := Nat.ne_of_lt (Nat.lt_of_lt_of_le Ek.lt fr405)
    have Zs405 : n0 ≤ T405.heap.size := Nat.le_trans Zs396 K405q.1
    have hk405 : s.heap.size ≤ T405.heap.size := Nat.le_trans hk396 K405q.1
    have F408 := F400.keep K405q
    have F409 := F401.keep K405q nin0
    have F410 := Ek.keep K405q
    have F411 := Fk.keep K405q nin0
    have go412 : Go p.tables e below T405 (mkF m 176 #[iv p0, iv p1, iv p2, iv p3, iv p4, iv 1, rv b218, rv b240, rv b263, rv xk, rv b405, .unset] [(.ref b405)]) En := by
      intro t k
      refine st405 _ ?_
      refine XS.astore X405.here hx rfl (hb hby at_172) rfl rfl (l' := #[iv p0, iv p1, iv p2, iv p3, iv p4, iv 1, rv b218, rv b240, rv b263, rv xk, rv b405, .unset]) rfl ?_
      refine XS.aload X405.here hx rfl (hb hby at_174) rfl rfl ?_
      exact k
    obtain ⟨_, T413, Lc413, X413, hQ413, st413⟩ := own_cv X405 hx hZ hown hml go412 (hb hby at_176) rfl (hw _ (mi 78 rfl)) (own_site183 hw) G405_0 (rm7 l Z aZ hw [] _ _ T405.heap n0 Zs405 G405_1) (by decide) (argsL := []) (rest := []) rfl rfl rfl (lenOf pd_184 rfl) (W := 0) rfl (by decide) (by decide) (by decide : 5 + 0 ≤ _) (by decide : 24 + 0 ≤ _)
    obtain ⟨rfl, N413q, e413⟩ := hQ413
    have N413 := Fr.app N405 N413q
    have go414 : Go p.tables e below T413 (mkF m 190 (L0_9 p0 p1 p2 p3 p4 b218 b240 b263 b405 xk) [(.ref b240), (.ref b240)]) En := by
      intro t k
      refine st413 _ ?_
      refine XS.astore X413.here hx rfl (hb hby at_179) rfl rfl (l' := (L0_9 p0 p1 p2 p3 p4 b218 b240 b263 b405 xk)) rfl ?_
      refine XS.aload X413.here hx rfl (hb hby at_181) rfl rfl ?_
      refine XT.nullNo X413.here hx rfl (hb hby at_183) rfl rfl (fun q => nomatch q) ?_
      show Steps _ _ _ (T413.setTop (mkF m 186 (L0_9 p0 p1 p2 p3 p4 b218 b240 b263 b405 xk) [])) _
      refine XS.aload X413.here hx rfl (hb hby at_186) rfl rfl ?_
      refine XS.aload X413.here hx rfl (hb hby at_188) rfl rfl ?_
      exact k
    obtain ⟨_, T415, Lc415, X415, hQ415, st415⟩ := own_cv X413 hx hZ hown hml go414 (hb hby at_190) e413 (hw _ (mi 83 rfl)) (own_site185 hw) F408 (rm8 l Z aZ hw [] b240 T405.heap n0 Zs405 ) (by decide) (argsL := [(.ref b240)]) (rest := []) rfl rfl rfl (lenOf pd_186 rfl) (W := 0) rfl (by decide) (by decide) (by decide : 5 + 0 ≤ _) (by decide : 24 + 0 ≤ _)
    obtain ⟨rfl, N415q, e415⟩ := hQ415
    have N415 := Fr.app N413 N415q
    have go416 : Go p.tables e below T415 (mkF m 198 (L0_9 p0 p1 p2 p3 p4 b218 b240 b263 b405 xk) [(.ref b405)]) En := by
      intro t k
      refine st415 _ ?_
      refine XS.ifNo X415.here hx rfl (hb hby at_193) rfl (XT.i0_eq_f (by decide : ¬ ((1 : Int32) = (0 : Int32)))) ?_
      refine XS.aload X415.here hx rfl (hb hby at_196) rfl rfl ?_
      exact k
    obtain ⟨_, T417, Lc417, X417, hQ417, st417⟩ := own_cv X415 hx hZ hown hml go416 (hb hby at_198) e415 (hw _ (mi 88 rfl)) (own_site187 hw) G405_0 (rm9 l Z aZ hw [] _ T405.heap n0 Zs405 G405_2) (by decide) (argsL := []) (rest := []) rfl rfl rfl (lenOf pd_188 rfl) (W := 0) rfl (by decide) (by decide) (by decide : 5 + 0 ≤ _) (by decide : 24 + 0 ≤ _)
    obtain ⟨rfl, N417q, e417⟩ := hQ417
    have N417 := Fr.app N415 N417q
    have go418 : Go p.tables e below T417 (mkF m 206 (L0_9 p0 p1 p2 p3 p4 b218 b240 b263 b405 xk) [(.ref b405)]) En := by
      intro t k
      refine st417 _ ?_
      refine XT.nonnullNo X417.here hx rfl (hb hby at_201) rfl rfl ?_
      refine XS.aload X417.here hx rfl (hb hby at_204) rfl rfl ?_
      exact k
    obtain ⟨_, T419, Lc419, X419, hQ419, st419⟩ := own_cv X417 hx hZ hown hml go418 (hb hby at_206) e417 (hw _ (mi 93 rfl)) (own_site189 hw) G405_0 (rm10 l Z aZ hw [] _ T405.heap n0 Zs405 G405_3) (by decide) (argsL := []) (rest := []) rfl rfl rfl (lenOf pd_184 rfl) (W := 0) rfl (by decide) (by decide) (by decide : 5 + 0 ≤ _) (by decide : 24 + 0 ≤ _)
    obtain ⟨rfl, N419q, e419⟩ := hQ419
    have N419 := Fr.app N417 N419q
    have go420 : Go p.tables e below T419 (mkF m 214 (L0_9 p0 p1 p2 p3 p4 b218 b240 b263 b405 xk) [(.ref b405)]) En := by
      intro t k
      refine st419 _ ?_
      refine XT.nonnullNo X419.here hx rfl (hb hby at_209) rfl rfl ?_
      refine XS.aload X419.here hx rfl (hb hby at_212) rfl rfl ?_
      exact k
    obtain ⟨_, T421, Lc421, X421, hQ421, st421⟩ := own_cv X419 hx hZ hown hml go420 (hb hby at_214) e419 (hw _ (mi 98 rfl)) (own_site190 hw) G405_0 (rm11 l Z aZ hw [] _ T405.heap n0 Zs405 G405_4) (by decide) (argsL := []) (rest := []) rfl rfl rfl (lenOf pd_172 rfl) (W := 0) rfl (by decide) (by decide) (by decide : 5 + 0 ≤ _) (by decide : 24 + 0 ≤ _)
    obtain ⟨rfl, N421q, e421⟩ := hQ421
    have N421 := Fr.app N419 N421q
    have go422 : Go p.tables e below T421 (mkF m 222 (L0_9 p0 p1 p2 p3 p4 b218 b240 b263 b405 xk) [(.ref b405)]) En := by
      intro t k
      refine st421 _ ?_
      refine XS.ifNo X421.here hx rfl (hb hby at_217) rfl (XT.i0_eq_f (by decide : ¬ ((1 : Int32) = (0 : Int32)))) ?_
      refine XS.aload X421.here hx rfl (hb hby at_220) rfl rfl ?_
      exact k
    obtain ⟨_, T423, Lc423, X423, hQ423, st423⟩ := own_cv X421 hx hZ hown hml go422 (hb hby at_222) e421 (hw _ (mi 103 rfl)) (own_site191 hw) G405_0 (rm12 l Z aZ hw [] _ T405.heap n0 Zs405 G405_5) (by decide) (argsL := []) (rest := []) rfl rfl rfl (lenOf pd_184 rfl) (W := 0) rfl (by decide) (by decide) (by decide : 5 + 0 ≤ _) (by decide : 24 + 0 ≤ _)
    obtain ⟨rfl, N423q, e423⟩ := hQ423
    have N423 := Fr.app N421 N423q
    have go424 : Go p.tables e below T423 (mkF m 230 (L0_9 p0 p1 p2 p3 p4 b218 b240 b263 b405 xk) [(.ref b405)]) En := by
      intro t k
      refine st423 _ ?_
      refine XT.nonnullNo X423.here hx rfl (hb hby at_225) rfl rfl ?_
      refine XS.aload X423.here hx rfl (hb hby at_228) rfl rfl ?_
      exact k
    obtain ⟨_, T425, Lc425, X425, hQ425, st425⟩ := own_cv X423 hx hZ hown hml go424 (hb hby at_230) e423 (hw _ (mi 108 rfl)) (own_site192 hw) G405_0 (rm13 l Z aZ hw [] _ T405.heap n0 Zs405 G405_6) (by decide) (argsL := []) (rest := []) rfl rfl rfl (lenOf pd_188 rfl) (W := 0) rfl (by decide) (by decide) (by decide : 5 + 0 ≤ _) (by decide : 24 + 0 ≤ _)
    obtain ⟨rfl, N425q, e425⟩ := hQ425
    have N425 := Fr.app N423 N425q
    have go426 : Go p.tables e below T425 (mkF m 240 (L0_9 p0 p1 p2 p3 p4 b218 b240 b263 b405 xk) [(.ref xk), (.ref b405)]) En := by
      intro t k
      refine st425 _ ?_
      refine XT.nonnullNo X425.here hx rfl (hb hby at_233) rfl rfl ?_
      refine XS.aload X425.here hx rfl (hb hby at_236) rfl rfl ?_
      refine XS.aload X425.here hx rfl (hb hby at_238) rfl rfl ?_
      show Steps _ _ _ (T425.setTop (mkF m 240 (L0_9 p0 p1 p2 p3 p4 b218 b240 b263 b405 xk) [(.ref xk), (.ref b405)])) _
      exact k
    obtain ⟨_, T427, Lc427, X427, hQ427, st427⟩ := own_cv X425 hx hZ hown hml go426 (hb hby at_240) e425 (hw _ (mi 113 rfl)) (own_site193 hw) G405_0 (rm14 l Z aZ hw [] _ xk rk _ T405.heap n0 Zs405 G405_2 F410 F411 (own_sta_keep S_ALWAYS K405 all0)) (by decide) (argsL := [(.ref xk)]) (rest := []) rfl rfl rfl (lenOf pd_194 rfl) (W := 0) rfl (by decide) (by decide) (by decide : 5 + 0 ≤ _) (by decide : 24 + 0 ≤ _)
    obtain ⟨rfl, N427q, e427⟩ := hQ427
    have N427 := Fr.app N425 N427q
    have go429 : Go p.tables e below T427 (mkF m 251 (L0_9 p0 p1 p2 p3 p4 b218 b240 b263 b405 xk) [(.int (b0_212 s_ALWAYS rk))]) En := by
      intro t k
      have k : Steps p.tables e below (T427.setTop (mkF m  251 #[iv p0, iv p1, iv p2, iv p3, iv p4, iv 1, rv b218, rv b240, rv b263, rv xk, rv b405, rv b240] [(.int (b0_212 s_ALWAYS rk))])) t := k
      refine st427 _ ?_
      by_cases hc428 : (f14 rk s_ALWAYS) = (0 : Int32)
      · refine XS.ifYes X427.here hx rfl (pc0 := 243) (pc' := 250) rfl (hb hby at_243) rfl (XT.i0_eq_t hc428) (by decide) (by decide) ?_
        refine XS.iconst X427.here hx rfl (hb hby at_250) ?_
        have hq430 : (b0_212 s_ALWAYS rk) = (0 : Int32) := by rw [b0_212, if_pos hc428]
        rw [hq430] at k
        exact k
      · refine XS.ifNo X427.here hx rfl (hb hby at_243) rfl (XT.i0_eq_f hc428) ?_
        refine XS.iconst X427.here hx rfl (hb hby at_246) ?_
        refine XS.goto X427.here hx rfl (pc0 := 247) (pc' := 251) rfl (hb hby at_247) (by decide) (by decide) ?_
        have hq431 : (b0_212 s_ALWAYS rk) = (1 : Int32) := by rw [b0_212, if_neg hc428]
        rw [hq431] at k
        exact k
    obtain ⟨fs, hr, hrun, hended, hRW⟩ := X427.leaveW hS0 (by rw [e427]; exact hk405) (v := some (.int (b0_212 s_ALWAYS rk))) (fun h => by rw [Bd.returns] at h; cases h) Bd.notSynchronized
    subst hEn
    refine ⟨_, _, go429 _ (Jvm.RoadKit.retOut X427 hx Bd.returns (own_nz (by unfold b0_212; (repeat' split) <;> first | exact Or.inl rfl | exact Or.inr rfl)) (Or.inl ⟨rfl, Or.inr (Or.inl rfl), _, rfl⟩) (hb hby at_251) hr), hrun, hended, _, _, rfl, ?_, hRW.1, hRW.2.1, hRW.2.2.1, hRW.2.2.2.mono (by decide) (by decide)⟩
    show Q0 _ _ p0 p1 p2 p3 p4 s_SUB s_EMAIL s_GIVEN_NAME s_MIDDLE_NAME s_FAMILY_NAME s_NICKNAME s_BIRTHDATE s_MOBILE_NUMBER s_NHI s_CPN s_RELATIONSHIPS s_CONFIDENCE_LEVEL s_ALWAYS s_USERINFO s_ID_TOKEN s_COMPACT_STRINGS h0 _ (T427.setFrames fs).heap _
    have hE : (T427.setFrames fs).heap = T405.heap := e427
    rw [hE]
    exact ⟨congrArg (fun z => some (Value.int z)) ((by rw [f0, if_neg hs2, if_pos hs215] : (b0_212 s_ALWAYS rk) = (f0 p0 s_ALWAYS rk)).trans (f0_one p0 s_ALWAYS rk)), N427⟩
  by_cases hs432 : (p0 &&& (3 : Int32)) = (2 : Int32)
  · have go433 : Go p.tables e below s₁ (mkF m 5 #[iv p0, iv p1, iv p2, iv p3, iv p4, iv 2, .unset, .unset, .unset, .unset, .unset, .unset] []) En := by
      have q : Go p.tables e below s₁ (mkF m  5 #[iv p0, iv p1, iv p2, iv p3, iv p4, iv (p0 &&& (3 : Int32)), .unset, .unset, .unset, .unset, .unset, .unset] []) En := go1
      rw [hs432] at q
      exact q
    have go434 : Go p.tables e below s₁ (mkF m 7 #[iv p0, iv p1, iv p2, iv p3, iv p4, iv 2, .unset, .unset, .unset, .unset, .unset, .unset] [(.int 2)]) En := by
      intro t k
      refine go433 _ ?_
      refine XS.iload X0.here hx rfl (hb hby at_5) rfl ?_
      exact k
    obtain ⟨T435, h435, k435, X435, e435, E435, A435, st435⟩ := newP X0 hx hZ (hw _ (mi 0 rfl)) e0 (g := (mkF m 7 #[iv p0, iv p1, iv p2, iv p3, iv p4, iv 2, .unset, .unset, .unset, .unset, .unset, .unset] [(.int 2)])) rfl (hb hby at_7) rfl (by decide) (cap := 2) (by decide) (by decide) (by decide) (by decide)
    obtain ⟨b435, g435⟩ : ∃ z, z = h0.size := ⟨_, rfl⟩
    rw [← g435] at A435 st435
    have ne436 : s_SUB ≠ b435 := Nat.ne_of_lt (Nat.lt_of_lt_of_le E_SUB.lt (Nat.le_of_eq g435.symm))
    have ne437 : s_EMAIL ≠ b435 := Nat.ne_of_lt (Nat.lt_of_lt_of_le E_EMAIL.lt (Nat.le_of_eq g435.symm))
    have ne438 : s_GIVEN_NAME ≠ b435 := Nat.ne_of_lt (Nat.lt_of_lt_of_le E_GIVEN_NAME.lt (Nat.le_of_eq g435.symm))
    have ne439 : s_MIDDLE_NAME ≠ b435 := Nat.ne_of_lt (Nat.lt_of_lt_of_le E_MIDDLE_NAME.lt (Nat.le_of_eq g435.symm))
    have ne440 : s_FAMILY_NAME ≠ b435 := Nat.ne_of_lt (Nat.lt_of_lt_of_le E_FAMILY_NAME.lt (Nat.le_of_eq g435.symm))
    have ne441 : s_NICKNAME ≠ b435 := Nat.ne_of_lt (Nat.lt_of_lt_of_le E_NICKNAME.lt (Nat.le_of_eq g435.symm))
    have ne442 : s_BIRTHDATE ≠ b435 := Nat.ne_of_lt (Nat.lt_of_lt_of_le E_BIRTHDATE.lt (Nat.le_of_eq g435.symm))
    have ne443 : s_MOBILE_NUMBER ≠ b435 := Nat.ne_of_lt (Nat.lt_of_lt_of_le E_MOBILE_NUMBER.lt (Nat.le_of_eq g435.symm))
    have ne444 : s_NHI ≠ b435 := Nat.ne_of_lt (Nat.lt_of_lt_of_le E_NHI.lt (Nat.le_of_eq g435.symm))
    have ne445 : s_CPN ≠ b435 := Nat.ne_of_lt (Nat.lt_of_lt_of_le E_CPN.lt (Nat.le_of_eq g435.symm))
    have ne446 : s_RELATIONSHIPS ≠ b435 := Nat.ne_of_lt (Nat.lt_of_lt_of_le E_RELATIONSHIPS.lt (Nat.le_of_eq g435.symm))
    have ne447 : s_CONFIDENCE_LEVEL ≠ b435 := Nat.ne_of_lt (Nat.lt_of_lt_of_le E_CONFIDENCE_LEVEL.lt (Nat.le_of_eq g435.symm))
    have low435 : n0 ≤ b435 := Nat.le_trans Z0 (Nat.le_of_eq g435.symm)
    have fsh435 : h0.size ≤ b435 := Nat.le_trans K0.1 (Nat.le_of_eq g435.symm)
    have K435 : Keep h0 h435 [] := K0.ext E435
    have Zs435 : n0 ≤ h435.size := Nat.le_trans Z0 E435.1
    have hk435 : s.heap.size ≤ h435.size := Nat.le_trans hk0 E435.1
    have go448 := gap go434 st435
    have F449 : Arv Z h435 b435 k435 .char (2 : Int32) [(.int 0), (.int 0)] (.int 0) := (Arv.new A435 (by decide)).pad (pad_rep [] (.int 0) 2)
    have go450 : Go p.tables e below T435 (mkF m 25 (L0_10 p0 p1 p2 p3 p4 b435) [(.int (v0_233 p1)), (.int 0), (.ref b435)]) En := by
      intro t k
      refine go448 _ ?_
      refine XS.astore X435.here hx rfl (hb hby at_9) rfl rfl (l' := (L0_10 p0 p1 p2 p3 p4 b435)) rfl ?_
      refine XS.iload X435.here hx rfl (hb hby at_11) rfl ?_
      refine XS.ifNo X435.here hx rfl (hb hby at_13) rfl (XT.i0_le_f (by decide : ((0 : Int32) < (2 : Int32)))) ?_
      show Steps _ _ _ (T435.setTop (mkF m 16 (L0_10 p0 p1 p2 p3 p4 b435) [])) _
      refine XS.aload X435.here hx rfl (hb hby at_16) rfl rfl ?_
      refine XS.iconst X435.here hx rfl (hb hby at_18) ?_
      refine XS.iloadN X435.here hx rfl (hb hby at_19) rfl ?_
      show Steps _ _ _ (T435.setTop (mkF m 20 (L0_10 p0 p1 p2 p3 p4 b435) [(.int p1), (.int 0), (.ref b435)])) _
      refine XS.sipush X435.here hx rfl (hb hby at_20) ?_
      refine XS.iand X435.here hx rfl (hb hby at_23) rfl ?_
      refine XS.i2c X435.here hx rfl (hb hby at_24) rfl ?_
      show Steps _ _ _ (T435.setTop (mkF m 25 (L0_10 p0 p1 p2 p3 p4 b435) [(.int (v0_233 p1)), (.int 0), (.ref b435)])) _
      exact k
    obtain ⟨cl452, Ar452, q452, S452, N452, H452, G452⟩ := id F449
    obtain ⟨T451, h451, X451, e451, W451, st451⟩ := stC X435 hx hZ e435 Ar452 (j := (0 : Int32)) (inb_of S452 ⟨by decide, by decide⟩) (g := (mkF m 25 (L0_10 p0 p1 p2 p3 p4 b435) [(.int (v0_233 p1)), (.int 0), (.ref b435)])) rfl rfl (hb hby at_25)
    have go453 := gap go450 st451
    have N451 := Fr.snoc X451 N0 low435
    have K451 : Keep h0 h451 [] := K435.wr W451 (Or.inr fsh435)
    have Zs451 : n0 ≤ h451.size := Nat.le_trans Zs435 (Keep.of_wr W451).1
    have hk451 : s.heap.size ≤ h451.size := Nat.le_trans hk435 (Keep.of_wr W451).1
    have F454 : Arv Z h451 b435 k435 .char (2 : Int32) [(.int (v0_233 p1).toUInt32.toUInt16.toUInt32.toInt32), (.int 0)] (.int 0) := Arv.set Ar452 q452 S452 N452 H452 G452 (fits_nar_char _) W451 0 rfl (Nat.le_of_ble_eq_true rfl)
    have go456 : Go p.tables e below T451 (mkF m 41 (L0_10 p0 p1 p2 p3 p4 b435) [(.int (v0_455 p2)), (.int 1), (.ref b435)]) En := by
      intro t k
      refine go453 _ ?_
      refine XS.iload X451.here hx rfl (hb hby at_26) rfl ?_
      refine XS.iconst X451.here hx rfl (hb hby at_28) ?_
      refine XS.icmpNo X451.here hx rfl (hb hby at_29) rfl (XT.ii_le_f (by decide : ((1 : Int32) < (2 : Int32)))) ?_
      show Steps _ _ _ (T451.setTop (mkF m 32 (L0_10 p0 p1 p2 p3 p4 b435) [])) _
      refine XS.aload X451.here hx rfl (hb hby at_32) rfl rfl ?_
      refine XS.iconst X451.here hx rfl (hb hby at_34) ?_
      refine XS.iloadN X451.here hx rfl (hb hby at_35) rfl ?_
      show Steps _ _ _ (T451.setTop (mkF m 36 (L0_10 p0 p1 p2 p3 p4 b435) [(.int p2), (.int 1), (.ref b435)])) _
      refine XS.sipush X451.here hx rfl (hb hby at_36) ?_
      refine XS.iand X451.here hx rfl (hb hby at_39) rfl ?_
      refine XS.i2c X451.here hx rfl (hb hby at_40) rfl ?_
      show Steps _ _ _ (T451.setTop (mkF m 41 (L0_10 p0 p1 p2 p3 p4 b435) [(.int (v0_455 p2)), (.int 1), (.ref b435)])) _
      exact k
    obtain ⟨cl458, Ar458, q458, S458, N458, H458, G458⟩ := id F454
    obtain ⟨T457, h457, X457, e457, W457, st457⟩ := stC X451 hx hZ e451 Ar458 (j := (1 : Int32)) (inb_of S458 ⟨by decide, by decide⟩) (g := (mkF m 41 (L0_10 p0 p1 p2 p3 p4 b435) [(.int (v0_455 p2)), (.int 1), (.ref b435)])) rfl rfl (hb hby at_41)
    have go459 := gap go456 st457
    have N457 := Fr.snoc X457 N451 low435
    have K457 : Keep h0 h457 [] := K451.wr W457 (Or.inr fsh435)
    have Zs457 : n0 ≤ h457.size := Nat.le_trans Zs451 (Keep.of_wr W457).1
    have hk457 : s.heap.size ≤ h457.size := Nat.le_trans hk451 (Keep.of_wr W457).1
    have F460 : Arv Z h457 b435 k435 .char (2 : Int32) [(.int (v0_233 p1).toUInt32.toUInt16.toUInt32.toInt32), (.int (v0_455 p2).toUInt32.toUInt16.toUInt32.toInt32)] (.int 0) := Arv.set Ar458 q458 S458 N458 H458 G458 (fits_nar_char _) W457 1 rfl (Nat.le_of_ble_eq_true rfl)
    have go461 : Go p.tables e below T457 (mkF m 58 (L0_10 p0 p1 p2 p3 p4 b435) []) En := by
      intro t k
      refine go459 _ ?_
      refine XS.iload X457.here hx rfl (hb hby at_42) rfl ?_
      refine XS.iconst X457.here hx rfl (hb hby at_44) ?_
      refine XS.icmpYes X457.here hx rfl (pc0 := 45) (pc' := 58) rfl (hb hby at_45) rfl (XT.ii_le_t (by decide : ¬ ((2 : Int32) < (2 : Int32)))) (by decide) (by decide) ?_
      show Steps _ _ _ (T457.setTop (mkF m 58 (L0_10 p0 p1 p2 p3 p4 b435) [])) _
      exact k
    obtain ⟨T462, h462, X462, e462, E462, A462, D462, -, st462⟩ := newO X457 hx hZ hown (hw _ (mi 1 rfl)) (hw _ (mi 2 rfl)) (hw _ (mi 3 rfl)) e457 (g := (mkF m 58 (L0_10 p0 p1 p2 p3 p4 b435) [])) rfl (hb hby at_58) (by decide) (by decide)
    obtain ⟨b462, g462⟩ : ∃ z, z = h457.size := ⟨_, rfl⟩
    rw [← g462] at A462 D462 st462
    have ne463 : s_SUB ≠ b462 := Nat.ne_of_lt (Nat.lt_of_lt_of_le (E_SUB.keep K457).lt (Nat.le_of_eq g462.symm))
    have ne464 : s_EMAIL ≠ b462 := Nat.ne_of_lt (Nat.lt_of_lt_of_le (E_EMAIL.keep K457).lt (Nat.le_of_eq g462.symm))
    have ne465 : s_GIVEN_NAME ≠ b462 := Nat.ne_of_lt (Nat.lt_of_lt_of_le (E_GIVEN_NAME.keep K457).lt (Nat.le_of_eq g462.symm))
    have ne466 : s_MIDDLE_NAME ≠ b462 := Nat.ne_of_lt (Nat.lt_of_lt_of_le (E_MIDDLE_NAME.keep K457).lt (Nat.le_of_eq g462.symm))
    have ne467 : s_FAMILY_NAME ≠ b462 := Nat.ne_of_lt (Nat.lt_of_lt_of_le (E_FAMILY_NAME.keep K457).lt (Nat.le_of_eq g462.symm))
    have ne468 : s_NICKNAME ≠ b462 := Nat.ne_of_lt (Nat.lt_of_lt_of_le (E_NICKNAME.keep K457).lt (Nat.le_of_eq g462.symm))
    have ne469 : s_BIRTHDATE ≠ b462 := Nat.ne_of_lt (Nat.lt_of_lt_of_le (E_BIRTHDATE.keep K457).lt (Nat.le_of_eq g462.symm))
    have ne470 : s_MOBILE_NUMBER ≠ b462 := Nat.ne_of_lt (Nat.lt_of_lt_of_le (E_MOBILE_NUMBER.keep K457).lt (Nat.le_of_eq g462.symm))
    have ne471 : s_NHI ≠ b462 := Nat.ne_of_lt (Nat.lt_of_lt_of_le (E_NHI.keep K457).lt (Nat.le_of_eq g462.symm))
    have ne472 : s_CPN ≠ b462 := Nat.ne_of_lt (Nat.lt_of_lt_of_le (E_CPN.keep K457).lt (Nat.le_of_eq g462.symm))
    have ne473 : s_RELATIONSHIPS ≠ b462 := Nat.ne_of_lt (Nat.lt_of_lt_of_le (E_RELATIONSHIPS.keep K457).lt (Nat.le_of_eq g462.symm))
    have ne474 : s_CONFIDENCE_LEVEL ≠ b462 := Nat.ne_of_lt (Nat.lt_of_lt_of_le (E_CONFIDENCE_LEVEL.keep K457).lt (Nat.le_of_eq g462.symm))
    have ne475 : b435 ≠ b462 := Nat.ne_of_lt (Nat.lt_of_lt_of_le F460.lt (Nat.le_of_eq g462.symm))
    have low462 : n0 ≤ b462 := Nat.le_trans Zs457 (Nat.le_of_eq g462.symm)
    have fsh462 : h0.size ≤ b462 := Nat.le_trans K457.1 (Nat.le_of_eq g462.symm)
    have K462 : Keep h0 h462 [] := K457.ext E462
    have Zs462 : n0 ≤ h462.size := Nat.le_trans Zs457 E462.1
    have hk462 : s.heap.size ≤ h462.size := Nat.le_trans hk457 E462.1
    have go476 := gap go461 st462
    have F477 := F460.ext E462
    have F478 : Fld Z h462 b462 "java/lang/String" "value" "[B" .null := D462 (Or.inr (hw _ (mi 16 rfl))) (ty := (.array .byte)) (by decide)
    have F479 : Fld Z h462 b462 "java/lang/String" "coder" "B" (.int 0) := D462 (Or.inr (hw _ (mi 17 rfl))) (ty := .byte) (by decide)
    have go480 : Go p.tables e below T462 (mkF m 64 (L0_10 p0 p1 p2 p3 p4 b435) [(.ref b435), (.ref b462), (.ref b462)]) En := by
      intro t k
      refine go476 _ ?_
      refine XS.dup X462.here hx rfl (hb hby at_61) rfl rfl ?_
      refine XS.aload X462.here hx rfl (hb hby at_62) rfl rfl ?_
      exact k
    obtain ⟨_, T481, Lc481, X481, hQ481, st481⟩ := own_ci X462 hx hZ hown hml go480 (hb hby at_64) e462 (hw _ (mi 4 rfl)) (own_site197 hw) rfl (rmiBn2 l Z aZ hw [] _ _ _ _ _ _ h462 n0 Zs462 A462 F478 F479 low462 F477 (own_sta_keep S_COMPACT_STRINGS K462 all0) hcs (own_c255 p1) (own_c255 p2)) (by decide) (argsL := [(.ref b435)]) (rest := [(.ref b462)]) rfl rfl rfl (lenOf pd_180 rfl) (W := 1) rfl (by decide) (by decide) (by decide : 2 + 1 ≤ _) (by decide : 6 + 2 ≤ _)
    obtain ⟨rfl, N481q, K481q, G481_0, G481_1⟩ := hQ481
    have N481 := Fr.app N457 N481q
    have K481 : Keep h0 T481.heap [] := K462.trans K481q (allS (Or.inr fsh462) all0)
    have Zs481 : n0 ≤ T481.heap.size := Nat.le_trans Zs462 K481q.1
    have hk481 : s.heap.size ≤ T481.heap.size := Nat.le_trans hk462 K481q.1
    have F482 := F477.keep K481q (ninS ne475 nin0)
    have F483 := A462.keep K481q
    have go484 : Go p.tables e below T481 (mkF m 71 (L0_11 p0 p1 p2 p3 p4 b435 b462) [(.int 12)]) En := by
      intro t k
      refine st481 _ ?_
      refine XS.astore X481.here hx rfl (hb hby at_67) rfl rfl (l' := (L0_11 p0 p1 p2 p3 p4 b435 b462)) rfl ?_
      refine XS.bipush X481.here hx rfl (hb hby at_69) ?_
      exact k
    obtain ⟨T485, h485, k485, X485, e485, E485, A485, O485, st485⟩ := newR X481 hx hZ hown (hw _ (mi 22 rfl)) (hw _ (mi 23 rfl)) rfl (g := (mkF m 71 (L0_11 p0 p1 p2 p3 p4 b435 b462) [(.int 12)])) rfl (hb hby at_71) rfl (by decide) (cap := 12) (by decide) (by decide) (by decide) (by decide)
    obtain ⟨b485, g485⟩ : ∃ z, z = T481.heap.size := ⟨_, rfl⟩
    rw [← g485] at A485 st485
    have ne486 : s_SUB ≠ b485 := Nat.ne_of_lt (Nat.lt_of_lt_of_le (E_SUB.keep K481).lt (Nat.le_of_eq g485.symm))
    have ne487 : s_EMAIL ≠ b485 := Nat.ne_of_lt (Nat.lt_of_lt_of_le (E_EMAIL.keep K481).lt (Nat.le_of_eq g485.symm))
    have ne488 : s_GIVEN_NAME ≠ b485 := Nat.ne_of_lt (Nat.lt_of_lt_of_le (E_GIVEN_NAME.keep K481).lt (Nat.le_of_eq g485.symm))
    have ne489 : s_MIDDLE_NAME ≠ b485 := Nat.ne_of_lt (Nat.lt_of_lt_of_le (E_MIDDLE_NAME.keep K481).lt (Nat.le_of_eq g485.symm))
    have ne490 : s_FAMILY_NAME ≠ b485 := Nat.ne_of_lt (Nat.lt_of_lt_of_le (E_FAMILY_NAME.keep K481).lt (Nat.le_of_eq g485.symm))
    have ne491 : s_NICKNAME ≠ b485 := Nat.ne_of_lt (Nat.lt_of_lt_of_le (E_NICKNAME.keep K481).lt (Nat.le_of_eq g485.symm))
    have ne492 : s_BIRTHDATE ≠ b485 := Nat.ne_of_lt (Nat.lt_of_lt_of_le (E_BIRTHDATE.keep K481).lt (Nat.le_of_eq g485.symm))
    have ne493 : s_MOBILE_NUMBER ≠ b485 := Nat.ne_of_lt (Nat.lt_of_lt_of_le (E_MOBILE_NUMBER.keep K481).lt (Nat.le_of_eq g485.symm))
    have ne494 : s_NHI ≠ b485 := Nat.ne_of_lt (Nat.lt_of_lt_of_le (E_NHI.keep K481).lt (Nat.le_of_eq g485.symm))
    have ne495 : s_CPN ≠ b485 := Nat.ne_of_lt (Nat.lt_of_lt_of_le (E_CPN.keep K481).lt (Nat.le_of_eq g485.symm))
    have ne496 : s_RELATIONSHIPS ≠ b485 := Nat.ne_of_lt (Nat.lt_of_lt_of_le (E_RELATIONSHIPS.keep K481).lt (Nat.le_of_eq g485.symm))
    have ne497 : s_CONFIDENCE_LEVEL ≠ b485 := Nat.ne_of_lt (Nat.lt_of_lt_of_le (E_CONFIDENCE_LEVEL.keep K481).lt (Nat.le_of_eq g485.symm))
    have ne498 : b435 ≠ b485 := Nat.ne_of_lt (Nat.lt_of_lt_of_le F482.lt (Nat.le_of_eq g485.symm))
    have ne499 : b462 ≠ b485 := Nat.ne_of_lt (Nat.lt_of_lt_of_le G481_0.lt (Nat.le_of_eq g485.symm))
    have low485 : n0 ≤ b485 := Nat.le_trans Zs481 (Nat.le_of_eq g485.symm)
    have fsh485 : h0.size ≤ b485 := Nat.le_trans K481.1 (Nat.le_of_eq g485.symm)
    have K485 : Keep h0 h485 [] := K481.ext E485
    have Zs485 : n0 ≤ h485.size := Nat.le_trans Zs481 E485.1
    have hk485 : s.heap.size ≤ h485.size := Nat.le_trans hk481 E485.1
    have go500 := gap go484 st485
    have F501 := F482.ext E485
    have F502 := G481_0.ext E485
    have F503 := G481_1.ext E485
    have F504 : Arv Z h485 b485 k485 (.object "com/example/hauora_id/hauoraid/model/Claim") (12 : Int32) [.null, .null, .null, .null, .null, .null, .null, .null, .null, .null, .null, .null] .null := (Arv.new A485 (by decide)).pad (pad_rep [] .null 12)
    have go505 : Go p.tables e below T485 (mkF m 76 (L0_11 p0 p1 p2 p3 p4 b435 b462) [(.int 0), (.ref b485), (.ref b485)]) En := by
      intro t k
      refine go500 _ ?_
      refine XS.dup X485.here hx rfl (hb hby at_74) rfl rfl ?_
      refine XS.iconst X485.here hx rfl (hb hby at_75) ?_
      exact k
    obtain ⟨T506, X506, e506, st506⟩ := getS2 X485 hx hZ hown (host := "") (Or.inl (hw _ (mi 24 rfl))) Via.refl e485 (own_sta_keep S_SUB K485 all0) (g := (mkF m 76 (L0_11 p0 p1 p2 p3 p4 b435 b462) [(.int 0), (.ref b485), (.ref b485)])) rfl (hb hby at_76)
    have go507 := gap go505 st506
    obtain ⟨cl509, Ar509, q509, S509, N509, H509, G509⟩ := id F504
    obtain ⟨T508, h508, X508, e508, W508, st508⟩ := stR X506 hx hZ e506 Ar509 (j := (0 : Int32)) (inb_of S509 ⟨by decide, by decide⟩) rfl (Sto.ofV Ar509 q509 O485 (Ins.self (E_SUB.keep K485))) (g := (mkF m 79 (L0_11 p0 p1 p2 p3 p4 b435 b462) [(.ref s_SUB), (.int 0), (.ref b485), (.ref b485)])) rfl rfl (hb hby at_79)
    have go510 := gap go507 st508
    have N508 := Fr.snoc X508 N481 low485
    have K508 : Keep h0 h508 [] := K485.wr W508 (Or.inr fsh485)
    have Zs508 : n0 ≤ h508.size := Nat.le_trans Zs485 (Keep.of_wr W508).1
    have hk508 : s.heap.size ≤ h508.size := Nat.le_trans hk485 (Keep.of_wr W508).1
    have F511 := F501.other W508 ne498
    have F512 := F502.wr W508
    have F513 := F503.other W508 (Or.inl ne499)
    have F514 : Arv Z h508 b485 k485 (.object "com/example/hauora_id/hauoraid/model/Claim") (12 : Int32) [(.ref s_SUB), .null, .null, .null, .null, .null, .null, .null, .null, .null, .null, .null] .null := Arv.set Ar509 q509 S509 N509 H509 G509 rfl W508 0 rfl (Nat.le_of_ble_eq_true rfl)
    have go515 : Go p.tables e below T508 (mkF m 82 (L0_11 p0 p1 p2 p3 p4 b435 b462) [(.int 1), (.ref b485), (.ref b485)]) En := by
      intro t k
      refine go510 _ ?_
      refine XS.dup X508.here hx rfl (hb hby at_80) rfl rfl ?_
      refine XS.iconst X508.here hx rfl (hb hby at_81) ?_
      exact k
    obtain ⟨T516, X516, e516, st516⟩ := getS2 X508 hx hZ hown (host := "") (Or.inl (hw _ (mi 28 rfl))) Via.refl e508 (own_sta_keep S_EMAIL K508 all0) (g := (mkF m 82 (L0_11 p0 p1 p2 p3 p4 b435 b462) [(.int 1), (.ref b485), (.ref b485)])) rfl (hb hby at_82)
    have go517 := gap go515 st516
    obtain ⟨cl519, Ar519, q519, S519, N519, H519, G519⟩ := id F514
    obtain ⟨T518, h518, X518, e518, W518, st518⟩ := stR X516 hx hZ e516 Ar519 (j := (1 : Int32)) (inb_of S519 ⟨by decide, by decide⟩) rfl (Sto.ofV Ar519 q519 O485 (Ins.self (E_EMAIL.keep K508))) (g := (mkF m 85 (L0_11 p0 p1 p2 p3 p4 b435 b462) [(.ref s_EMAIL), (.int 1), (.ref b485), (.ref b485)])) rfl rfl (hb hby at_85)
    have go520 := gap go517 st518
    have N518 := Fr.snoc X518 N508 low485
    have K518 : Keep h0 h518 [] := K508.wr W518 (Or.inr fsh485)
    have Zs518 : n0 ≤ h518.size := Nat.le_trans Zs508 (Keep.of_wr W518).1
    have hk518 : s.heap.size ≤ h518.size := Nat.le_trans hk508 (Keep.of_wr W518).1
    have F521 := F511.other W518 ne498
    have F522 := F512.wr W518
    have F523 := F513.other W518 (Or.inl ne499)
    have F524 : Arv Z h518 b485 k485 (.object "com/example/hauora_id/hauoraid/model/Claim") (12 : Int32) [(.ref s_SUB), (.ref s_EMAIL), .null, .null, .null, .null, .null, .null, .null, .null, .null, .null] .null := Arv.set Ar519 q519 S519 N519 H519 G519 rfl W518 1 rfl (Nat.le_of_ble_eq_true rfl)
    have go525 : Go p.tables e below T518 (mkF m 88 (L0_11 p0 p1 p2 p3 p4 b435 b462) [(.int 2), (.ref b485), (.ref b485)]) En := by
      intro t k
      refine go520 _ ?_
      refine XS.dup X518.here hx rfl (hb hby at_86) rfl rfl ?_
      refine XS.iconst X518.here hx rfl (hb hby at_87) ?_
      exact k
    obtain ⟨T526, X526, e526, st526⟩ := getS2 X518 hx hZ hown (host := "") (Or.inl (hw _ (mi 30 rfl))) Via.refl e518 (own_sta_keep S_GIVEN_NAME K518 all0) (g := (mkF m 88 (L0_11 p0 p1 p2 p3 p4 b435 b462) [(.int 2), (.ref b485), (.ref b485)])) rfl (hb hby at_88)
    have go527 := gap go525 st526
    obtain ⟨cl529, Ar529, q529, S529, N529, H529, G529⟩ := id F524
    obtain ⟨T528, h528, X528, e528, W528, st528⟩ := stR X526 hx hZ e526 Ar529 (j := (2 : Int32)) (inb_of S529 ⟨by decide, by decide⟩) rfl (Sto.ofV Ar529 q529 O485 (Ins.self (E_GIVEN_NAME.keep K518))) (g := (mkF m 91 (L0_11 p0 p1 p2 p3 p4 b435 b462) [(.ref s_GIVEN_NAME), (.int 2), (.ref b485), (.ref b485)])) rfl rfl (hb hby at_91)
    have go530 := gap go527 st528
    have N528 := Fr.snoc X528 N518 low485
    have K528 : Keep h0 h528 [] := K518.wr W528 (Or.inr fsh485)
    have Zs528 : n0 ≤ h528.size := Nat.le_trans Zs518 (Keep.of_wr W528).1
    have hk528 : s.heap.size ≤ h528.size := Nat.le_trans hk518 (Keep.of_wr W528).1
    have F531 := F521.other W528 ne498
    have F532 := F522.wr W528
    have F533 := F523.other W528 (Or.inl ne499)
    have F534 : Arv Z h528 b485 k485 (.object "com/example/hauora_id/hauoraid/model/Claim") (12 : Int32) [(.ref s_SUB), (.ref s_EMAIL), (.ref s_GIVEN_NAME), .null, .null, .null, .null, .null, .null, .null, .null, .null] .null := Arv.set Ar529 q529 S529 N529 H529 G529 rfl W528 2 rfl (Nat.le_of_ble_eq_true rfl)
    have go535 : Go p.tables e below T528 (mkF m 94 (L0_11 p0 p1 p2 p3 p4 b435 b462) [(.int 3), (.ref b485), (.ref b485)]) En := by
      intro t k
      refine go530 _ ?_
      refine XS.dup X528.here hx rfl (hb hby at_92) rfl rfl ?_
      refine XS.iconst X528.here hx rfl (hb hby at_93) ?_
      exact k
    obtain ⟨T536, X536, e536, st536⟩ := getS2 X528 hx hZ hown (host := "") (Or.inl (hw _ (mi 32 rfl))) Via.refl e528 (own_sta_keep S_MIDDLE_NAME K528 all0) (g := (mkF m 94 (L0_11 p0 p1 p2 p3 p4 b435 b462) [(.int 3), (.ref b485), (.ref b485)])) rfl (hb hby at_94)
    have go537 := gap go535 st536
    obtain ⟨cl539, Ar539, q539, S539, N539, H539, G539⟩ := id F534
    obtain ⟨T538, h538, X538, e538, W538, st538⟩ := stR X536 hx hZ e536 Ar539 (j := (3 : Int32)) (inb_of S539 ⟨by decide, by decide⟩) rfl (Sto.ofV Ar539 q539 O485 (Ins.self (E_MIDDLE_NAME.keep K528))) (g := (mkF m 97 (L0_11 p0 p1 p2 p3 p4 b435 b462) [(.ref s_MIDDLE_NAME), (.int 3), (.ref b485), (.ref b485)])) rfl rfl (hb hby at_97)
    have go540 := gap go537 st538
    have N538 := Fr.snoc X538 N528 low485
    have K538 : Keep h0 h538 [] := K528.wr W538 (Or.inr fsh485)
    have Zs538 : n0 ≤ h538.size := Nat.le_trans Zs528 (Keep.of_wr W538).1
    have hk538 : s.heap.size ≤ h538.size := Nat.le_trans hk528 (Keep.of_wr W538).1
    have F541 := F531.other W538 ne498
    have F542 := F532.wr W538
    have F543 := F533.other W538 (Or.inl ne499)
    have F544 : Arv Z h538 b485 k485 (.object "com/example/hauora_id/hauoraid/model/Claim") (12 : Int32) [(.ref s_SUB), (.ref s_EMAIL), (.ref s_GIVEN_NAME), (.ref s_MIDDLE_NAME), .null, .null, .null, .null, .null, .null, .null, .null] .null := Arv.set Ar539 q539 S539 N539 H539 G539 rfl W538 3 rfl (Nat.le_of_ble_eq_true rfl)
    have go545 : Go p.tables e below T538 (mkF m 100 (L0_11 p0 p1 p2 p3 p4 b435 b462) [(.int 4), (.ref b485), (.ref b485)]) En := by
      intro t k
      refine go540 _ ?_
      refine XS.dup X538.here hx rfl (hb hby at_98) rfl rfl ?_
      refine XS.iconst X538.here hx rfl (hb hby at_99) ?_
      exact k
    obtain ⟨T546, X546, e546, st546⟩ := getS2 X538 hx hZ hown (host := "") (Or.inl (hw _ (mi 34 rfl))) Via.refl e538 (own_sta_keep S_FAMILY_NAME K538 all0) (g := (mkF m 100 (L0_11 p0 p1 p2 p3 p4 b435 b462) [(.int 4), (.ref b485), (.ref b485)])) rfl (hb hby at_100)
    have go547 := gap go545 st546
    obtain ⟨cl549, Ar549, q549, S549, N549, H549, G549⟩ := id F544
    obtain ⟨T548, h548, X548, e548, W548, st548⟩ := stR X546 hx hZ e546 Ar549 (j := (4 : Int32)) (inb_of S549 ⟨by decide, by decide⟩) rfl (Sto.ofV Ar549 q549 O485 (Ins.self (E_FAMILY_NAME.keep K538))) (g := (mkF m 103 (L0_11 p0 p1 p2 p3 p4 b435 b462) [(.ref s_FAMILY_NAME), (.int 4), (.ref b485), (.ref b485)])) rfl rfl (hb hby at_103)
    have go550 := gap go547 st548
    have N548 := Fr.snoc X548 N538 low485
    have K548 : Keep h0 h548 [] := K538.wr W548 (Or.inr fsh485)
    have Zs548 : n0 ≤ h548.size := Nat.le_trans Zs538 (Keep.of_wr W548).1
    have hk548 : s.heap.size ≤ h548.size := Nat.le_trans hk538 (Keep.of_wr W548).1
    have F551 := F541.other W548 ne498
    have F552 := F542.wr W548
    have F553 := F543.other W548 (Or.inl ne499)
    have F554 : Arv Z h548 b485 k485 (.object "com/example/hauora_id/hauoraid/model/Claim") (12 : Int32) [(.ref s_SUB), (.ref s_EMAIL), (.ref s_GIVEN_NAME), (.ref s_MIDDLE_NAME), (.ref s_FAMILY_NAME), .null, .null, .null, .null, .null, .null, .null] .null := Arv.set Ar549 q549 S549 N549 H549 G549 rfl W548 4 rfl (Nat.le_of_ble_eq_true rfl)
    have go555 : Go p.tables e below T548 (mkF m 106 (L0_11 p0 p1 p2 p3 p4 b435 b462) [(.int 5), (.ref b485), (.ref b485)]) En := by
      intro t k
      refine go550 _ ?_
      refine XS.dup X548.here hx rfl (hb hby at_104) rfl rfl ?_
      refine XS.iconst X548.here hx rfl (hb hby at_105) ?_
      exact k
    obtain ⟨T556, X556, e556, st556⟩ := getS2 X548 hx hZ hown (host := "") (Or.inl (hw _ (mi 36 rfl))) Via.refl e548 (own_sta_keep S_NICKNAME K548 all0) (g := (mkF m 106 (L0_11 p0 p1 p2 p3 p4 b435 b462) [(.int 5), (.ref b485), (.ref b485)])) rfl (hb hby at_106)
    have go557 := gap go555 st556
    obtain ⟨cl559, Ar559, q559, S559, N559, H559, G559⟩ := id F554
    obtain ⟨T558, h558, X558, e558, W558, st558⟩ := stR X556 hx hZ e556 Ar559 (j := (5 : Int32)) (inb_of S559 ⟨by decide, by decide⟩) rfl (Sto.ofV Ar559 q559 O485 (Ins.self (E_NICKNAME.keep K548))) (g := (mkF m 109 (L0_11 p0 p1 p2 p3 p4 b435 b462) [(.ref s_NICKNAME), (.int 5), (.ref b485), (.ref b485)])) rfl rfl (hb hby at_109)
    have go560 := gap go557 st558
    have N558 := Fr.snoc X558 N548 low485
    have K558 : Keep h0 h558 [] := K548.wr W558 (Or.inr fsh485)
    have Zs558 : n0 ≤ h558.size := Nat.le_trans Zs548 (Keep.of_wr W558).1
    have hk558 : s.heap.size ≤ h558.size := Nat.le_trans hk548 (Keep.of_wr W558).1
    have F561 := F551.other W558 ne498
    have F562 := F552.wr W558
    have F563 := F553.other W558 (Or.inl ne499)
    have F564 : Arv Z h558 b485 k485 (.object "com/example/hauora_id/hauoraid/model/Claim") (12 : Int32) [(.ref s_SUB), (.ref s_EMAIL), (.ref s_GIVEN_NAME), (.ref s_MIDDLE_NAME), (.ref s_FAMILY_NAME), (.ref s_NICKNAME), .null, .null, .null, .null, .null, .null] .null := Arv.set Ar559 q559 S559 N559 H559 G559 rfl W558 5 rfl (Nat.le_of_ble_eq_true rfl)
    have go565 : Go p.tables e below T558 (mkF m 113 (L0_11 p0 p1 p2 p3 p4 b435 b462) [(.int 6), (.ref b485), (.ref b485)]) En := by
      intro t k
      refine go560 _ ?_
      refine XS.dup X558.here hx rfl (hb hby at_110) rfl rfl ?_
      refine XS.bipush X558.here hx rfl (hb hby at_111) ?_
      exact k
    obtain ⟨T566, X566, e566, st566⟩ := getS2 X558 hx hZ hown (host := "") (Or.inl (hw _ (mi 38 rfl))) Via.refl e558 (own_sta_keep S_BIRTHDATE K558 all0) (g := (mkF m 113 (L0_11 p0 p1 p2 p3 p4 b435 b462) [(.int 6), (.ref b485), (.ref b485)])) rfl (hb hby at_113)
    have go567 := gap go565 st566
    obtain ⟨cl569, Ar569, q569, S569, N569, H569, G569⟩ := id F564
    obtain ⟨T568, h568, X568, e568, W568, st568⟩ := stR X566 hx hZ e566 Ar569 (j := (6 : Int32)) (inb_of S569 ⟨by decide, by decide⟩) rfl (Sto.ofV Ar569 q569 O485 (Ins.self (E_BIRTHDATE.keep K558))) (g := (mkF m 116 (L0_11 p0 p1 p2 p3 p4 b435 b462) [(.ref s_BIRTHDATE), (.int 6), (.ref b485), (.ref b485)])) rfl rfl (hb hby at_116)
    have go570 := gap go567 st568
    have N568 := Fr.snoc X568 N558 low485
    have K568 : Keep h0 h568 [] := K558.wr W568 (Or.inr fsh485)
    have Zs568 : n0 ≤ h568.size := Nat.le_trans Zs558 (Keep.of_wr W568).1
    have hk568 : s.heap.size ≤ h568.size := Nat.le_trans hk558 (Keep.of_wr W568).1
    have F571 := F561.other W568 ne498
    have F572 := F562.wr W568
    have F573 := F563.other W568 (Or.inl ne499)
    have F574 : Arv Z h568 b485 k485 (.object "com/example/hauora_id/hauoraid/model/Claim") (12 : Int32) [(.ref s_SUB), (.ref s_EMAIL), (.ref s_GIVEN_NAME), (.ref s_MIDDLE_NAME), (.ref s_FAMILY_NAME), (.ref s_NICKNAME), (.ref s_BIRTHDATE), .null, .null, .null, .null, .null] .null := Arv.set Ar569 q569 S569 N569 H569 G569 rfl W568 6 rfl (Nat.le_of_ble_eq_true rfl)
    have go575 : Go p.tables e below T568 (mkF m 120 (L0_11 p0 p1 p2 p3 p4 b435 b462) [(.int 7), (.ref b485), (.ref b485)]) En := by
      intro t k
      refine go570 _ ?_
      refine XS.dup X568.here hx rfl (hb hby at_117) rfl rfl ?_
      refine XS.bipush X568.here hx rfl (hb hby at_118) ?_
      exact k
    obtain ⟨T576, X576, e576, st576⟩ := getS2 X568 hx hZ hown (host := "") (Or.inl (hw _ (mi 40 rfl))) Via.refl e568 (own_sta_keep S_MOBILE_NUMBER K568 all0) (g := (mkF m 120 (L0_11 p0 p1 p2 p3 p4 b435 b462) [(.int 7), (.ref b485), (.ref b485)])) rfl (hb hby at_120)
    have go577 := gap go575 st576
    obtain ⟨cl579, Ar579, q579, S579, N579, H579, G579⟩ := id F574
    obtain ⟨T578, h578, X578, e578, W578, st578⟩ := stR X576 hx hZ e576 Ar579 (j := (7 : Int32)) (inb_of S579 ⟨by decide, by decide⟩) rfl (Sto.ofV Ar579 q579 O485 (Ins.self (E_MOBILE_NUMBER.keep K568))) (g := (mkF m 123 (L0_11 p0 p1 p2 p3 p4 b435 b462) [(.ref s_MOBILE_NUMBER), (.int 7), (.ref b485), (.ref b485)])) rfl rfl (hb hby at_123)
    have go580 := gap go577 st578
    have N578 := Fr.snoc X578 N568 low485
    have K578 : Keep h0 h578 [] := K568.wr W578 (Or.inr fsh485)
    have Zs578 : n0 ≤ h578.size := Nat.le_trans Zs568 (Keep.of_wr W578).1
    have hk578 : s.heap.size ≤ h578.size := Nat.le_trans hk568 (Keep.of_wr W578).1
    have F581 := F571.other W578 ne498
    have F582 := F572.wr W578
    have F583 := F573.other W578 (Or.inl ne499)
    have F584 : Arv Z h578 b485 k485 (.object "com/example/hauora_id/hauoraid/model/Claim") (12 : Int32) [(.ref s_SUB), (.ref s_EMAIL), (.ref s_GIVEN_NAME), (.ref s_MIDDLE_NAME), (.ref s_FAMILY_NAME), (.ref s_NICKNAME), (.ref s_BIRTHDATE), (.ref s_MOBILE_NUMBER), .null, .null, .null, .null] .null := Arv.set Ar579 q579 S579 N579 H579 G579 rfl W578 7 rfl (Nat.le_of_ble_eq_true rfl)
    have go585 : Go p.tables e below T578 (mkF m 127 (L0_11 p0 p1 p2 p3 p4 b435 b462) [(.int 8), (.ref b485), (.ref b485)]) En := by
      intro t k
      refine go580 _ ?_
      refine XS.dup X578.here hx rfl (hb hby at_124) rfl rfl ?_
      refine XS.bipush X578.here hx rfl (hb hby at_125) ?_
      exact k
    obtain ⟨T586, X586, e586, st586⟩ := getS2 X578 hx hZ hown (host := "") (Or.inl (hw _ (mi 42 rfl))) Via.refl e578 (own_sta_keep S_NHI K578 all0) (g := (mkF m 127 (L0_11 p0 p1 p2 p3 p4 b435 b462) [(.int 8), (.ref b485), (.ref b485)])) rfl (hb hby at_127)
    have go587 := gap go585 st586
    obtain ⟨cl589, Ar589, q589, S589, N589, H589, G589⟩ := id F584
    obtain ⟨T588, h588, X588, e588, W588, st588⟩ := stR X586 hx hZ e586 Ar589 (j := (8 : Int32)) (inb_of S589 ⟨by decide, by decide⟩) rfl (Sto.ofV Ar589 q589 O485 (Ins.self (E_NHI.keep K578))) (g := (mkF m 130 (L0_11 p0 p1 p2 p3 p4 b435 b462) [(.ref s_NHI), (.int 8), (.ref b485), (.ref b485)])) rfl rfl (hb hby at_130)
    have go590 := gap go587 st588
    have N588 := Fr.snoc X588 N578 low485
    have K588 : Keep h0 h588 [] := K578.wr W588 (Or.inr fsh485)
    have Zs588 : n0 ≤ h588.size := Nat.le_trans Zs578 (Keep.of_wr W588).1
    have hk588 : s.heap.size ≤ h588.size := Nat.le_trans hk578 (Keep.of_wr W588).1
    have F591 := F581.other W588 ne498
    have F592 := F582.wr W588
    have F593 := F583.other W588 (Or.inl ne499)
    have F594 : Arv Z h588 b485 k485 (.object "com/example/hauora_id/hauoraid/model/Claim") (12 : Int32) [(.ref s_SUB), (.ref s_EMAIL), (.ref s_GIVEN_NAME), (.ref s_MIDDLE_NAME), (.ref s_FAMILY_NAME), (.ref s_NICKNAME), (.ref s_BIRTHDATE), (.ref s_MOBILE_NUMBER), (.ref s_NHI), .null, .null, .null] .null := Arv.set Ar589 q589 S589 N589 H589 G589 rfl W588 8 rfl (Nat.le_of_ble_eq_true rfl)
    have go595 : Go p.tables e below T588 (mkF m 134 (L0_11 p0 p1 p2 p3 p4 b435 b462) [(.int 9), (.ref b485), (.ref b485)]) En := by
      intro t k
      refine go590 _ ?_
      refine XS.dup X588.here hx rfl (hb hby at_131) rfl rfl ?_
      refine XS.bipush X588.here hx rfl (hb hby at_132) ?_
      exact k
    obtain ⟨T596, X596, e596, st596⟩ := getS2 X588 hx hZ hown (host := "") (Or.inl (hw _ (mi 44 rfl))) Via.refl e588 (own_sta_keep S_CPN K588 all0) (g := (mkF m 134 (L0_11 p0 p1 p2 p3 p4 b435 b462) [(.int 9), (.ref b485), (.ref b485)])) rfl (hb hby at_134)
    have go597 := gap go595 st596
    obtain ⟨cl599, Ar599, q599, S599, N599, H599, G599⟩ := id F594
    obtain ⟨T598, h598, X598, e598, W598, st598⟩ := stR X596 hx hZ e596 Ar599 (j := (9 : Int32)) (inb_of S599 ⟨by decide, by decide⟩) rfl (Sto.ofV Ar599 q599 O485 (Ins.self (E_CPN.keep K588))) (g := (mkF m 137 (L0_11 p0 p1 p2 p3 p4 b435 b462) [(.ref s_CPN), (.int 9), (.ref b485), (.ref b485)])) rfl rfl (hb hby at_137)
    have go600 := gap go597 st598
    have N598 := Fr.snoc X598 N588 low485
    have K598 : Keep h0 h598 [] := K588.wr W598 (Or.inr fsh485)
    have Zs598 : n0 ≤ h598.size := Nat.le_trans Zs588 (Keep.of_wr W598).1
    have hk598 : s.heap.size ≤ h598.size := Nat.le_trans hk588 (Keep.of_wr W598).1
    have F601 := F591.other W598 ne498
    have F602 := F592.wr W598
    have F603 := F593.other W598 (Or.inl ne499)
    have F604 : Arv Z h598 b485 k485 (.object "com/example/hauora_id/hauoraid/model/Claim") (12 : Int32) [(.ref s_SUB), (.ref s_EMAIL), (.ref s_GIVEN_NAME), (.ref s_MIDDLE_NAME), (.ref s_FAMILY_NAME), (.ref s_NICKNAME), (.ref s_BIRTHDATE), (.ref s_MOBILE_NUMBER), (.ref s_NHI), (.ref s_CPN), .null, .null] .null := Arv.set Ar599 q599 S599 N599 H599 G599 rfl W598 9 rfl (Nat.le_of_ble_eq_true rfl)
    have go605 : Go p.tables e below T598 (mkF m 141 (L0_11 p0 p1 p2 p3 p4 b435 b462) [(.int 10), (.ref b485), (.ref b485)]) En := by
      intro t k
      refine go600 _ ?_
      refine XS.dup X598.here hx rfl (hb hby at_138) rfl rfl ?_
      refine XS.bipush X598.here hx rfl (hb hby at_139) ?_
      exact k
    obtain ⟨T606, X606, e606, st606⟩ := getS2 X598 hx hZ hown (host := "") (Or.inl (hw _ (mi 46 rfl))) Via.refl e598 (own_sta_keep S_RELATIONSHIPS K598 all0) (g := (mkF m 141 (L0_11 p0 p1 p2 p3 p4 b435 b462) [(.int 10), (.ref b485), (.ref b485)])) rfl (hb hby at_141)
    have go607 := gap go605 st606
    obtain ⟨cl609, Ar609, q609, S609, N609, H609, G609⟩ := id F604
    obtain ⟨T608, h608, X608, e608, W608, st608⟩ := stR X606 hx hZ e606 Ar609 (j := (10 : Int32)) (inb_of S609 ⟨by decide, by decide⟩) rfl (Sto.ofV Ar609 q609 O485 (Ins.self (E_RELATIONSHIPS.keep K598))) (g := (mkF m 144 (L0_11 p0 p1 p2 p3 p4 b435 b462) [(.ref s_RELATIONSHIPS), (.int 10), (.ref b485), (.ref b485)])) rfl rfl (hb hby at_144)
    have go610 := gap go607 st608
    have N608 := Fr.snoc X608 N598 low485
    have K608 : Keep h0 h608 [] := K598.wr W608 (Or.inr fsh485)
    have Zs608 : n0 ≤ h608.size := Nat.le_trans Zs598 (Keep.of_wr W608).1
    have hk608 : s.heap.size ≤ h608.size := Nat.le_trans hk598 (Keep.of_wr W608).1
    have F611 := F601.other W608 ne498
    have F612 := F602.wr W608
    have F613 := F603.other W608 (Or.inl ne499)
    have F614 : Arv Z h608 b485 k485 (.object "com/example/hauora_id/hauoraid/model/Claim") (12 : Int32) [(.ref s_SUB), (.ref s_EMAIL), (.ref s_GIVEN_NAME), (.ref s_MIDDLE_NAME), (.ref s_FAMILY_NAME), (.ref s_NICKNAME), (.ref s_BIRTHDATE), (.ref s_MOBILE_NUMBER), (.ref s_NHI), (.ref s_CPN), (.ref s_RELATIONSHIPS), .null] .null := Arv.set Ar609 q609 S609 N609 H609 G609 rfl W608 10 rfl (Nat.le_of_ble_eq_true rfl)
    have go615 : Go p.tables e below T608 (mkF m 148 (L0_11 p0 p1 p2 p3 p4 b435 b462) [(.int 11), (.ref b485), (.ref b485)]) En := by
      intro t k
      refine go610 _ ?_
      refine XS.dup X608.here hx rfl (hb hby at_145) rfl rfl ?_
      refine XS.bipush X608.here hx rfl (hb hby at_146) ?_
      exact k
    obtain ⟨T616, X616, e616, st616⟩ := getS2 X608 hx hZ hown (host := "") (Or.inl (hw _ (mi 48 rfl))) Via.refl e608 (own_sta_keep S_CONFIDENCE_LEVEL K608 all0) (g := (mkF m 148 (L0_11 p0 p1 p2 p3 p4 b435 b462) [(.int 11), (.ref b485), (.ref b485)])) rfl (hb hby at_148)
    have go617 := gap go615 st616
    obtain ⟨cl619, Ar619, q619, S619, N619, H619, G619⟩ := id F614
    obtain ⟨T618, h618, X618, e618, W618, st618⟩ := stR X616 hx hZ e616 Ar619 (j := (11 : Int32)) (inb_of S619 ⟨by decide, by decide⟩) rfl (Sto.ofV Ar619 q619 O485 (Ins.self (E_CONFIDENCE_LEVEL.keep K608))) (g := (mkF m 151 (L0_11 p0 p1 p2 p3 p4 b435 b462) [(.ref s_CONFIDENCE_LEVEL), (.int 11), (.ref b485), (.ref b485)])) rfl rfl (hb hby at_151)
    have go620 := gap go617 st618
    have N618 := Fr.snoc X618 N608 low485
    have K618 : Keep h0 h618 [] := K608.wr W618 (Or.inr fsh485)
    have Zs618 : n0 ≤ h618.size := Nat.le_trans Zs608 (Keep.of_wr W618).1
    have hk618 : s.heap.size ≤ h618.size := Nat.le_trans hk608 (Keep.of_wr W618).1
    have F621 := F611.other W618 ne498
    have F622 := F612.wr W618
    have F623 := F613.other W618 (Or.inl ne499)
    have F624 : Arv Z h618 b485 k485 (.object "com/example/hauora_id/hauoraid/model/Claim") (12 : Int32) [(.ref s_SUB), (.ref s_EMAIL), (.ref s_GIVEN_NAME), (.ref s_MIDDLE_NAME), (.ref s_FAMILY_NAME), (.ref s_NICKNAME), (.ref s_BIRTHDATE), (.ref s_MOBILE_NUMBER), (.ref s_NHI), (.ref s_CPN), (.ref s_RELATIONSHIPS), (.ref s_CONFIDENCE_LEVEL)] .null := Arv.set Ar619 q619 S619 N619 H619 G619 rfl W618 11 rfl (Nat.le_of_ble_eq_true rfl)
    obtain ⟨cl625, Ar625, q625, S625, N625, H625, G625⟩ := id F624
    obtain ⟨xk, rk, hel, Ek, Fk⟩ : ∃ xk rk : Addr, ([(.ref s_SUB), (.ref s_EMAIL), (.ref s_GIVEN_NAME), (.ref s_MIDDLE_NAME), (.ref s_FAMILY_NAME), (.ref s_NICKNAME), (.ref s_BIRTHDATE), (.ref s_MOBILE_NUMBER), (.ref s_NHI), (.ref s_CPN), (.ref s_RELATIONSHIPS), (.ref s_CONFIDENCE_LEVEL)] : List Value).getD (((p4 &&& (2147483647 : Int32)) % (12 : Int32))).toNatClampNeg .null = .ref xk ∧ Exa Z h618 xk "com/example/hauora_id/hauoraid/model/Claim" ∧ Fld Z h618 xk "com/example/hauora_id/hauoraid/model/Claim" "release" "Lcom/example/hauora_id/hauoraid/model/Claim$Release;" (.ref rk) := by
      rcases own_in12 p4 with h | h | h | h | h | h | h | h | h | h | h | h
      · rw [h]; exact ⟨_, _, rfl, (E_SUB.keep K618), (F_SUB_release.keep K618 nin0)⟩
      · rw [h]; exact ⟨_, _, rfl, (E_EMAIL.keep K618), (F_EMAIL_release.keep K618 nin0)⟩
      · rw [h]; exact ⟨_, _, rfl, (E_GIVEN_NAME.keep K618), (F_GIVEN_NAME_release.keep K618 nin0)⟩
      · rw [h]; exact ⟨_, _, rfl, (E_MIDDLE_NAME.keep K618), (F_MIDDLE_NAME_release.keep K618 nin0)⟩
      · rw [h]; exact ⟨_, _, rfl, (E_FAMILY_NAME.keep K618), (F_FAMILY_NAME_release.keep K618 nin0)⟩
      · rw [h]; exact ⟨_, _, rfl, (E_NICKNAME.keep K618), (F_NICKNAME_release.keep K618 nin0)⟩
      · rw [h]; exact ⟨_, _, rfl, (E_BIRTHDATE.keep K618), (F_BIRTHDATE_release.keep K618 nin0)⟩
      · rw [h]; exact ⟨_, _, rfl, (E_MOBILE_NUMBER.keep K618), (F_MOBILE_NUMBER_release.keep K618 nin0)⟩
      · rw [h]; exact ⟨_, _, rfl, (E_NHI.keep K618), (F_NHI_release.keep K618 nin0)⟩
      · rw [h]; exact ⟨_, _, rfl, (E_CPN.keep K618), (F_CPN_release.keep K618 nin0)⟩
      · rw [h]; exact ⟨_, _, rfl, (E_RELATIONSHIPS.keep K618), (F_RELATIONSHIPS_release.keep K618 nin0)⟩
      · rw [h]; exact ⟨_, _, rfl, (E_CONFIDENCE_LEVEL.keep K618), (F_CONFIDENCE_LEVEL_release.keep K618 nin0)⟩
    have go626 : Go p.tables e below T618 (mkF m 169 #[iv p0, iv p1, iv p2, iv p3, iv p4, iv 2, rv b435, rv b462, rv b485, rv xk, .unset, .unset] [(.ref b462)]) En := by
      intro t k
      refine go620 _ ?_
      refine XS.astore X618.here hx rfl (hb hby at_152) rfl rfl (l' := (L0_12 p0 p1 p2 p3 p4 b435 b462 b485)) rfl ?_
      refine XS.aload X618.here hx rfl (hb hby at_154) rfl rfl ?_
      refine XS.iload X618.here hx rfl (hb hby at_156) rfl ?_
      show Steps _ _ _ (T618.setTop (mkF m 158 (L0_12 p0 p1 p2 p3 p4 b435 b462 b485) [(.int p4), (.ref b485)])) _
      refine X618.ldcInt hx hown (mvT hZ (hw _ (mi 50 rfl))) (g := (mkF m 158 (L0_12 p0 p1 p2 p3 p4 b435 b462 b485) [(.int p4), (.ref b485)])) rfl (hb hby at_158) _ ?_
      refine XS.iand X618.here hx rfl (hb hby at_160) rfl ?_
      refine XS.bipush X618.here hx rfl (hb hby at_161) ?_
      show Steps _ _ _ (T618.setTop (mkF m 163 (L0_12 p0 p1 p2 p3 p4 b435 b462 b485) [(.int 12), (.int (p4 &&& (2147483647 : Int32))), (.ref b485)])) _
      refine iremM X618 hx rfl (hb hby at_163) rfl (by decide) ?_
      refine X618.aaload hx (j := ((p4 &&& (2147483647 : Int32)) % (12 : Int32))) (v := (.ref xk)) (by rw [e618]; exact Ar625.1) (State.isArrayOf_alike hZ.alike Ar625.2.1) rfl Ar625.2.2 (inb_of S625 (own_b12 p4)) (Has.at H625 (inb_of S625 (own_b12 p4)) hel) (g := (mkF m 164 (L0_12 p0 p1 p2 p3 p4 b435 b462 b485) [(.int ((p4 &&& (2147483647 : Int32)) % (12 : Int32))), (.ref b485)])) rfl rfl (hb hby at_164) _ ?_
      refine XS.astore X618.here hx rfl (hb hby at_165) rfl rfl (l' := #[iv p0, iv p1, iv p2, iv p3, iv p4, iv 2, rv b435, rv b462, rv b485, rv xk, .unset, .unset]) rfl ?_
      show Steps _ _ _ (T618.setTop (mkF m 167 #[iv p0, iv p1, iv p2, iv p3, iv p4, iv 2, rv b435, rv b462, rv b485, rv xk, .unset, .unset] [])) _
      refine XS.aload X618.here hx rfl (hb hby at_167) rfl rfl ?_
      exact k
    obtain ⟨_, T627, Lc627, X627, hQ627, st627⟩ := own_cs X618 hx hZ hown hml go626 (hb hby at_169) e618 (hw _ (mi 51 rfl)) (own_site181 hw) (rm4 l Z aZ hw [] b462 h618 n0 Zs618 ) (by decide) (argsL := [(.ref b462)]) (rest := []) rfl rfl rfl (lenOf pd_182 rfl) (W := 0) rfl (by decide) (by decide) (by decide : 4 + 1 ≤ _) (by decide : 20 + 6 ≤ _)
    obtain ⟨b627, rfl, N627q, K627q, fr627, G627_0, G627_1, G627_2, G627_3, G627_4, G627_5, G627_6⟩ := hQ627
    have N627 := Fr.app N618 N627q
    have K627 : Keep h0 T627.heap [] := K618.trans K627q all0
    have low627 : n0 ≤ b627 := Nat.le_trans Zs618 fr627
    have fsh627 : h0.size ≤ b627 := Nat.le_trans K618.1 fr627
    have ne628 : b462 ≠ b627 := Nat.ne_of_lt (Nat.lt_of_lt_of_le F622.lt fr627)
    have ne629 : xk ≠ b627 := Nat.ne_of_lt (Nat.lt_of_lt_of_le Ek.lt fr627)
    have Zs627 : n0 ≤ T627.heap.size := Nat.le_trans Zs618 K627q.1
    have hk627 : s.heap.size ≤ T627.heap.size := Nat.le_trans hk618 K627q.1
    have F630 := F622.keep K627q
    have F631 := F623.keep K627q nin0
    have F632 := Ek.keep K627q
    have F633 := Fk.keep K627q nin0
    have go634 : Go p.tables e below T627 (mkF m 176 #[iv p0, iv p1, iv p2, iv p3, iv p4, iv 2, rv b435, rv b462, rv b485, rv xk, rv b627, .unset] [(.ref b627)]) En := by
      intro t k
      refine st627 _ ?_
      refine XS.astore X627.here hx rfl (hb hby at_172) rfl rfl (l' := #[iv p0, iv p1, iv p2, iv p3, iv p4, iv 2, rv b435, rv b462, rv b485, rv xk, rv b627, .unset]) rfl ?_
      refine XS.aload X627.here hx rfl (hb hby at_174) rfl rfl ?_
      exact k
    obtain ⟨_, T635, Lc635, X635, hQ635, st635⟩ := own_cv X627 hx hZ hown hml go634 (hb hby at_176) rfl (hw _ (mi 78 rfl)) (own_site183 hw) G627_0 (rm7 l Z aZ hw [] _ _ T627.heap n0 Zs627 G627_1) (by decide) (argsL := []) (rest := []) rfl rfl rfl (lenOf pd_184 rfl) (W := 0) rfl (by decide) (by decide) (by decide : 5 + 0 ≤ _) (by decide : 26 + 0 ≤ _)
    obtain ⟨rfl, N635q, e635⟩ := hQ635
    have N635 := Fr.app N627 N635q
    have go636 : Go p.tables e below T635 (mkF m 190 (L0_13 p0 p1 p2 p3 p4 b435 b462 b485 b627 xk) [(.ref b462), (.ref b462)]) En := by
      intro t k
      refine st635 _ ?_
      refine XS.astore X635.here hx rfl (hb hby at_179) rfl rfl (l' := (L0_13 p0 p1 p2 p3 p4 b435 b462 b485 b627 xk)) rfl ?_
      refine XS.aload X635.here hx rfl (hb hby at_181) rfl rfl ?_
      refine XT.nullNo X635.here hx rfl (hb hby at_183) rfl rfl (fun q => nomatch q) ?_
      show Steps _ _ _ (T635.setTop (mkF m 186 (L0_13 p0 p1 p2 p3 p4 b435 b462 b485 b627 xk) [])) _
      refine XS.aload X635.here hx rfl (hb hby at_186) rfl rfl ?_
      refine XS.aload X635.here hx rfl (hb hby at_188) rfl rfl ?_
      exact k
    obtain ⟨_, T637, Lc637, X637, hQ637, st637⟩ := own_cv X635 hx hZ hown hml go636 (hb hby at_190) e635 (hw _ (mi 83 rfl)) (own_site185 hw) F630 (rm8 l Z aZ hw [] b462 T627.heap n0 Zs627 ) (by decide) (argsL := [(.ref b462)]) (rest := []) rfl rfl rfl (lenOf pd_186 rfl) (W := 0) rfl (by decide) (by decide) (by decide : 5 + 0 ≤ _) (by decide : 26 + 0 ≤ _)
    obtain ⟨rfl, N637q, e637⟩ := hQ637
    have N637 := Fr.app N635 N637q
    have go638 : Go p.tables e below T637 (mkF m 198 (L0_13 p0 p1 p2 p3 p4 b435 b462 b485 b627 xk) [(.ref b627)]) En := by
      intro t k
      refine st637 _ ?_
      refine XS.ifNo X637.here hx rfl (hb hby at_193) rfl (XT.i0_eq_f (by decide : ¬ ((1 : Int32) = (0 : Int32)))) ?_
      refine XS.aload X637.here hx rfl (hb hby at_196) rfl rfl ?_
      exact k
    obtain ⟨_, T639, Lc639, X639, hQ639, st639⟩ := own_cv X637 hx hZ hown hml go638 (hb hby at_198) e637 (hw _ (mi 88 rfl)) (own_site187 hw) G627_0 (rm9 l Z aZ hw [] _ T627.heap n0 Zs627 G627_2) (by decide) (argsL := []) (rest := []) rfl rfl rfl (lenOf pd_188 rfl) (W := 0) rfl (by decide) (by decide) (by decide : 5 + 0 ≤ _) (by decide : 26 + 0 ≤ _)
    obtain ⟨rfl, N639q, e639⟩ := hQ639
    have N639 := Fr.app N637 N639q
    have go640 : Go p.tables e below T639 (mkF m 206 (L0_13 p0 p1 p2 p3 p4 b435 b462 b485 b627 xk) [(.ref b627)]) En := by
      intro t k
      refine st639 _ ?_
      refine XT.nonnullNo X639.here hx rfl (hb hby at_201) rfl rfl ?_
      refine XS.aload X639.here hx rfl (hb hby at_204) rfl rfl ?_
      exact k
    obtain ⟨_, T641, Lc641, X641, hQ641, st641⟩ := own_cv X639 hx hZ hown hml go640 (hb hby at_206) e639 (hw _ (mi 93 rfl)) (own_site189 hw) G627_0 (rm10 l Z aZ hw [] _ T627.heap n0 Zs627 G627_3) (by decide) (argsL := []) (rest := []) rfl rfl rfl (lenOf pd_184 rfl) (W := 0) rfl (by decide) (by decide) (by decide : 5 + 0 ≤ _) (by decide : 26 + 0 ≤ _)
    obtain ⟨rfl, N641q, e641⟩ := hQ641
    have N641 := Fr.app N639 N641q
    have go642 : Go p.tables e below T641 (mkF m 214 (L0_13 p0 p1 p2 p3 p4 b435 b462 b485 b627 xk) [(.ref b627)]) En := by
      intro t k
      refine st641 _ ?_
      refine XT.nonnullNo X641.here hx rfl (hb hby at_209) rfl rfl ?_
      refine XS.aload X641.here hx rfl (hb hby at_212) rfl rfl ?_
      exact k
    obtain ⟨_, T643, Lc643, X643, hQ643, st643⟩ := own_cv X641 hx hZ hown hml go642 (hb hby at_214) e641 (hw _ (mi 98 rfl)) (own_site190 hw) G627_0 (rm11 l Z aZ hw [] _ T627.heap n0 Zs627 G627_4) (by decide) (argsL := []) (rest := []) rfl rfl rfl (lenOf pd_172 rfl) (W := 0) rfl (by decide) (by decide) (by decide : 5 + 0 ≤ _) (by decide : 26 + 0 ≤ _)
    obtain ⟨rfl, N643q, e643⟩ := hQ643
    have N643 := Fr.app N641 N643q
    have go644 : Go p.tables e below T643 (mkF m 222 (L0_13 p0 p1 p2 p3 p4 b435 b462 b485 b627 xk) [(.ref b627)]) En := by
      intro t k
      refine st643 _ ?_
      refine XS.ifNo X643.here hx rfl (hb hby at_217) rfl (XT.i0_eq_f (by decide : ¬ ((1 : Int32) = (0 : Int32)))) ?_
      refine XS.aload X643.here hx rfl (hb hby at_220) rfl rfl ?_
      exact k
    obtain ⟨_, T645, Lc645, X645, hQ645, st645⟩ := own_cv X643 hx hZ hown hml go644 (hb hby at_222) e643 (hw _ (mi 103 rfl)) (own_site191 hw) G627_0 (rm12 l Z aZ hw [] _ T627.heap n0 Zs627 G627_5) (by decide) (argsL := []) (rest := []) rfl rfl rfl (lenOf pd_184 rfl) (W := 0) rfl (by decide) (by decide) (by decide : 5 + 0 ≤ _) (by decide : 26 + 0 ≤ _)
    obtain ⟨rfl, N645q, e645⟩ := hQ645
    have N645 := Fr.app N643 N645q
    have go646 : Go p.tables e below T645 (mkF m 230 (L0_13 p0 p1 p2 p3 p4 b435 b462 b485 b627 xk) [(.ref b627)]) En := by
      intro t k
      refine st645 _ ?_
      refine XT.nonnullNo X645.here hx rfl (hb hby at_225) rfl rfl ?_
      refine XS.aload X645.here hx rfl (hb hby at_228) rfl rfl ?_
      exact k
    obtain ⟨_, T647, Lc647, X647, hQ647, st647⟩ := own_cv X645 hx hZ hown hml go646 (hb hby at_230) e645 (hw _ (mi 108 rfl)) (own_site192 hw) G627_0 (rm13 l Z aZ hw [] _ T627.heap n0 Zs627 G627_6) (by decide) (argsL := []) (rest := []) rfl rfl rfl (lenOf pd_188 rfl) (W := 0) rfl (by decide) (by decide) (by decide : 5 + 0 ≤ _) (by decide : 26 + 0 ≤ _)
    obtain ⟨rfl, N647q, e647⟩ := hQ647
    have N647 := Fr.app N645 N647q
    have go648 : Go p.tables e below T647 (mkF m 240 (L0_13 p0 p1 p2 p3 p4 b435 b462 b485 b627 xk) [(.ref xk), (.ref b627)]) En := by
      intro t k
      refine st647 _ ?_
      refine XT.nonnullNo X647.here hx rfl (hb hby at_233) rfl rfl ?_
      refine XS.aload X647.here hx rfl (hb hby at_236) rfl rfl ?_
      refine XS.aload X647.here hx rfl (hb hby at_238) rfl rfl ?_
      show Steps _ _ _ (T647.setTop (mkF m 240 (L0_13 p0 p1 p2 p3 p4 b435 b462 b485 b627 xk) [(.ref xk), (.ref b627)])) _
      exact k
    obtain ⟨_, T649, Lc649, X649, hQ649, st649⟩ := own_cv X647 hx hZ hown hml go648 (hb hby at_240) e647 (hw _ (mi 113 rfl)) (own_site193 hw) G627_0 (rm14 l Z aZ hw [] _ xk rk _ T627.heap n0 Zs627 G627_2 F632 F633 (own_sta_keep S_ALWAYS K627 all0)) (by decide) (argsL := [(.ref xk)]) (rest := []) rfl rfl rfl (lenOf pd_194 rfl) (W := 0) rfl (by decide) (by decide) (by decide : 5 + 0 ≤ _) (by decide : 26 + 0 ≤ _)
    obtain ⟨rfl, N649q, e649⟩ := hQ649
    have N649 := Fr.app N647 N649q
    have go651 : Go p.tables e below T649 (mkF m 251 (L0_13 p0 p1 p2 p3 p4 b435 b462 b485 b627 xk) [(.int (b0_212 s_ALWAYS rk))]) En := by
      intro t k
      have k : Steps p.tables e below (T649.setTop (mkF m  251 #[iv p0, iv p1, iv p2, iv p3, iv p4, iv 2, rv b435, rv b462, rv b485, rv xk, rv b627, rv b462] [(.int (b0_212 s_ALWAYS rk))])) t := k
      refine st649 _ ?_
      by_cases hc650 : (f14 rk s_ALWAYS) = (0 : Int32)
      · refine XS.ifYes X649.here hx rfl (pc0 := 243) (pc' := 250) rfl (hb hby at_243) rfl (XT.i0_eq_t hc650) (by decide) (by decide) ?_
        refine XS.iconst X649.here hx rfl (hb hby at_250) ?_
        have hq652 : (b0_212 s_ALWAYS rk) = (0 : Int32) := by rw [b0_212, if_pos hc650]
        rw [hq652] at k
        exact k
      · refine XS.ifNo X649.here hx rfl (hb hby at_243) rfl (XT.i0_eq_f hc650) ?_
        refine XS.iconst X649.here hx rfl (hb hby at_246) ?_
        refine XS.goto X649.here hx rfl (pc0 := 247) (pc' := 251) rfl (hb hby at_247) (by decide) (by decide) ?_
        have hq653 : (b0_212 s_ALWAYS rk) = (1 : Int32) := by rw [b0_212, if_neg hc650]
        rw [hq653] at k
        exact k
    obtain ⟨fs, hr, hrun, hended, hRW⟩ := X649.leaveW hS0 (by rw [e649]; exact hk627) (v := some (.int (b0_212 s_ALWAYS rk))) (fun h => by rw [Bd.returns] at h; cases h) Bd.notSynchronized
    subst hEn
    refine ⟨_, _, go651 _ (Jvm.RoadKit.retOut X649 hx Bd.returns (own_nz (by unfold b0_212; (repeat' split) <;> first | exact Or.inl rfl | exact Or.inr rfl)) (Or.inl ⟨rfl, Or.inr (Or.inl rfl), _, rfl⟩) (hb hby at_251) hr), hrun, hended, _, _, rfl, ?_, hRW.1, hRW.2.1, hRW.2.2.1, hRW.2.2.2.mono (by decide) (by decide)⟩
    show Q0 _ _ p0 p1 p2 p3 p4 s_SUB s_EMAIL s_GIVEN_NAME s_MIDDLE_NAME s_FAMILY_NAME s_NICKNAME s_BIRTHDATE s_MOBILE_NUMBER s_NHI s_CPN s_RELATIONSHIPS s_CONFIDENCE_LEVEL s_ALWAYS s_USERINFO s_ID_TOKEN s_COMPACT_STRINGS h0 _ (T649.setFrames fs).heap _
    have hE : (T649.setFrames fs).heap = T627.heap := e649
    rw [hE]
    exact ⟨congrArg (fun z => some (Value.int z)) ((by rw [f0, if_neg hs2, if_neg hs215, if_pos hs432] : (b0_212 s_ALWAYS rk) = (f0 p0 s_ALWAYS rk)).trans (f0_one p0 s_ALWAYS rk)), N649⟩
  by_cases hs654 : (p0 &&& (3 : Int32)) = (3 : Int32)
  · have go655 : Go p.tables e below s₁ (mkF m 5 #[iv p0, iv p1, iv p2, iv p3, iv p4, iv 3, .unset, .unset, .unset, .unset, .unset, .unset] []) En := by
      have q : Go p.tables e below s₁ (mkF m  5 #[iv p0, iv p1, iv p2, iv p3, iv p4, iv (p0 &&& (3 : Int32)), .unset, .unset, .unset, .unset, .unset, .unset] []) En := go1
      rw [hs654] at q
      exact q
    have go656 : Go p.tables e below s₁ (mkF m 7 #[iv p0, iv p1, iv p2, iv p3, iv p4, iv 3, .unset, .unset, .unset, .unset, .unset, .unset] [(.int 3)]) En := by
      intro t k
      refine go655 _ ?_
      refine XS.iload X0.here hx rfl (hb hby at_5) rfl ?_
      exact k
    obtain ⟨T657, h657, k657, X657, e657, E657, A657, st657⟩ := newP X0 hx hZ (hw _ (mi 0 rfl)) e0 (g := (mkF m 7 #[iv p0, iv p1, iv p2, iv p3, iv p4, iv 3, .unset, .unset, .unset, .unset, .unset, .unset] [(.int 3)])) rfl (hb hby at_7) rfl (by decide) (cap := 3) (by decide) (by decide) (by decide) (by decide)
    obtain ⟨b657, g657⟩ : ∃ z, z = h0.size := ⟨_, rfl⟩
    rw [← g657] at A657 st657
    have ne658 : s_SUB ≠ b657 := Nat.ne_of_lt (Nat.lt_of_lt_of_le E_SUB.lt (Nat.le_of_eq g657.symm))
    have ne659 : s_EMAIL ≠ b657 := Nat.ne_of_lt (Nat.lt_of_lt_of_le E_EMAIL.lt (Nat.le_of_eq g657.symm))
    have ne660 : s_GIVEN_NAME ≠ b657 := Nat.ne_of_lt (Nat.lt_of_lt_of_le E_GIVEN_NAME.lt (Nat.le_of_eq g657.symm))
    have ne661 : s_MIDDLE_NAME ≠ b657 := Nat.ne_of_lt (Nat.lt_of_lt_of_le E_MIDDLE_NAME.lt (Nat.le_of_eq g657.symm))
    have ne662 : s_FAMILY_NAME ≠ b657 := Nat.ne_of_lt (Nat.lt_of_lt_of_le E_FAMILY_NAME.lt (Nat.le_of_eq g657.symm))
    have ne663 : s_NICKNAME ≠ b657 := Nat.ne_of_lt (Nat.lt_of_lt_of_le E_NICKNAME.lt (Nat.le_of_eq g657.symm))
    have ne664 : s_BIRTHDATE ≠ b657 := Nat.ne_of_lt (Nat.lt_of_lt_of_le E_BIRTHDATE.lt (Nat.le_of_eq g657.symm))
    have ne665 : s_MOBILE_NUMBER ≠ b657 := Nat.ne_of_lt (Nat.lt_of_lt_of_le E_MOBILE_NUMBER.lt (Nat.le_of_eq g657.symm))
    have ne666 : s_NHI ≠ b657 := Nat.ne_of_lt (Nat.lt_of_lt_of_le E_NHI.lt (Nat.le_of_eq g657.symm))
    have ne667 : s_CPN ≠ b657 := Nat.ne_of_lt (Nat.lt_of_lt_of_le E_CPN.lt (Nat.le_of_eq g657.symm))
    have ne668 : s_RELATIONSHIPS ≠ b657 := Nat.ne_of_lt (Nat.lt_of_lt_of_le E_RELATIONSHIPS.lt (Nat.le_of_eq g657.symm))
    have ne669 : s_CONFIDENCE_LEVEL ≠ b657 := Nat.ne_of_lt (Nat.lt_of_lt_of_le E_CONFIDENCE_LEVEL.lt (Nat.le_of_eq g657.symm))
    have low657 : n0 ≤ b657 := Nat.le_trans Z0 (Nat.le_of_eq g657.symm)
    have fsh657 : h0.size ≤ b657 := Nat.le_trans K0.1 (Nat.le_of_eq g657.symm)
    have K657 : Keep h0 h657 [] := K0.ext E657
    have Zs657 : n0 ≤ h657.size := Nat.le_trans Z0 E657.1
    have hk657 : s.heap.size ≤ h657.size := Nat.le_trans hk0 E657.1
    have go670 := gap go656 st657
    have F671 : Arv Z h657 b657 k657 .char (3 : Int32) [(.int 0), (.int 0), (.int 0)] (.int 0) := (Arv.new A657 (by decide)).pad (pad_rep [] (.int 0) 3)
    have go672 : Go p.tables e below T657 (mkF m 25 (L0_14 p0 p1 p2 p3 p4 b657) [(.int (v0_233 p1)), (.int 0), (.ref b657)]) En := by
      intro t k
      refine go670 _ ?_
      refine XS.astore X657.here hx rfl (hb hby at_9) rfl rfl (l' := (L0_14 p0 p1 p2 p3 p4 b657)) rfl ?_
      refine XS.iload X657.here hx rfl (hb hby at_11) rfl ?_
      refine XS.ifNo X657.here hx rfl (hb hby at_13) rfl (XT.i0_le_f (by decide : ((0 : Int32) < (3 : Int32)))) ?_
      show Steps _ _ _ (T657.setTop (mkF m 16 (L0_14 p0 p1 p2 p3 p4 b657) [])) _
      refine XS.aload X657.here hx rfl (hb hby at_16) rfl rfl ?_
      refine XS.iconst X657.here hx rfl (hb hby at_18) ?_
      refine XS.iloadN X657.here hx rfl (hb hby at_19) rfl ?_
      show Steps _ _ _ (T657.setTop (mkF m 20 (L0_14 p0 p1 p2 p3 p4 b657) [(.int p1), (.int 0), (.ref b657)])) _
      refine XS.sipush X657.here hx rfl (hb hby at_20) ?_
      refine XS.iand X657.here hx rfl (hb hby at_23) rfl ?_
      refine XS.i2c X657.here hx rfl (hb hby at_24) rfl ?_
      show Steps _ _ _ (T657.setTop (mkF m 25 (L0_14 p0 p1 p2 p3 p4 b657) [(.int (v0_233 p1)), (.int 0), (.ref b657)])) _
      exact k
    obtain ⟨cl674, Ar674, q674, S674, N674, H674, G674⟩ := id F671
    obtain ⟨T673, h673, X673, e673, W673, st673⟩ := stC X657 hx hZ e657 Ar674 (j := (0 : Int32)) (inb_of S674 ⟨by decide, by decide⟩) (g := (mkF m 25 (L0_14 p0 p1 p2 p3 p4 b657) [(.int (v0_233 p1)), (.int 0), (.ref b657)])) rfl rfl (hb hby at_25)
    have go675 := gap go672 st673
    have N673 := Fr.snoc X673 N0 low657
    have K673 : Keep h0 h673 [] := K657.wr W673 (Or.inr fsh657)
    have Zs673 : n0 ≤ h673.size := Nat.le_trans Zs657 (Keep.of_wr W673).1
    have hk673 : s.heap.size ≤ h673.size := Nat.le_trans hk657 (Keep.of_wr W673).1
    have F676 : Arv Z h673 b657 k657 .char (3 : Int32) [(.int (v0_233 p1).toUInt32.toUInt16.toUInt32.toInt32), (.int 0), (.int 0)] (.int 0) := Arv.set Ar674 q674 S674 N674 H674 G674 (fits_nar_char _) W673 0 rfl (Nat.le_of_ble_eq_true rfl)
    have go677 : Go p.tables e below T673 (mkF m 41 (L0_14 p0 p1 p2 p3 p4 b657) [(.int (v0_455 p2)), (.int 1), (.ref b657)]) En := by
      intro t k
      refine go675 _ ?_
      refine XS.iload X673.here hx rfl (hb hby at_26) rfl ?_
      refine XS.iconst X673.here hx rfl (hb hby at_28) ?_
      refine XS.icmpNo X673.here hx rfl (hb hby at_29) rfl (XT.ii_le_f (by decide : ((1 : Int32) < (3 : Int32)))) ?_
      show Steps _ _ _ (T673.setTop (mkF m 32 (L0_14 p0 p1 p2 p3 p4 b657) [])) _
      refine XS.aload X673.here hx rfl (hb hby at_32) rfl rfl ?_
      refine XS.iconst X673.here hx rfl (hb hby at_34) ?_
      refine XS.iloadN X673.here hx rfl (hb hby at_35) rfl ?_
      show Steps _ _ _ (T673.setTop (mkF m 36 (L0_14 p0 p1 p2 p3 p4 b657) [(.int p2), (.int 1), (.ref b657)])) _
      refine XS.sipush X673.here hx rfl (hb hby at_36) ?_
      refine XS.iand X673.here hx rfl (hb hby at_39) rfl ?_
      refine XS.i2c X673.here hx rfl (hb hby at_40) rfl ?_
      show Steps _ _ _ (T673.setTop (mkF m 41 (L0_14 p0 p1 p2 p3 p4 b657) [(.int (v0_455 p2)), (.int 1), (.ref b657)])) _
      exact k
    obtain ⟨cl679, Ar679, q679, S679, N679, H679, G679⟩ := id F676
    obtain ⟨T678, h678, X678, e678, W678, st678⟩ := stC X673 hx hZ e673 Ar679 (j := (1 : Int32)) (inb_of S679 ⟨by decide, by decide⟩) (g := (mkF m 41 (L0_14 p0 p1 p2 p3 p4 b657) [(.int (v0_455 p2)), (.int 1), (.ref b657)])) rfl rfl (hb hby at_41)
    have go680 := gap go677 st678
    have N678 := Fr.snoc X678 N673 low657
    have K678 : Keep h0 h678 [] := K673.wr W678 (Or.inr fsh657)
    have Zs678 : n0 ≤ h678.size := Nat.le_trans Zs673 (Keep.of_wr W678).1
    have hk678 : s.heap.size ≤ h678.size := Nat.le_trans hk673 (Keep.of_wr W678).1
    have F681 : Arv Z h678 b657 k657 .char (3 : Int32) [(.int (v0_233 p1).toUInt32.toUInt16.toUInt32.toInt32), (.int (v0_455 p2).toUInt32.toUInt16.toUInt32.toInt32), (.int 0)] (.int 0) := Arv.set Ar679 q679 S679 N679 H679 G679 (fits_nar_char _) W678 1 rfl (Nat.le_of_ble_eq_true rfl)
    have go683 : Go p.tables e below T678 (mkF m 57 (L0_14 p0 p1 p2 p3 p4 b657) [(.int (v0_682 p3)), (.int 2), (.ref b657)]) En := by
      intro t k
      refine go680 _ ?_
      refine XS.iload X678.here hx rfl (hb hby at_42) rfl ?_
      refine XS.iconst X678.here hx rfl (hb hby at_44) ?_
      refine XS.icmpNo X678.here hx rfl (hb hby at_45) rfl (XT.ii_le_f (by decide : ((2 : Int32) < (3 : Int32)))) ?_
      show Steps _ _ _ (T678.setTop (mkF m 48 (L0_14 p0 p1 p2 p3 p4 b657) [])) _
      refine XS.aload X678.here hx rfl (hb hby at_48) rfl rfl ?_
      refine XS.iconst X678.here hx rfl (hb hby at_50) ?_
      refine XS.iloadN X678.here hx rfl (hb hby at_51) rfl ?_
      show Steps _ _ _ (T678.setTop (mkF m 52 (L0_14 p0 p1 p2 p3 p4 b657) [(.int p3), (.int 2), (.ref b657)])) _
      refine XS.sipush X678.here hx rfl (hb hby at_52) ?_
      refine XS.iand X678.here hx rfl (hb hby at_55) rfl ?_
      refine XS.i2c X678.here hx rfl (hb hby at_56) rfl ?_
      show Steps _ _ _ (T678.setTop (mkF m 57 (L0_14 p0 p1 p2 p3 p4 b657) [(.int (v0_682 p3)), (.int 2), (.ref b657)])) _
      exact k
    obtain ⟨cl685, Ar685, q685, S685, N685, H685, G685⟩ := id F681
    obtain ⟨T684, h684, X684, e684, W684, st684⟩ := stC X678 hx hZ e678 Ar685 (j := (2 : Int32)) (inb_of S685 ⟨by decide, by decide⟩) (g := (mkF m 57 (L0_14 p0 p1 p2 p3 p4 b657) [(.int (v0_682 p3)), (.int 2), (.ref b657)])) rfl rfl (hb hby at_57)
    have go686 := gap go683 st684
    have N684 := Fr.snoc X684 N678 low657
    have K684 : Keep h0 h684 [] := K678.wr W684 (Or.inr fsh657)
    have Zs684 : n0 ≤ h684.size := Nat.le_trans Zs678 (Keep.of_wr W684).1
    have hk684 : s.heap.size ≤ h684.size := Nat.le_trans hk678 (Keep.of_wr W684).1
    have F687 : Arv Z h684 b657 k657 .char (3 : Int32) [(.int (v0_233 p1).toUInt32.toUInt16.toUInt32.toInt32), (.int (v0_455 p2).toUInt32.toUInt16.toUInt32.toInt32), (.int (v0_682 p3).toUInt32.toUInt16.toUInt32.toInt32)] (.int 0) := Arv.set Ar685 q685 S685 N685 H685 G685 (fits_nar_char _) W684 2 rfl (Nat.le_of_ble_eq_true rfl)
    obtain ⟨T688, h688, X688, e688, E688, A688, D688, -, st688⟩ := newO X684 hx hZ hown (hw _ (mi 1 rfl)) (hw _ (mi 2 rfl)) (hw _ (mi 3 rfl)) e684 (g := (mkF m 58 (L0_14 p0 p1 p2 p3 p4 b657) [])) rfl (hb hby at_58) (by decide) (by decide)
    obtain ⟨b688, g688⟩ : ∃ z, z = h684.size := ⟨_, rfl⟩
    rw [← g688] at A688 D688 st688
    have ne689 : s_SUB ≠ b688 := Nat.ne_of_lt (Nat.lt_of_lt_of_le (E_SUB.keep K684).lt (Nat.le_of_eq g688.symm))
    have ne690 : s_EMAIL ≠ b688 := Nat.ne_of_lt (Nat.lt_of_lt_of_le (E_EMAIL.keep K684).lt (Nat.le_of_eq g688.symm))
    have ne691 : s_GIVEN_NAME ≠ b688 := Nat.ne_of_lt (Nat.lt_of_lt_of_le (E_GIVEN_NAME.keep K684).lt (Nat.le_of_eq g688.symm))
    have ne692 : s_MIDDLE_NAME ≠ b688 := Nat.ne_of_lt (Nat.lt_of_lt_of_le (E_MIDDLE_NAME.keep K684).lt (Nat.le_of_eq g688.symm))
    have ne693 : s_FAMILY_NAME ≠ b688 := Nat.ne_of_lt (Nat.lt_of_lt_of_le (E_FAMILY_NAME.keep K684).lt (Nat.le_of_eq g688.symm))
    have ne694 : s_NICKNAME ≠ b688 := Nat.ne_of_lt (Nat.lt_of_lt_of_le (E_NICKNAME.keep K684).lt (Nat.le_of_eq g688.symm))
    have ne695 : s_BIRTHDATE ≠ b688 := Nat.ne_of_lt (Nat.lt_of_lt_of_le (E_BIRTHDATE.keep K684).lt (Nat.le_of_eq g688.symm))
    have ne696 : s_MOBILE_NUMBER ≠ b688 := Nat.ne_of_lt (Nat.lt_of_lt_of_le (E_MOBILE_NUMBER.keep K684).lt (Nat.le_of_eq g688.symm))
    have ne697 : s_NHI ≠ b688 := Nat.ne_of_lt (Nat.lt_of_lt_of_le (E_NHI.keep K684).lt (Nat.le_of_eq g688.symm))
    have ne698 : s_CPN ≠ b688 := Nat.ne_of_lt (Nat.lt_of_lt_of_le (E_CPN.keep K684).lt (Nat.le_of_eq g688.symm))
    have ne699 : s_RELATIONSHIPS ≠ b688 := Nat.ne_of_lt (Nat.lt_of_lt_of_le (E_RELATIONSHIPS.keep K684).lt (Nat.le_of_eq g688.symm))
    have ne700 : s_CONFIDENCE_LEVEL ≠ b688 := Nat.ne_of_lt (Nat.lt_of_lt_of_le (E_CONFIDENCE_LEVEL.keep K684).lt (Nat.le_of_eq g688.symm))
    have ne701 : b657 ≠ b688 := Nat.ne_of_lt (Nat.lt_of_lt_of_le F687.lt (Nat.le_of_eq g688.symm))
    have low688 : n0 ≤ b688 := Nat.le_trans Zs684 (Nat.le_of_eq g688.symm)
    have fsh688 : h0.size ≤ b688 := Nat.le_trans K684.1 (Nat.le_of_eq g688.symm)
    have K688 : Keep h0 h688 [] := K684.ext E688
    have Zs688 : n0 ≤ h688.size := Nat.le_trans Zs684 E688.1
    have hk688 : s.heap.size ≤ h688.size := Nat.le_trans hk684 E688.1
    have go702 := gap go686 st688
    have F703 := F687.ext E688
    have F704 : Fld Z h688 b688 "java/lang/String" "value" "[B" .null := D688 (Or.inr (hw _ (mi 16 rfl))) (ty := (.array .byte)) (by decide)
    have F705 : Fld Z h688 b688 "java/lang/String" "coder" "B" (.int 0) := D688 (Or.inr (hw _ (mi 17 rfl))) (ty := .byte) (by decide)
    have go706 : Go p.tables e below T688 (mkF m 64 (L0_14 p0 p1 p2 p3 p4 b657) [(.ref b657), (.ref b688), (.ref b688)]) En := by
      intro t k
      refine go702 _ ?_
      refine XS.dup X688.here hx rfl (hb hby at_61) rfl rfl ?_
      refine XS.aload X688.here hx rfl (hb hby at_62) rfl rfl ?_
      exact k
    obtain ⟨_, T707, Lc707, X707, hQ707, st707⟩ := own_ci X688 hx hZ hown hml go706 (hb hby at_64) e688 (hw _ (mi 4 rfl)) (own_site197 hw) rfl (rmiBn3 l Z aZ hw [] _ _ _ _ _ _ _ h688 n0 Zs688 A688 F704 F705 low688 F703 (own_sta_keep S_COMPACT_STRINGS K688 all0) hcs (own_c255 p1) (own_c255 p2) (own_c255 p3)) (by decide) (argsL := [(.ref b657)]) (rest := [(.ref b688)]) rfl rfl rfl (lenOf pd_180 rfl) (W := 1) rfl (by decide) (by decide) (by decide : 2 + 1 ≤ _) (by decide : 7 + 3 ≤ _)
    obtain ⟨rfl, N707q, K707q, G707_0, G707_1⟩ := hQ707
    have N707 := Fr.app N684 N707q
    have K707 : Keep h0 T707.heap [] := K688.trans K707q (allS (Or.inr fsh688) all0)
    have Zs707 : n0 ≤ T707.heap.size := Nat.le_trans Zs688 K707q.1
    have hk707 : s.heap.size ≤ T707.heap.size := Nat.le_trans hk688 K707q.1
    have F708 := F703.keep K707q (ninS ne701 nin0)
    have F709 := A688.keep K707q
    have go710 : Go p.tables e below T707 (mkF m 71 (L0_15 p0 p1 p2 p3 p4 b657 b688) [(.int 12)]) En := by
      intro t k
      refine st707 _ ?_
      refine XS.astore X707.here hx rfl (hb hby at_67) rfl rfl (l' := (L0_15 p0 p1 p2 p3 p4 b657 b688)) rfl ?_
      refine XS.bipush X707.here hx rfl (hb hby at_69) ?_
      exact k
    obtain ⟨T711, h711, k711, X711, e711, E711, A711, O711, st711⟩ := newR X707 hx hZ hown (hw _ (mi 22 rfl)) (hw _ (mi 23 rfl)) rfl (g := (mkF m 71 (L0_15 p0 p1 p2 p3 p4 b657 b688) [(.int 12)])) rfl (hb hby at_71) rfl (by decide) (cap := 12) (by decide) (by decide) (by decide) (by decide)
    obtain ⟨b711, g711⟩ : ∃ z, z = T707.heap.size := ⟨_, rfl⟩
    rw [← g711] at A711 st711
    have ne712 : s_SUB ≠ b711 := Nat.ne_of_lt (Nat.lt_of_lt_of_le (E_SUB.keep K707).lt (Nat.le_of_eq g711.symm))
    have ne713 : s_EMAIL ≠ b711 := Nat.ne_of_lt (Nat.lt_of_lt_of_le (E_EMAIL.keep K707).lt (Nat.le_of_eq g711.symm))
    have ne714 : s_GIVEN_NAME ≠ b711 := Nat.ne_of_lt (Nat.lt_of_lt_of_le (E_GIVEN_NAME.keep K707).lt (Nat.le_of_eq g711.symm))
    have ne715 : s_MIDDLE_NAME ≠ b711 := Nat.ne_of_lt (Nat.lt_of_lt_of_le (E_MIDDLE_NAME.keep K707).lt (Nat.le_of_eq g711.symm))
    have ne716 : s_FAMILY_NAME ≠ b711 := Nat.ne_of_lt (Nat.lt_of_lt_of_le (E_FAMILY_NAME.keep K707).lt (Nat.le_of_eq g711.symm))
    have ne717 : s_NICKNAME ≠ b711 := Nat.ne_of_lt (Nat.lt_of_lt_of_le (E_NICKNAME.keep K707).lt (Nat.le_of_eq g711.symm))
    have ne718 : s_BIRTHDATE ≠ b711 := Nat.ne_of_lt (Nat.lt_of_lt_of_le (E_BIRTHDATE.keep K707).lt (Nat.le_of_eq g711.symm))
    have ne719 : s_MOBILE_NUMBER ≠ b711 := Nat.ne_of_lt (Nat.lt_of_lt_of_le (E_MOBILE_NUMBER.keep K707).lt (Nat.le_of_eq g711.symm))
    have ne720 : s_NHI ≠ b711 := Nat.ne_of_lt (Nat.lt_of_lt_of_le (E_NHI.keep K707).lt (Nat.le_of_eq g711.symm))
    have ne721 : s_CPN ≠ b711 := Nat.ne_of_lt (Nat.lt_of_lt_of_le (E_CPN.keep K707).lt (Nat.le_of_eq g711.symm))
    have ne722 : s_RELATIONSHIPS ≠ b711 := Nat.ne_of_lt (Nat.lt_of_lt_of_le (E_RELATIONSHIPS.keep K707).lt (Nat.le_of_eq g711.symm))
    have ne723 : s_CONFIDENCE_LEVEL ≠ b711 := Nat.ne_of_lt (Nat.lt_of_lt_of_le (E_CONFIDENCE_LEVEL.keep K707).lt (Nat.le_of_eq g711.symm))
    have ne724 : b657 ≠ b711 := Nat.ne_of_lt (Nat.lt_of_lt_of_le F708.lt (Nat.le_of_eq g711.symm))
    have ne725 : b688 ≠ b711 := Nat.ne_of_lt (Nat.lt_of_lt_of_le G707_0.lt (Nat.le_of_eq g711.symm))
    have low711 : n0 ≤ b711 := Nat.le_trans Zs707 (Nat.le_of_eq g711.symm)
    have fsh711 : h0.size ≤ b711 := Nat.le_trans K707.1 (Nat.le_of_eq g711.symm)
    have K711 : Keep h0 h711 [] := K707.ext E711
    have Zs711 : n0 ≤ h711.size := Nat.le_trans Zs707 E711.1
    have hk711 : s.heap.size ≤ h711.size := Nat.le_trans hk707 E711.1
    have go726 := gap go710 st711
    have F727 := F708.ext E711
    have F728 := G707_0.ext E711
    have F729 := G707_1.ext E711
    have F730 : Arv Z h711 b711 k711 (.object "com/example/hauora_id/hauoraid/model/Claim") (12 : Int32) [.null, .null, .null, .null, .null, .null, .null, .null, .null, .null, .null, .null] .null := (Arv.new A711 (by decide)).pad (pad_rep [] .null 12)
    have go731 : Go p.tables e below T711 (mkF m 76 (L0_15 p0 p1 p2 p3 p4 b657 b688) [(.int 0), (.ref b711), (.ref b711)]) En := by
      intro t k
      refine go726 _ ?_
      refine XS.dup X711.here hx rfl (hb hby at_74) rfl rfl ?_
      refine XS.iconst X711.here hx rfl (hb hby at_75) ?_
      exact k
    obtain ⟨T732, X732, e732, st732⟩ := getS2 X711 hx hZ hown (host := "") (Or.inl (hw _ (mi 24 rfl))) Via.refl e711 (own_sta_keep S_SUB K711 all0) (g := (mkF m 76 (L0_15 p0 p1 p2 p3 p4 b657 b688) [(.int 0), (.ref b711), (.ref b711)])) rfl (hb hby at_76)
    have go733 := gap go731 st732
    obtain ⟨cl735, Ar735, q735, S735, N735, H735, G735⟩ := id F730
    obtain ⟨T734, h734, X734, e734, W734, st734⟩ := stR X732 hx hZ e732 Ar735 (j := (0 : Int32)) (inb_of S735 ⟨by decide, by decide⟩) rfl (Sto.ofV Ar735 q735 O711 (Ins.self (E_SUB.keep K711))) (g := (mkF m 79 (L0_15 p0 p1 p2 p3 p4 b657 b688) [(.ref s_SUB), (.int 0), (.ref b711), (.ref b711)])) rfl rfl (hb hby at_79)
    have go736 := gap go733 st734
    have N734 := Fr.snoc X734 N707 low711
    have K734 : Keep h0 h734 [] := K711.wr W734 (Or.inr fsh711)
    have Zs734 : n0 ≤ h734.size := Nat.le_trans Zs711 (Keep.of_wr W734).1
    have hk734 : s.heap.size ≤ h734.size := Nat.le_trans hk711 (Keep.of_wr W734).1
    have F737 := F727.other W734 ne724
    have F738 := F728.wr W734
    have F739 := F729.other W734 (Or.inl ne725)
    have F740 : Arv Z h734 b711 k711 (.object "com/example/hauora_id/hauoraid/model/Claim") (12 : Int32) [(.ref s_SUB), .null, .null, .null, .null, .null, .null, .null, .null, .null, .null, .null] .null := Arv.set Ar735 q735 S735 N735 H735 G735 rfl W734 0 rfl (Nat.le_of_ble_eq_true rfl)
    have go741 : Go p.tables e below T734 (mkF m 82 (L0_15 p0 p1 p2 p3 p4 b657 b688) [(.int 1), (.ref b711), (.ref b711)]) En := by
      intro t k
      refine go736 _ ?_
      refine XS.dup X734.here hx rfl (hb hby at_80) rfl rfl ?_
      refine XS.iconst X734.here hx rfl (hb hby at_81) ?_
      exact k
    obtain ⟨T742, X742, e742, st742⟩ := getS2 X734 hx hZ hown (host := "") (Or.inl (hw _ (mi 28 rfl))) Via.refl e734 (own_sta_keep S_EMAIL K734 all0) (g := (mkF m 82 (L0_15 p0 p1 p2 p3 p4 b657 b688) [(.int 1), (.ref b711), (.ref b711)])) rfl (hb hby at_82)
    have go743 := gap go741 st742
    obtain ⟨cl745, Ar745, q745, S745, N745, H745, G745⟩ := id F740
    obtain ⟨T744, h744, X744, e744, W744, st744⟩ := stR X742 hx hZ e742 Ar745 (j := (1 : Int32)) (inb_of S745 ⟨by decide, by decide⟩) rfl (Sto.ofV Ar745 q745 O711 (Ins.self (E_EMAIL.keep K734))) (g := (mkF m 85 (L0_15 p0 p1 p2 p3 p4 b657 b688) [(.ref s_EMAIL), (.int 1), (.ref b711), (.ref b711)])) rfl rfl (hb hby at_85)
    have go746 := gap go743 st744
    have N744 := Fr.snoc X744 N734 low711
    have K744 : Keep h0 h744 [] := K734.wr W744 (Or.inr fsh711)
    have Zs744 : n0 ≤ h744.size := Nat.le_trans Zs734 (Keep.of_wr W744).1
    have hk744 : s.heap.size ≤ h744.size := Nat.le_trans hk734 (Keep.of_wr W744).1
    have F747 := F737.other W744 ne724
    have F748 := F738.wr W744
    have F749 := F739.other W744 (Or.inl ne725)
    have F750 : Arv Z h744 b711 k711 (.object "com/example/hauora_id/hauoraid/model/Claim") (12 : Int32) [(.ref s_SUB), (.ref s_EMAIL), .null, .null, .null, .null, .null, .null, .null, .null, .null, .null] .null := Arv.set Ar745 q745 S745 N745 H745 G745 rfl W744 1 rfl (Nat.le_of_ble_eq_true rfl)
    have go751 : Go p.tables e below T744 (mkF m 88 (L0_15 p0 p1 p2 p3 p4 b657 b688) [(.int 2), (.ref b711), (.ref b711)]) En := by
      intro t k
      refine go746 _ ?_
      refine XS.dup X744.here hx rfl (hb hby at_86) rfl rfl ?_
      refine XS.iconst X744.here hx rfl (hb hby at_87) ?_
      exact k
    obtain ⟨T752, X752, e752, st752⟩ := getS2 X744 hx hZ hown (host := "") (Or.inl (hw _ (mi 30 rfl))) Via.refl e744 (own_sta_keep S_GIVEN_NAME K744 all0) (g := (mkF m 88 (L0_15 p0 p1 p2 p3 p4 b657 b688) [(.int 2), (.ref b711), (.ref b711)])) rfl (hb hby at_88)
    have go753 := gap go751 st752
    obtain ⟨cl755, Ar755, q755, S755, N755, H755, G755⟩ := id F750
    obtain ⟨T754, h754, X754, e754, W754, st754⟩ := stR X752 hx hZ e752 Ar755 (j := (2 : Int32)) (inb_of S755 ⟨by decide, by decide⟩) rfl (Sto.ofV Ar755 q755 O711 (Ins.self (E_GIVEN_NAME.keep K744))) (g := (mkF m 91 (L0_15 p0 p1 p2 p3 p4 b657 b688) [(.ref s_GIVEN_NAME), (.int 2), (.ref b711), (.ref b711)])) rfl rfl (hb hby at_91)
    have go756 := gap go753 st754
    have N754 := Fr.snoc X754 N744 low711
    have K754 : Keep h0 h754 [] := K744.wr W754 (Or.inr fsh711)
    have Zs754 : n0 ≤ h754.size := Nat.le_trans Zs744 (Keep.of_wr W754).1
    have hk754 : s.heap.size ≤ h754.size := Nat.le_trans hk744 (Keep.of_wr W754).1
    have F757 := F747.other W754 ne724
    have F758 := F748.wr W754
    have F759 := F749.other W754 (Or.inl ne725)
    have F760 : Arv Z h754 b711 k711 (.object "com/example/hauora_id/hauoraid/model/Claim") (12 : Int32) [(.ref s_SUB), (.ref s_EMAIL), (.ref s_GIVEN_NAME), .null, .null, .null, .null, .null, .null, .null, .null, .null] .null := Arv.set Ar755 q755 S755 N755 H755 G755 rfl W754 2 rfl (Nat.le_of_ble_eq_true rfl)
    have go761 : Go p.tables e below T754 (mkF m 94 (L0_15 p0 p1 p2 p3 p4 b657 b688) [(.int 3), (.ref b711), (.ref b711)]) En := by
      intro t k
      refine go756 _ ?_
      refine XS.dup X754.here hx rfl (hb hby at_92) rfl rfl ?_
      refine XS.iconst X754.here hx rfl (hb hby at_93) ?_
      exact k
    obtain ⟨T762, X762, e762, st762⟩ := getS2 X754 hx hZ hown (host := "") (Or.inl (hw _ (mi 32 rfl))) Via.refl e754 (own_sta_keep S_MIDDLE_NAME K754 all0) (g := (mkF m 94 (L0_15 p0 p1 p2 p3 p4 b657 b688) [(.int 3), (.ref b711), (.ref b711)])) rfl (hb hby at_94)
    have go763 := gap go761 st762
    obtain ⟨cl765, Ar765, q765, S765, N765, H765, G765⟩ := id F760
    obtain ⟨T764, h764, X764, e764, W764, st764⟩ := stR X762 hx hZ e762 Ar765 (j := (3 : Int32)) (inb_of S765 ⟨by decide, by decide⟩) rfl (Sto.ofV Ar765 q765 O711 (Ins.self (E_MIDDLE_NAME.keep K754))) (g := (mkF m 97 (L0_15 p0 p1 p2 p3 p4 b657 b688) [(.ref s_MIDDLE_NAME), (.int 3), (.ref b711), (.ref b711)])) rfl rfl (hb hby at_97)
    have go766 := gap go763 st764
    have N764 := Fr.snoc X764 N754 low711
    have K764 : Keep h0 h764 [] := K754.wr W764 (Or.inr fsh711)
    have Zs764 : n0 ≤ h764.size := Nat.le_trans Zs754 (Keep.of_wr W764).1
    have hk764 : s.heap.size ≤ h764.size := Nat.le_trans hk754 (Keep.of_wr W764).1
    have F767 := F757.other W764 ne724
    have F768 := F758.wr W764
    have F769 := F759.other W764 (Or.inl ne725)
    have F770 : Arv Z h764 b711 k711 (.object "com/example/hauora_id/hauoraid/model/Claim") (12 : Int32) [(.ref s_SUB), (.ref s_EMAIL), (.ref s_GIVEN_NAME), (.ref s_MIDDLE_NAME), .null, .null, .null, .null, .null, .null, .null, .null] .null := Arv.set Ar765 q765 S765 N765 H765 G765 rfl W764 3 rfl (Nat.le_of_ble_eq_true rfl)
    have go771 : Go p.tables e below T764 (mkF m 100 (L0_15 p0 p1 p2 p3 p4 b657 b688) [(.int 4), (.ref b711), (.ref b711)]) En := by
      intro t k
      refine go766 _ ?_
      refine XS.dup X764.here hx rfl (hb hby at_98) rfl rfl ?_
      refine XS.iconst X764.here hx rfl (hb hby at_99) ?_
      exact k
    obtain ⟨T772, X772, e772, st772⟩ := getS2 X764 hx hZ hown (host := "") (Or.inl (hw _ (mi 34 rfl))) Via.refl e764 (own_sta_keep S_FAMILY_NAME K764 all0) (g := (mkF m 100 (L0_15 p0 p1 p2 p3 p4 b657 b688) [(.int 4), (.ref b711), (.ref b711)])) rfl (hb hby at_100)
    have go773 := gap go771 st772
    obtain ⟨cl775, Ar775, q775, S775, N775, H775, G775⟩ := id F770
    obtain ⟨T774, h774, X774, e774, W774, st774⟩ := stR X772 hx hZ e772 Ar775 (j := (4 : Int32)) (inb_of S775 ⟨by decide, by decide⟩) rfl (Sto.ofV Ar775 q775 O711 (Ins.self (E_FAMILY_NAME.keep K764))) (g := (mkF m 103 (L0_15 p0 p1 p2 p3 p4 b657 b688) [(.ref s_FAMILY_NAME), (.int 4), (.ref b711), (.ref b711)])) rfl rfl (hb hby at_103)
    have go776 := gap go773 st774
    have N774 := Fr.snoc X774 N764 low711
    have K774 : Keep h0 h774 [] := K764.wr W774 (Or.inr fsh711)
    have Zs774 : n0 ≤ h774.size := Nat.le_trans Zs764 (Keep.of_wr W774).1
    have hk774 : s.heap.size ≤ h774.size := Nat.le_trans hk764 (Keep.of_wr W774).1
    have F777 := F767.other W774 ne724
    have F778 := F768.wr W774
    have F779 := F769.other W774 (Or.inl ne725)
    have F780 : Arv Z h774 b711 k711 (.object "com/example/hauora_id/hauoraid/model/Claim") (12 : Int32) [(.ref s_SUB), (.ref s_EMAIL), (.ref s_GIVEN_NAME), (.ref s_MIDDLE_NAME), (.ref s_FAMILY_NAME), .null, .null, .null, .null, .null, .null, .null] .null := Arv.set Ar775 q775 S775 N775 H775 G775 rfl W774 4 rfl (Nat.le_of_ble_eq_true rfl)
    have go781 : Go p.tables e below T774 (mkF m 106 (L0_15 p0 p1 p2 p3 p4 b657 b688) [(.int 5), (.ref b711), (.ref b711)]) En := by
      intro t k
      refine go776 _ ?_
      refine XS.dup X774.here hx rfl (hb hby at_104) rfl rfl ?_
      refine XS.iconst X774.here hx rfl (hb hby at_105) ?_
      exact k
    obtain ⟨T782, X782, e782, st782⟩ := getS2 X774 hx hZ hown (host := "") (Or.inl (hw _ (mi 36 rfl))) Via.refl e774 (own_sta_keep S_NICKNAME K774 all0) (g := (mkF m 106 (L0_15 p0 p1 p2 p3 p4 b657 b688) [(.int 5), (.ref b711), (.ref b711)])) rfl (hb hby at_106)
    have go783 := gap go781 st782
    obtain ⟨cl785, Ar785, q785, S785, N785, H785, G785⟩ := id F780
    obtain ⟨T784, h784, X784, e784, W784, st784⟩ := stR X782 hx hZ e782 Ar785 (j := (5 : Int32)) (inb_of S785 ⟨by decide, by decide⟩) rfl (Sto.ofV Ar785 q785 O711 (Ins.self (E_NICKNAME.keep K774))) (g := (mkF m 109 (L0_15 p0 p1 p2 p3 p4 b657 b688) [(.ref s_NICKNAME), (.int 5), (.ref b711), (.ref b711)])) rfl rfl (hb hby at_109)
    have go786 := gap go783 st784
    have N784 := Fr.snoc X784 N774 low711
    have K784 : Keep h0 h784 [] := K774.wr W784 (Or.inr fsh711)
    have Zs784 : n0 ≤ h784.size := Nat.le_trans Zs774 (Keep.of_wr W784).1
    have hk784 : s.heap.size ≤ h784.size := Nat.le_trans hk774 (Keep.of_wr W784).1
    have F787 := F777.other W784 ne724
    have F788 := F778.wr W784
    have F789 := F779.other W784 (Or.inl ne725)
    have F790 : Arv Z h784 b711 k711 (.object "com/example/hauora_id/hauoraid/model/Claim") (12 : Int32) [(.ref s_SUB), (.ref s_EMAIL), (.ref s_GIVEN_NAME), (.ref s_MIDDLE_NAME), (.ref s_FAMILY_NAME), (.ref s_NICKNAME), .null, .null, .null, .null, .null, .null] .null := Arv.set Ar785 q785 S785 N785 H785 G785 rfl W784 5 rfl (Nat.le_of_ble_eq_true rfl)
    have go791 : Go p.tables e below T784 (mkF m 113 (L0_15 p0 p1 p2 p3 p4 b657 b688) [(.int 6), (.ref b711), (.ref b711)]) En := by
      intro t k
      refine go786 _ ?_
      refine XS.dup X784.here hx rfl (hb hby at_110) rfl rfl ?_
      refine XS.bipush X784.here hx rfl (hb hby at_111) ?_
      exact k
    obtain ⟨T792, X792, e792, st792⟩ := getS2 X784 hx hZ hown (host := "") (Or.inl (hw _ (mi 38 rfl))) Via.refl e784 (own_sta_keep S_BIRTHDATE K784 all0) (g := (mkF m 113 (L0_15 p0 p1 p2 p3 p4 b657 b688) [(.int 6), (.ref b711), (.ref b711)])) rfl (hb hby at_113)
    have go793 := gap go791 st792
    obtain ⟨cl795, Ar795, q795, S795, N795, H795, G795⟩ := id F790
    obtain ⟨T794, h794, X794, e794, W794, st794⟩ := stR X792 hx hZ e792 Ar795 (j := (6 : Int32)) (inb_of S795 ⟨by decide, by decide⟩) rfl (Sto.ofV Ar795 q795 O711 (Ins.self (E_BIRTHDATE.keep K784))) (g := (mkF m 116 (L0_15 p0 p1 p2 p3 p4 b657 b688) [(.ref s_BIRTHDATE), (.int 6), (.ref b711), (.ref b711)])) rfl rfl (hb hby at_116)
    have go796 := gap go793 st794
    have N794 := Fr.snoc X794 N784 low711
    have K794 : Keep h0 h794 [] := K784.wr W794 (Or.inr fsh711)
    have Zs794 : n0 ≤ h794.size := Nat.le_trans Zs784 (Keep.of_wr W794).1
    have hk794 : s.heap.size ≤ h794.size := Nat.le_trans hk784 (Keep.of_wr W794).1
    have F797 := F787.other W794 ne724
    have F798 := F788.wr W794
    have F799 := F789.other W794 (Or.inl ne725)
    have F800 : Arv Z h794 b711 k711 (.object "com/example/hauora_id/hauoraid/model/Claim") (12 : Int32) [(.ref s_SUB), (.ref s_EMAIL), (.ref s_GIVEN_NAME), (.ref s_MIDDLE_NAME), (.ref s_FAMILY_NAME), (.ref s_NICKNAME), (.ref s_BIRTHDATE), .null, .null, .null, .null, .null] .null := Arv.set Ar795 q795 S795 N795 H795 G795 rfl W794 6 rfl (Nat.le_of_ble_eq_true rfl)
    have go801 : Go p.tables e below T794 (mkF m 120 (L0_15 p0 p1 p2 p3 p4 b657 b688) [(.int 7), (.ref b711), (.ref b711)]) En := by
      intro t k
      refine go796 _ ?_
      refine XS.dup X794.here hx rfl (hb hby at_117) rfl rfl ?_
      refine XS.bipush X794.here hx rfl (hb hby at_118) ?_
      exact k
    obtain ⟨T802, X802, e802, st802⟩ := getS2 X794 hx hZ hown (host := "") (Or.inl (hw _ (mi 40 rfl))) Via.refl e794 (own_sta_keep S_MOBILE_NUMBER K794 all0) (g := (mkF m 120 (L0_15 p0 p1 p2 p3 p4 b657 b688) [(.int 7), (.ref b711), (.ref b711)])) rfl (hb hby at_120)
    have go803 := gap go801 st802
    obtain ⟨cl805, Ar805, q805, S805, N805, H805, G805⟩ := id F800
    obtain ⟨T804, h804, X804, e804, W804, st804⟩ := stR X802 hx hZ e802 Ar805 (j := (7 : Int32)) (inb_of S805 ⟨by decide, by decide⟩) rfl (Sto.ofV Ar805 q805 O711 (Ins.self (E_MOBILE_NUMBER.keep K794))) (g := (mkF m 123 (L0_15 p0 p1 p2 p3 p4 b657 b688) [(.ref s_MOBILE_NUMBER), (.int 7), (.ref b711), (.ref b711)])) rfl rfl (hb hby at_123)
    have go806 := gap go803 st804
    have N804 := Fr.snoc X804 N794 low711
    have K804 : Keep h0 h804 [] := K794.wr W804 (Or.inr fsh711)
    have Zs804 : n0 ≤ h804.size := Nat.le_trans Zs794 (Keep.of_wr W804).1
    have hk804 : s.heap.size ≤ h804.size := Nat.le_trans hk794 (Keep.of_wr W804).1
    have F807 := F797.other W804 ne724
    have F808 := F798.wr W804
    have F809 := F799.other W804 (Or.inl ne725)
    have F810 : Arv Z h804 b711 k711 (.object "com/example/hauora_id/hauoraid/model/Claim") (12 : Int32) [(.ref s_SUB), (.ref s_EMAIL), (.ref s_GIVEN_NAME), (.ref s_MIDDLE_NAME), (.ref s_FAMILY_NAME), (.ref s_NICKNAME), (.ref s_BIRTHDATE), (.ref s_MOBILE_NUMBER), .null, .null, .null, .null] .null := Arv.set Ar805 q805 S805 N805 H805 G805 rfl W804 7 rfl (Nat.le_of_ble_eq_true rfl)
    have go811 : Go p.tables e below T804 (mkF m 127 (L0_15 p0 p1 p2 p3 p4 b657 b688) [(.int 8), (.ref b711), (.ref b711)]) En := by
      intro t k
      refine go806 _ ?_
      refine XS.dup X804.here hx rfl (hb hby at_124) rfl rfl ?_
      refine XS.bipush X804.here hx rfl (hb hby at_125) ?_
      exact k
    obtain ⟨T812, X812, e812, st812⟩ := getS2 X804 hx hZ hown (host := "") (Or.inl (hw _ (mi 42 rfl))) Via.refl e804 (own_sta_keep S_NHI K804 all0) (g := (mkF m 127 (L0_15 p0 p1 p2 p3 p4 b657 b688) [(.int 8), (.ref b711), (.ref b711)])) rfl (hb hby at_127)
    have go813 := gap go811 st812
    obtain ⟨cl815, Ar815, q815, S815, N815, H815, G815⟩ := id F810
    obtain ⟨T814, h814, X814, e814, W814, st814⟩ := stR X812 hx hZ e812 Ar815 (j := (8 : Int32)) (inb_of S815 ⟨by decide, by decide⟩) rfl (Sto.ofV Ar815 q815 O711 (Ins.self (E_NHI.keep K804))) (g := (mkF m 130 (L0_15 p0 p1 p2 p3 p4 b657 b688) [(.ref s_NHI), (.int 8), (.ref b711), (.ref b711)])) rfl rfl (hb hby at_130)
    have go816 := gap go813 st814
    have N814 := Fr.snoc X814 N804 low711
    have K814 : Keep h0 h814 [] := K804.wr W814 (Or.inr fsh711)
    have Zs814 : n0 ≤ h814.size := Nat.le_trans Zs804 (Keep.of_wr W814).1
    have hk814 : s.heap.size ≤ h814.size := Nat.le_trans hk804 (Keep.of_wr W814).1
    have F817 := F807.other W814 ne724
    have F818 := F808.wr W814
    have F819 := F809.other W814 (Or.inl ne725)
    have F820 : Arv Z h814 b711 k711 (.object "com/example/hauora_id/hauoraid/model/Claim") (12 : Int32) [(.ref s_SUB), (.ref s_EMAIL), (.ref s_GIVEN_NAME), (.ref s_MIDDLE_NAME), (.ref s_FAMILY_NAME), (.ref s_NICKNAME), (.ref s_BIRTHDATE), (.ref s_MOBILE_NUMBER), (.ref s_NHI), .null, .null, .null] .null := Arv.set Ar815 q815 S815 N815 H815 G815 rfl W814 8 rfl (Nat.le_of_ble_eq_true rfl)
    have go821 : Go p.tables e below T814 (mkF m 134 (L0_15 p0 p1 p2 p3 p4 b657 b688) [(.int 9), (.ref b711), (.ref b711)]) En := by
      intro t k
      refine go816 _ ?_
      refine XS.dup X814.here hx rfl (hb hby at_131) rfl rfl ?_
      refine XS.bipush X814.here hx rfl (hb hby at_132) ?_
      exact k
    obtain ⟨T822, X822, e822, st822⟩ := getS2 X814 hx hZ hown (host := "") (Or.inl (hw _ (mi 44 rfl))) Via.refl e814 (own_sta_keep S_CPN K814 all0) (g := (mkF m 134 (L0_15 p0 p1 p2 p3 p4 b657 b688) [(.int 9), (.ref b711), (.ref b711)])) rfl (hb hby at_134)
    have go823 := gap go821 st822
    obtain ⟨cl825, Ar825, q825, S825, N825, H825, G825⟩ := id F820
    obtain ⟨T824, h824, X824, e824, W824, st824⟩ := stR X822 hx hZ e822 Ar825 (j := (9 : Int32)) (inb_of S825 ⟨by decide, by decide⟩) rfl (Sto.ofV Ar825 q825 O711 (Ins.self (E_CPN.keep K814))) (g := (mkF m 137 (L0_15 p0 p1 p2 p3 p4 b657 b688) [(.ref s_CPN), (.int 9), (.ref b711), (.ref b711)])) rfl rfl (hb hby at_137)
    have go826 := gap go823 st824
    have N824 := Fr.snoc X824 N814 low711
    have K824 : Keep h0 h824 [] := K814.wr W824 (Or.inr fsh711)
    have Zs824 : n0 ≤ h824.size := Nat.le_trans Zs814 (Keep.of_wr W824).1
    have hk824 : s.heap.size ≤ h824.size := Nat.le_trans hk814 (Keep.of_wr W824).1
    have F827 := F817.other W824 ne724
    have F828 := F818.wr W824
    have F829 := F819.other W824 (Or.inl ne725)
    have F830 : Arv Z h824 b711 k711 (.object "com/example/hauora_id/hauoraid/model/Claim") (12 : Int32) [(.ref s_SUB), (.ref s_EMAIL), (.ref s_GIVEN_NAME), (.ref s_MIDDLE_NAME), (.ref s_FAMILY_NAME), (.ref s_NICKNAME), (.ref s_BIRTHDATE), (.ref s_MOBILE_NUMBER), (.ref s_NHI), (.ref s_CPN), .null, .null] .null := Arv.set Ar825 q825 S825 N825 H825 G825 rfl W824 9 rfl (Nat.le_of_ble_eq_true rfl)
    have go831 : Go p.tables e below T824 (mkF m 141 (L0_15 p0 p1 p2 p3 p4 b657 b688) [(.int 10), (.ref b711), (.ref b711)]) En := by
      intro t k
      refine go826 _ ?_
      refine XS.dup X824.here hx rfl (hb hby at_138) rfl rfl ?_
      refine XS.bipush X824.here hx rfl (hb hby at_139) ?_
      exact k
    obtain ⟨T832, X832, e832, st832⟩ := getS2 X824 hx hZ hown (host := "") (Or.inl (hw _ (mi 46 rfl))) Via.refl e824 (own_sta_keep S_RELATIONSHIPS K824 all0) (g := (mkF m 141 (L0_15 p0 p1 p2 p3 p4 b657 b688) [(.int 10), (.ref b711), (.ref b711)])) rfl (hb hby at_141)
    have go833 := gap go831 st832
    obtain ⟨cl835, Ar835, q835, S835, N835, H835, G835⟩ := id F830
    obtain ⟨T834, h834, X834, e834, W834, st834⟩ := stR X832 hx hZ e832 Ar835 (j := (10 : Int32)) (inb_of S835 ⟨by decide, by decide⟩) rfl (Sto.ofV Ar835 q835 O711 (Ins.self (E_RELATIONSHIPS.keep K824))) (g := (mkF m 144 (L0_15 p0 p1 p2 p3 p4 b657 b688) [(.ref s_RELATIONSHIPS), (.int 10), (.ref b711), (.ref b711)])) rfl rfl (hb hby at_144)
    have go836 := gap go833 st834
    have N834 := Fr.snoc X834 N824 low711
    have K834 : Keep h0 h834 [] := K824.wr W834 (Or.inr fsh711)
    have Zs834 : n0 ≤ h834.size := Nat.le_trans Zs824 (Keep.of_wr W834).1
    have hk834 : s.heap.size ≤ h834.size := Nat.le_trans hk824 (Keep.of_wr W834).1
    have F837 := F827.other W834 ne724
    have F838 := F828.wr W834
    have F839 := F829.other W834 (Or.inl ne725)
    have F840 : Arv Z h834 b711 k711 (.object "com/example/hauora_id/hauoraid/model/Claim") (12 : Int32) [(.ref s_SUB), (.ref s_EMAIL), (.ref s_GIVEN_NAME), (.ref s_MIDDLE_NAME), (.ref s_FAMILY_NAME), (.ref s_NICKNAME), (.ref s_BIRTHDATE), (.ref s_MOBILE_NUMBER), (.ref s_NHI), (.ref s_CPN), (.ref s_RELATIONSHIPS), .null] .null := Arv.set Ar835 q835 S835 N835 H835 G835 rfl W834 10 rfl (Nat.le_of_ble_eq_true rfl)
    have go841 : Go p.tables e below T834 (mkF m 148 (L0_15 p0 p1 p2 p3 p4 b657 b688) [(.int 11), (.ref b711), (.ref b711)]) En := by
      intro t k
      refine go836 _ ?_
      refine XS.dup X834.here hx rfl (hb hby at_145) rfl rfl ?_
      refine XS.bipush X834.here hx rfl (hb hby at_146) ?_
      exact k
    obtain ⟨T842, X842, e842, st842⟩ := getS2 X834 hx hZ hown (host := "") (Or.inl (hw _ (mi 48 rfl))) Via.refl e834 (own_sta_keep S_CONFIDENCE_LEVEL K834 all0) (g := (mkF m 148 (L0_15 p0 p1 p2 p3 p4 b657 b688) [(.int 11), (.ref b711), (.ref b711)])) rfl (hb hby at_148)
    have go843 := gap go841 st842
    obtain ⟨cl845, Ar845, q845, S845, N845, H845, G845⟩ := id F840
    obtain ⟨T844, h844, X844, e844, W844, st844⟩ := stR X842 hx hZ e842 Ar845 (j := (11 : Int32)) (inb_of S845 ⟨by decide, by decide⟩) rfl (Sto.ofV Ar845 q845 O711 (Ins.self (E_CONFIDENCE_LEVEL.keep K834))) (g := (mkF m 151 (L0_15 p0 p1 p2 p3 p4 b657 b688) [(.ref s_CONFIDENCE_LEVEL), (.int 11), (.ref b711), (.ref b711)])) rfl rfl (hb hby at_151)
    have go846 := gap go843 st844
    have N844 := Fr.snoc X844 N834 low711
    have K844 : Keep h0 h844 [] := K834.wr W844 (Or.inr fsh711)
    have Zs844 : n0 ≤ h844.size := Nat.le_trans Zs834 (Keep.of_wr W844).1
    have hk844 : s.heap.size ≤ h844.size := Nat.le_trans hk834 (Keep.of_wr W844).1
    have F847 := F837.other W844 ne724
    have F848 := F838.wr W844
    have F849 := F839.other W844 (Or.inl ne725)
    have F850 : Arv Z h844 b711 k711 (.object "com/example/hauora_id/hauoraid/model/Claim") (12 : Int32) [(.ref s_SUB), (.ref s_EMAIL), (.ref s_GIVEN_NAME), (.ref s_MIDDLE_NAME), (.ref s_FAMILY_NAME), (.ref s_NICKNAME), (.ref s_BIRTHDATE), (.ref s_MOBILE_NUMBER), (.ref s_NHI), (.ref s_CPN), (.ref s_RELATIONSHIPS), (.ref s_CONFIDENCE_LEVEL)] .null := Arv.set Ar845 q845 S845 N845 H845 G845 rfl W844 11 rfl (Nat.le_of_ble_eq_true rfl)
    obtain ⟨cl851, Ar851, q851, S851, N851, H851, G851⟩ := id F850
    obtain ⟨xk, rk, hel, Ek, Fk⟩ : ∃ xk rk : Addr, ([(.ref s_SUB), (.ref s_EMAIL), (.ref s_GIVEN_NAME), (.ref s_MIDDLE_NAME), (.ref s_FAMILY_NAME), (.ref s_NICKNAME), (.ref s_BIRTHDATE), (.ref s_MOBILE_NUMBER), (.ref s_NHI), (.ref s_CPN), (.ref s_RELATIONSHIPS), (.ref s_CONFIDENCE_LEVEL)] : List Value).getD (((p4 &&& (2147483647 : Int32)) % (12 : Int32))).toNatClampNeg .null = .ref xk ∧ Exa Z h844 xk "com/example/hauora_id/hauoraid/model/Claim" ∧ Fld Z h844 xk "com/example/hauora_id/hauoraid/model/Claim" "release" "Lcom/example/hauora_id/hauoraid/model/Claim$Release;" (.ref rk) := by
      rcases own_in12 p4 with h | h | h | h | h | h | h | h | h | h | h | h
      · rw [h]; exact ⟨_, _, rfl, (E_SUB.keep K844), (F_SUB_release.keep K844 nin0)⟩
      · rw [h]; exact ⟨_, _, rfl, (E_EMAIL.keep K844), (F_EMAIL_release.keep K844 nin0)⟩
      · rw [h]; exact ⟨_, _, rfl, (E_GIVEN_NAME.keep K844), (F_GIVEN_NAME_release.keep K844 nin0)⟩
      · rw [h]; exact ⟨_, _, rfl, (E_MIDDLE_NAME.keep K844), (F_MIDDLE_NAME_release.keep K844 nin0)⟩
      · rw [h]; exact ⟨_, _, rfl, (E_FAMILY_NAME.keep K844), (F_FAMILY_NAME_release.keep K844 nin0)⟩
      · rw [h]; exact ⟨_, _, rfl, (E_NICKNAME.keep K844), (F_NICKNAME_release.keep K844 nin0)⟩
      · rw [h]; exact ⟨_, _, rfl, (E_BIRTHDATE.keep K844), (F_BIRTHDATE_release.keep K844 nin0)⟩
      · rw [h]; exact ⟨_, _, rfl, (E_MOBILE_NUMBER.keep K844), (F_MOBILE_NUMBER_release.keep K844 nin0)⟩
      · rw [h]; exact ⟨_, _, rfl, (E_NHI.keep K844), (F_NHI_release.keep K844 nin0)⟩
      · rw [h]; exact ⟨_, _, rfl, (E_CPN.keep K844), (F_CPN_release.keep K844 nin0)⟩
      · rw [h]; exact ⟨_, _, rfl, (E_RELATIONSHIPS.keep K844), (F_RELATIONSHIPS_release.keep K844 nin0)⟩
      · rw [h]; exact ⟨_, _, rfl, (E_CONFIDENCE_LEVEL.keep K844), (F_CONFIDENCE_LEVEL_release.keep K844 nin0)⟩
    have go852 : Go p.tables e below T844 (mkF m 169 #[iv p0, iv p1, iv p2, iv p3, iv p4, iv 3, rv b657, rv b688, rv b711, rv xk, .unset, .unset] [(.ref b688)]) En := by
      intro t k
      refine go846 _ ?_
      refine XS.astore X844.here hx rfl (hb hby at_152) rfl rfl (l' := (L0_16 p0 p1 p2 p3 p4 b657 b688 b711)) rfl ?_
      refine XS.aload X844.here hx rfl (hb hby at_154) rfl rfl ?_
      refine XS.iload X844.here hx rfl (hb hby at_156) rfl ?_
      show Steps _ _ _ (T844.setTop (mkF m 158 (L0_16 p0 p1 p2 p3 p4 b657 b688 b711) [(.int p4), (.ref b711)])) _
      refine X844.ldcInt hx hown (mvT hZ (hw _ (mi 50 rfl))) (g := (mkF m 158 (L0_16 p0 p1 p2 p3 p4 b657 b688 b711) [(.int p4), (.ref b711)])) rfl (hb hby at_158) _ ?_
      refine XS.iand X844.here hx rfl (hb hby at_160) rfl ?_
      refine XS.bipush X844.here hx rfl (hb hby at_161) ?_
      show Steps _ _ _ (T844.setTop (mkF m 163 (L0_16 p0 p1 p2 p3 p4 b657 b688 b711) [(.int 12), (.int (p4 &&& (2147483647 : Int32))), (.ref b711)])) _
      refine iremM X844 hx rfl (hb hby at_163) rfl (by decide) ?_
      refine X844.aaload hx (j := ((p4 &&& (2147483647 : Int32)) % (12 : Int32))) (v := (.ref xk)) (by rw [e844]; exact Ar851.1) (State.isArrayOf_alike hZ.alike Ar851.2.1) rfl Ar851.2.2 (inb_of S851 (own_b12 p4)) (Has.at H851 (inb_of S851 (own_b12 p4)) hel) (g := (mkF m 164 (L0_16 p0 p1 p2 p3 p4 b657 b688 b711) [(.int ((p4 &&& (2147483647 : Int32)) % (12 : Int32))), (.ref b711)])) rfl rfl (hb hby at_164) _ ?_
      refine XS.astore X844.here hx rfl (hb hby at_165) rfl rfl (l' := #[iv p0, iv p1, iv p2, iv p3, iv p4, iv 3, rv b657, rv b688, rv b711, rv xk, .unset, .unset]) rfl ?_
      show Steps _ _ _ (T844.setTop (mkF m 167 #[iv p0, iv p1, iv p2, iv p3, iv p4, iv 3, rv b657, rv b688, rv b711, rv xk, .unset, .unset] [])) _
      refine XS.aload X844.here hx rfl (hb hby at_167) rfl rfl ?_
      exact k
    obtain ⟨_, T853, Lc853, X853, hQ853, st853⟩ := own_cs X844 hx hZ hown hml go852 (hb hby at_169) e844 (hw _ (mi 51 rfl)) (own_site181 hw) (rm4 l Z aZ hw [] b688 h844 n0 Zs844 ) (by decide) (argsL := [(.ref b688)]) (rest := []) rfl rfl rfl (lenOf pd_182 rfl) (W := 0) rfl (by decide) (by decide) (by decide : 4 + 1 ≤ _) (by decide : 22 + 6 ≤ _)
    obtain ⟨b853, rfl, N853q, K853q, fr853, G853_0, G853_1, G853_2, G853_3, G853_4, G853_5, G853_6⟩ := hQ853
    have N853 := Fr.app N844 N853q
    have K853 : Keep h0 T853.heap [] := K844.trans K853q all0
    have low853 : n0 ≤ b853 := Nat.le_trans Zs844 fr853
    have fsh853 : h0.size ≤ b853 := Nat.le_trans K844.1 fr853
    have ne854 : b688 ≠ b853 := Nat.ne_of_lt (Nat.lt_of_lt_of_le F848.lt fr853)
    have ne855 : xk ≠ b853 := Nat.ne_of_lt (Nat.lt_of_lt_of_le Ek.lt fr853)
    have Zs853 : n0 ≤ T853.heap.size := Nat.le_trans Zs844 K853q.1
    have hk853 : s.heap.size ≤ T853.heap.size := Nat.le_trans hk844 K853q.1
    have F856 := F848.keep K853q
    have F857 := F849.keep K853q nin0
    have F858 := Ek.keep K853q
    have F859 := Fk.keep K853q nin0
    have go860 : Go p.tables e below T853 (mkF m 176 #[iv p0, iv p1, iv p2, iv p3, iv p4, iv 3, rv b657, rv b688, rv b711, rv xk, rv b853, .unset] [(.ref b853)]) En := by
      intro t k
      refine st853 _ ?_
      refine XS.astore X853.here hx rfl (hb hby at_172) rfl rfl (l' := #[iv p0, iv p1, iv p2, iv p3, iv p4, iv 3, rv b657, rv b688, rv b711, rv xk, rv b853, .unset]) rfl ?_
      refine XS.aload X853.here hx rfl (hb hby at_174) rfl rfl ?_
      exact k
    obtain ⟨_, T861, Lc861, X861, hQ861, st861⟩ := own_cv X853 hx hZ hown hml go860 (hb hby at_176) rfl (hw _ (mi 78 rfl)) (own_site183 hw) G853_0 (rm7 l Z aZ hw [] _ _ T853.heap n0 Zs853 G853_1) (by decide) (argsL := []) (rest := []) rfl rfl rfl (lenOf pd_184 rfl) (W := 0) rfl (by decide) (by decide) (by decide : 5 + 0 ≤ _) (by decide : 28 + 0 ≤ _)
    obtain ⟨rfl, N861q, e861⟩ := hQ861
    have N861 := Fr.app N853 N861q
    have go862 : Go p.tables e below T861 (mkF m 190 (L0_17 p0 p1 p2 p3 p4 b657 b688 b711 xk b853) [(.ref b688), (.ref b688)]) En := by
      intro t k
      refine st861 _ ?_
      refine XS.astore X861.here hx rfl (hb hby at_179) rfl rfl (l' := (L0_17 p0 p1 p2 p3 p4 b657 b688 b711 xk b853)) rfl ?_
      refine XS.aload X861.here hx rfl (hb hby at_181) rfl rfl ?_
      refine XT.nullNo X861.here hx rfl (hb hby at_183) rfl rfl (fun q => nomatch q) ?_
      show Steps _ _ _ (T861.setTop (mkF m 186 (L0_17 p0 p1 p2 p3 p4 b657 b688 b711 xk b853) [])) _
      refine XS.aload X861.here hx rfl (hb hby at_186) rfl rfl ?_
      refine XS.aload X861.here hx rfl (hb hby at_188) rfl rfl ?_
      exact k
    obtain ⟨_, T863, Lc863, X863, hQ863, st863⟩ := own_cv X861 hx hZ hown hml go862 (hb hby at_190) e861 (hw _ (mi 83 rfl)) (own_site185 hw) F856 (rm8 l Z aZ hw [] b688 T853.heap n0 Zs853 ) (by decide) (argsL := [(.ref b688)]) (rest := []) rfl rfl rfl (lenOf pd_186 rfl) (W := 0) rfl (by decide) (by decide) (by decide : 5 + 0 ≤ _) (by decide : 28 + 0 ≤ _)
    obtain ⟨rfl, N863q, e863⟩ := hQ863
    have N863 := Fr.app N861 N863q
    have go864 : Go p.tables e below T863 (mkF m 198 (L0_17 p0 p1 p2 p3 p4 b657 b688 b711 xk b853) [(.ref b853)]) En := by
      intro t k
      refine st863 _ ?_
      refine XS.ifNo X863.here hx rfl (hb hby at_193) rfl (XT.i0_eq_f (by decide : ¬ ((1 : Int32) = (0 : Int32)))) ?_
      refine XS.aload X863.here hx rfl (hb hby at_196) rfl rfl ?_
      exact k
    obtain ⟨_, T865, Lc865, X865, hQ865, st865⟩ := own_cv X863 hx hZ hown hml go864 (hb hby at_198) e863 (hw _ (mi 88 rfl)) (own_site187 hw) G853_0 (rm9 l Z aZ hw [] _ T853.heap n0 Zs853 G853_2) (by decide) (argsL := []) (rest := []) rfl rfl rfl (lenOf pd_188 rfl) (W := 0) rfl (by decide) (by decide) (by decide : 5 + 0 ≤ _) (by decide : 28 + 0 ≤ _)
    obtain ⟨rfl, N865q, e865⟩ := hQ865
    have N865 := Fr.app N863 N865q
    have go866 : Go p.tables e below T865 (mkF m 206 (L0_17 p0 p1 p2 p3 p4 b657 b688 b711 xk b853) [(.ref b853)]) En := by
      intro t k
      refine st865 _ ?_
      refine XT.nonnullNo X865.here hx rfl (hb hby at_201) rfl rfl ?_
      refine XS.aload X865.here hx rfl (hb hby at_204) rfl rfl ?_
      exact k
    obtain ⟨_, T867, Lc867, X867, hQ867, st867⟩ := own_cv X865 hx hZ hown hml go866 (hb hby at_206) e865 (hw _ (mi 93 rfl)) (own_site189 hw) G853_0 (rm10 l Z aZ hw [] _ T853.heap n0 Zs853 G853_3) (by decide) (argsL := []) (rest := []) rfl rfl rfl (lenOf pd_184 rfl) (W := 0) rfl (by decide) (by decide) (by decide : 5 + 0 ≤ _) (by decide : 28 + 0 ≤ _)
    obtain ⟨rfl, N867q, e867⟩ := hQ867
    have N867 := Fr.app N865 N867q
    have go868 : Go p.tables e below T867 (mkF m 214 (L0_17 p0 p1 p2 p3 p4 b657 b688 b711 xk b853) [(.ref b853)]) En := by
      intro t k
      refine st867 _ ?_
      refine XT.nonnullNo X867.here hx rfl (hb hby at_209) rfl rfl ?_
      refine XS.aload X867.here hx rfl (hb hby at_212) rfl rfl ?_
      exact k
    obtain ⟨_, T869, Lc869, X869, hQ869, st869⟩ := own_cv X867 hx hZ hown hml go868 (hb hby at_214) e867 (hw _ (mi 98 rfl)) (own_site190 hw) G853_0 (rm11 l Z aZ hw [] _ T853.heap n0 Zs853 G853_4) (by decide) (argsL := []) (rest := []) rfl rfl rfl (lenOf pd_172 rfl) (W := 0) rfl (by decide) (by decide) (by decide : 5 + 0 ≤ _) (by decide : 28 + 0 ≤ _)
    obtain ⟨rfl, N869q, e869⟩ := hQ869
    have N869 := Fr.app N867 N869q
    have go870 : Go p.tables e below T869 (mkF m 222 (L0_17 p0 p1 p2 p3 p4 b657 b688 b711 xk b853) [(.ref b853)]) En := by
      intro t k
      refine st869 _ ?_
      refine XS.ifNo X869.here hx rfl (hb hby at_217) rfl (XT.i0_eq_f (by decide : ¬ ((1 : Int32) = (0 : Int32)))) ?_
      refine XS.aload X869.here hx rfl (hb hby at_220) rfl rfl ?_
      exact k
    obtain ⟨_, T871, Lc871, X871, hQ871, st871⟩ := own_cv X869 hx hZ hown hml go870 (hb hby at_222) e869 (hw _ (mi 103 rfl)) (own_site191 hw) G853_0 (rm12 l Z aZ hw [] _ T853.heap n0 Zs853 G853_5) (by decide) (argsL := []) (rest := []) rfl rfl rfl (lenOf pd_184 rfl) (W := 0) rfl (by decide) (by decide) (by decide : 5 + 0 ≤ _) (by decide : 28 + 0 ≤ _)
    obtain ⟨rfl, N871q, e871⟩ := hQ871
    have N871 := Fr.app N869 N871q
    have go872 : Go p.tables e below T871 (mkF m 230 (L0_17 p0 p1 p2 p3 p4 b657 b688 b711 xk b853) [(.ref b853)]) En := by
      intro t k
      refine st871 _ ?_
      refine XT.nonnullNo X871.here hx rfl (hb hby at_225) rfl rfl ?_
      refine XS.aload X871.here hx rfl (hb hby at_228) rfl rfl ?_
      exact k
    obtain ⟨_, T873, Lc873, X873, hQ873, st873⟩ := own_cv X871 hx hZ hown hml go872 (hb hby at_230) e871 (hw _ (mi 108 rfl)) (own_site192 hw) G853_0 (rm13 l Z aZ hw [] _ T853.heap n0 Zs853 G853_6) (by decide) (argsL := []) (rest := []) rfl rfl rfl (lenOf pd_188 rfl) (W := 0) rfl (by decide) (by decide) (by decide : 5 + 0 ≤ _) (by decide : 28 + 0 ≤ _)
    obtain ⟨rfl, N873q, e873⟩ := hQ873
    have N873 := Fr.app N871 N873q
    have go874 : Go p.tables e below T873 (mkF m 240 (L0_17 p0 p1 p2 p3 p4 b657 b688 b711 xk b853) [(.ref xk), (.ref b853)]) En := by
      intro t k
      refine st873 _ ?_
      refine XT.nonnullNo X873.here hx rfl (hb hby at_233) rfl rfl ?_
      refine XS.aload X873.here hx rfl (hb hby at_236) rfl rfl ?_
      refine XS.aload X873.here hx rfl (hb hby at_238) rfl rfl ?_
      show Steps _ _ _ (T873.setTop (mkF m 240 (L0_17 p0 p1 p2 p3 p4 b657 b688 b711 xk b853) [(.ref xk), (.ref b853)])) _
      exact k
    obtain ⟨_, T875, Lc875, X875, hQ875, st875⟩ := own_cv X873 hx hZ hown hml go874 (hb hby at_240) e873 (hw _ (mi 113 rfl)) (own_site193 hw) G853_0 (rm14 l Z aZ hw [] _ xk rk _ T853.heap n0 Zs853 G853_2 F858 F859 (own_sta_keep S_ALWAYS K853 all0)) (by decide) (argsL := [(.ref xk)]) (rest := []) rfl rfl rfl (lenOf pd_194 rfl) (W := 0) rfl (by decide) (by decide) (by decide : 5 + 0 ≤ _) (by decide : 28 + 0 ≤ _)
    obtain ⟨rfl, N875q, e875⟩ := hQ875
    have N875 := Fr.app N873 N875q
    have go877 : Go p.tables e below T875 (mkF m 251 (L0_17 p0 p1 p2 p3 p4 b657 b688 b711 xk b853) [(.int (b0_212 s_ALWAYS rk))]) En := by
      intro t k
      have k : Steps p.tables e below (T875.setTop (mkF m  251 #[iv p0, iv p1, iv p2, iv p3, iv p4, iv 3, rv b657, rv b688, rv b711, rv xk, rv b853, rv b688] [(.int (b0_212 s_ALWAYS rk))])) t := k
      refine st875 _ ?_
      by_cases hc876 : (f14 rk s_ALWAYS) = (0 : Int32)
      · refine XS.ifYes X875.here hx rfl (pc0 := 243) (pc' := 250) rfl (hb hby at_243) rfl (XT.i0_eq_t hc876) (by decide) (by decide) ?_
        refine XS.iconst X875.here hx rfl (hb hby at_250) ?_
        have hq878 : (b0_212 s_ALWAYS rk) = (0 : Int32) := by rw [b0_212, if_pos hc876]
        rw [hq878] at k
        exact k
      · refine XS.ifNo X875.here hx rfl (hb hby at_243) rfl (XT.i0_eq_f hc876) ?_
        refine XS.iconst X875.here hx rfl (hb hby at_246) ?_
        refine XS.goto X875.here hx rfl (pc0 := 247) (pc' := 251) rfl (hb hby at_247) (by decide) (by decide) ?_
        have hq879 : (b0_212 s_ALWAYS rk) = (1 : Int32) := by rw [b0_212, if_neg hc876]
        rw [hq879] at k
        exact k
    obtain ⟨fs, hr, hrun, hended, hRW⟩ := X875.leaveW hS0 (by rw [e875]; exact hk853) (v := some (.int (b0_212 s_ALWAYS rk))) (fun h => by rw [Bd.returns] at h; cases h) Bd.notSynchronized
    subst hEn
    refine ⟨_, _, go877 _ (Jvm.RoadKit.retOut X875 hx Bd.returns (own_nz (by unfold b0_212; (repeat' split) <;> first | exact Or.inl rfl | exact Or.inr rfl)) (Or.inl ⟨rfl, Or.inr (Or.inl rfl), _, rfl⟩) (hb hby at_251) hr), hrun, hended, _, _, rfl, ?_, hRW.1, hRW.2.1, hRW.2.2.1, hRW.2.2.2.mono (by decide) (by decide)⟩
    show Q0 _ _ p0 p1 p2 p3 p4 s_SUB s_EMAIL s_GIVEN_NAME s_MIDDLE_NAME s_FAMILY_NAME s_NICKNAME s_BIRTHDATE s_MOBILE_NUMBER s_NHI s_CPN s_RELATIONSHIPS s_CONFIDENCE_LEVEL s_ALWAYS s_USERINFO s_ID_TOKEN s_COMPACT_STRINGS h0 _ (T875.setFrames fs).heap _
    have hE : (T875.setFrames fs).heap = T853.heap := e875
    rw [hE]
    exact ⟨congrArg (fun z => some (Value.int z)) ((by rw [f0, if_neg hs2, if_neg hs215, if_neg hs432, if_pos hs654] : (b0_212 s_ALWAYS rk) = (f0 p0 s_ALWAYS rk)).trans (f0_one p0 s_ALWAYS rk)), N875⟩
  exact (own_dead4 p0 hs2 hs215 hs432 hs654).elim
set_option maxRecDepth 65536 in
set_option maxHeartbeats 40000000 in
theorem comes_1 {Post : Tables → Env → Array Value → State → Outcome → State → Prop} (hpost : ∀ tb e args s v u, (limb_1_1.after args s (.returned v) u = true ∧ limb_1_2.after args s (.returned v) u = true ∧ True) → ReturnedEndW s (.returned v) u (Jvm.fieldLocs frame_1_writes args s ++ Jvm.arrayLocs frame_1_arrays args s ++ Jvm.staticLocs frame_1_statics s) 24 1152 → Post tb e args s (.returned v) u) :
    ArmFor flags0 classFile x code maxLocals ret World_1 tables_1 room_1 Calls_1 rest_1 Pre_1 Post := by
  intro l hfl _ _ p e ha hc hk s m args below hf hA hF happ hP
  obtain ⟨hcalls, hrest, hpre⟩ := hP
  obtain ⟨-, -, -, hnamed, -, -, -, hat⟩ := (Spec.applies_iff hf).mp happ
  obtain ⟨hg, hn⟩ := and_e (Cond.before_iff.mp (show (Jvm.Cond.and given_1 narrow_1).before args s = true from hpre))
  obtain ⟨hcount, hg1⟩ := and_e hg
  obtain ⟨ha0, hb0⟩ := and_e hg1
  obtain ⟨ha1, hb1⟩ := and_e hb0
  obtain ⟨ha2, hb2⟩ := and_e hb1
  obtain ⟨ha3, hb3⟩ := and_e hb2
  obtain ⟨w0, w1, w2, w3, w4, rfl⟩ : ∃ w0 w1 w2 w3 w4 : Value, args = #[w0, w1, w2, w3, w4] := by
    have hs : args.size = 5 := by simpa [Cond.value, given_1] using hcount
    obtain ⟨L⟩ := args
    match L, hs with
    | [w0, w1, w2, w3, w4], _ => exact ⟨w0, w1, w2, w3, w4, rfl⟩
  have hw := fun d (hd : d ∈ tables_1) => atoms_spec (ws := Jvm.Cond.code x code maxLocals ret :: tables_1) hat d (List.mem_cons_of_mem _ hd)
  have hfit : Fit s := fun {y c} hc i hi => by
    obtain ⟨ha, rfl⟩ := Array.getElem?_eq_some_iff.mp hc
    have q := List.all_eq_true.mp ((Array.all_eq_true_iff_forall_mem.mp hF) _ (Array.getElem_mem ha)) i (List.mem_range.mpr hi)
    simpa [Array.getElem?_eq_getElem hi] using q
  obtain ⟨hsets, hown0⟩ := atoms_of _ (rest_1_c_eq ▸ (show rest_1_c.before _ s = true from hrest))
  have hr0 := Cond.before_iff.mp hown0
  obtain ⟨i0, ei0⟩ := is_v ha0
  obtain rfl : w0 = (.int i0) := Option.some.inj ei0
  obtain ⟨i1, ei1⟩ := is_v ha1
  obtain rfl : w1 = (.int i1) := Option.some.inj ei1
  obtain ⟨i2, ei2⟩ := is_v ha2
  obtain rfl : w2 = (.int i2) := Option.some.inj ei2
  obtain ⟨i3, ei3⟩ := is_v ha3
  obtain rfl : w3 = (.int i3) := Option.some.inj ei3
  obtain ⟨i4, ei4⟩ := is_v hb3
  obtain rfl : w4 = (.int i4) := Option.some.inj ei4
  obtain ⟨na0, nb0⟩ := and_e hn
  obtain ⟨na1, nb1⟩ := and_e nb0
  obtain ⟨na2, nb2⟩ := and_e nb1
  obtain ⟨na3, nb3⟩ := and_e nb2
  obtain ⟨na4, nb4⟩ := and_e nb3
  obtain ⟨na5, nb5⟩ := and_e nb4
  obtain ⟨na6, nb6⟩ := and_e nb5
  obtain ⟨na7, nb7⟩ := and_e nb6
  obtain ⟨na8, nb8⟩ := and_e nb7
  obtain ⟨na9, nb9⟩ := and_e nb8
  obtain ⟨na10, nb10⟩ := and_e nb9
  obtain ⟨na11, nb11⟩ := and_e nb10
  obtain ⟨na12, nb12⟩ := and_e nb11
  obtain ⟨na13, nb13⟩ := and_e nb12
  obtain ⟨na14, nb14⟩ := and_e nb13
  obtain ⟨na15, nb15⟩ := and_e nb14
  obtain ⟨na16, nb16⟩ := and_e nb15
  obtain ⟨na17, nb17⟩ := and_e nb16
  obtain ⟨na18, nb18⟩ := and_e nb17
  obtain ⟨na19, nb19⟩ := and_e nb18
  obtain ⟨na20, nb20⟩ := and_e nb19
  obtain ⟨na21, nb21⟩ := and_e nb20
  obtain ⟨na22, nb22⟩ := and_e nb21
  obtain ⟨na23, nb23⟩ := and_e nb22
  obtain ⟨na24, nb24⟩ := and_e nb23
  obtain ⟨na25, nb25⟩ := and_e nb24
  obtain ⟨na26, nb26⟩ := and_e nb25
  obtain ⟨na27, nb27⟩ := and_e nb26
  obtain ⟨na28, nb28⟩ := and_e nb27
  obtain ⟨s_SUB, ev_s_SUB⟩ := exa_v na0
  have S_SUB : Sta s s.heap "com/example/hauora_id/hauoraid/model/Claim" "SUB" "Lcom/example/hauora_id/hauoraid/model/Claim;" (.ref s_SUB) := Sta.start ev_s_SUB (Or.inr ⟨(hw _ (List.mem_of_getElem? (i := 25) rfl)), (hw _ (List.mem_of_getElem? (i := 26) rfl))⟩)
  have E_SUB : Exa s s.heap s_SUB "com/example/hauora_id/hauoraid/model/Claim" := Exa.start ev_s_SUB na0
  obtain ⟨s_EMAIL, ev_s_EMAIL⟩ := exa_v na1
  have S_EMAIL : Sta s s.heap "com/example/hauora_id/hauoraid/model/Claim" "EMAIL" "Lcom/example/hauora_id/hauoraid/model/Claim;" (.ref s_EMAIL) := Sta.start ev_s_EMAIL (Or.inr ⟨(hw _ (List.mem_of_getElem? (i := 25) rfl)), (hw _ (List.mem_of_getElem? (i := 29) rfl))⟩)
  have E_EMAIL : Exa s s.heap s_EMAIL "com/example/hauora_id/hauoraid/model/Claim" := Exa.start ev_s_EMAIL na1
  obtain ⟨s_GIVEN_NAME, ev_s_GIVEN_NAME⟩ := exa_v na2
  have S_GIVEN_NAME : Sta s s.heap "com/example/hauora_id/hauoraid/model/Claim" "GIVEN_NAME" "Lcom/example/hauora_id/hauoraid/model/Claim;" (.ref s_GIVEN_NAME) := Sta.start ev_s_GIVEN_NAME (Or.inr ⟨(hw _ (List.mem_of_getElem? (i := 25) rfl)), (hw _ (List.mem_of_getElem? (i := 31) rfl))⟩)
  have E_GIVEN_NAME : Exa s s.heap s_GIVEN_NAME "com/example/hauora_id/hauoraid/model/Claim" := Exa.start ev_s_GIVEN_NAME na2
  obtain ⟨s_MIDDLE_NAME, ev_s_MIDDLE_NAME⟩ := exa_v na3
  have S_MIDDLE_NAME : Sta s s.heap "com/example/hauora_id/hauoraid/model/Claim" "MIDDLE_NAME" "Lcom/example/hauora_id/hauoraid/model/Claim;" (.ref s_MIDDLE_NAME) := Sta.start ev_s_MIDDLE_NAME (Or.inr ⟨(hw _ (List.mem_of_getElem? (i := 25) rfl)), (hw _ (List.mem_of_getElem? (i := 33) rfl))⟩)
  have E_MIDDLE_NAME : Exa s s.heap s_MIDDLE_NAME "com/example/hauora_id/hauoraid/model/Claim" := Exa.start ev_s_MIDDLE_NAME na3
  obtain ⟨s_FAMILY_NAME, ev_s_FAMILY_NAME⟩ := exa_v na4
  have S_FAMILY_NAME : Sta s s.heap "com/example/hauora_id/hauoraid/model/Claim" "FAMILY_NAME" "Lcom/example/hauora_id/hauoraid/model/Claim;" (.ref s_FAMILY_NAME) := Sta.start ev_s_FAMILY_NAME (Or.inr ⟨(hw _ (List.mem_of_getElem? (i := 25) rfl)), (hw _ (List.mem_of_getElem? (i := 35) rfl))⟩)
  have E_FAMILY_NAME : Exa s s.heap s_FAMILY_NAME "com/example/hauora_id/hauoraid/model/Claim" := Exa.start ev_s_FAMILY_NAME na4
  obtain ⟨s_NICKNAME, ev_s_NICKNAME⟩ := exa_v na5
  have S_NICKNAME : Sta s s.heap "com/example/hauora_id/hauoraid/model/Claim" "NICKNAME" "Lcom/example/hauora_id/hauoraid/model/Claim;" (.ref s_NICKNAME) := Sta.start ev_s_NICKNAME (Or.inr ⟨(hw _ (List.mem_of_getElem? (i := 25) rfl)), (hw _ (List.mem_of_getElem? (i := 37) rfl))⟩)
  have E_NICKNAME : Exa s s.heap s_NICKNAME "com/example/hauora_id/hauoraid/model/Claim" := Exa.start ev_s_NICKNAME na5
  obtain ⟨s_BIRTHDATE, ev_s_BIRTHDATE⟩ := exa_v na6
  have S_BIRTHDATE : Sta s s.heap "com/example/hauora_id/hauoraid/model/Claim" "BIRTHDATE" "Lcom/example/hauora_id/hauoraid/model/Claim;" (.ref s_BIRTHDATE) := Sta.start ev_s_BIRTHDATE (Or.inr ⟨(hw _ (List.mem_of_getElem? (i := 25) rfl)), (hw _ (List.mem_of_getElem? (i := 39) rfl))⟩)
  have E_BIRTHDATE : Exa s s.heap s_BIRTHDATE "com/example/hauora_id/hauoraid/model/Claim" := Exa.start ev_s_BIRTHDATE na6
  obtain ⟨s_MOBILE_NUMBER, ev_s_MOBILE_NUMBER⟩ := exa_v na7
  have S_MOBILE_NUMBER : Sta s s.heap "com/example/hauora_id/hauoraid/model/Claim" "MOBILE_NUMBER" "Lcom/example/hauora_id/hauoraid/model/Claim;" (.ref s_MOBILE_NUMBER) := Sta.start ev_s_MOBILE_NUMBER (Or.inr ⟨(hw _ (List.mem_of_getElem? (i := 25) rfl)), (hw _ (List.mem_of_getElem? (i := 41) rfl))⟩)
  have E_MOBILE_NUMBER : Exa s s.heap s_MOBILE_NUMBER "com/example/hauora_id/hauoraid/model/Claim" := Exa.start ev_s_MOBILE_NUMBER na7
  obtain ⟨s_NHI, ev_s_NHI⟩ := exa_v na8
  have S_NHI : Sta s s.heap "com/example/hauora_id/hauoraid/model/Claim" "NHI" "Lcom/example/hauora_id/hauoraid/model/Claim;" (.ref s_NHI) := Sta.start ev_s_NHI (Or.inr ⟨(hw _ (List.mem_of_getElem? (i := 25) rfl)), (hw _ (List.mem_of_getElem? (i := 43) rfl))⟩)
  have E_NHI : Exa s s.heap s_NHI "com/example/hauora_id/hauoraid/model/Claim" := Exa.start ev_s_NHI na8
  obtain ⟨s_CPN, ev_s_CPN⟩ := exa_v na9
  have S_CPN : Sta s s.heap "com/example/hauora_id/hauoraid/model/Claim" "CPN" "Lcom/example/hauora_id/hauoraid/model/Claim;" (.ref s_CPN) := Sta.start ev_s_CPN (Or.inr ⟨(hw _ (List.mem_of_getElem? (i := 25) rfl)), (hw _ (List.mem_of_getElem? (i := 45) rfl))⟩)
  have E_CPN : Exa s s.heap s_CPN "com/example/hauora_id/hauoraid/model/Claim" := Exa.start ev_s_CPN na9
  obtain ⟨s_RELATIONSHIPS, ev_s_RELATIONSHIPS⟩ := exa_v na10
  have S_RELATIONSHIPS : Sta s s.heap "com/example/hauora_id/hauoraid/model/Claim" "RELATIONSHIPS" "Lcom/example/hauora_id/hauoraid/model/Claim;" (.ref s_RELATIONSHIPS) := Sta.start ev_s_RELATIONSHIPS (Or.inr ⟨(hw _ (List.mem_of_getElem? (i := 25) rfl)), (hw _ (List.mem_of_getElem? (i := 47) rfl))⟩)
  have E_RELATIONSHIPS : Exa s s.heap s_RELATIONSHIPS "com/example/hauora_id/hauoraid/model/Claim" := Exa.start ev_s_RELATIONSHIPS na10
  obtain ⟨s_CONFIDENCE_LEVEL, ev_s_CONFIDENCE_LEVEL⟩ := exa_v na11
  have S_CONFIDENCE_LEVEL : Sta s s.heap "com/example/hauora_id/hauoraid/model/Claim" "CONFIDENCE_LEVEL" "Lcom/example/hauora_id/hauoraid/model/Claim;" (.ref s_CONFIDENCE_LEVEL) := Sta.start ev_s_CONFIDENCE_LEVEL (Or.inr ⟨(hw _ (List.mem_of_getElem? (i := 25) rfl)), (hw _ (List.mem_of_getElem? (i := 49) rfl))⟩)
  have E_CONFIDENCE_LEVEL : Exa s s.heap s_CONFIDENCE_LEVEL "com/example/hauora_id/hauoraid/model/Claim" := Exa.start ev_s_CONFIDENCE_LEVEL na11
  obtain ⟨s_ALWAYS, ev_s_ALWAYS⟩ := exa_v na12
  have S_ALWAYS : Sta s s.heap "com/example/hauora_id/hauoraid/model/Claim$Release" "ALWAYS" "Lcom/example/hauora_id/hauoraid/model/Claim$Release;" (.ref s_ALWAYS) := Sta.start ev_s_ALWAYS (Or.inr ⟨(hw _ (List.mem_of_getElem? (i := 125) rfl)), (hw _ (List.mem_of_getElem? (i := 126) rfl))⟩)
  have E_ALWAYS : Exa s s.heap s_ALWAYS "com/example/hauora_id/hauoraid/model/Claim$Release" := Exa.start ev_s_ALWAYS na12
  have F_SUB_release : Fld s s.heap s_SUB "com/example/hauora_id/hauoraid/model/Claim" "release" "Lcom/example/hauora_id/hauoraid/model/Claim$Release;" (.ref s_ALWAYS) := Fld.start ((fld_at ev_s_SUB).symm.trans (own_eqr ev_s_ALWAYS na13))
  obtain ⟨s_USERINFO, ev_s_USERINFO⟩ := exa_v na14
  have S_USERINFO : Sta s s.heap "com/example/hauora_id/hauoraid/model/Claim$Release" "USERINFO" "Lcom/example/hauora_id/hauoraid/model/Claim$Release;" (.ref s_USERINFO) := Sta.start ev_s_USERINFO (Or.inr ⟨(hw _ (List.mem_of_getElem? (i := 125) rfl)), (hw _ (List.mem_of_getElem? (i := 139) rfl))⟩)
  have E_USERINFO : Exa s s.heap s_USERINFO "com/example/hauora_id/hauoraid/model/Claim$Release" := Exa.start ev_s_USERINFO na14
  have F_MOBILE_NUMBER_release : Fld s s.heap s_MOBILE_NUMBER "com/example/hauora_id/hauoraid/model/Claim" "release" "Lcom/example/hauora_id/hauoraid/model/Claim$Release;" (.ref s_USERINFO) := Fld.start ((fld_at ev_s_MOBILE_NUMBER).symm.trans (own_eqr ev_s_USERINFO na15))
  have F_USERINFO_ordinal : Fld s s.heap s_USERINFO "java/lang/Enum" "ordinal" "I" (.int (2 : Int32)) := Fld.start ((fld_at ev_s_USERINFO).symm.trans (own_eqi na16))
  have F_ALWAYS_ordinal : Fld s s.heap s_ALWAYS "java/lang/Enum" "ordinal" "I" (.int (0 : Int32)) := Fld.start ((fld_at ev_s_ALWAYS).symm.trans (own_eqi na17))
  obtain ⟨s_ID_TOKEN, ev_s_ID_TOKEN⟩ := exa_v na18
  have S_ID_TOKEN : Sta s s.heap "com/example/hauora_id/hauoraid/model/Claim$Release" "ID_TOKEN" "Lcom/example/hauora_id/hauoraid/model/Claim$Release;" (.ref s_ID_TOKEN) := Sta.start ev_s_ID_TOKEN (Or.inr ⟨(hw _ (List.mem_of_getElem? (i := 125) rfl)), (hw _ (List.mem_of_getElem? (i := 140) rfl))⟩)
  have E_ID_TOKEN : Exa s s.heap s_ID_TOKEN "com/example/hauora_id/hauoraid/model/Claim$Release" := Exa.start ev_s_ID_TOKEN na18
  have F_NICKNAME_release : Fld s s.heap s_NICKNAME "com/example/hauora_id/hauoraid/model/Claim" "release" "Lcom/example/hauora_id/hauoraid/model/Claim$Release;" (.ref s_ID_TOKEN) := Fld.start ((fld_at ev_s_NICKNAME).symm.trans (own_eqr ev_s_ID_TOKEN na19))
  have F_ID_TOKEN_ordinal : Fld s s.heap s_ID_TOKEN "java/lang/Enum" "ordinal" "I" (.int (1 : Int32)) := Fld.start ((fld_at ev_s_ID_TOKEN).symm.trans (own_eqi na20))
  have F_MIDDLE_NAME_release : Fld s s.heap s_MIDDLE_NAME "com/example/hauora_id/hauoraid/model/Claim" "release" "Lcom/example/hauora_id/hauoraid/model/Claim$Release;" (.ref s_ID_TOKEN) := Fld.start ((fld_at ev_s_MIDDLE_NAME).symm.trans (own_eqr ev_s_ID_TOKEN na21))
  have F_CPN_release : Fld s s.heap s_CPN "com/example/hauora_id/hauoraid/model/Claim" "release" "Lcom/example/hauora_id/hauoraid/model/Claim$Release;" (.ref s_USERINFO) := Fld.start ((fld_at ev_s_CPN).symm.trans (own_eqr ev_s_USERINFO na22))
  have F_EMAIL_release : Fld s s.heap s_EMAIL "com/example/hauora_id/hauoraid/model/Claim" "release" "Lcom/example/hauora_id/hauoraid/model/Claim$Release;" (.ref s_ID_TOKEN) := Fld.start ((fld_at ev_s_EMAIL).symm.trans (own_eqr ev_s_ID_TOKEN na23))
  have F_FAMILY_NAME_release : Fld s s.heap s_FAMILY_NAME "com/example/hauora_id/hauoraid/model/Claim" "release" "Lcom/example/hauora_id/hauoraid/model/Claim$Release;" (.ref s_ID_TOKEN) := Fld.start ((fld_at ev_s_FAMILY_NAME).symm.trans (own_eqr ev_s_ID_TOKEN na24))
  have F_CONFIDENCE_LEVEL_release : Fld s s.heap s_CONFIDENCE_LEVEL "com/example/hauora_id/hauoraid/model/Claim" "release" "Lcom/example/hauora_id/hauoraid/model/Claim$Release;" (.ref s_ALWAYS) := Fld.start ((fld_at ev_s_CONFIDENCE_LEVEL).symm.trans (own_eqr ev_s_ALWAYS na25))
  have F_GIVEN_NAME_release : Fld s s.heap s_GIVEN_NAME "com/example/hauora_id/hauoraid/model/Claim" "release" "Lcom/example/hauora_id/hauoraid/model/Claim$Release;" (.ref s_ID_TOKEN) := Fld.start ((fld_at ev_s_GIVEN_NAME).symm.trans (own_eqr ev_s_ID_TOKEN na26))
  have F_BIRTHDATE_release : Fld s s.heap s_BIRTHDATE "com/example/hauora_id/hauoraid/model/Claim" "release" "Lcom/example/hauora_id/hauoraid/model/Claim$Release;" (.ref s_USERINFO) := Fld.start ((fld_at ev_s_BIRTHDATE).symm.trans (own_eqr ev_s_USERINFO na27))
  have F_NHI_release : Fld s s.heap s_NHI "com/example/hauora_id/hauoraid/model/Claim" "release" "Lcom/example/hauora_id/hauoraid/model/Claim$Release;" (.ref s_USERINFO) := Fld.start ((fld_at ev_s_NHI).symm.trans (own_eqr ev_s_USERINFO na28))
  have F_RELATIONSHIPS_release : Fld s s.heap s_RELATIONSHIPS "com/example/hauora_id/hauoraid/model/Claim" "release" "Lcom/example/hauora_id/hauoraid/model/Claim$Release;" (.ref s_USERINFO) := Fld.start ((fld_at ev_s_RELATIONSHIPS).symm.trans (own_eqr ev_s_USERINFO nb28))
  obtain ⟨cs, ecs⟩ := is_v (Cond.before_iff.mp (hsets _ (List.mem_of_getElem? (i := 1) rfl)))
  have S_COMPACT_STRINGS : Sta s s.heap "java/lang/String" "COMPACT_STRINGS" "Z" (.int cs) := Sta.start ecs (Or.inl (hsets _ (List.mem_of_getElem? (i := 0) rfl)))
  have hcs : ¬ cs = (0 : Int32) := fun q => by subst q; have z := not_v (Cond.before_iff.mp (hsets _ (List.mem_of_getElem? (i := 2) rfl))); rw [eq_i ecs (Term.int_eval (0 : Int32)) rfl] at z; cases z
  have hkp : ∀ (b : Addr) (cl : Cell), s.heap[b]? = some cl → s.heap[b]? = some cl := fun _ _ q => q
  have hcn7 : Jvm.Lit.constHeld s "java/lang/String" 7 := hcalls.1 ("java/lang/String", 7) (by simp [consts_1])
  have hcw : Jvm.Lit.compactW.before _ s = true := hsets _ (List.mem_of_getElem? (i := 2) rfl)
  obtain ⟨n, o, h1, h2, h3, _, L, rfl, ⟨rfl, N⟩, hq⟩ := rm0 l s _ hw tables_1 i0 i1 i2 i3 i4 s_SUB s_EMAIL s_GIVEN_NAME s_MIDDLE_NAME s_FAMILY_NAME s_NICKNAME s_BIRTHDATE s_MOBILE_NUMBER s_NHI s_CPN s_RELATIONSHIPS s_CONFIDENCE_LEVEL s_ALWAYS s_USERINFO s_ID_TOKEN cs s.heap s.heap.size (Nat.le_refl _) S_SUB E_SUB S_EMAIL E_EMAIL S_GIVEN_NAME E_GIVEN_NAME S_MIDDLE_NAME E_MIDDLE_NAME S_FAMILY_NAME E_FAMILY_NAME S_NICKNAME E_NICKNAME S_BIRTHDATE E_BIRTHDATE S_MOBILE_NUMBER E_MOBILE_NUMBER S_NHI E_NHI S_CPN E_CPN S_RELATIONSHIPS E_RELATIONSHIPS S_CONFIDENCE_LEVEL E_CONFIDENCE_LEVEL S_ALWAYS E_ALWAYS F_SUB_release S_USERINFO E_USERINFO F_MOBILE_NUMBER_release F_USERINFO_ordinal F_ALWAYS_ordinal S_ID_TOKEN E_ID_TOKEN F_NICKNAME_release F_ID_TOKEN_ordinal F_MIDDLE_NAME_release F_CPN_release F_EMAIL_release F_FAMILY_NAME_release F_CONFIDENCE_LEVEL_release F_GIVEN_NAME_release F_BIRTHDATE_release F_NHI_release F_RELATIONSHIPS_release hkp hcn7 hcw S_COMPACT_STRINGS hcs p e ha hc hk s m _ below hf ((Spec.applies_iff_loose hf).mp happ).1 ⟨rfl, State.Warmed39.refl s, rfl, IB.start⟩ trivial
  refine ⟨n, _, h1, h2, h3, hpost _ _ _ _ _ _ ⟨Cond.after_iff.mpr rfl, Cond.after_iff.mpr (eq_i res_at (Term.int_eval (1)) rfl), trivial⟩ ⟨hq.1, hq.2.1, hq.2.2.1, (hq.2.2.2.sift fun y hy => Or.inr (N y hy)).mono (by decide) (by decide)⟩⟩
theorem main_1_1 : Claimed_1_1 := comes_1 fun _ _ _ _ _ _ h hF => ⟨h.1, hF⟩
theorem main_1_2 : Claimed_1_2 := comes_1 fun _ _ _ _ _ _ h hF => ⟨h.2.1, hF⟩
end Jvm.Pilot.@@N@@
namespace Jvm.Pilot.@@N@@
open Jvm Jvm.ClassFile Sem Op Lib Jvm.Free Jvm.Stand Jvm.Pilot.@@N@@.Jvm.D
/-! MADE BY PROGRAM (witnessworld.py) out of the Statement's table words and the real class files: 25 classes; the members and pool entries that the words name. The judged class is class 1, her method 1. -/
namespace start1
open Jvm.ClassFile
def u (s : String) : CpInfo := .utf8 (stringToUtf16 s)
/-- a pool by its gaps: so many unusable entries, then the entry; so many at the end -/
def gap : Nat → List CpInfo → List CpInfo
  | 0, r => r
  | n + 1, r => .unusable :: gap n r
def poolList (es : List (Nat × CpInfo)) (last : Nat) : List CpInfo := es.foldr (fun e r => gap e.1 (e.2 :: r)) (gap last [])
def pool (es : List (Nat × CpInfo)) (last : Nat) : Array CpInfo := ⟨poolList es last⟩
def fileOf (pool : Array CpInfo) (this : Nat) (attrs : Array Attribute := #[]) (ms : Array MethodInfo := #[]) (fl : Nat := 33) (sup : Nat := 0) (ifs : Array Nat := #[]) (fds : Array FieldInfo := #[]) : ClassFile where
  minorVersion := 0
  majorVersion := 65
  constantPool := pool
  accessFlags := fl
  thisClass := this
  superClass := sup
  interfaces := ifs
  fields := fds
  methods := ms
  attributes := attrs
def plain (name : String) (sup : Option ClassId) : Class where
  name := name
  kind := .ordinary
  loader := none
  accessFlags := 33
  super := sup
  interfaces := #[]
  cf := none
  fields := #[]
  methods := #[]
  instanceTypes := #[]
  staticTypes := #[]
  resolved := #[]
  callSites := []
  init := .initialized
  statics := none
  mirror := none

def pool0 : Array CpInfo := pool [(5, u "<init>"), (0, u "()V"), (1, .class_ 10), (1, u "java/lang/Object")] 113

def k0c0 : Code := { maxStack := 0, maxLocals := 1, code := object_method_1_code, exceptionTable := #[], attributes := #[] }
def k0m0 : Method := { name := "<init>", desc := "()V", sig := { parameters := [], returnType := none }, accessFlags := 1, code := some k0c0 }
/-- java/lang/Object -/
def k0 : Class := { plain "java/lang/Object" none with
  accessFlags := 33
  interfaces := #[]
  cf := some (fileOf pool0 8 #[] #[{ accessFlags := 1, nameIndex := 5, descriptorIndex := 6, attributes := #[] }] 33 0 #[] #[])
  fields := #[]
  methods := #[k0m0]
  instanceTypes := #[]
  staticTypes := #[]
  resolved := Array.replicate 124 none
  statics := none }

def pool1 : Array CpInfo := pool [(2, .class_ 4), (1, u "java/lang/Object"), (0, u "<init>"), (0, u "()V"), (0, .class_ 8), (0, u "java/lang/String"), (0, .methodref 7 10), (0, .nameAndType 5 11), (0, u "([C)V"), (0, .class_ 13), (0, u "com/example/hauora_id/hauoraid/model/Claim"), (0, .fieldref 12 15), (0, .nameAndType 16 17), (0, u "SUB"), (0, u "Lcom/example/hauora_id/hauoraid/model/Claim;"), (0, .fieldref 12 19), (0, .nameAndType 20 17), (0, u "EMAIL"), (0, .fieldref 12 22), (0, .nameAndType 23 17), (0, u "GIVEN_NAME"), (0, .fieldref 12 25), (0, .nameAndType 26 17), (0, u "MIDDLE_NAME"), (0, .fieldref 12 28), (0, .nameAndType 29 17), (0, u "FAMILY_NAME"), (0, .fieldref 12 31), (0, .nameAndType 32 17), (0, u "NICKNAME"), (0, .fieldref 12 34), (0, .nameAndType 35 17), (0, u "BIRTHDATE"), (0, .fieldref 12 37), (0, .nameAndType 38 17), (0, u "MOBILE_NUMBER"), (0, .fieldref 12 40), (0, .nameAndType 41 17), (0, u "NHI"), (0, .fieldref 12 43), (0, .nameAndType 44 17), (0, u "CPN"), (0, .fieldref 12 46), (0, .nameAndType 47 17), (0, u "RELATIONSHIPS"), (0, .fieldref 12 49), (0, .nameAndType 50 17), (0, u "CONFIDENCE_LEVEL"), (0, .integer 2147483647), (0, .methodref 53 54), (0, .class_ 55), (0, .nameAndType 56 57), (0, u "com/example/hauora_id/hauoraid/model/Consent"), (0, u "toEverything"), (0, u "(Ljava/lang/String;)Lcom/example/hauora_id/hauoraid/model/Consent;"), (0, .methodref 53 59), (0, .nameAndType 60 61), (0, u "clientId"), (0, u "()Ljava/lang/String;"), (0, .methodref 7 63), (0, .nameAndType 64 65), (0, u "equals"), (0, u "(Ljava/lang/Object;)Z"), (0, .methodref 53 67), (0, .nameAndType 68 69), (0, u "claims"), (0, u "()Ljava/util/List;"), (0, .methodref 53 71), (0, .nameAndType 72 61), (0, u "description"), (0, .methodref 53 74), (0, .nameAndType 75 76), (0, u "offlineAccess"), (0, u "()Z"), (0, .methodref 53 78), (0, .nameAndType 79 61), (0, u "resource"), (0, .methodref 53 81), (0, .nameAndType 82 69), (0, u "resourceScopes"), (0, .methodref 53 84), (0, .nameAndType 85 86), (0, u "agreesTo"), (0, u "(Lcom/example/hauora_id/hauoraid/model/Claim;)Z"), (0, .class_ 88), (0, u "com/example/hauora_id/hauoraid/model/ConsentToEverythingPinLaw"), (2, u "law"), (0, u "(IIIII)Z")] 7

def k1m0 : Method := { name := "<init>", desc := "()V", sig := { parameters := [], returnType := none }, accessFlags := 1, code := none }
def k1c1 : Code := { maxStack := 4, maxLocals := 12, code := code, exceptionTable := #[], attributes := #[] }
def k1m1 : Method := { name := "law", desc := "(IIIII)Z", sig := { parameters := [.int, .int, .int, .int, .int], returnType := some .boolean }, accessFlags := 9, code := some k1c1 }
/-- com/example/hauora_id/hauoraid/model/ConsentToEverythingPinLaw -/
def k1 : Class := { plain "com/example/hauora_id/hauoraid/model/ConsentToEverythingPinLaw" (some 0) with
  accessFlags := 49
  interfaces := #[]
  cf := some (fileOf pool1 87 #[] #[{ accessFlags := 1, nameIndex := 5, descriptorIndex := 6, attributes := #[] }, { accessFlags := 9, nameIndex := 91, descriptorIndex := 92, attributes := #[] }] 49 2 #[] #[])
  fields := #[]
  methods := #[k1m0, k1m1]
  instanceTypes := #[]
  staticTypes := #[]
  resolved := Array.replicate 100 none
  statics := none }

def pool2 : Array CpInfo := pool [(1, .class_ 2), (0, u "java/io/Serializable"), (0, .class_ 4), (0, u "java/lang/Object")] 2

/-- java/io/Serializable -/
def k2 : Class := { plain "java/io/Serializable" (some 0) with
  accessFlags := 1537
  interfaces := #[]
  cf := some (fileOf pool2 1 #[] #[] 1537 3 #[] #[])
  fields := #[]
  methods := #[]
  instanceTypes := #[]
  staticTypes := #[]
  resolved := Array.replicate 7 none
  statics := none }

def pool3 : Array CpInfo := pool [(1, .class_ 2), (0, u "java/lang/Comparable"), (0, .class_ 4), (0, u "java/lang/Object")] 7

/-- java/lang/Comparable -/
def k3 : Class := { plain "java/lang/Comparable" (some 0) with
  accessFlags := 1537
  interfaces := #[]
  cf := some (fileOf pool3 1 #[] #[] 1537 3 #[] #[])
  fields := #[]
  methods := #[]
  instanceTypes := #[]
  staticTypes := #[]
  resolved := Array.replicate 12 none
  statics := none }

def pool4 : Array CpInfo := pool [(2, .class_ 4), (1, u "java/lang/CharSequence"), (42, .class_ 48), (0, u "java/lang/CharSequence$1CodePointIterator"), (10, .class_ 60), (0, u "java/lang/CharSequence$1CharIterator"), (5, .class_ 67), (0, u "java/lang/Object")] 63

/-- java/lang/CharSequence -/
def k4 : Class := { plain "java/lang/CharSequence" (some 0) with
  accessFlags := 1537
  interfaces := #[]
  cf := some (fileOf pool4 2 #[.nestMembers #[47, 59]] #[] 1537 66 #[] #[])
  fields := #[]
  methods := #[]
  instanceTypes := #[]
  staticTypes := #[]
  resolved := Array.replicate 131 none
  statics := none }

def pool5 : Array CpInfo := pool [(1, .class_ 2), (0, u "java/lang/constant/Constable"), (0, .class_ 4), (0, u "java/lang/Object")] 6

/-- java/lang/constant/Constable -/
def k5 : Class := { plain "java/lang/constant/Constable" (some 0) with
  accessFlags := 1537
  interfaces := #[]
  cf := some (fileOf pool5 1 #[] #[] 1537 3 #[] #[])
  fields := #[]
  methods := #[]
  instanceTypes := #[]
  staticTypes := #[]
  resolved := Array.replicate 11 none
  statics := none }

def pool6 : Array CpInfo := pool [(1, .class_ 2), (0, u "java/lang/constant/ConstantDesc"), (0, .class_ 4), (0, u "java/lang/Object")] 32

/-- java/lang/constant/ConstantDesc -/
def k6 : Class := { plain "java/lang/constant/ConstantDesc" (some 0) with
  accessFlags := 1537
  interfaces := #[]
  cf := some (fileOf pool6 1 #[] #[] 1537 3 #[] #[])
  fields := #[]
  methods := #[]
  instanceTypes := #[]
  staticTypes := #[]
  resolved := Array.replicate 37 none
  statics := none }

def pool7 : Array CpInfo := pool [(1, .methodref 2 3), (0, .class_ 4), (0, .nameAndType 5 6), (0, u "java/lang/Object"), (0, u "<init>"), (0, u "()V"), (0, .string 8), (0, u ""), (0, .fieldref 10 11), (0, .class_ 12), (0, .nameAndType 13 14), (0, u "java/lang/String"), (0, u "value"), (0, u "[B"), (0, .fieldref 10 16), (0, .nameAndType 17 18), (0, u "coder"), (0, u "B"), (2, u "hash"), (0, u "I"), (2, u "hashIsZero"), (0, u "Z"), (0, .methodref 10 28), (0, .nameAndType 5 29), (0, u "([CIILjava/lang/Void;)V"), (8, .fieldref 10 39), (0, .nameAndType 40 26), (0, u "COMPACT_STRINGS"), (1, .class_ 44), (1, u "java/lang/StringUTF16"), (0, u "compress"), (1, .methodref 42 48), (0, .nameAndType 49 50), (0, u "coderFromArrayLen"), (0, u "([BI)B"), (126, .methodref 42 178), (0, .nameAndType 45 179), (0, u "([CII)[B"), (363, u "equals"), (29, u "(Ljava/lang/Object;)Z"), (1, .class_ 576), (0, u "java/lang/CharSequence"), (22, u "CASE_INSENSITIVE_ORDER"), (0, u "Ljava/util/Comparator;"), (409, u "([C)V"), (90, u "serialPersistentFields"), (0, u "[Ljava/io/ObjectStreamField;"), (0, .class_ 1104), (0, u "java/lang/String$CaseInsensitiveComparator"), (1, .class_ 1107), (0, u "java/io/Serializable"), (0, .class_ 1109), (0, u "java/lang/Comparable"), (0, .class_ 1111), (0, u "java/lang/constant/Constable"), (0, .class_ 1113), (0, u "java/lang/constant/ConstantDesc"), (2, u "serialVersionUID"), (0, u "J"), (3, u "REPL"), (0, u "C"), (2, u "LATIN1"), (1, u "UTF16")] 323

def k7m0 : Method := { name := "<init>", desc := "()V", sig := { parameters := [], returnType := none }, accessFlags := 1, code := none }
def k7c1 : Code := { maxStack := 5, maxLocals := 2, code := jdk_42_method_3_code, exceptionTable := #[], attributes := #[] }
def k7m1 : Method := { name := "<init>", desc := "([C)V", sig := { parameters := [(.array .char)], returnType := none }, accessFlags := 1, code := some k7c1 }
def k7c2 : Code := { maxStack := 2, maxLocals := 3, code := jdk_42_method_66_code, exceptionTable := #[], attributes := #[] }
def k7m2 : Method := { name := "equals", desc := "(Ljava/lang/Object;)Z", sig := { parameters := [(.object "java/lang/Object")], returnType := some .boolean }, accessFlags := 1, code := some k7c2 }
def k7c3 : Code := { maxStack := 4, maxLocals := 6, code := jdk_42_method_149_code, exceptionTable := #[], attributes := #[] }
def k7m3 : Method := { name := "<init>", desc := "([CIILjava/lang/Void;)V", sig := { parameters := [(.array .char), .int, .int, (.object "java/lang/Void")], returnType := none }, accessFlags := 2, code := some k7c3 }
/-- java/lang/String -/
def k7 : Class := { plain "java/lang/String" (some 0) with
  accessFlags := 49
  interfaces := #[2, 3, 4, 5, 6]
  cf := some (fileOf pool7 10 #[.nestMembers #[1103]] #[{ accessFlags := 1, nameIndex := 5, descriptorIndex := 6, attributes := #[] }, { accessFlags := 1, nameIndex := 5, descriptorIndex := 1010, attributes := #[] }, { accessFlags := 1, nameIndex := 543, descriptorIndex := 573, attributes := #[] }, { accessFlags := 2, nameIndex := 5, descriptorIndex := 29, attributes := #[] }] 49 2 #[1106, 1108, 575, 1110, 1112] #[{ accessFlags := 18, nameIndex := 13, descriptorIndex := 14, attributes := #[] }, { accessFlags := 18, nameIndex := 17, descriptorIndex := 18, attributes := #[] }, { accessFlags := 2, nameIndex := 21, descriptorIndex := 22, attributes := #[] }, { accessFlags := 2, nameIndex := 25, descriptorIndex := 26, attributes := #[] }, { accessFlags := 26, nameIndex := 1116, descriptorIndex := 1117, attributes := #[] }, { accessFlags := 24, nameIndex := 40, descriptorIndex := 26, attributes := #[] }, { accessFlags := 26, nameIndex := 1101, descriptorIndex := 1102, attributes := #[] }, { accessFlags := 26, nameIndex := 1121, descriptorIndex := 1122, attributes := #[] }, { accessFlags := 25, nameIndex := 599, descriptorIndex := 600, attributes := #[] }, { accessFlags := 24, nameIndex := 1125, descriptorIndex := 18, attributes := #[] }, { accessFlags := 24, nameIndex := 1127, descriptorIndex := 18, attributes := #[] }])
  fields := #[{ name := "value", type := (.array .byte), accessFlags := 18, slot := 0, constantValue := 0 }, { name := "coder", type := .byte, accessFlags := 18, slot := 1, constantValue := 0 }, { name := "hash", type := .int, accessFlags := 2, slot := 2, constantValue := 0 }, { name := "hashIsZero", type := .boolean, accessFlags := 2, slot := 3, constantValue := 0 }, { name := "serialVersionUID", type := .long, accessFlags := 26, slot := 0, constantValue := 0 }, { name := "COMPACT_STRINGS", type := .boolean, accessFlags := 24, slot := 1, constantValue := 0 }, { name := "serialPersistentFields", type := (.array (.object "java/io/ObjectStreamField")), accessFlags := 26, slot := 2, constantValue := 0 }, { name := "REPL", type := .char, accessFlags := 26, slot := 3, constantValue := 0 }, { name := "CASE_INSENSITIVE_ORDER", type := (.object "java/util/Comparator"), accessFlags := 25, slot := 4, constantValue := 0 }, { name := "LATIN1", type := .byte, accessFlags := 24, slot := 5, constantValue := 0 }, { name := "UTF16", type := .byte, accessFlags := 24, slot := 6, constantValue := 0 }]
  methods := #[k7m0, k7m1, k7m2, k7m3]
  instanceTypes := #[(.array .byte), .byte, .int, .boolean]
  staticTypes := #[.long, .boolean, (.array (.object "java/io/ObjectStreamField")), .char, (.object "java/util/Comparator"), .byte, .byte]
  resolved := Array.replicate 1451 none
  statics := some 0 }

def pool8 : Array CpInfo := pool [(2, .class_ 4), (1, u "java/lang/Enum"), (0, u "name"), (0, u "Ljava/lang/String;"), (2, u "ordinal"), (0, u "I"), (1, .class_ 14), (1, u "java/lang/Object"), (4, u "hash"), (86, .class_ 108), (1, u "java/lang/Enum$EnumDesc"), (2, .class_ 112), (0, u "java/lang/constant/Constable"), (0, .class_ 114), (0, u "java/lang/Comparable"), (0, .class_ 116), (0, u "java/io/Serializable")] 87

/-- java/lang/Enum -/
def k8 : Class := { plain "java/lang/Enum" (some 0) with
  accessFlags := 1057
  interfaces := #[5, 3, 2]
  cf := some (fileOf pool8 2 #[.nestMembers #[106]] #[] 1057 12 #[111, 113, 115] #[{ accessFlags := 18, nameIndex := 5, descriptorIndex := 6, attributes := #[] }, { accessFlags := 18, nameIndex := 9, descriptorIndex := 10, attributes := #[] }, { accessFlags := 2, nameIndex := 19, descriptorIndex := 10, attributes := #[] }])
  fields := #[{ name := "name", type := (.object "java/lang/String"), accessFlags := 18, slot := 0, constantValue := 0 }, { name := "ordinal", type := .int, accessFlags := 18, slot := 1, constantValue := 0 }, { name := "hash", type := .int, accessFlags := 2, slot := 2, constantValue := 0 }]
  methods := #[]
  instanceTypes := #[(.object "java/lang/String"), .int, .int]
  staticTypes := #[]
  resolved := Array.replicate 204 none
  statics := none }

def pool9 : Array CpInfo := pool [(1, .class_ 2), (0, u "com/example/hauora_id/hauoraid/model/Claim"), (2, u "SUB"), (0, u "Lcom/example/hauora_id/hauoraid/model/Claim;"), (2, u "EMAIL"), (2, u "GIVEN_NAME"), (2, u "MIDDLE_NAME"), (2, u "FAMILY_NAME"), (2, u "NICKNAME"), (2, u "BIRTHDATE"), (2, u "MOBILE_NUMBER"), (2, u "NHI"), (2, u "CPN"), (2, u "RELATIONSHIPS"), (2, u "CONFIDENCE_LEVEL"), (2, u "$VALUES"), (0, u "[Lcom/example/hauora_id/hauoraid/model/Claim;"), (6, .class_ 52), (1, u "java/lang/Enum"), (8, u "claimName"), (0, u "Ljava/lang/String;"), (2, u "label"), (2, u "only"), (0, u "Lcom/example/hauora_id/hauoraid/model/Realm;"), (2, u "lowest"), (0, u "Lcom/example/hauora_id/hauoraid/model/ConfidenceLevel;"), (0, .fieldref 1 75), (0, .nameAndType 76 77), (0, u "release"), (0, u "Lcom/example/hauora_id/hauoraid/model/Claim$Release;"), (24, .fieldref 103 104), (0, .class_ 105), (0, .nameAndType 106 77), (0, u "com/example/hauora_id/hauoraid/model/Claim$Release"), (0, u "ALWAYS"), (109, u "needsEntitlement"), (0, u "()Z")] 31

def k9c0 : Code := { maxStack := 2, maxLocals := 1, code := prog_3_method_8_code, exceptionTable := #[], attributes := #[] }
def k9m0 : Method := { name := "needsEntitlement", desc := "()Z", sig := { parameters := [], returnType := some .boolean }, accessFlags := 1, code := some k9c0 }
/-- com/example/hauora_id/hauoraid/model/Claim -/
def k9 : Class := { plain "com/example/hauora_id/hauoraid/model/Claim" (some 8) with
  accessFlags := 16433
  interfaces := #[]
  cf := some (fileOf pool9 1 #[.nestMembers #[103]] #[{ accessFlags := 1, nameIndex := 216, descriptorIndex := 217, attributes := #[] }] 16433 50 #[] #[{ accessFlags := 16409, nameIndex := 5, descriptorIndex := 6, attributes := #[] }, { accessFlags := 16409, nameIndex := 9, descriptorIndex := 6, attributes := #[] }, { accessFlags := 16409, nameIndex := 12, descriptorIndex := 6, attributes := #[] }, { accessFlags := 16409, nameIndex := 15, descriptorIndex := 6, attributes := #[] }, { accessFlags := 16409, nameIndex := 18, descriptorIndex := 6, attributes := #[] }, { accessFlags := 16409, nameIndex := 21, descriptorIndex := 6, attributes := #[] }, { accessFlags := 16409, nameIndex := 24, descriptorIndex := 6, attributes := #[] }, { accessFlags := 16409, nameIndex := 27, descriptorIndex := 6, attributes := #[] }, { accessFlags := 16409, nameIndex := 30, descriptorIndex := 6, attributes := #[] }, { accessFlags := 16409, nameIndex := 33, descriptorIndex := 6, attributes := #[] }, { accessFlags := 16409, nameIndex := 36, descriptorIndex := 6, attributes := #[] }, { accessFlags := 16409, nameIndex := 39, descriptorIndex := 6, attributes := #[] }, { accessFlags := 18, nameIndex := 61, descriptorIndex := 62, attributes := #[] }, { accessFlags := 18, nameIndex := 65, descriptorIndex := 62, attributes := #[] }, { accessFlags := 18, nameIndex := 68, descriptorIndex := 69, attributes := #[] }, { accessFlags := 18, nameIndex := 72, descriptorIndex := 73, attributes := #[] }, { accessFlags := 18, nameIndex := 76, descriptorIndex := 77, attributes := #[] }, { accessFlags := 4122, nameIndex := 42, descriptorIndex := 43, attributes := #[] }])
  fields := #[{ name := "SUB", type := (.object "com/example/hauora_id/hauoraid/model/Claim"), accessFlags := 16409, slot := 0, constantValue := 0 }, { name := "EMAIL", type := (.object "com/example/hauora_id/hauoraid/model/Claim"), accessFlags := 16409, slot := 1, constantValue := 0 }, { name := "GIVEN_NAME", type := (.object "com/example/hauora_id/hauoraid/model/Claim"), accessFlags := 16409, slot := 2, constantValue := 0 }, { name := "MIDDLE_NAME", type := (.object "com/example/hauora_id/hauoraid/model/Claim"), accessFlags := 16409, slot := 3, constantValue := 0 }, { name := "FAMILY_NAME", type := (.object "com/example/hauora_id/hauoraid/model/Claim"), accessFlags := 16409, slot := 4, constantValue := 0 }, { name := "NICKNAME", type := (.object "com/example/hauora_id/hauoraid/model/Claim"), accessFlags := 16409, slot := 5, constantValue := 0 }, { name := "BIRTHDATE", type := (.object "com/example/hauora_id/hauoraid/model/Claim"), accessFlags := 16409, slot := 6, constantValue := 0 }, { name := "MOBILE_NUMBER", type := (.object "com/example/hauora_id/hauoraid/model/Claim"), accessFlags := 16409, slot := 7, constantValue := 0 }, { name := "NHI", type := (.object "com/example/hauora_id/hauoraid/model/Claim"), accessFlags := 16409, slot := 8, constantValue := 0 }, { name := "CPN", type := (.object "com/example/hauora_id/hauoraid/model/Claim"), accessFlags := 16409, slot := 9, constantValue := 0 }, { name := "RELATIONSHIPS", type := (.object "com/example/hauora_id/hauoraid/model/Claim"), accessFlags := 16409, slot := 10, constantValue := 0 }, { name := "CONFIDENCE_LEVEL", type := (.object "com/example/hauora_id/hauoraid/model/Claim"), accessFlags := 16409, slot := 11, constantValue := 0 }, { name := "claimName", type := (.object "java/lang/String"), accessFlags := 18, slot := 3, constantValue := 0 }, { name := "label", type := (.object "java/lang/String"), accessFlags := 18, slot := 4, constantValue := 0 }, { name := "only", type := (.object "com/example/hauora_id/hauoraid/model/Realm"), accessFlags := 18, slot := 5, constantValue := 0 }, { name := "lowest", type := (.object "com/example/hauora_id/hauoraid/model/ConfidenceLevel"), accessFlags := 18, slot := 6, constantValue := 0 }, { name := "release", type := (.object "com/example/hauora_id/hauoraid/model/Claim$Release"), accessFlags := 18, slot := 7, constantValue := 0 }, { name := "$VALUES", type := (.array (.object "com/example/hauora_id/hauoraid/model/Claim")), accessFlags := 4122, slot := 12, constantValue := 0 }]
  methods := #[k9m0]
  instanceTypes := #[(.object "java/lang/String"), .int, .int, (.object "java/lang/String"), (.object "java/lang/String"), (.object "com/example/hauora_id/hauoraid/model/Realm"), (.object "com/example/hauora_id/hauoraid/model/ConfidenceLevel"), (.object "com/example/hauora_id/hauoraid/model/Claim$Release")]
  staticTypes := #[(.object "com/example/hauora_id/hauoraid/model/Claim"), (.object "com/example/hauora_id/hauoraid/model/Claim"), (.object "com/example/hauora_id/hauoraid/model/Claim"), (.object "com/example/hauora_id/hauoraid/model/Claim"), (.object "com/example/hauora_id/hauoraid/model/Claim"), (.object "com/example/hauora_id/hauoraid/model/Claim"), (.object "com/example/hauora_id/hauoraid/model/Claim"), (.object "com/example/hauora_id/hauoraid/model/Claim"), (.object "com/example/hauora_id/hauoraid/model/Claim"), (.object "com/example/hauora_id/hauoraid/model/Claim"), (.object "com/example/hauora_id/hauoraid/model/Claim"), (.object "com/example/hauora_id/hauoraid/model/Claim"), (.array (.object "com/example/hauora_id/hauoraid/model/Claim"))]
  resolved := Array.replicate 249 none
  statics := some 1 }

def pool10 : Array CpInfo := pool [(1, .methodref 2 3), (0, .class_ 4), (0, .nameAndType 5 6), (0, u "java/lang/Object"), (0, u "<init>"), (0, u "()V"), (0, .class_ 8), (0, u "java/lang/Record")] 13

def k10c0 : Code := { maxStack := 1, maxLocals := 1, code := jdk_30_method_1_code, exceptionTable := #[], attributes := #[] }
def k10m0 : Method := { name := "<init>", desc := "()V", sig := { parameters := [], returnType := none }, accessFlags := 4, code := some k10c0 }
/-- java/lang/Record -/
def k10 : Class := { plain "java/lang/Record" (some 0) with
  accessFlags := 1057
  interfaces := #[]
  cf := some (fileOf pool10 7 #[] #[{ accessFlags := 4, nameIndex := 5, descriptorIndex := 6, attributes := #[] }] 1057 2 #[] #[])
  fields := #[]
  methods := #[k10m0]
  instanceTypes := #[]
  staticTypes := #[]
  resolved := Array.replicate 22 none
  statics := none }

def pool11 : Array CpInfo := pool [(1, .methodref 2 3), (0, .class_ 4), (0, .nameAndType 5 6), (0, u "java/lang/Record"), (0, u "<init>"), (0, u "()V"), (0, .fieldref 8 9), (0, .class_ 10), (0, .nameAndType 11 12), (0, u "com/example/hauora_id/hauoraid/model/Consent"), (0, u "clientId"), (0, u "Ljava/lang/String;"), (0, .fieldref 8 14), (0, .nameAndType 15 16), (0, u "claims"), (0, u "Ljava/util/List;"), (0, .fieldref 8 18), (0, .nameAndType 19 12), (0, u "description"), (0, .fieldref 8 21), (0, .nameAndType 22 23), (0, u "offlineAccess"), (0, u "Z"), (0, .fieldref 8 25), (0, .nameAndType 26 12), (0, u "resource"), (0, .fieldref 8 28), (0, .nameAndType 29 16), (0, u "resourceScopes"), (0, .methodref 8 31), (0, .nameAndType 5 32), (0, u "(Ljava/lang/String;Ljava/util/List;Ljava/lang/String;ZLjava/lang/String;Ljava/util/List;)V"), (4, u "()Ljava/lang/String;"), (28, .methodref 67 68), (0, .class_ 69), (0, .nameAndType 70 71), (0, u "com/example/hauora_id/hauoraid/model/Claim"), (0, u "needsEntitlement"), (0, u "()Z"), (33, u "toEverything"), (0, u "(Ljava/lang/String;)Lcom/example/hauora_id/hauoraid/model/Consent;"), (4, u "agreesTo"), (0, u "(Lcom/example/hauora_id/hauoraid/model/Claim;)Z"), (2, u "()Ljava/util/List;")] 39

def k11c0 : Code := { maxStack := 2, maxLocals := 7, code := prog_8_method_1_code, exceptionTable := #[], attributes := #[] }
def k11m0 : Method := { name := "<init>", desc := "(Ljava/lang/String;Ljava/util/List;Ljava/lang/String;ZLjava/lang/String;Ljava/util/List;)V", sig := { parameters := [(.object "java/lang/String"), (.object "java/util/List"), (.object "java/lang/String"), .boolean, (.object "java/lang/String"), (.object "java/util/List")], returnType := none }, accessFlags := 1, code := some k11c0 }
def k11c1 : Code := { maxStack := 8, maxLocals := 1, code := prog_8_method_2_code, exceptionTable := #[], attributes := #[] }
def k11m1 : Method := { name := "toEverything", desc := "(Ljava/lang/String;)Lcom/example/hauora_id/hauoraid/model/Consent;", sig := { parameters := [(.object "java/lang/String")], returnType := some (.object "com/example/hauora_id/hauoraid/model/Consent") }, accessFlags := 9, code := some k11c1 }
def k11c2 : Code := { maxStack := 2, maxLocals := 2, code := prog_8_method_4_code, exceptionTable := #[], attributes := #[] }
def k11m2 : Method := { name := "agreesTo", desc := "(Lcom/example/hauora_id/hauoraid/model/Claim;)Z", sig := { parameters := [(.object "com/example/hauora_id/hauoraid/model/Claim")], returnType := some .boolean }, accessFlags := 1, code := some k11c2 }
def k11c3 : Code := { maxStack := 1, maxLocals := 1, code := prog_8_method_9_code, exceptionTable := #[], attributes := #[] }
def k11m3 : Method := { name := "clientId", desc := "()Ljava/lang/String;", sig := { parameters := [], returnType := some (.object "java/lang/String") }, accessFlags := 1, code := some k11c3 }
def k11c4 : Code := { maxStack := 1, maxLocals := 1, code := prog_8_method_10_code, exceptionTable := #[], attributes := #[] }
def k11m4 : Method := { name := "claims", desc := "()Ljava/util/List;", sig := { parameters := [], returnType := some (.object "java/util/List") }, accessFlags := 1, code := some k11c4 }
def k11c5 : Code := { maxStack := 1, maxLocals := 1, code := prog_8_method_11_code, exceptionTable := #[], attributes := #[] }
def k11m5 : Method := { name := "description", desc := "()Ljava/lang/String;", sig := { parameters := [], returnType := some (.object "java/lang/String") }, accessFlags := 1, code := some k11c5 }
def k11c6 : Code := { maxStack := 1, maxLocals := 1, code := prog_8_method_12_code, exceptionTable := #[], attributes := #[] }
def k11m6 : Method := { name := "offlineAccess", desc := "()Z", sig := { parameters := [], returnType := some .boolean }, accessFlags := 1, code := some k11c6 }
def k11c7 : Code := { maxStack := 1, maxLocals := 1, code := prog_8_method_13_code, exceptionTable := #[], attributes := #[] }
def k11m7 : Method := { name := "resource", desc := "()Ljava/lang/String;", sig := { parameters := [], returnType := some (.object "java/lang/String") }, accessFlags := 1, code := some k11c7 }
def k11c8 : Code := { maxStack := 1, maxLocals := 1, code := prog_8_method_14_code, exceptionTable := #[], attributes := #[] }
def k11m8 : Method := { name := "resourceScopes", desc := "()Ljava/util/List;", sig := { parameters := [], returnType := some (.object "java/util/List") }, accessFlags := 1, code := some k11c8 }
/-- com/example/hauora_id/hauoraid/model/Consent -/
def k11 : Class := { plain "com/example/hauora_id/hauoraid/model/Consent" (some 10) with
  accessFlags := 49
  interfaces := #[]
  cf := some (fileOf pool11 8 #[] #[{ accessFlags := 1, nameIndex := 5, descriptorIndex := 32, attributes := #[] }, { accessFlags := 9, nameIndex := 105, descriptorIndex := 106, attributes := #[] }, { accessFlags := 1, nameIndex := 111, descriptorIndex := 112, attributes := #[] }, { accessFlags := 1, nameIndex := 11, descriptorIndex := 37, attributes := #[] }, { accessFlags := 1, nameIndex := 15, descriptorIndex := 115, attributes := #[] }, { accessFlags := 1, nameIndex := 19, descriptorIndex := 37, attributes := #[] }, { accessFlags := 1, nameIndex := 22, descriptorIndex := 71, attributes := #[] }, { accessFlags := 1, nameIndex := 26, descriptorIndex := 37, attributes := #[] }, { accessFlags := 1, nameIndex := 29, descriptorIndex := 115, attributes := #[] }] 49 2 #[] #[{ accessFlags := 18, nameIndex := 11, descriptorIndex := 12, attributes := #[] }, { accessFlags := 18, nameIndex := 15, descriptorIndex := 16, attributes := #[] }, { accessFlags := 18, nameIndex := 19, descriptorIndex := 12, attributes := #[] }, { accessFlags := 18, nameIndex := 22, descriptorIndex := 23, attributes := #[] }, { accessFlags := 18, nameIndex := 26, descriptorIndex := 12, attributes := #[] }, { accessFlags := 18, nameIndex := 29, descriptorIndex := 16, attributes := #[] }])
  fields := #[{ name := "clientId", type := (.object "java/lang/String"), accessFlags := 18, slot := 0, constantValue := 0 }, { name := "claims", type := (.object "java/util/List"), accessFlags := 18, slot := 1, constantValue := 0 }, { name := "description", type := (.object "java/lang/String"), accessFlags := 18, slot := 2, constantValue := 0 }, { name := "offlineAccess", type := .boolean, accessFlags := 18, slot := 3, constantValue := 0 }, { name := "resource", type := (.object "java/lang/String"), accessFlags := 18, slot := 4, constantValue := 0 }, { name := "resourceScopes", type := (.object "java/util/List"), accessFlags := 18, slot := 5, constantValue := 0 }]
  methods := #[k11m0, k11m1, k11m2, k11m3, k11m4, k11m5, k11m6, k11m7, k11m8]
  instanceTypes := #[(.object "java/lang/String"), (.object "java/util/List"), (.object "java/lang/String"), .boolean, (.object "java/lang/String"), (.object "java/util/List")]
  staticTypes := #[]
  resolved := Array.replicate 155 none
  statics := none }

def pool12 : Array CpInfo := pool [(1, .class_ 2), (0, u "com/example/hauora_id/hauoraid/model/Claim$Release"), (2, u "ALWAYS"), (0, u "Lcom/example/hauora_id/hauoraid/model/Claim$Release;"), (2, u "ID_TOKEN"), (2, u "USERINFO"), (2, u "$VALUES"), (0, u "[Lcom/example/hauora_id/hauoraid/model/Claim$Release;"), (6, .class_ 25), (1, u "java/lang/Enum"), (26, .class_ 53), (0, u "com/example/hauora_id/hauoraid/model/Claim")] 2

/-- com/example/hauora_id/hauoraid/model/Claim$Release -/
def k12 : Class := { plain "com/example/hauora_id/hauoraid/model/Claim$Release" (some 8) with
  accessFlags := 16432
  interfaces := #[]
  cf := some (fileOf pool12 1 #[.nestHost 52] #[] 16432 23 #[] #[{ accessFlags := 16409, nameIndex := 5, descriptorIndex := 6, attributes := #[] }, { accessFlags := 16409, nameIndex := 9, descriptorIndex := 6, attributes := #[] }, { accessFlags := 16409, nameIndex := 12, descriptorIndex := 6, attributes := #[] }, { accessFlags := 4122, nameIndex := 15, descriptorIndex := 16, attributes := #[] }])
  fields := #[{ name := "ALWAYS", type := (.object "com/example/hauora_id/hauoraid/model/Claim$Release"), accessFlags := 16409, slot := 0, constantValue := 0 }, { name := "ID_TOKEN", type := (.object "com/example/hauora_id/hauoraid/model/Claim$Release"), accessFlags := 16409, slot := 1, constantValue := 0 }, { name := "USERINFO", type := (.object "com/example/hauora_id/hauoraid/model/Claim$Release"), accessFlags := 16409, slot := 2, constantValue := 0 }, { name := "$VALUES", type := (.array (.object "com/example/hauora_id/hauoraid/model/Claim$Release")), accessFlags := 4122, slot := 3, constantValue := 0 }]
  methods := #[]
  instanceTypes := #[(.object "java/lang/String"), .int, .int]
  staticTypes := #[(.object "com/example/hauora_id/hauoraid/model/Claim$Release"), (.object "com/example/hauora_id/hauoraid/model/Claim$Release"), (.object "com/example/hauora_id/hauoraid/model/Claim$Release"), (.array (.object "com/example/hauora_id/hauoraid/model/Claim$Release"))]
  resolved := Array.replicate 56 none
  statics := some 2 }

def pool13 : Array CpInfo := pool [(6, .class_ 8), (1, u "java/lang/Object"), (0, u "<init>"), (0, u "()V"), (1, .class_ 14), (1, u "java/lang/StringUTF16"), (31, u "$assertionsDisabled"), (0, u "Z"), (13, u "HI_BYTE_SHIFT"), (0, u "I"), (2, u "LO_BYTE_SHIFT"), (49, .methodref 12 116), (0, .nameAndType 117 118), (0, u "compress"), (0, u "([CI[BII)I"), (3, u "([CII)[B"), (138, u "coderFromArrayLen"), (0, u "([BI)B"), (106, .class_ 371), (1, u "java/lang/StringUTF16$LinesSpliterator"), (58, u "MAX_LENGTH"), (196, .class_ 628), (0, u "java/lang/StringUTF16$CodePointsSpliterator"), (0, .class_ 630), (0, u "java/lang/StringUTF16$CharsSpliterator")] 4

def k13m0 : Method := { name := "<init>", desc := "()V", sig := { parameters := [], returnType := none }, accessFlags := 0, code := none }
def k13c1 : Code := { maxStack := 2, maxLocals := 2, code := jdk_52_method_15_code, exceptionTable := #[], attributes := #[] }
def k13m1 : Method := { name := "coderFromArrayLen", desc := "([BI)B", sig := { parameters := [(.array .byte), .int], returnType := some .byte }, accessFlags := 8, code := some k13c1 }
def k13c2 : Code := { maxStack := 5, maxLocals := 6, code := jdk_52_method_16_code, exceptionTable := #[], attributes := #[] }
def k13m2 : Method := { name := "compress", desc := "([CII)[B", sig := { parameters := [(.array .char), .int, .int], returnType := some (.array .byte) }, accessFlags := 9, code := some k13c2 }
def k13c3 : Code := { maxStack := 3, maxLocals := 7, code := jdk_52_method_21_code, exceptionTable := #[], attributes := #[] }
def k13m3 : Method := { name := "compress", desc := "([CI[BII)I", sig := { parameters := [(.array .char), .int, (.array .byte), .int, .int], returnType := some .int }, accessFlags := 9, code := some k13c3 }
/-- java/lang/StringUTF16 -/
def k13 : Class := { plain "java/lang/StringUTF16" (some 0) with
  accessFlags := 48
  interfaces := #[]
  cf := some (fileOf pool13 12 #[.nestMembers #[627, 629, 369]] #[{ accessFlags := 0, nameIndex := 9, descriptorIndex := 10, attributes := #[] }, { accessFlags := 8, nameIndex := 261, descriptorIndex := 262, attributes := #[] }, { accessFlags := 9, nameIndex := 117, descriptorIndex := 122, attributes := #[] }, { accessFlags := 9, nameIndex := 117, descriptorIndex := 118, attributes := #[] }] 48 6 #[] #[{ accessFlags := 26, nameIndex := 61, descriptorIndex := 62, attributes := #[] }, { accessFlags := 26, nameIndex := 65, descriptorIndex := 62, attributes := #[] }, { accessFlags := 24, nameIndex := 430, descriptorIndex := 62, attributes := #[] }, { accessFlags := 4120, nameIndex := 46, descriptorIndex := 47, attributes := #[] }])
  fields := #[{ name := "HI_BYTE_SHIFT", type := .int, accessFlags := 26, slot := 0, constantValue := 0 }, { name := "LO_BYTE_SHIFT", type := .int, accessFlags := 26, slot := 1, constantValue := 0 }, { name := "MAX_LENGTH", type := .int, accessFlags := 24, slot := 2, constantValue := 0 }, { name := "$assertionsDisabled", type := .boolean, accessFlags := 4120, slot := 3, constantValue := 0 }]
  methods := #[k13m0, k13m1, k13m2, k13m3]
  instanceTypes := #[]
  staticTypes := #[.int, .int, .int, .boolean]
  resolved := Array.replicate 635 none
  statics := none }

def pool14 : Array CpInfo := pool [(4, .class_ 6), (1, u "java/lang/Object"), (0, u "<init>"), (0, u "()V"), (5, .class_ 16), (1, u "java/lang/StringLatin1"), (104, u "$assertionsDisabled"), (0, u "Z"), (98, .class_ 223), (1, u "java/lang/StringLatin1$LinesSpliterator"), (166, .class_ 391), (0, u "java/lang/StringLatin1$CharsSpliterator")] 3

def k14m0 : Method := { name := "<init>", desc := "()V", sig := { parameters := [], returnType := none }, accessFlags := 0, code := none }
/-- java/lang/StringLatin1 -/
def k14 : Class := { plain "java/lang/StringLatin1" (some 0) with
  accessFlags := 48
  interfaces := #[]
  cf := some (fileOf pool14 14 #[.nestMembers #[390, 221]] #[{ accessFlags := 0, nameIndex := 7, descriptorIndex := 8, attributes := #[] }] 48 4 #[] #[{ accessFlags := 4120, nameIndex := 121, descriptorIndex := 122, attributes := #[] }])
  fields := #[{ name := "$assertionsDisabled", type := .boolean, accessFlags := 4120, slot := 0, constantValue := 0 }]
  methods := #[k14m0]
  instanceTypes := #[]
  staticTypes := #[.boolean]
  resolved := Array.replicate 395 none
  statics := none }

def pool15 : Array CpInfo := pool [(2, .class_ 4), (1, u "java/lang/Object"), (0, u "<init>"), (0, u "()V"), (17, .class_ 26), (1, u "jdk/internal/util/Preconditions"), (28, .class_ 56), (0, u "jdk/internal/util/Preconditions$4"), (57, .class_ 115), (0, u "jdk/internal/util/Preconditions$1"), (7, u "SIOOBE_FORMATTER"), (0, u "Ljava/util/function/BiFunction;"), (0, .class_ 126), (0, u "jdk/internal/util/Preconditions$2"), (3, u "AIOOBE_FORMATTER"), (0, .class_ 132), (0, u "jdk/internal/util/Preconditions$3"), (3, u "IOOBE_FORMATTER")] 57

def k15m0 : Method := { name := "<init>", desc := "()V", sig := { parameters := [], returnType := none }, accessFlags := 1, code := none }
/-- jdk/internal/util/Preconditions -/
def k15 : Class := { plain "jdk/internal/util/Preconditions" (some 0) with
  accessFlags := 33
  interfaces := #[]
  cf := some (fileOf pool15 24 #[.nestMembers #[55, 131, 125, 114]] #[{ accessFlags := 1, nameIndex := 5, descriptorIndex := 6, attributes := #[] }] 33 2 #[] #[{ accessFlags := 25, nameIndex := 123, descriptorIndex := 124, attributes := #[] }, { accessFlags := 25, nameIndex := 130, descriptorIndex := 124, attributes := #[] }, { accessFlags := 25, nameIndex := 136, descriptorIndex := 124, attributes := #[] }])
  fields := #[{ name := "SIOOBE_FORMATTER", type := (.object "java/util/function/BiFunction"), accessFlags := 25, slot := 0, constantValue := 0 }, { name := "AIOOBE_FORMATTER", type := (.object "java/util/function/BiFunction"), accessFlags := 25, slot := 1, constantValue := 0 }, { name := "IOOBE_FORMATTER", type := (.object "java/util/function/BiFunction"), accessFlags := 25, slot := 2, constantValue := 0 }]
  methods := #[k15m0]
  instanceTypes := #[]
  staticTypes := #[(.object "java/util/function/BiFunction"), (.object "java/util/function/BiFunction"), (.object "java/util/function/BiFunction")]
  resolved := Array.replicate 194 none
  statics := some 3 }

def pool16 : Array CpInfo := pool [(9, u "<init>"), (6, .class_ 18), (1, u "java/lang/Object"), (0, u "()V"), (1, .class_ 23), (1, u "jdk/internal/util/ArraysSupport"), (0, u "LOG2_ARRAY_LONG_INDEX_SCALE"), (0, u "I"), (2, u "U"), (0, u "Ljdk/internal/misc/Unsafe;"), (8, u "BIG_ENDIAN"), (0, u "Z"), (8, u "LOG2_BYTE_BIT_SIZE"), (4, u "LOG2_ARRAY_INT_INDEX_SCALE"), (54, u "JLA"), (0, u "Ljdk/internal/access/JavaLangAccess;"), (11, u "LOG2_ARRAY_BOOLEAN_INDEX_SCALE"), (9, u "LOG2_ARRAY_BYTE_INDEX_SCALE"), (5, u "LOG2_ARRAY_CHAR_INDEX_SCALE"), (5, u "LOG2_ARRAY_SHORT_INDEX_SCALE"), (18, u "LOG2_ARRAY_FLOAT_INDEX_SCALE"), (24, u "LOG2_ARRAY_DOUBLE_INDEX_SCALE"), (89, u "T_BOOLEAN"), (2, u "T_CHAR"), (1, u "T_FLOAT"), (1, u "T_DOUBLE"), (1, u "T_BYTE"), (1, u "T_SHORT"), (1, u "T_INT"), (1, u "T_LONG"), (1, u "SOFT_MAX_ARRAY_LENGTH")] 83

def k16m0 : Method := { name := "<init>", desc := "()V", sig := { parameters := [], returnType := none }, accessFlags := 2, code := none }
/-- jdk/internal/util/ArraysSupport -/
def k16 : Class := { plain "jdk/internal/util/ArraysSupport" (some 0) with
  accessFlags := 33
  interfaces := #[]
  cf := some (fileOf pool16 21 #[] #[{ accessFlags := 2, nameIndex := 9, descriptorIndex := 19, attributes := #[] }] 33 16 #[] #[{ accessFlags := 24, nameIndex := 28, descriptorIndex := 29, attributes := #[] }, { accessFlags := 26, nameIndex := 38, descriptorIndex := 39, attributes := #[] }, { accessFlags := 25, nameIndex := 121, descriptorIndex := 25, attributes := #[] }, { accessFlags := 25, nameIndex := 131, descriptorIndex := 25, attributes := #[] }, { accessFlags := 25, nameIndex := 137, descriptorIndex := 25, attributes := #[] }, { accessFlags := 25, nameIndex := 143, descriptorIndex := 25, attributes := #[] }, { accessFlags := 25, nameIndex := 53, descriptorIndex := 25, attributes := #[] }, { accessFlags := 25, nameIndex := 24, descriptorIndex := 25, attributes := #[] }, { accessFlags := 25, nameIndex := 162, descriptorIndex := 25, attributes := #[] }, { accessFlags := 25, nameIndex := 187, descriptorIndex := 25, attributes := #[] }, { accessFlags := 26, nameIndex := 48, descriptorIndex := 25, attributes := #[] }, { accessFlags := 25, nameIndex := 277, descriptorIndex := 25, attributes := #[] }, { accessFlags := 25, nameIndex := 280, descriptorIndex := 25, attributes := #[] }, { accessFlags := 25, nameIndex := 282, descriptorIndex := 25, attributes := #[] }, { accessFlags := 25, nameIndex := 284, descriptorIndex := 25, attributes := #[] }, { accessFlags := 25, nameIndex := 286, descriptorIndex := 25, attributes := #[] }, { accessFlags := 25, nameIndex := 288, descriptorIndex := 25, attributes := #[] }, { accessFlags := 25, nameIndex := 290, descriptorIndex := 25, attributes := #[] }, { accessFlags := 25, nameIndex := 292, descriptorIndex := 25, attributes := #[] }, { accessFlags := 26, nameIndex := 108, descriptorIndex := 109, attributes := #[] }, { accessFlags := 25, nameIndex := 294, descriptorIndex := 25, attributes := #[] }])
  fields := #[{ name := "U", type := (.object "jdk/internal/misc/Unsafe"), accessFlags := 24, slot := 0, constantValue := 0 }, { name := "BIG_ENDIAN", type := .boolean, accessFlags := 26, slot := 1, constantValue := 0 }, { name := "LOG2_ARRAY_BOOLEAN_INDEX_SCALE", type := .int, accessFlags := 25, slot := 2, constantValue := 0 }, { name := "LOG2_ARRAY_BYTE_INDEX_SCALE", type := .int, accessFlags := 25, slot := 3, constantValue := 0 }, { name := "LOG2_ARRAY_CHAR_INDEX_SCALE", type := .int, accessFlags := 25, slot := 4, constantValue := 0 }, { name := "LOG2_ARRAY_SHORT_INDEX_SCALE", type := .int, accessFlags := 25, slot := 5, constantValue := 0 }, { name := "LOG2_ARRAY_INT_INDEX_SCALE", type := .int, accessFlags := 25, slot := 6, constantValue := 0 }, { name := "LOG2_ARRAY_LONG_INDEX_SCALE", type := .int, accessFlags := 25, slot := 7, constantValue := 0 }, { name := "LOG2_ARRAY_FLOAT_INDEX_SCALE", type := .int, accessFlags := 25, slot := 8, constantValue := 0 }, { name := "LOG2_ARRAY_DOUBLE_INDEX_SCALE", type := .int, accessFlags := 25, slot := 9, constantValue := 0 }, { name := "LOG2_BYTE_BIT_SIZE", type := .int, accessFlags := 26, slot := 10, constantValue := 0 }, { name := "T_BOOLEAN", type := .int, accessFlags := 25, slot := 11, constantValue := 0 }, { name := "T_CHAR", type := .int, accessFlags := 25, slot := 12, constantValue := 0 }, { name := "T_FLOAT", type := .int, accessFlags := 25, slot := 13, constantValue := 0 }, { name := "T_DOUBLE", type := .int, accessFlags := 25, slot := 14, constantValue := 0 }, { name := "T_BYTE", type := .int, accessFlags := 25, slot := 15, constantValue := 0 }, { name := "T_SHORT", type := .int, accessFlags := 25, slot := 16, constantValue := 0 }, { name := "T_INT", type := .int, accessFlags := 25, slot := 17, constantValue := 0 }, { name := "T_LONG", type := .int, accessFlags := 25, slot := 18, constantValue := 0 }, { name := "JLA", type := (.object "jdk/internal/access/JavaLangAccess"), accessFlags := 26, slot := 19, constantValue := 0 }, { name := "SOFT_MAX_ARRAY_LENGTH", type := .int, accessFlags := 25, slot := 20, constantValue := 0 }]
  methods := #[k16m0]
  instanceTypes := #[]
  staticTypes := #[(.object "jdk/internal/misc/Unsafe"), .boolean, .int, .int, .int, .int, .int, .int, .int, .int, .int, .int, .int, .int, .int, .int, .int, .int, .int, (.object "jdk/internal/access/JavaLangAccess"), .int]
  resolved := Array.replicate 378 none
  statics := none }

def pool17 : Array CpInfo := pool [(1, u "java/lang/Cloneable"), (0, .class_ 1), (0, u "java/lang/Object"), (0, .class_ 3)] 3

/-- java/lang/Cloneable -/
def k17 : Class := { plain "java/lang/Cloneable" (some 0) with
  accessFlags := 1537
  interfaces := #[]
  cf := some (fileOf pool17 2 #[] #[] 1537 4 #[] #[])
  fields := #[]
  methods := #[]
  instanceTypes := #[]
  staticTypes := #[]
  resolved := Array.replicate 8 none
  statics := none }

/-- the primitive byte -/
def k18 : Class := { plain "byte" none with kind := .primitive 'B', accessFlags := 0x411 }
/-- [B -/
def k19 : Class := { plain "[B" (some 0) with kind := .array 18 .byte, interfaces := #[17, 2], accessFlags := 1041 }

/-- the primitive char -/
def k20 : Class := { plain "char" none with kind := .primitive 'C', accessFlags := 0x411 }
/-- [C -/
def k21 : Class := { plain "[C" (some 0) with kind := .array 20 .char, interfaces := #[17, 2], accessFlags := 1041 }

/-- the primitive int -/
def k22 : Class := { plain "int" none with kind := .primitive 'I', accessFlags := 0x411 }
/-- [I -/
def k23 : Class := { plain "[I" (some 0) with kind := .array 22 .int, interfaces := #[17, 2], accessFlags := 1041 }

/-- [Lcom/example/hauora_id/hauoraid/model/Claim; -/
def k24 : Class := { plain "[Lcom/example/hauora_id/hauoraid/model/Claim;" (some 0) with kind := .array 9 (.object "com/example/hauora_id/hauoraid/model/Claim"), interfaces := #[17, 2], accessFlags := 1041 }

def heap : Heap := #[{ cls := 7, slots := #[.long 0, .int 1, .null, .int 0, .null, .int 0, .int 0], vm := .statics 7 },
  { cls := 9, slots := #[.ref 4, .ref 5, .ref 6, .ref 7, .ref 8, .ref 9, .ref 10, .ref 11, .ref 12, .ref 13, .ref 14, .ref 15, .null], vm := .statics 9 },
  { cls := 12, slots := #[.ref 16, .ref 18, .ref 17, .null], vm := .statics 12 },
  { cls := 15, slots := #[.null, .null, .null], vm := .statics 15 },
  { cls := 9, slots := #[.null, .int 0, .int 0, .null, .null, .null, .null, .ref 16], vm := .none },
  { cls := 9, slots := #[.null, .int 0, .int 0, .null, .null, .null, .null, .ref 18], vm := .none },
  { cls := 9, slots := #[.null, .int 0, .int 0, .null, .null, .null, .null, .ref 18], vm := .none },
  { cls := 9, slots := #[.null, .int 0, .int 0, .null, .null, .null, .null, .ref 18], vm := .none },
  { cls := 9, slots := #[.null, .int 0, .int 0, .null, .null, .null, .null, .ref 18], vm := .none },
  { cls := 9, slots := #[.null, .int 0, .int 0, .null, .null, .null, .null, .ref 18], vm := .none },
  { cls := 9, slots := #[.null, .int 0, .int 0, .null, .null, .null, .null, .ref 17], vm := .none },
  { cls := 9, slots := #[.null, .int 0, .int 0, .null, .null, .null, .null, .ref 17], vm := .none },
  { cls := 9, slots := #[.null, .int 0, .int 0, .null, .null, .null, .null, .ref 17], vm := .none },
  { cls := 9, slots := #[.null, .int 0, .int 0, .null, .null, .null, .null, .ref 17], vm := .none },
  { cls := 9, slots := #[.null, .int 0, .int 0, .null, .null, .null, .null, .ref 17], vm := .none },
  { cls := 9, slots := #[.null, .int 0, .int 0, .null, .null, .null, .null, .ref 16], vm := .none },
  { cls := 12, slots := #[.null, .int (0), .int 0], vm := .none },
  { cls := 12, slots := #[.null, .int (2), .int 0], vm := .none },
  { cls := 12, slots := #[.null, .int (1), .int 0], vm := .none }]
def classes : Array Class := #[k0, k1, k2, k3, k4, k5, k6, k7, k8, k9, k10, k11, k12, k13, k14, k15, k16, k17, k18, k19, k20, k21, k22, k23, k24]
def interned : List (Array UInt16 × Addr) := []
def slotsUsed : Nat := 132
def theMethod : MethodId := ⟨1, 1⟩
def args0 : Array Value := #[.int 5, .int 5, .int 5, .int 5, .int 5]
def aboutOver (below : List Frame) : State where
  vm := { classes := classes, interned := interned.toArray }
  heap := heap
  slotsUsed := slotsUsed
  threads := #[{ frames := .invoking theMethod args0 :: below }]
def below0 : List Frame := [.native { method := ⟨0, 0⟩, args := #[] }]
def about1 : State := aboutOver below0
def p0 : Program := .bare "" "" ""
def e0 : Env := launch0.env 0 0 0
theorem w_frames : about1.frames = Frame.invoking theMethod args0 :: below0 := rfl
set_option maxRecDepth 65536 in
theorem w_args : argsFit about1.vm theMethod args0 = true := by decide +kernel
set_option maxRecDepth 65536 in
theorem w_heap : heapFits about1 = true := by decide +kernel
set_option maxRecDepth 65536 in
theorem w_runnable : about1.curStatus? = some .runnable := by decide +kernel
set_option maxRecDepth 65536 in
theorem w_alone : about1.alone = true := by decide +kernel
set_option maxRecDepth 65536 in
theorem w_named : about1.methodNamed? x = some theMethod := by decide +kernel
set_option maxRecDepth 65536 in
theorem w_hears : about1.hears theMethod below0 = true := by decide +kernel
set_option maxRecDepth 65536 in
theorem w_ripe : about1.ripe theMethod args0 below0 = true := by decide +kernel
theorem w_running : about1.status = .running := rfl
set_option maxRecDepth 65536 in
theorem w_room : about1.hasRoom e0.platform room_1 = true :=
  launch0.hasRoom_least _ room_1 (by decide +kernel) (by decide +kernel) (by decide +kernel) (by decide +kernel) (by decide +kernel) (by decide +kernel)
theorem allAtoms_all (ts : List Jvm.Cond) (a : Array Jvm.Value) (st : Jvm.State) : (allAtoms ts).before a st = ts.all (fun c => c.before a st) := by
  induction ts with
  | nil => rfl
  | cons c t ih =>
    show (Jvm.Cond.and c (allAtoms t)).before a st = _
    rw [Jvm.Cond.before_and, ih, List.all_cons]
def words1 : List Jvm.Cond := Jvm.Cond.code x code maxLocals ret :: tables_1
/-- a 'code' word, met by the world's own term for the bytes: nothing is compared byte by byte -/
theorem code_word {y : MethodName} {bytes : ByteArray} {mx : Nat} {rt : Option FieldType} {a : Array Value} {s : State} {m : MethodId} {meth : Method} {c : Code} (h1 : s.methodNamed? y = some m) (h2 : s.vm.method? m = some meth) (h3 : meth.code = some c) (h4 : c.code = bytes)
    (h5 : (c.maxLocals == mx && c.exceptionTable.isEmpty && decide (c.maxStack ≤ mostOperands) && decide (meth.sig.returnType = rt) && !meth.locks && decide (parseMethodDescriptor y.desc = some meth.sig)) = true) : (Jvm.Cond.code y bytes mx rt).before a s = true := by
  simp only [Bool.and_eq_true, beq_iff_eq, Bool.not_eq_true', decide_eq_true_eq] at h5
  obtain ⟨⟨⟨⟨⟨g1, g2⟩, g3⟩, g4⟩, g5⟩, g6⟩ := h5
  simp [Cond.before, Cond.holds, Cond.value, h1, h2, h3, h4, g1, g2, g3, g4, g5, g6]
def isCode : Jvm.Cond → Bool
  | .code _ _ _ _ => true
  | _ => false
theorem all_split {L : List Jvm.Cond} {P : Jvm.Cond → Bool} (h1 : L.all (fun c => isCode c || P c) = true) (h2 : ∀ c ∈ L.filter isCode, P c = true) : L.all P = true := by
  refine List.all_eq_true.mpr fun c hc => ?_
  have h := List.all_eq_true.mp h1 c hc
  rcases Bool.eq_false_or_eq_true (isCode c) with hi | hi
  · exact h2 c (List.mem_filter.mpr ⟨hc, hi⟩)
  · simpa [hi] using h
set_option maxRecDepth 65536 in
theorem w_c0 : (Jvm.Cond.code x code maxLocals ret).before args0 about1 = true := code_word (m := ⟨1, 1⟩) (meth := k1m1) (c := k1c1) (by decide +kernel) rfl rfl rfl (by decide +kernel)
set_option maxRecDepth 65536 in
theorem w_c1 : (Jvm.Cond.code ({ cls := "java/lang/String", name := "<init>", desc := "([C)V" } : Jvm.MethodName) jdk_42_method_3_code (2 : Nat) (Option.none : Option Jvm.ClassFile.FieldType)).before args0 about1 = true := code_word (m := ⟨7, 1⟩) (meth := k7m1) (c := k7c1) (by decide +kernel) rfl rfl rfl (by decide +kernel)
set_option maxRecDepth 65536 in
theorem w_c2 : (Jvm.Cond.code ({ cls := "java/lang/String", name := "<init>", desc := "([CIILjava/lang/Void;)V" } : Jvm.MethodName) jdk_42_method_149_code (6 : Nat) (Option.none : Option Jvm.ClassFile.FieldType)).before args0 about1 = true := code_word (m := ⟨7, 3⟩) (meth := k7m3) (c := k7c3) (by decide +kernel) rfl rfl rfl (by decide +kernel)
set_option maxRecDepth 65536 in
theorem w_c3 : (Jvm.Cond.code ({ cls := "java/lang/Object", name := "<init>", desc := "()V" } : Jvm.MethodName) object_method_1_code (1 : Nat) (Option.none : Option Jvm.ClassFile.FieldType)).before args0 about1 = true := code_word (m := ⟨0, 0⟩) (meth := k0m0) (c := k0c0) (by decide +kernel) rfl rfl rfl (by decide +kernel)
set_option maxRecDepth 65536 in
theorem w_c4 : (Jvm.Cond.code ({ cls := "com/example/hauora_id/hauoraid/model/Consent", name := "toEverything", desc := "(Ljava/lang/String;)Lcom/example/hauora_id/hauoraid/model/Consent;" } : Jvm.MethodName) prog_8_method_2_code (1 : Nat) (Option.some (Jvm.ClassFile.FieldType.object "com/example/hauora_id/hauoraid/model/Consent"))).before args0 about1 = true := code_word (m := ⟨11, 1⟩) (meth := k11m1) (c := k11c1) (by decide +kernel) rfl rfl rfl (by decide +kernel)
set_option maxRecDepth 65536 in
theorem w_c5 : (Jvm.Cond.code ({ cls := "com/example/hauora_id/hauoraid/model/Consent", name := "<init>", desc := "(Ljava/lang/String;Ljava/util/List;Ljava/lang/String;ZLjava/lang/String;Ljava/util/List;)V" } : Jvm.MethodName) prog_8_method_1_code (7 : Nat) (Option.none : Option Jvm.ClassFile.FieldType)).before args0 about1 = true := code_word (m := ⟨11, 0⟩) (meth := k11m0) (c := k11c0) (by decide +kernel) rfl rfl rfl (by decide +kernel)
set_option maxRecDepth 65536 in
theorem w_c6 : (Jvm.Cond.code ({ cls := "java/lang/Record", name := "<init>", desc := "()V" } : Jvm.MethodName) jdk_30_method_1_code (1 : Nat) (Option.none : Option Jvm.ClassFile.FieldType)).before args0 about1 = true := code_word (m := ⟨10, 0⟩) (meth := k10m0) (c := k10c0) (by decide +kernel) rfl rfl rfl (by decide +kernel)
set_option maxRecDepth 65536 in
theorem w_c7 : (Jvm.Cond.code ({ cls := "com/example/hauora_id/hauoraid/model/Consent", name := "clientId", desc := "()Ljava/lang/String;" } : Jvm.MethodName) prog_8_method_9_code (1 : Nat) (Option.some (Jvm.ClassFile.FieldType.object "java/lang/String"))).before args0 about1 = true := code_word (m := ⟨11, 3⟩) (meth := k11m3) (c := k11c3) (by decide +kernel) rfl rfl rfl (by decide +kernel)
set_option maxRecDepth 65536 in
theorem w_c8 : (Jvm.Cond.code ({ cls := "java/lang/String", name := "equals", desc := "(Ljava/lang/Object;)Z" } : Jvm.MethodName) jdk_42_method_66_code (3 : Nat) (Option.some Jvm.ClassFile.FieldType.boolean)).before args0 about1 = true := code_word (m := ⟨7, 2⟩) (meth := k7m2) (c := k7c2) (by decide +kernel) rfl rfl rfl (by decide +kernel)
set_option maxRecDepth 65536 in
theorem w_c9 : (Jvm.Cond.code ({ cls := "com/example/hauora_id/hauoraid/model/Consent", name := "claims", desc := "()Ljava/util/List;" } : Jvm.MethodName) prog_8_method_10_code (1 : Nat) (Option.some (Jvm.ClassFile.FieldType.object "java/util/List"))).before args0 about1 = true := code_word (m := ⟨11, 4⟩) (meth := k11m4) (c := k11c4) (by decide +kernel) rfl rfl rfl (by decide +kernel)
set_option maxRecDepth 65536 in
theorem w_c10 : (Jvm.Cond.code ({ cls := "com/example/hauora_id/hauoraid/model/Consent", name := "description", desc := "()Ljava/lang/String;" } : Jvm.MethodName) prog_8_method_11_code (1 : Nat) (Option.some (Jvm.ClassFile.FieldType.object "java/lang/String"))).before args0 about1 = true := code_word (m := ⟨11, 5⟩) (meth := k11m5) (c := k11c5) (by decide +kernel) rfl rfl rfl (by decide +kernel)
set_option maxRecDepth 65536 in
theorem w_c11 : (Jvm.Cond.code ({ cls := "com/example/hauora_id/hauoraid/model/Consent", name := "offlineAccess", desc := "()Z" } : Jvm.MethodName) prog_8_method_12_code (1 : Nat) (Option.some Jvm.ClassFile.FieldType.boolean)).before args0 about1 = true := code_word (m := ⟨11, 6⟩) (meth := k11m6) (c := k11c6) (by decide +kernel) rfl rfl rfl (by decide +kernel)
set_option maxRecDepth 65536 in
theorem w_c12 : (Jvm.Cond.code ({ cls := "com/example/hauora_id/hauoraid/model/Consent", name := "resource", desc := "()Ljava/lang/String;" } : Jvm.MethodName) prog_8_method_13_code (1 : Nat) (Option.some (Jvm.ClassFile.FieldType.object "java/lang/String"))).before args0 about1 = true := code_word (m := ⟨11, 7⟩) (meth := k11m7) (c := k11c7) (by decide +kernel) rfl rfl rfl (by decide +kernel)
set_option maxRecDepth 65536 in
theorem w_c13 : (Jvm.Cond.code ({ cls := "com/example/hauora_id/hauoraid/model/Consent", name := "resourceScopes", desc := "()Ljava/util/List;" } : Jvm.MethodName) prog_8_method_14_code (1 : Nat) (Option.some (Jvm.ClassFile.FieldType.object "java/util/List"))).before args0 about1 = true := code_word (m := ⟨11, 8⟩) (meth := k11m8) (c := k11c8) (by decide +kernel) rfl rfl rfl (by decide +kernel)
set_option maxRecDepth 65536 in
theorem w_c14 : (Jvm.Cond.code ({ cls := "com/example/hauora_id/hauoraid/model/Consent", name := "agreesTo", desc := "(Lcom/example/hauora_id/hauoraid/model/Claim;)Z" } : Jvm.MethodName) prog_8_method_4_code (2 : Nat) (Option.some Jvm.ClassFile.FieldType.boolean)).before args0 about1 = true := code_word (m := ⟨11, 2⟩) (meth := k11m2) (c := k11c2) (by decide +kernel) rfl rfl rfl (by decide +kernel)
set_option maxRecDepth 65536 in
theorem w_c15 : (Jvm.Cond.code ({ cls := "com/example/hauora_id/hauoraid/model/Claim", name := "needsEntitlement", desc := "()Z" } : Jvm.MethodName) prog_3_method_8_code (1 : Nat) (Option.some Jvm.ClassFile.FieldType.boolean)).before args0 about1 = true := code_word (m := ⟨9, 0⟩) (meth := k9m0) (c := k9c0) (by decide +kernel) rfl rfl rfl (by decide +kernel)
set_option maxRecDepth 65536 in
theorem w_c16 : (Jvm.Cond.code ({ cls := "java/lang/StringUTF16", name := "compress", desc := "([CII)[B" } : Jvm.MethodName) jdk_52_method_16_code (6 : Nat) (Option.some (Jvm.ClassFile.FieldType.array Jvm.ClassFile.FieldType.byte))).before args0 about1 = true := code_word (m := ⟨13, 2⟩) (meth := k13m2) (c := k13c2) (by decide +kernel) rfl rfl rfl (by decide +kernel)
set_option maxRecDepth 65536 in
theorem w_c17 : (Jvm.Cond.code ({ cls := "java/lang/StringUTF16", name := "compress", desc := "([CI[BII)I" } : Jvm.MethodName) jdk_52_method_21_code (7 : Nat) (Option.some Jvm.ClassFile.FieldType.int)).before args0 about1 = true := code_word (m := ⟨13, 3⟩) (meth := k13m3) (c := k13c3) (by decide +kernel) rfl rfl rfl (by decide +kernel)
set_option maxRecDepth 65536 in
theorem w_c18 : (Jvm.Cond.code ({ cls := "java/lang/StringUTF16", name := "coderFromArrayLen", desc := "([BI)B" } : Jvm.MethodName) jdk_52_method_15_code (2 : Nat) (Option.some Jvm.ClassFile.FieldType.byte)).before args0 about1 = true := code_word (m := ⟨13, 1⟩) (meth := k13m1) (c := k13c1) (by decide +kernel) rfl rfl rfl (by decide +kernel)
def codes1 : List Jvm.Cond := [Jvm.Cond.code x code maxLocals ret, Jvm.Cond.code ({ cls := "java/lang/String", name := "<init>", desc := "([C)V" } : Jvm.MethodName) jdk_42_method_3_code (2 : Nat) (Option.none : Option Jvm.ClassFile.FieldType), Jvm.Cond.code ({ cls := "java/lang/String", name := "<init>", desc := "([CIILjava/lang/Void;)V" } : Jvm.MethodName) jdk_42_method_149_code (6 : Nat) (Option.none : Option Jvm.ClassFile.FieldType), Jvm.Cond.code ({ cls := "java/lang/Object", name := "<init>", desc := "()V" } : Jvm.MethodName) object_method_1_code (1 : Nat) (Option.none : Option Jvm.ClassFile.FieldType), Jvm.Cond.code ({ cls := "com/example/hauora_id/hauoraid/model/Consent", name := "toEverything", desc := "(Ljava/lang/String;)Lcom/example/hauora_id/hauoraid/model/Consent;" } : Jvm.MethodName) prog_8_method_2_code (1 : Nat) (Option.some (Jvm.ClassFile.FieldType.object "com/example/hauora_id/hauoraid/model/Consent")), Jvm.Cond.code ({ cls := "com/example/hauora_id/hauoraid/model/Consent", name := "<init>", desc := "(Ljava/lang/String;Ljava/util/List;Ljava/lang/String;ZLjava/lang/String;Ljava/util/List;)V" } : Jvm.MethodName) prog_8_method_1_code (7 : Nat) (Option.none : Option Jvm.ClassFile.FieldType), Jvm.Cond.code ({ cls := "java/lang/Record", name := "<init>", desc := "()V" } : Jvm.MethodName) jdk_30_method_1_code (1 : Nat) (Option.none : Option Jvm.ClassFile.FieldType), Jvm.Cond.code ({ cls := "com/example/hauora_id/hauoraid/model/Consent", name := "clientId", desc := "()Ljava/lang/String;" } : Jvm.MethodName) prog_8_method_9_code (1 : Nat) (Option.some (Jvm.ClassFile.FieldType.object "java/lang/String")), Jvm.Cond.code ({ cls := "java/lang/String", name := "equals", desc := "(Ljava/lang/Object;)Z" } : Jvm.MethodName) jdk_42_method_66_code (3 : Nat) (Option.some Jvm.ClassFile.FieldType.boolean), Jvm.Cond.code ({ cls := "com/example/hauora_id/hauoraid/model/Consent", name := "claims", desc := "()Ljava/util/List;" } : Jvm.MethodName) prog_8_method_10_code (1 : Nat) (Option.some (Jvm.ClassFile.FieldType.object "java/util/List")), Jvm.Cond.code ({ cls := "com/example/hauora_id/hauoraid/model/Consent", name := "description", desc := "()Ljava/lang/String;" } : Jvm.MethodName) prog_8_method_11_code (1 : Nat) (Option.some (Jvm.ClassFile.FieldType.object "java/lang/String")), Jvm.Cond.code ({ cls := "com/example/hauora_id/hauoraid/model/Consent", name := "offlineAccess", desc := "()Z" } : Jvm.MethodName) prog_8_method_12_code (1 : Nat) (Option.some Jvm.ClassFile.FieldType.boolean), Jvm.Cond.code ({ cls := "com/example/hauora_id/hauoraid/model/Consent", name := "resource", desc := "()Ljava/lang/String;" } : Jvm.MethodName) prog_8_method_13_code (1 : Nat) (Option.some (Jvm.ClassFile.FieldType.object "java/lang/String")), Jvm.Cond.code ({ cls := "com/example/hauora_id/hauoraid/model/Consent", name := "resourceScopes", desc := "()Ljava/util/List;" } : Jvm.MethodName) prog_8_method_14_code (1 : Nat) (Option.some (Jvm.ClassFile.FieldType.object "java/util/List")), Jvm.Cond.code ({ cls := "com/example/hauora_id/hauoraid/model/Consent", name := "agreesTo", desc := "(Lcom/example/hauora_id/hauoraid/model/Claim;)Z" } : Jvm.MethodName) prog_8_method_4_code (2 : Nat) (Option.some Jvm.ClassFile.FieldType.boolean), Jvm.Cond.code ({ cls := "com/example/hauora_id/hauoraid/model/Claim", name := "needsEntitlement", desc := "()Z" } : Jvm.MethodName) prog_3_method_8_code (1 : Nat) (Option.some Jvm.ClassFile.FieldType.boolean), Jvm.Cond.code ({ cls := "java/lang/StringUTF16", name := "compress", desc := "([CII)[B" } : Jvm.MethodName) jdk_52_method_16_code (6 : Nat) (Option.some (Jvm.ClassFile.FieldType.array Jvm.ClassFile.FieldType.byte)), Jvm.Cond.code ({ cls := "java/lang/StringUTF16", name := "compress", desc := "([CI[BII)I" } : Jvm.MethodName) jdk_52_method_21_code (7 : Nat) (Option.some Jvm.ClassFile.FieldType.int), Jvm.Cond.code ({ cls := "java/lang/StringUTF16", name := "coderFromArrayLen", desc := "([BI)B" } : Jvm.MethodName) jdk_52_method_15_code (2 : Nat) (Option.some Jvm.ClassFile.FieldType.byte)]
set_option maxRecDepth 65536 in
theorem codes_eq : words1.filter isCode = codes1 := rfl
theorem w_codes : ∀ c ∈ words1.filter isCode, c.before args0 about1 = true := by
  rw [codes_eq]
  intro c hc
  simp only [codes1, List.mem_cons, List.not_mem_nil, or_false] at hc
  rcases hc with rfl | rfl | rfl | rfl | rfl | rfl | rfl | rfl | rfl | rfl | rfl | rfl | rfl | rfl | rfl | rfl | rfl | rfl | rfl
  · exact w_c0
  · exact w_c1
  · exact w_c2
  · exact w_c3
  · exact w_c4
  · exact w_c5
  · exact w_c6
  · exact w_c7
  · exact w_c8
  · exact w_c9
  · exact w_c10
  · exact w_c11
  · exact w_c12
  · exact w_c13
  · exact w_c14
  · exact w_c15
  · exact w_c16
  · exact w_c17
  · exact w_c18
set_option maxRecDepth 65536 in
theorem w_t1 : (words1.take 24).all (fun c => isCode c || c.before args0 about1) = true := by decide +kernel
set_option maxRecDepth 65536 in
theorem w_t2 : ((words1.drop 24).take 24).all (fun c => isCode c || c.before args0 about1) = true := by decide +kernel
set_option maxRecDepth 65536 in
theorem w_t3 : (((words1.drop 24).drop 24).take 24).all (fun c => isCode c || c.before args0 about1) = true := by decide +kernel
set_option maxRecDepth 65536 in
theorem w_t4 : ((((words1.drop 24).drop 24).drop 24).take 24).all (fun c => isCode c || c.before args0 about1) = true := by decide +kernel
set_option maxRecDepth 65536 in
theorem w_t5 : (((((words1.drop 24).drop 24).drop 24).drop 24).take 24).all (fun c => isCode c || c.before args0 about1) = true := by decide +kernel
set_option maxRecDepth 65536 in
theorem w_t6 : (((((words1.drop 24).drop 24).drop 24).drop 24).drop 24).all (fun c => isCode c || c.before args0 about1) = true := by decide +kernel
theorem w_tables : (allAtoms (Jvm.Cond.code x code maxLocals ret :: tables_1)).before args0 about1 = true := by
  rw [allAtoms_all]
  show words1.all (fun c => c.before args0 about1) = true
  refine all_split ?_ w_codes
  rw [← List.take_append_drop 24 words1, List.all_append, w_t1, ← List.take_append_drop 24 (words1.drop 24), List.all_append, w_t2, ← List.take_append_drop 24 ((words1.drop 24).drop 24), List.all_append, w_t3, ← List.take_append_drop 24 (((words1.drop 24).drop 24).drop 24), List.all_append, w_t4, ← List.take_append_drop 24 ((((words1.drop 24).drop 24).drop 24).drop 24), List.all_append, w_t5, w_t6]
  rfl
set_option maxRecDepth 65536 in
theorem w_rest : rest_1_c.before args0 about1 = true := by decide +kernel
set_option maxRecDepth 65536 in
theorem w_case : (Jvm.Cond.and given_1 narrow_1).before args0 about1 = true := by decide +kernel
set_option maxRecDepth 65536 in
theorem w_consts : constsHeld consts_1 about1 := Jvm.Lit.constsHeldB_iff.mp (by decide +kernel)
theorem w_applies : (headSpec (Jvm.Cond.code x code maxLocals ret :: tables_1) room_1).applies x e0.platform about1 = true :=
  (Spec.applies_iff w_frames).mpr ⟨w_running, w_runnable, w_alone, w_named, w_hears, w_ripe, w_room, w_tables⟩
theorem w_held0 : Jvm.D.constHeld about1 "java/lang/String" 7 := by
  intro c k cf i units a h1 h2 h3 h4 h5 h6 h7 h8
  have e1 : about1.vm.findClass "java/lang/String" = some 7 := by decide +kernel
  cases e1.symm.trans h1
  have e2 : about1.vm.classes[7]? = some k7 := rfl
  cases e2.symm.trans h2
  rcases h8 with h8 | ⟨-, h8⟩
  · have e3 : k7.resolved[7]? = some none := by show (Array.replicate 1451 none)[7]? = some none; simp
    rw [e3] at h8; cases h8
  · have n : about1.vm.interned.find? (fun p => p.1 == units) = none := rfl
    rw [n] at h8; cases h8
theorem w_calls : Calls_1 p0.tables e0 args0 about1 := by
  refine ⟨fun q hq => ?_, trivial⟩
  simp only [consts_1, List.mem_cons, List.not_mem_nil, or_false] at hq
  rcases hq with rfl
  · exact w_held0
theorem atStart : AtStart classFile x code maxLocals ret World_1 tables_1 room_1 Calls_1 rest_1 Pre_1 launch0 p0 e0 about1 theMethod args0 below0 :=
  ⟨lists_1, trivial, launch0.admits_env _ _ _, launch0.least_env, fairChoices_fair.cas, fairChoices_fair.clock, w_frames, w_args, w_heap, w_applies, ⟨w_consts, trivial⟩, w_rest, w_case⟩
end start1
theorem witness_1 : WitnessClaimed_1 := ⟨start1.p0, start1.e0, start1.about1, start1.theMethod, start1.args0, start1.below0, start1.atStart⟩
end Jvm.Pilot.@@N@@
