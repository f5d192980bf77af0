import JvmDerived
import JvmDerived.Pilot.@@N@@Statement
import JvmDerived.Pilot.@@N@@Code
set_option linter.unusedVariables false
set_option linter.unusedSimpArgs false
/- laws to paste: Road.backV (cut by pick.py; bodies as the Statement names them) -/
namespace Jvm.Pilot.@@N@@
namespace StrChars
open Jvm Sem ClassFile Op Lib Jvm.Stand Jvm.Free.XT Jvm.Free.ALB Jvm.Free.JM Jvm.Free
open Jvm.Lib.Cold (StaticIs)
/-- a char array whose places are chars -/
def Ch (a : Addr) (A : Cell) (U : State) : Prop := Arr .char a A U ∧ Typed .char A
theorem Ch.mv {a : Addr} {A : Cell} {U U' : State} (h : Ch a A U) (hal : U.vm.Alike U'.vm) (hh : U'.heap = U.heap) : Ch a A U' := ⟨h.1.mv hal hh, h.2⟩
theorem Ch.keep {a : Addr} {A : Cell} {U U' : State} (h : Ch a A U) (hal : U.vm.Alike U'.vm) (hk : U'.heap[a]? = some A) : Ch a A U' := ⟨h.1.keep hal hk, h.2⟩
/-- what place i of a char[]'s cell holds -/
def cv (A : Cell) (i : Nat) : Int32 := match A.slots[i]? with | some (.int x) => x | _ => 0
theorem Ch.get {a : Addr} {A : Cell} {U : State} (h : Ch a A U) {i : Nat} (hi : i < A.slots.size) : A.slots[i]? = some (.int (cv A i)) := by
  have e := Array.getElem?_eq_getElem hi
  have f := h.2 i _ e
  unfold cv; rw [e]
  generalize A.slots[i] = v at f
  cases v <;> simp [fits] at f ⊢
/-- the byte that i2b leaves of a char -/
def lo8 (x : Int32) : Int32 := x.toInt8.toInt32
theorem fits_lo8 (y : Int32) : fits .byte (.int (lo8 y)) = true := by
  have h1 := y.toInt8.le_toInt
  have h2 := y.toInt8.toInt_lt
  simp only [lo8, fits, Bool.and_eq_true, decide_eq_true_eq, Int32.le_iff_toInt_le, Int8.toInt_toInt32, show (-128 : Int32).toInt = -128 from by decide, show (127 : Int32).toInt = 127 from by decide]
  omega
/-- A' is A but that each place j of lo .. hi - 1 holds f j -/
def Laid (A A' : Cell) (lo hi : Nat) (f : Nat → Value) : Prop := A'.cls = A.cls ∧ A'.vm = A.vm ∧ A'.slots.size = A.slots.size ∧ ∀ i, A'.slots[i]? = if lo ≤ i ∧ i < hi then some (f i) else A.slots[i]?
theorem Laid.zero (A : Cell) (lo : Nat) (f : Nat → Value) : Laid A A lo (lo + 0) f := ⟨rfl, rfl, rfl, fun i => by rw [if_neg (by omega)]⟩
theorem Laid.step {A Ak : Cell} {lo k : Nat} {f : Nat → Value} {v : Value} (h : Laid A Ak lo k f) (hlo : lo ≤ k) (hk : k < Ak.slots.size) (hv : v = f k) : Laid A (Ak.setSlot k v) lo (k + 1) f := by
  refine ⟨h.1, h.2.1, by simpa [Cell.setSlot] using h.2.2.1, fun i => ?_⟩
  by_cases e : k = i
  · subst e; rw [Cell.slots_setSlot_self v hk, if_pos (by omega), hv]
  · rw [Cell.slots_setSlot_ne v e, h.2.2.2 i]
    by_cases q : lo ≤ i ∧ i < k
    · rw [if_pos q, if_pos (by omega)]
    · rw [if_neg q, if_neg (by omega)]
def U16 : String := "java/lang/StringUTF16"
namespace Cmp5
def yN : MethodName := ⟨"java/lang/StringUTF16", "compress", "([CI[BII)I"⟩
abbrev yB : ByteArray := jdk_52_method_21_code
theorem d0 : decode yB 0 = .ok (.iconst 0, 1) := by decide +kernel
theorem d1 : decode yB 1 = .ok (.istore 5, 2) := by decide +kernel
theorem d3 : decode yB 3 = .ok (.iload 5, 2) := by decide +kernel
theorem d5 : decode yB 5 = .ok (.iload 4, 2) := by decide +kernel
theorem d7 : decode yB 7 = .ok (.if_icmp (.ge) 37, 3) := by decide +kernel
theorem d10 : decode yB 10 = .ok (.aload_n 0, 1) := by decide +kernel
theorem d11 : decode yB 11 = .ok (.iload_n 1, 1) := by decide +kernel
theorem d12 : decode yB 12 = .ok (.caload, 1) := by decide +kernel
theorem d13 : decode yB 13 = .ok (.istore 6, 2) := by decide +kernel
theorem d15 : decode yB 15 = .ok (.iload 6, 2) := by decide +kernel
theorem d17 : decode yB 17 = .ok (.sipush 255, 3) := by decide +kernel
theorem d20 : decode yB 20 = .ok (.if_icmp (.le) 6, 3) := by decide +kernel
theorem d26 : decode yB 26 = .ok (.aload_n 2, 1) := by decide +kernel
theorem d27 : decode yB 27 = .ok (.iload_n 3, 1) := by decide +kernel
theorem d28 : decode yB 28 = .ok (.iload 6, 2) := by decide +kernel
theorem d30 : decode yB 30 = .ok (.i2b, 1) := by decide +kernel
theorem d31 : decode yB 31 = .ok (.bastore, 1) := by decide +kernel
theorem d32 : decode yB 32 = .ok (.iinc 1 1, 3) := by decide +kernel
theorem d35 : decode yB 35 = .ok (.iinc 3 1, 3) := by decide +kernel
theorem d38 : decode yB 38 = .ok (.iinc 5 1, 3) := by decide +kernel
theorem d41 : decode yB 41 = .ok (.goto (-38), 3) := by decide +kernel
theorem d44 : decode yB 44 = .ok (.iload 4, 2) := by decide +kernel
theorem d46 : decode yB 46 = .ok (.ireturn, 1) := by decide +kernel
def site : List Cond := []
def tab : Cond := tabOf yN yB 7 (some .int) site
def P (b : Addr) (A : Cell) (d : Addr) (B : Cell) (o q len : Nat) (args : Array Value) (s : State) : Prop := args = #[.ref b, .int (Int32.ofNat o), .ref d, .int (Int32.ofNat q), .int (Int32.ofNat len)] ∧ Ch b A s ∧ Arr .byte d B s ∧ b ≠ d ∧ o + len ≤ A.slots.size ∧ q + len ≤ B.slots.size ∧ ∀ i, i < len → ¬ 255 < cv A (o + i)
def E (b : Addr) (A : Cell) (d : Addr) (B : Cell) (o q len : Nat) (r : Option Value) (s u : State) : Prop := r = some (.int (Int32.ofNat len)) ∧ ∃ B', Put d B' s u ∧ Laid B B' q (q + len) (fun j => Value.int (lo8 (cv A (o + (j - q)))))
/-- no char of the range above 255: len; the places written hold each char's low byte -/
theorem law (l : Launch) (b : Addr) (A : Cell) (d : Addr) (B : Cell) (o q len : Nat) : Law l yN 5 5 0 0 yB 7 (some .int) site (P b A d B o q len) (E b A d B o q len) (copyLocs d q len) 0 0 := by
  refine Law.of_walk (plainFor_of_name (by decide +kernel)) (by decide +kernel) (by decide +kernel) (by decide) (fun _ _ h => by rw [h.1]; rfl) (fun _ U U' hal hh h => ⟨h.1, h.2.1.mv hal hh, h.2.2.1.mv hal hh, h.2.2.2⟩) (fun r U U' V V' h1 hal h2 h => ⟨h.1, h.2.elim fun B' q => ⟨B', q.1.mv h1 h2, q.2⟩⟩) ?_
  intro p e s m args below meth c s₁ X0 hexec hbytes hml hret hlk hnm hown hh0 W hP
  obtain ⟨rfl, hA, hB, hne, l1, l2, hp⟩ := hP
  have c1 : Steps p.tables e below (s₁.setTop (entryFrame m #[.ref b, .int (Int32.ofNat o), .ref d, .int (Int32.ofNat q), .int (Int32.ofNat len)] 7)) (s₁.setTop (mkF m 0 #[.val (.ref b), .val (.int (Int32.ofNat o)), .val (.ref d), .val (.int (Int32.ofNat q)), .val (.int (Int32.ofNat len)), .unset, .unset] [])) := entry rfl
  have hA0 := hA.1.mv X0.warmed.alike hh0
  have hB0 := hB.mv X0.warmed.alike hh0
  have a31 := hA.1.2.2.2
  have c2 : Steps p.tables e below (s₁.setTop (entryFrame m #[.ref b, .int (Int32.ofNat o), .ref d, .int (Int32.ofNat q), .int (Int32.ofNat len)] 7)) (s₁.setTop (mkF m 3 #[.val (.ref b), .val (.int (Int32.ofNat o)), .val (.ref d), .val (.int (Int32.ofNat q)), .val (.int (Int32.ofNat len)), .val (.int 0), .unset] [])) := c1.trans (by
    refine iconstV X0.here hexec rfl 0 (hb hbytes d0) (by decide) ?_
    refine XS.istore X0.here hexec rfl (hb hbytes d1) rfl rfl ?_
    exact Steps.refl _)
  have loop : ∀ (r i : Nat), i + r = len → ∀ (z : Slot), (z = .unset ∨ ∃ w, z = .val w ∧ w.category = 1) → ∀ (Tl : State) (Bk : Cell), Stand p l e { frames := 0, locals := 0, cells := 0, slots := 0 } s m #[.ref b, .int (Int32.ofNat o), .ref d, .int (Int32.ofNat q), .int (Int32.ofNat len)] below meth c Tl ([] ++ copyLocs d q i) 0 0 → Put d Bk s₁ Tl → Laid B Bk q (q + i) (fun j => Value.int (lo8 (cv A (o + (j - q))))) →
      Steps p.tables e below (s₁.setTop (entryFrame m #[.ref b, .int (Int32.ofNat o), .ref d, .int (Int32.ofNat q), .int (Int32.ofNat len)] 7)) (Tl.setTop (mkF m 3 #[.val (.ref b), .val (.int (Int32.ofNat (o + i))), .val (.ref d), .val (.int (Int32.ofNat (q + i))), .val (.int (Int32.ofNat len)), .val (.int (Int32.ofNat i)), z] [])) → ∃ (T' : State) (B' : Cell) (z' : Slot), Stand p l e { frames := 0, locals := 0, cells := 0, slots := 0 } s m #[.ref b, .int (Int32.ofNat o), .ref d, .int (Int32.ofNat q), .int (Int32.ofNat len)] below meth c T' ([] ++ copyLocs d q len) 0 0 ∧ Put d B' s₁ T' ∧ Laid B B' q (q + len) (fun j => Value.int (lo8 (cv A (o + (j - q))))) ∧
      Steps p.tables e below (s₁.setTop (entryFrame m #[.ref b, .int (Int32.ofNat o), .ref d, .int (Int32.ofNat q), .int (Int32.ofNat len)] 7)) (T'.setTop (mkF m 3 #[.val (.ref b), .val (.int (Int32.ofNat (o + len))), .val (.ref d), .val (.int (Int32.ofNat (q + len))), .val (.int (Int32.ofNat len)), .val (.int (Int32.ofNat len)), z'] [])) := by
    intro r
    induction r with
    | zero =>
      intro i hi z hz Tl Bk Xl pl fl cl
      have hil : i = len := by omega
      rw [hil] at Xl fl cl
      exact ⟨Tl, Bk, z, Xl, pl, fl, cl⟩
    | succ r ih =>
      intro i hi z hz Tl Bk Xl pl fl cl
      have all := X0.warmed.alike.symm.trans Xl.warmed.alike
      have hAl := hA0.keep all (pl.other hne hA0.1)
      have hBk := hB0.like all pl.1 fl.1 fl.2.1 fl.2.2.1
      have hlt : q + i < Bk.slots.size := by rw [fl.2.2.1]; omega
      have c3 : Steps p.tables e below (s₁.setTop (entryFrame m #[.ref b, .int (Int32.ofNat o), .ref d, .int (Int32.ofNat q), .int (Int32.ofNat len)] 7)) (Tl.setTop (mkF m 12 #[.val (.ref b), .val (.int (Int32.ofNat (o + i))), .val (.ref d), .val (.int (Int32.ofNat (q + i))), .val (.int (Int32.ofNat len)), .val (.int (Int32.ofNat i)), z] [.int (Int32.ofNat (o + i)), .ref b])) := cl.trans (by
        refine XS.iload Xl.here hexec rfl (hb hbytes d3) rfl ?_
        refine XS.iload Xl.here hexec rfl (hb hbytes d5) rfl ?_
        refine XS.icmpNo Xl.here hexec rfl (hb hbytes d7) rfl (ii_ge_f (lt32 (by omega) (by omega))) ?_
        refine XS.aloadN Xl.here hexec rfl (hb hbytes d10) rfl rfl ?_
        refine XS.iloadN Xl.here hexec rfl (hb hbytes d11) rfl ?_
        exact Steps.refl _)
      have c4 : Steps p.tables e below (s₁.setTop (entryFrame m #[.ref b, .int (Int32.ofNat o), .ref d, .int (Int32.ofNat q), .int (Int32.ofNat len)] 7)) (Tl.setTop (mkF m 13 #[.val (.ref b), .val (.int (Int32.ofNat (o + i))), .val (.ref d), .val (.int (Int32.ofNat (q + i))), .val (.int (Int32.ofNat len)), .val (.int (Int32.ofNat i)), z] [.int (cv A (o + i))])) := c3.trans (by
        refine Xl.aget hexec hAl rfl (hA.get (i := o + i) (by omega)) rfl rfl (hb hbytes d12) ?_
        exact Steps.refl _)
      have c5 : Steps p.tables e below (s₁.setTop (entryFrame m #[.ref b, .int (Int32.ofNat o), .ref d, .int (Int32.ofNat q), .int (Int32.ofNat len)] 7)) (Tl.setTop (mkF m 15 #[.val (.ref b), .val (.int (Int32.ofNat (o + i))), .val (.ref d), .val (.int (Int32.ofNat (q + i))), .val (.int (Int32.ofNat len)), .val (.int (Int32.ofNat i)), .val (.int (cv A (o + i)))] [])) := c4.trans (by
        refine XS.istoreS Xl.here hexec rfl (hb hbytes d13) rfl rfl hz ?_
        exact Steps.refl _)
      have c6 : Steps p.tables e below (s₁.setTop (entryFrame m #[.ref b, .int (Int32.ofNat o), .ref d, .int (Int32.ofNat q), .int (Int32.ofNat len)] 7)) (Tl.setTop (mkF m 31 #[.val (.ref b), .val (.int (Int32.ofNat (o + i))), .val (.ref d), .val (.int (Int32.ofNat (q + i))), .val (.int (Int32.ofNat len)), .val (.int (Int32.ofNat i)), .val (.int (cv A (o + i)))] [.int (lo8 (cv A (o + i))), .int (Int32.ofNat (q + i)), .ref d])) := c5.trans (by
        refine XS.iload Xl.here hexec rfl (hb hbytes d15) rfl ?_
        refine sipushV Xl.here hexec rfl 255 (hb hbytes d17) (by decide) ?_
        refine XS.icmpYes Xl.here hexec rfl (pc0 := 20) rfl (hb hbytes d20) rfl (ii_le_t (hp i (by omega))) (by decide) rfl ?_
        refine XS.aloadN Xl.here hexec rfl (hb hbytes d26) rfl rfl ?_
        refine XS.iloadN Xl.here hexec rfl (hb hbytes d27) rfl ?_
        refine XS.iload Xl.here hexec rfl (hb hbytes d28) rfl ?_
        refine i2b Xl.here hexec rfl (hb hbytes d30) rfl ?_
        exact Steps.refl _)
      obtain ⟨T7, X7, p7, st7⟩ := Xl.aput hexec hBk rfl hlt rfl (fits_lo8 (cv A (o + i))) (g := (mkF m 31 #[.val (.ref b), .val (.int (Int32.ofNat (o + i))), .val (.ref d), .val (.int (Int32.ofNat (q + i))), .val (.int (Int32.ofNat len)), .val (.int (Int32.ofNat i)), .val (.int (cv A (o + i)))] [.int (lo8 (cv A (o + i))), .int (Int32.ofNat (q + i)), .ref d])) rfl (rest := []) rfl (hb hbytes d31)
      have c8 : Steps p.tables e below (s₁.setTop (entryFrame m #[.ref b, .int (Int32.ofNat o), .ref d, .int (Int32.ofNat q), .int (Int32.ofNat len)] 7)) (T7.setTop (mkF m 32 #[.val (.ref b), .val (.int (Int32.ofNat (o + i))), .val (.ref d), .val (.int (Int32.ofNat (q + i))), .val (.int (Int32.ofNat len)), .val (.int (Int32.ofNat i)), .val (.int (cv A (o + i)))] [])) := c6.trans (st7 _ (Steps.refl _))
      have c9 : Steps p.tables e below (s₁.setTop (entryFrame m #[.ref b, .int (Int32.ofNat o), .ref d, .int (Int32.ofNat q), .int (Int32.ofNat len)] 7)) (T7.setTop (mkF m 3 #[.val (.ref b), .val (.int (Int32.ofNat (o + i) + 1)), .val (.ref d), .val (.int (Int32.ofNat (q + i) + 1)), .val (.int (Int32.ofNat len)), .val (.int (Int32.ofNat i + 1)), .val (.int (cv A (o + i)))] [])) := c8.trans (by
        refine iincV X7.here hexec rfl 1 (hb hbytes d32) (by decide) rfl rfl ?_
        refine iincV X7.here hexec rfl 1 (hb hbytes d35) (by decide) rfl rfl ?_
        refine iincV X7.here hexec rfl 1 (hb hbytes d38) (by decide) rfl rfl ?_
        refine XS.goto X7.here hexec rfl (pc0 := 41) rfl (hb hbytes d41) (by decide) rfl ?_
        exact Steps.refl _)
      have c10 : Steps p.tables e below (s₁.setTop (entryFrame m #[.ref b, .int (Int32.ofNat o), .ref d, .int (Int32.ofNat q), .int (Int32.ofNat len)] 7)) (T7.setTop (mkF m 3 #[.val (.ref b), .val (.int (Int32.ofNat (o + (i + 1)))), .val (.ref d), .val (.int (Int32.ofNat (q + (i + 1)))), .val (.int (Int32.ofNat len)), .val (.int (Int32.ofNat (i + 1))), .val (.int (cv A (o + i)))] [])) := by
        have := c9
        rw [succ32, succ32, succ32] at this
        exact this
      exact ih (i + 1) (by omega) _ (Or.inr ⟨_, rfl, rfl⟩) T7 _ (by rw [copyLocs_step, ← List.append_assoc]; exact X7) (pl.trans p7) (fl.step (by omega) hlt (by simp)) c10
  obtain ⟨T9, B9, z9, X9, p9, f9, g9⟩ := loop len 0 (by omega) .unset (Or.inl rfl) s₁ B (by simpa [copyLocs] using X0) ⟨hB0.1, fun _ _ => rfl, rfl⟩ (Laid.zero _ _ _) c2
  have c11 : Steps p.tables e below (s₁.setTop (entryFrame m #[.ref b, .int (Int32.ofNat o), .ref d, .int (Int32.ofNat q), .int (Int32.ofNat len)] 7)) (T9.setTop (mkF m 46 #[.val (.ref b), .val (.int (Int32.ofNat (o + len))), .val (.ref d), .val (.int (Int32.ofNat (q + len))), .val (.int (Int32.ofNat len)), .val (.int (Int32.ofNat len)), z9] [.int (Int32.ofNat len)])) := g9.trans (by
    refine XS.iload X9.here hexec rfl (hb hbytes d3) rfl ?_
    refine XS.iload X9.here hexec rfl (hb hbytes d5) rfl ?_
    refine XS.icmpYes X9.here hexec rfl (pc0 := 7) rfl (hb hbytes d7) rfl (ii_ge_t (nlt32 (by omega) (Nat.le_refl _))) (by decide) rfl ?_
    refine XS.iload X9.here hexec rfl (hb hbytes d44) rfl ?_
    exact Steps.refl _)
  exact ⟨T9, some (.int (Int32.ofNat len)), _, _, _, X9, by simp, rfl, rfl, (fun h => by cases h), ⟨rfl, B9, p9.from hh0, f9⟩, fun fs hl => c11.trans (X9.ireturnOut hexec hret rfl (Or.inl rfl) (hb hbytes d46) hl)⟩
end Cmp5
namespace Cmp3
def yN : MethodName := ⟨"java/lang/StringUTF16", "compress", "([CII)[B"⟩
abbrev yB : ByteArray := jdk_52_method_16_code
theorem d0 : decode yB 0 = .ok (.iload_n 2, 1) := by decide +kernel
theorem d1 : decode yB 1 = .ok (.newarray .byte, 2) := by decide +kernel
theorem d3 : decode yB 3 = .ok (.astore_n 3, 1) := by decide +kernel
theorem d4 : decode yB 4 = .ok (.aload_n 0, 1) := by decide +kernel
theorem d5 : decode yB 5 = .ok (.iload_n 1, 1) := by decide +kernel
theorem d6 : decode yB 6 = .ok (.aload_n 3, 1) := by decide +kernel
theorem d7 : decode yB 7 = .ok (.iconst 0, 1) := by decide +kernel
theorem d8 : decode yB 8 = .ok (.iload_n 2, 1) := by decide +kernel
theorem d9 : decode yB 9 = .ok (.invokestatic 115, 3) := by decide +kernel
theorem d12 : decode yB 12 = .ok (.istore 4, 2) := by decide +kernel
theorem d14 : decode yB 14 = .ok (.iload 4, 2) := by decide +kernel
theorem d16 : decode yB 16 = .ok (.iload_n 2, 1) := by decide +kernel
theorem d17 : decode yB 17 = .ok (.if_icmp (.eq) 40, 3) := by decide +kernel
theorem d57 : decode yB 57 = .ok (.aload_n 3, 1) := by decide +kernel
theorem d58 : decode yB 58 = .ok (.areturn, 1) := by decide +kernel
def site : List Cond := [.arrayClass .byte, Cmp5.tab] ++ staticW U16 115 Cmp5.yN
def tab : Cond := tabOf yN yB 6 (some (.array .byte)) site
def P (b : Addr) (A : Cell) (o len : Nat) (args : Array Value) (s : State) : Prop := args = #[.ref b, .int (Int32.ofNat o), .int (Int32.ofNat len)] ∧ Ch b A s ∧ o + len ≤ A.slots.size ∧ len ≤ 536870912 ∧ ∀ i, i < len → ¬ 255 < cv A (o + i)
def E (b : Addr) (A : Cell) (o len : Nat) (r : Option Value) (s u : State) : Prop := NewArr .byte "[B" len (fun j => .int (lo8 (cv A (o + j)))) r s u ∧ u.heap.size = s.heap.size + 1
/-- no char of the range above 255: a new byte[] of their low bytes -/
theorem law (l : Launch) (b : Addr) (A : Cell) (o len : Nat) : Law l yN 3 3 1 18 yB 6 (some (.array .byte)) site (P b A o len) (E b A o len) [] 1 len := by
  refine Law.of_walk (plainFor_of_name (by decide +kernel)) (by decide +kernel) (by decide +kernel) (by decide) (fun _ _ h => by rw [h.1]; rfl) (fun _ U U' hal hh h => ⟨h.1, h.2.1.mv hal hh, h.2.2⟩) (fun r U U' V V' h1 hal h2 h => ⟨NewArr.mv r U U' V V' h1 hal h2 h.1, by rw [h1, h2]; exact h.2⟩) ?_
  intro p e s m args below meth c s₁ X0 hexec hbytes hml hret hlk hnm hown hh0 W hP
  obtain ⟨rfl, hA, l1, l2, hp⟩ := hP
  have a31 := hA.1.2.2.2
  have c1 : Steps p.tables e below (s₁.setTop (entryFrame m #[.ref b, .int (Int32.ofNat o), .int (Int32.ofNat len)] 6)) (s₁.setTop (mkF m 0 #[.val (.ref b), .val (.int (Int32.ofNat o)), .val (.int (Int32.ofNat len)), .unset, .unset, .unset] [])) := entry rfl
  have c2 : Steps p.tables e below (s₁.setTop (entryFrame m #[.ref b, .int (Int32.ofNat o), .int (Int32.ofNat len)] 6)) (s₁.setTop (mkF m 1 #[.val (.ref b), .val (.int (Int32.ofNat o)), .val (.int (Int32.ofNat len)), .unset, .unset, .unset] [.int (Int32.ofNat len)])) := c1.trans (by
    refine XS.iloadN X0.here hexec rfl (hb hbytes d0) rfl ?_
    exact Steps.refl _)
  obtain ⟨T3, B3, X3, ba3, bs3, bv3, bh3, bf3, st3⟩ := X0.anew hexec (atype := .byte) (wk W (.arrayClass .byte)) rfl (by show len * 1 ≤ _; omega) (by omega) (g := (mkF m 1 #[.val (.ref b), .val (.int (Int32.ofNat o)), .val (.int (Int32.ofNat len)), .unset, .unset, .unset] [.int (Int32.ofNat len)])) rfl (hb hbytes d1) (rest := []) rfl (Nat.le_refl _) (by show 0 + len ≤ len; omega)
  rw [hh0] at ba3 st3
  have kp3 : XT.Kept s T3 := (XT.Kept.of_eq hh0).push bh3
  have hA3 := hA.keep X3.warmed.alike (kp3 _ _ hA.1.1)
  have hne : b ≠ s.heap.size := hA.1.ne
  have c4 : Steps p.tables e below (s₁.setTop (entryFrame m #[.ref b, .int (Int32.ofNat o), .int (Int32.ofNat len)] 6)) (T3.setTop (mkF m 3 #[.val (.ref b), .val (.int (Int32.ofNat o)), .val (.int (Int32.ofNat len)), .unset, .unset, .unset] [.ref s.heap.size])) := c2.trans (st3 _ (Steps.refl _))
  have c5 : Steps p.tables e below (s₁.setTop (entryFrame m #[.ref b, .int (Int32.ofNat o), .int (Int32.ofNat len)] 6)) (T3.setTop (mkF m 9 #[.val (.ref b), .val (.int (Int32.ofNat o)), .val (.int (Int32.ofNat len)), .val (.ref s.heap.size), .unset, .unset] [.int (Int32.ofNat len), .int 0, .ref s.heap.size, .int (Int32.ofNat o), .ref b])) := c4.trans (by
    refine XS.astoreN X3.here hexec rfl (hb hbytes d3) rfl rfl rfl ?_
    refine XS.aloadN X3.here hexec rfl (hb hbytes d4) rfl rfl ?_
    refine XS.iloadN X3.here hexec rfl (hb hbytes d5) rfl ?_
    refine XS.aloadN X3.here hexec rfl (hb hbytes d6) rfl rfl ?_
    refine iconstV X3.here hexec rfl 0 (hb hbytes d7) (by decide) ?_
    refine XS.iloadN X3.here hexec rfl (hb hbytes d8) rfl ?_
    exact Steps.refl _)
  obtain ⟨v6, T6, X6, E6, g6⟩ := X3.callS hexec (Cmp5.law l b A s.heap.size B3 o 0 len) hown (wks W (staticW U16 115 Cmp5.yN)) (wk W Cmp5.tab) (W := 0) (Nat.le_of_ble_eq_true rfl) (Nat.le_of_ble_eq_true rfl) (Nat.le_refl _) (by show 0 + len + 0 ≤ len; omega) (g := (mkF m 9 #[.val (.ref b), .val (.int (Int32.ofNat o)), .val (.int (Int32.ofNat len)), .val (.ref s.heap.size), .unset, .unset] [.int (Int32.ofNat len), .int (Int32.ofNat 0), .ref s.heap.size, .int (Int32.ofNat o), .ref b])) rfl (by rw [hml]; rfl) c5 (argsL := [.ref b, .int (Int32.ofNat o), .ref s.heap.size, .int (Int32.ofNat 0), .int (Int32.ofNat len)]) (rest := []) rfl rfl (by show 2 * 0 + 0 ≤ _; decide) (hb hbytes d9) (⟨rfl, hA3, ba3, hne, l1, by rw [bs3]; simp, hp⟩)
  obtain ⟨rfl, B6, p6, f6⟩ := E6
  have c7 : Steps p.tables e below (s₁.setTop (entryFrame m #[.ref b, .int (Int32.ofNat o), .int (Int32.ofNat len)] 6)) (T6.setTop (mkF m 12 #[.val (.ref b), .val (.int (Int32.ofNat o)), .val (.int (Int32.ofNat len)), .val (.ref s.heap.size), .unset, .unset] [.int (Int32.ofNat len)])) := g6
  have c8 : Steps p.tables e below (s₁.setTop (entryFrame m #[.ref b, .int (Int32.ofNat o), .int (Int32.ofNat len)] 6)) (T6.setTop (mkF m 58 #[.val (.ref b), .val (.int (Int32.ofNat o)), .val (.int (Int32.ofNat len)), .val (.ref s.heap.size), .val (.int (Int32.ofNat len)), .unset] [.ref s.heap.size])) := c7.trans (by
    refine XS.istore X6.here hexec rfl (hb hbytes d12) rfl rfl ?_
    refine XS.iload X6.here hexec rfl (hb hbytes d14) rfl ?_
    refine XS.iloadN X6.here hexec rfl (hb hbytes d16) rfl ?_
    refine XS.icmpYes X6.here hexec rfl (pc0 := 17) rfl (hb hbytes d17) rfl (ii_eq_t rfl) (by decide) rfl ?_
    refine XS.aloadN X6.here hexec rfl (hb hbytes d57) rfl rfl ?_
    exact Steps.refl _)
  have X8 := X6.wide (L' := []) (cells' := 1) (slots' := len) (fun x hx hlt => by
    simp only [List.nil_append, copyLocs, List.mem_map, List.mem_range] at hx
    obtain ⟨i, -, rfl⟩ := hx
    exact absurd hlt (Nat.lt_irrefl _)) (Nat.le_refl _) (by omega)
  exact ⟨T6, some (.ref s.heap.size), _, _, _, X8, rfl, rfl, rfl, (fun h => by cases h), ⟨⟨rfl, B6, ba3.like (X3.warmed.alike.symm.trans X6.warmed.alike) p6.1 f6.1 f6.2.1 f6.2.2.1, f6.2.1.trans bv3, by rw [X6.warmed.alike.findClass, f6.1]; exact bf3, by rw [f6.2.2.1, bs3]; simp, fun j hj => by rw [f6.2.2.2 j, if_pos (by omega)]; rfl, kp3.put p6 (Nat.le_refl _)⟩, by rw [p6.2.2, bh3, hh0]; simp⟩, fun fs hl => c8.trans (X8.areturnOut hexec rfl hret rfl (hb hbytes d58) hl)⟩
end Cmp3
namespace CodL
def yN : MethodName := ⟨"java/lang/StringUTF16", "coderFromArrayLen", "([BI)B"⟩
abbrev yB : ByteArray := jdk_52_method_15_code
theorem d0 : decode yB 0 = .ok (.iload_n 1, 1) := by decide +kernel
theorem d1 : decode yB 1 = .ok (.aload_n 0, 1) := by decide +kernel
theorem d2 : decode yB 2 = .ok (.arraylength, 1) := by decide +kernel
theorem d3 : decode yB 3 = .ok (.isub, 1) := by decide +kernel
theorem d4 : decode yB 4 = .ok (.bipush 31, 2) := by decide +kernel
theorem d6 : decode yB 6 = .ok (.iushr, 1) := by decide +kernel
theorem d7 : decode yB 7 = .ok (.i2b, 1) := by decide +kernel
theorem d8 : decode yB 8 = .ok (.ireturn, 1) := by decide +kernel
def site : List Cond := []
def tab : Cond := tabOf yN yB 2 (some .byte) site
def P (d : Addr) (B : Cell) (args : Array Value) (s : State) : Prop := args = #[.ref d, .int (Int32.ofNat B.slots.size)] ∧ Arr .byte d B s
def E (r : Option Value) (s u : State) : Prop := XT.PureE (some (.int 0)) r s u
/-- an array as long as the number of chars: LATIN1 -/
theorem law (l : Launch) (d : Addr) (B : Cell) : Law l yN 2 2 0 0 yB 2 (some .byte) site (P d B) E [] 0 0 := by
  refine Law.of_walk (plainFor_of_name (by decide +kernel)) (by decide +kernel) (by decide +kernel) (by decide) (fun _ _ h => by rw [h.1]; rfl) (fun _ U U' hal hh h => ⟨h.1, h.2.mv hal hh⟩) (fun r U U' V V' h1 hal h2 h => XT.PureE.mv r U U' V V' h1 hal h2 h) ?_
  intro p e s m args below meth c s₁ X0 hexec hbytes hml hret hlk hnm hown hh0 W hP
  obtain ⟨rfl, hB⟩ := hP
  have hB0 := hB.mv X0.warmed.alike hh0
  have c1 : Steps p.tables e below (s₁.setTop (entryFrame m #[.ref d, .int (Int32.ofNat B.slots.size)] 2)) (s₁.setTop (mkF m 0 #[.val (.ref d), .val (.int (Int32.ofNat B.slots.size))] [])) := entry rfl
  have c2 : Steps p.tables e below (s₁.setTop (entryFrame m #[.ref d, .int (Int32.ofNat B.slots.size)] 2)) (s₁.setTop (mkF m 2 #[.val (.ref d), .val (.int (Int32.ofNat B.slots.size))] [.ref d, .int (Int32.ofNat B.slots.size)])) := c1.trans (by
    refine XS.iloadN X0.here hexec rfl (hb hbytes d0) rfl ?_
    refine XS.aloadN X0.here hexec rfl (hb hbytes d1) rfl rfl ?_
    exact Steps.refl _)
  have c3 : Steps p.tables e below (s₁.setTop (entryFrame m #[.ref d, .int (Int32.ofNat B.slots.size)] 2)) (s₁.setTop (mkF m 8 #[.val (.ref d), .val (.int (Int32.ofNat B.slots.size))] [.int (lo8 (ushr (Int32.ofNat B.slots.size - Int32.ofNat B.slots.size) 31))])) := c2.trans (by
    refine X0.alen hexec hB0 rfl rfl (hb hbytes d2) ?_
    refine XS.isub X0.here hexec rfl (hb hbytes d3) rfl ?_
    refine bipushV X0.here hexec rfl 31 (hb hbytes d4) (by decide) ?_
    refine iushr X0.here hexec rfl (hb hbytes d6) rfl ?_
    refine i2b X0.here hexec rfl (hb hbytes d7) rfl ?_
    exact Steps.refl _)
  have e0 : lo8 (ushr (Int32.ofNat B.slots.size - Int32.ofNat B.slots.size) 31) = 0 := by rw [Int32.sub_self]; decide
  rw [e0] at c3
  exact ⟨s₁, some (.int 0), _, _, _, X0, rfl, rfl, rfl, (fun h => by cases h), ⟨rfl, hh0⟩, fun fs hl => c3.trans (X0.ireturnOut hexec hret rfl (Or.inr (Or.inr (Or.inl rfl))) (hb hbytes d8) hl)⟩
end CodL
/-- the String at a is Latin-1 over a new byte[] (the heap's one new cell): the low bytes of the len chars of A from o on; every cell but a is kept -/
def Got (a : Addr) (D : Cell) (fV fC : Field) (A : Cell) (o len : Nat) (r : Option Value) (s u : State) : Prop := r = none ∧ ∃ D' V : Cell, Blank "java/lang/String" a D' u ∧ Same D D' [fV.slot, fC.slot] ∧ D'.slots[fV.slot]? = some (.ref s.heap.size) ∧ D'.slots[fC.slot]? = some (.int 0) ∧ Arr .byte s.heap.size V u ∧ V.vm = .none ∧ u.vm.findClass "[B" = some V.cls ∧ V.slots.size = len ∧ (∀ j, j < len → V.slots[j]? = some (.int (lo8 (cv A (o + j))))) ∧ (∀ (y : Addr) (c : Cell), y ≠ a → s.heap[y]? = some c → u.heap[y]? = some c) ∧ u.heap.size = s.heap.size + 1
theorem Got.mv {a : Addr} {D A : Cell} {fV fC : Field} {o len : Nat} : ∀ r (U U' V V' : State), U'.heap = U.heap → V.vm.Alike V'.vm → V'.heap = V.heap → Got a D fV fC A o len r U V → Got a D fV fC A o len r U' V' :=
  fun r U U' V V' h1 hal h2 ⟨e0, D', X, a1, a2, a3, a4, a5, a6, a7, a8, a9, a10, a11⟩ => ⟨e0, D', X, a1.mv hal h2, a2, by rw [h1]; exact a3, a4, by rw [h1]; exact a5.mv hal h2, a6, by rw [hal.findClass]; exact a7, a8, a9, by rw [h1, h2]; exact a10, by rw [h1, h2]; exact a11⟩
namespace New4
def yN : MethodName := ⟨"java/lang/String", "<init>", "([CIILjava/lang/Void;)V"⟩
abbrev yB : ByteArray := jdk_42_method_149_code
theorem d0 : decode yB 0 = .ok (.aload_n 0, 1) := by decide +kernel
theorem d1 : decode yB 1 = .ok (.invokespecial 1, 3) := by decide +kernel
theorem d4 : decode yB 4 = .ok (.iload_n 3, 1) := by decide +kernel
theorem d5 : decode yB 5 = .ok (.ifCond (.ne) 22, 3) := by decide +kernel
theorem d27 : decode yB 27 = .ok (.getstatic 38, 3) := by decide +kernel
theorem d30 : decode yB 30 = .ok (.ifCond (.eq) 28, 3) := by decide +kernel
theorem d33 : decode yB 33 = .ok (.aload_n 1, 1) := by decide +kernel
theorem d34 : decode yB 34 = .ok (.iload_n 2, 1) := by decide +kernel
theorem d35 : decode yB 35 = .ok (.iload_n 3, 1) := by decide +kernel
theorem d36 : decode yB 36 = .ok (.invokestatic 177, 3) := by decide +kernel
theorem d39 : decode yB 39 = .ok (.astore 5, 2) := by decide +kernel
theorem d41 : decode yB 41 = .ok (.aload_n 0, 1) := by decide +kernel
theorem d42 : decode yB 42 = .ok (.aload 5, 2) := by decide +kernel
theorem d44 : decode yB 44 = .ok (.iload_n 3, 1) := by decide +kernel
theorem d45 : decode yB 45 = .ok (.invokestatic 47, 3) := by decide +kernel
theorem d48 : decode yB 48 = .ok (.putfield 15, 3) := by decide +kernel
theorem d51 : decode yB 51 = .ok (.aload_n 0, 1) := by decide +kernel
theorem d52 : decode yB 52 = .ok (.aload 5, 2) := by decide +kernel
theorem d54 : decode yB 54 = .ok (.putfield 9, 3) := by decide +kernel
theorem d57 : decode yB 57 = .ok (.return_, 1) := by decide +kernel
def site : List Cond := [.fieldLink "java/lang/String" 38 "java/lang/String" "COMPACT_STRINGS" "Z", Cmp3.tab, CodL.tab, .laysFinal "java/lang/String" "java/lang/String" "value" "[B", .fieldLink "java/lang/String" 9 "java/lang/String" "value" "[B", .laysFinal "java/lang/String" "java/lang/String" "coder" "B", .fieldLink "java/lang/String" 15 "java/lang/String" "coder" "B"] ++ objW "java/lang/String" 1 ++ staticW "java/lang/String" 177 Cmp3.yN ++ staticW "java/lang/String" 47 CodL.yN
def tab : Cond := tabOf yN yB 6 none site
def P (a : Addr) (D : Cell) (fV fC : Field) (b : Addr) (A : Cell) (z : Int32) (o len : Nat) (args : Array Value) (s : State) : Prop := args = #[.ref a, .ref b, .int (Int32.ofNat o), .int (Int32.ofNat len), .null] ∧ Blank "java/lang/String" a D s ∧ Found "java/lang/String" "value" "[B" fV s ∧ Found "java/lang/String" "coder" "B" fC s ∧ Ch b A s ∧ StaticIs s "java/lang/String" "COMPACT_STRINGS" "Z" (.int z) ∧ ¬ z = 0 ∧ 0 < len ∧ o + len ≤ A.slots.size ∧ len ≤ 536870912 ∧ ∀ i, i < len → ¬ 255 < cv A (o + i)
def E (a : Addr) (D : Cell) (fV fC : Field) (A : Cell) (o len : Nat) (r : Option Value) (s u : State) : Prop := Got a D fV fC A o len r s u
/-- len > 0, no char of the range above 255: a Latin-1 String of their low bytes -/
theorem law (l : Launch) (a : Addr) (D : Cell) (fV fC : Field) (b : Addr) (A : Cell) (z : Int32) (o len : Nat) : Law l yN 5 4 2 35 yB 6 none site (P a D fV fC b A z o len) (E a D fV fC A o len) [⟨a, fC.slot⟩, ⟨a, fV.slot⟩] 1 len := by
  refine Law.of_walk (plainFor_of_name (by decide +kernel)) (by decide +kernel) (by decide +kernel) (by decide) (fun _ _ h => by rw [h.1]; rfl) (fun _ U U' hal hh h => ⟨h.1, h.2.1.mv hal hh, h.2.2.1.al hal, h.2.2.2.1.al hal, h.2.2.2.2.1.mv hal hh, h.2.2.2.2.2.1.there hal hh, h.2.2.2.2.2.2⟩) (fun r U U' V V' h1 hal h2 h => Got.mv r U U' V V' h1 hal h2 h) ?_
  intro p e s m args below meth c s₁ X0 hexec hbytes hml hret hlk hnm hown hh0 W hP
  obtain ⟨rfl, hB, f1, f2, hA, s1, hz, l0, l1, l2, hp⟩ := hP
  have a31 := hA.1.2.2.2
  have c1 : Steps p.tables e below (s₁.setTop (entryFrame m #[.ref a, .ref b, .int (Int32.ofNat o), .int (Int32.ofNat len), .null] 6)) (s₁.setTop (mkF m 0 #[.val (.ref a), .val (.ref b), .val (.int (Int32.ofNat o)), .val (.int (Int32.ofNat len)), .val .null, .unset] [])) := entry rfl
  have c2 : Steps p.tables e below (s₁.setTop (entryFrame m #[.ref a, .ref b, .int (Int32.ofNat o), .int (Int32.ofNat len), .null] 6)) (s₁.setTop (mkF m 1 #[.val (.ref a), .val (.ref b), .val (.int (Int32.ofNat o)), .val (.int (Int32.ofNat len)), .val .null, .unset] [.ref a])) := c1.trans (by
    refine XS.aloadN X0.here hexec rfl (hb hbytes d0) rfl rfl ?_
    exact Steps.refl _)
  obtain ⟨T3, X3, q3, st3⟩ := X0.oinit hexec hown (wks W (objW "java/lang/String" 1)) (g := (mkF m 1 #[.val (.ref a), .val (.ref b), .val (.int (Int32.ofNat o)), .val (.int (Int32.ofNat len)), .val .null, .unset] [.ref a])) rfl (by rw [hml]; rfl) (rest := []) rfl (hb hbytes d1) (W := 0) (by show 2 * 0 + 0 ≤ _; decide) (Nat.le_of_ble_eq_true rfl) (Nat.le_of_ble_eq_true rfl)
  have hh3 := q3.trans hh0
  have c4 : Steps p.tables e below (s₁.setTop (entryFrame m #[.ref a, .ref b, .int (Int32.ofNat o), .int (Int32.ofNat len), .null] 6)) (T3.setTop (mkF m 27 #[.val (.ref a), .val (.ref b), .val (.int (Int32.ofNat o)), .val (.int (Int32.ofNat len)), .val .null, .unset] [])) := (c2.trans (st3 _ (Steps.refl _))).trans (by
    refine XS.iloadN X3.here hexec rfl (hb hbytes d4) rfl ?_
    refine XS.ifYes X3.here hexec rfl (pc0 := 5) rfl (hb hbytes d5) rfl (i0_ne_t (nz32 (by omega) l0)) (by decide) rfl ?_
    exact Steps.refl _)
  obtain ⟨T5, X5, q5, st5⟩ := X3.sget hexec hown (wk W (.fieldLink "java/lang/String" 38 "java/lang/String" "COMPACT_STRINGS" "Z")) s1 (fun _ _ h => by rw [hh3]; exact h) (g := (mkF m 27 #[.val (.ref a), .val (.ref b), .val (.int (Int32.ofNat o)), .val (.int (Int32.ofNat len)), .val .null, .unset] [])) rfl (hb hbytes d27)
  have hh5 := q5.trans hh3
  have c6 : Steps p.tables e below (s₁.setTop (entryFrame m #[.ref a, .ref b, .int (Int32.ofNat o), .int (Int32.ofNat len), .null] 6)) (T5.setTop (mkF m 30 #[.val (.ref a), .val (.ref b), .val (.int (Int32.ofNat o)), .val (.int (Int32.ofNat len)), .val .null, .unset] [.int z])) := c4.trans (st5 _ (Steps.refl _))
  have c7 : Steps p.tables e below (s₁.setTop (entryFrame m #[.ref a, .ref b, .int (Int32.ofNat o), .int (Int32.ofNat len), .null] 6)) (T5.setTop (mkF m 36 #[.val (.ref a), .val (.ref b), .val (.int (Int32.ofNat o)), .val (.int (Int32.ofNat len)), .val .null, .unset] [.int (Int32.ofNat len), .int (Int32.ofNat o), .ref b])) := c6.trans (by
    refine XS.ifNo X5.here hexec rfl (hb hbytes d30) rfl (i0_eq_f hz) ?_
    refine XS.aloadN X5.here hexec rfl (hb hbytes d33) rfl rfl ?_
    refine XS.iloadN X5.here hexec rfl (hb hbytes d34) rfl ?_
    refine XS.iloadN X5.here hexec rfl (hb hbytes d35) rfl ?_
    exact Steps.refl _)
  obtain ⟨v8, T8, X8, E8, g8⟩ := X5.callS hexec (Cmp3.law l b A o len) hown (wks W (staticW "java/lang/String" 177 Cmp3.yN)) (wk W Cmp3.tab) (W := 0) (Nat.le_of_ble_eq_true rfl) (Nat.le_of_ble_eq_true rfl) (Nat.le_refl _) (by show 0 + len ≤ len; omega) (g := (mkF m 36 #[.val (.ref a), .val (.ref b), .val (.int (Int32.ofNat o)), .val (.int (Int32.ofNat len)), .val .null, .unset] [.int (Int32.ofNat len), .int (Int32.ofNat o), .ref b])) rfl (by rw [hml]; rfl) c7 (argsL := [.ref b, .int (Int32.ofNat o), .int (Int32.ofNat len)]) (rest := []) rfl rfl (by show 2 * 0 + 0 ≤ _; decide) (hb hbytes d36) (⟨rfl, hA.mv X5.warmed.alike hh5, l1, l2, hp⟩)
  obtain ⟨e8, z8⟩ := E8
  obtain ⟨rfl, N, n1, n2, n3, n4, n5, n6⟩ := NewArr.mv _ T5 s _ _ hh5.symm (Vm.Alike.refl _) rfl e8
  rw [hh5] at z8
  have hB1 := hB.keep X8.warmed.alike (n6 _ _ hB.1)
  have hne : s.heap.size ≠ a := (Nat.ne_of_lt (Array.getElem?_eq_some_iff.mp hB.1).1).symm
  have c9 : Steps p.tables e below (s₁.setTop (entryFrame m #[.ref a, .ref b, .int (Int32.ofNat o), .int (Int32.ofNat len), .null] 6)) (T8.setTop (mkF m 39 #[.val (.ref a), .val (.ref b), .val (.int (Int32.ofNat o)), .val (.int (Int32.ofNat len)), .val .null, .unset] [.ref s.heap.size])) := g8
  have c10 : Steps p.tables e below (s₁.setTop (entryFrame m #[.ref a, .ref b, .int (Int32.ofNat o), .int (Int32.ofNat len), .null] 6)) (T8.setTop (mkF m 45 #[.val (.ref a), .val (.ref b), .val (.int (Int32.ofNat o)), .val (.int (Int32.ofNat len)), .val .null, .val (.ref s.heap.size)] [.int (Int32.ofNat N.slots.size), .ref s.heap.size, .ref a])) := by
    have hc : Steps p.tables e below (s₁.setTop (entryFrame m #[.ref a, .ref b, .int (Int32.ofNat o), .int (Int32.ofNat len), .null] 6)) (T8.setTop (mkF m 45 #[.val (.ref a), .val (.ref b), .val (.int (Int32.ofNat o)), .val (.int (Int32.ofNat len)), .val .null, .val (.ref s.heap.size)] [.int (Int32.ofNat len), .ref s.heap.size, .ref a])) := c9.trans (by
      refine XS.astore X8.here hexec rfl (hb hbytes d39) rfl rfl rfl ?_
      refine XS.aloadN X8.here hexec rfl (hb hbytes d41) rfl rfl ?_
      refine XS.aload X8.here hexec rfl (hb hbytes d42) rfl rfl ?_
      refine XS.iloadN X8.here hexec rfl (hb hbytes d44) rfl ?_
      exact Steps.refl _)
    rw [n4]; exact hc
  obtain ⟨v11, T11, X11, E11, g11⟩ := X8.callS hexec (CodL.law l s.heap.size N) hown (wks W (staticW "java/lang/String" 47 CodL.yN)) (wk W CodL.tab) (W := 1) (Nat.le_of_ble_eq_true rfl) (Nat.le_of_ble_eq_true rfl) (Nat.le_refl _) (by show 0 + len + 0 ≤ len; omega) (g := (mkF m 45 #[.val (.ref a), .val (.ref b), .val (.int (Int32.ofNat o)), .val (.int (Int32.ofNat len)), .val .null, .val (.ref s.heap.size)] [.int (Int32.ofNat N.slots.size), .ref s.heap.size, .ref a])) rfl (by rw [hml]; rfl) c10 (argsL := [.ref s.heap.size, .int (Int32.ofNat N.slots.size)]) (rest := [.ref a]) rfl rfl (by show 2 * 0 + (1 + 0) ≤ _; decide) (hb hbytes d45) (⟨rfl, n1⟩)
  obtain ⟨rfl, q11⟩ := E11
  have hB11 := hB1.mv (X8.warmed.alike.symm.trans X11.warmed.alike) q11
  have c12 : Steps p.tables e below (s₁.setTop (entryFrame m #[.ref a, .ref b, .int (Int32.ofNat o), .int (Int32.ofNat len), .null] 6)) (T11.setTop (mkF m 48 #[.val (.ref a), .val (.ref b), .val (.int (Int32.ofNat o)), .val (.int (Int32.ofNat len)), .val .null, .val (.ref s.heap.size)] [.int 0, .ref a])) := g11
  obtain ⟨T13, X13, p13, bl13, sl13, st13⟩ := X11.finit hexec hown (wk W (.fieldLink "java/lang/String" 15 "java/lang/String" "coder" "B")) (Or.inr ⟨_, (wk W (.laysFinal "java/lang/String" "java/lang/String" "coder" "B"))⟩) (Or.inl ⟨rfl, hnm⟩) f2 (Or.inl rfl) hB11 (t := .byte) (by decide +kernel) rfl (g := (mkF m 48 #[.val (.ref a), .val (.ref b), .val (.int (Int32.ofNat o)), .val (.int (Int32.ofNat len)), .val .null, .val (.ref s.heap.size)] [.int 0, .ref a])) rfl (rest := []) rfl (hb hbytes d48)
  have c14 : Steps p.tables e below (s₁.setTop (entryFrame m #[.ref a, .ref b, .int (Int32.ofNat o), .int (Int32.ofNat len), .null] 6)) (T13.setTop (mkF m 54 #[.val (.ref a), .val (.ref b), .val (.int (Int32.ofNat o)), .val (.int (Int32.ofNat len)), .val .null, .val (.ref s.heap.size)] [.ref s.heap.size, .ref a])) := (c12.trans (st13 _ (Steps.refl _))).trans (by
    refine XS.aloadN X13.here hexec rfl (hb hbytes d51) rfl rfl ?_
    refine XS.aload X13.here hexec rfl (hb hbytes d52) rfl rfl ?_
    exact Steps.refl _)
  obtain ⟨T15, X15, p15, bl15, sl15, st15⟩ := X13.finit hexec hown (wk W (.fieldLink "java/lang/String" 9 "java/lang/String" "value" "[B")) (Or.inr ⟨_, (wk W (.laysFinal "java/lang/String" "java/lang/String" "value" "[B"))⟩) (Or.inl ⟨rfl, hnm⟩) f1 (Or.inl rfl) bl13 (t := (.array .byte)) (by decide +kernel) rfl (g := (mkF m 54 #[.val (.ref a), .val (.ref b), .val (.int (Int32.ofNat o)), .val (.int (Int32.ofNat len)), .val .null, .val (.ref s.heap.size)] [.ref s.heap.size, .ref a])) rfl (rest := []) rfl (hb hbytes d54)
  have c16 : Steps p.tables e below (s₁.setTop (entryFrame m #[.ref a, .ref b, .int (Int32.ofNat o), .int (Int32.ofNat len), .null] 6)) (T15.setTop (mkF m 57 #[.val (.ref a), .val (.ref b), .val (.int (Int32.ofNat o)), .val (.int (Int32.ofNat len)), .val .null, .val (.ref s.heap.size)] [])) := c14.trans (st15 _ (Steps.refl _))
  have ap := apart (Or.inr ⟨_, (wk W (.laysFinal "java/lang/String" "java/lang/String" "value" "[B"))⟩) (Or.inr ⟨_, (wk W (.laysFinal "java/lang/String" "java/lang/String" "coder" "B"))⟩) f1 f2 (t₁ := .array .byte) (t₂ := .byte) (by decide +kernel) (by decide +kernel) (by decide)
  have al := X8.warmed.alike.symm.trans X15.warmed.alike
  have n7 : T11.heap[s.heap.size]? = some N := by rw [q11]; exact n1.1
  exact ⟨T15, none, _, _, _, X15, by simp, rfl, by omega, (fun _ => rfl), ⟨rfl, _, N, bl15, ((Same.refl D _).set _ (by simp)).set _ (by simp), sl15, (Cell.slots_setSlot_ne _ ap).trans sl13, n1.keep al (p15.other hne (p13.other hne n7)), n2, by rw [al.findClass]; exact n3, n4, n5, fun y c h1 h2 => p15.other h1 (p13.other h1 (by rw [q11]; exact n6 y c h2)), by rw [p15.2.2, p13.2.2, q11]; exact z8⟩, fun fs hl => c16.trans (X15.returnOut hexec hret (hb hbytes d57) hl)⟩
end New4
namespace New1
def yN : MethodName := ⟨"java/lang/String", "<init>", "([C)V"⟩
abbrev yB : ByteArray := jdk_42_method_3_code
theorem d0 : decode yB 0 = .ok (.aload_n 0, 1) := by decide +kernel
theorem d1 : decode yB 1 = .ok (.aload_n 1, 1) := by decide +kernel
theorem d2 : decode yB 2 = .ok (.iconst 0, 1) := by decide +kernel
theorem d3 : decode yB 3 = .ok (.aload_n 1, 1) := by decide +kernel
theorem d4 : decode yB 4 = .ok (.arraylength, 1) := by decide +kernel
theorem d5 : decode yB 5 = .ok (.aconst_null, 1) := by decide +kernel
theorem d6 : decode yB 6 = .ok (.invokespecial 27, 3) := by decide +kernel
theorem d9 : decode yB 9 = .ok (.return_, 1) := by decide +kernel
def site : List Cond := [New4.tab] ++ initW "java/lang/String" 27 New4.yN
def tab : Cond := tabOf yN yB 2 none site
def P (a : Addr) (D : Cell) (fV fC : Field) (b : Addr) (A : Cell) (z : Int32) (args : Array Value) (s : State) : Prop := args = #[.ref a, .ref b] ∧ Blank "java/lang/String" a D s ∧ Found "java/lang/String" "value" "[B" fV s ∧ Found "java/lang/String" "coder" "B" fC s ∧ Ch b A s ∧ StaticIs s "java/lang/String" "COMPACT_STRINGS" "Z" (.int z) ∧ ¬ z = 0 ∧ 0 < A.slots.size ∧ A.slots.size ≤ 536870912 ∧ ∀ i, i < A.slots.size → ¬ 255 < cv A i
def E (a : Addr) (D : Cell) (fV fC : Field) (A : Cell) (r : Option Value) (s u : State) : Prop := Got a D fV fC A 0 A.slots.size r s u
/-- new String(chars), not empty, no char above 255: a Latin-1 String of their low bytes -/
theorem law (l : Launch) (a : Addr) (D : Cell) (fV fC : Field) (b : Addr) (A : Cell) (z : Int32) : Law l yN 2 1 3 52 yB 2 none site (P a D fV fC b A z) (E a D fV fC A) [⟨a, fC.slot⟩, ⟨a, fV.slot⟩] 1 A.slots.size := by
  refine Law.of_walk (plainFor_of_name (by decide +kernel)) (by decide +kernel) (by decide +kernel) (by decide) (fun _ _ h => by rw [h.1]; rfl) (fun _ U U' hal hh h => ⟨h.1, h.2.1.mv hal hh, h.2.2.1.al hal, h.2.2.2.1.al hal, h.2.2.2.2.1.mv hal hh, h.2.2.2.2.2.1.there hal hh, h.2.2.2.2.2.2⟩) (fun r U U' V V' h1 hal h2 h => Got.mv r U U' V V' h1 hal h2 h) ?_
  intro p e s m args below meth c s₁ X0 hexec hbytes hml hret hlk hnm hown hh0 W hP
  obtain ⟨rfl, hB, f1, f2, hA, s1, hz, l0, l2, hp⟩ := hP
  have c1 : Steps p.tables e below (s₁.setTop (entryFrame m #[.ref a, .ref b] 2)) (s₁.setTop (mkF m 0 #[.val (.ref a), .val (.ref b)] [])) := entry rfl
  have c2 : Steps p.tables e below (s₁.setTop (entryFrame m #[.ref a, .ref b] 2)) (s₁.setTop (mkF m 6 #[.val (.ref a), .val (.ref b)] [.null, .int (Int32.ofNat A.slots.size), .int 0, .ref b, .ref a])) := c1.trans (by
    refine XS.aloadN X0.here hexec rfl (hb hbytes d0) rfl rfl ?_
    refine XS.aloadN X0.here hexec rfl (hb hbytes d1) rfl rfl ?_
    refine iconstV X0.here hexec rfl 0 (hb hbytes d2) (by decide) ?_
    refine XS.aloadN X0.here hexec rfl (hb hbytes d3) rfl rfl ?_
    refine X0.alen hexec (hA.1.mv X0.warmed.alike hh0) rfl rfl (hb hbytes d4) ?_
    refine XS.aconstNull X0.here hexec rfl (hb hbytes d5) ?_
    exact Steps.refl _)
  obtain ⟨v3, T3, X3, E3, g3⟩ := X0.callN hexec (New4.law l a D fV fC b A z 0 A.slots.size) rfl hown (wks W (initW "java/lang/String" 27 New4.yN)) (W New4.tab (by simp only [site, List.mem_cons, List.mem_append, true_or, or_true])) (W := 0) (Nat.le_of_ble_eq_true rfl) (Nat.le_of_ble_eq_true rfl) (Nat.le_refl _) (by show 0 + A.slots.size ≤ A.slots.size; omega) (g := (mkF m 6 #[.val (.ref a), .val (.ref b)] [.null, .int (Int32.ofNat A.slots.size), .int (Int32.ofNat 0), .ref b, .ref a])) rfl (by rw [hml]; rfl) c2 (argsL := [.ref b, .int (Int32.ofNat 0), .int (Int32.ofNat A.slots.size), .null]) (rest := []) rfl rfl (by show 2 * 0 + 0 ≤ _; decide) (hb hbytes d6) (⟨rfl, hB.mv X0.warmed.alike hh0, f1.al X0.warmed.alike, f2.al X0.warmed.alike, hA.mv X0.warmed.alike hh0, s1.there X0.warmed.alike hh0, hz, l0, by omega, l2, fun i hi => by rw [Nat.zero_add]; exact hp i hi⟩)
  have e0 := Got.mv _ s₁ s _ _ hh0.symm (Vm.Alike.refl _) rfl E3
  obtain rfl := e0.1
  have c4 : Steps p.tables e below (s₁.setTop (entryFrame m #[.ref a, .ref b] 2)) (T3.setTop (mkF m 9 #[.val (.ref a), .val (.ref b)] [])) := g3
  exact ⟨T3, none, _, _, _, X3, by simp, rfl, by omega, (fun _ => rfl), e0, fun fs hl => c4.trans (X3.returnOut hexec hret (hb hbytes d9) hl)⟩
theorem pays {l : Launch} {R : Room} {p : Program} {e : Env} {below : List Frame} {s : State} {sargs : Array Value} {len W : Nat} (a : Addr) (D : Cell) (fV fC : Field) (b : Addr) (A : Cell) (z : Int32) (htab : tab.before sargs s = true) (hfr : 4 ≤ R.frames) (hlo : W + 65 ≤ R.locals) :
    Back l R p e below s sargs yN len W (fun A₁ a₁ => A₁.cells + 1 ≤ R.cells ∧ A₁.slots + A.slots.size ≤ R.slots ∧ P a D fV fC b A z a₁ A₁.U) (fun A₁ _ v₁ B₁ => E a D fV fC A v₁ A₁.U B₁.U ∧ B₁.locs = A₁.locs ++ [⟨a, fC.slot⟩, ⟨a, fV.slot⟩] ∧ B₁.cells = A₁.cells + 1 ∧ B₁.slots = A₁.slots + A.slots.size) :=
  (law l a D fV fC b A z).pays htab hfr (by omega)
end New1
end StrChars
namespace StrChars.Road
open Jvm Sem ClassFile Op Lib Jvm.Stand Jvm.Free Jvm.Free.XT
open Jvm.Lib.Cold (StaticIs)
abbrev ST : String := "java/lang/String"
/-- every table word that New1's law asks, flat -/
abbrev words : List Jvm.Cond := [.code New1.yN New1.yB 2 none, .initialized ST, .methodLink ST 27 New4.yN, .instanceMethod New4.yN,
  .code New4.yN New4.yB 6 none, .fieldLink ST 38 ST "COMPACT_STRINGS" "Z", .laysFinal ST ST "value" "[B", .fieldLink ST 9 ST "value" "[B", .laysFinal ST ST "coder" "B", .fieldLink ST 15 ST "coder" "B",
  .methodLink ST 1 Lib.objectInit, .instanceMethod Lib.objectInit, .code Lib.objectInit ⟨#[0xb1]⟩ 1 none, .methodLink ST 177 Cmp3.yN, .static Cmp3.yN, .methodLink ST 47 CodL.yN, .static CodL.yN,
  .code Cmp3.yN Cmp3.yB 6 (some (.array .byte)), .initialized U16, .arrayClass .byte, .methodLink U16 115 Cmp5.yN, .static Cmp5.yN, .code Cmp5.yN Cmp5.yB 7 (some .int), .code CodL.yN CodL.yB 2 (some .byte)]
theorem tab_of {a : Array Value} {s : State} (h : ∀ w ∈ words, w.before a s = true) : New1.tab.before a s = true := by
  have h5 : Cmp5.tab.before a s = true := unparts (wk h (.code Cmp5.yN Cmp5.yB 7 (some .int))) (wks h (.initialized Cmp5.yN.cls :: Cmp5.site))
  have hc : CodL.tab.before a s = true := unparts (wk h (.code CodL.yN CodL.yB 2 (some .byte))) (wks h (.initialized CodL.yN.cls :: CodL.site))
  have q5 : ∀ w ∈ Cmp5.tab :: words, w.before a s = true := fun w hw => (List.mem_cons.mp hw).elim (fun e => e ▸ h5) (h w)
  have h3 : Cmp3.tab.before a s = true := unparts (wk q5 (.code Cmp3.yN Cmp3.yB 6 (some (.array .byte)))) (wks q5 (.initialized Cmp3.yN.cls :: Cmp3.site))
  have q3 : ∀ w ∈ Cmp3.tab :: CodL.tab :: words, w.before a s = true := fun w hw => (List.mem_cons.mp hw).elim (fun e => e ▸ h3) fun hw => (List.mem_cons.mp hw).elim (fun e => e ▸ hc) (h w)
  have h4 : New4.tab.before a s = true := unparts (wk q3 (.code New4.yN New4.yB 6 none)) (wks q3 (.initialized New4.yN.cls :: New4.site))
  have q4 : ∀ w ∈ New4.tab :: words, w.before a s = true := fun w hw => (List.mem_cons.mp hw).elim (fun e => e ▸ h4) (h w)
  exact unparts (wk q4 (.code New1.yN New1.yB 2 none)) (wks q4 (.initialized New1.yN.cls :: New1.site))
/-- the words ride from the start Z to the walk's own state -/
theorem moved {Z s : State} {a0 args : Array Value} (hZ : Z.Warmed39 s.vm) (hw : ∀ d ∈ words, d.before a0 Z = true) : ∀ d ∈ words, d.before args s = true := fun d hd => by
  have q := hw d hd
  have t : ∀ d ∈ words, d = .arrayClass .byte ∨ (d.onTables && d.keepsFace) = true := by decide +kernel
  rcases t d hd with rfl | t
  · exact RoadKit.mvA hZ q
  · exact RoadKit.mv hZ q t
/-- WHAT COMES BACK, over the tables of the start Z: h the heap at the call, h' behind it -/
def Q (Z : State) (x : Addr) (A : Cell) (h : Heap) (v : Option Value) (h' : Heap) (L : List Loc) : Prop := v = none ∧ (∀ y ∈ L, y.base = x) ∧ RoadKit.Keep h h' [x] ∧ h'.size = h.size + 1 ∧ RoadKit.Exa Z h' x ST ∧ RoadKit.Fld Z h' x ST "value" "[B" (.ref h.size) ∧ RoadKit.Fld Z h' x ST "coder" "B" (.int 0) ∧
  (∃ V : Cell, RoadKit.Arr Z h' h.size V .byte ∧ V.vm = .none ∧ Z.vm.findClass "[B" = some V.cls ∧ V.slots.size = A.slots.size ∧ ∀ j, j < A.slots.size → V.slots[j]? = some (.int (lo8 (cv A j)))) ∧
  ∀ (O n d : String) (w : Value), RoadKit.Fld Z h x O n d w → RoadKit.slotOf Z O n d ≠ RoadKit.slotOf Z ST "value" "[B" → RoadKit.slotOf Z O n d ≠ RoadKit.slotOf Z ST "coder" "B" → RoadKit.Fld Z h' x O n d w
/-- **new String(chars) AT A CALL, IN THE ROAD'S FORM**: for specialBack behind newO: x the fresh String, b the char[] with the cell A -/
theorem back {p : Program} {l : Launch} {e : Env} {R : Room} {s : State} {args : Array Value} {below : List Frame} {len W : Nat} {Z : State} {a0 : Array Value} {h : Heap} (hZ : Z.Warmed39 s.vm) (hw : ∀ d ∈ words, d.before a0 Z = true) {kI : Nat} (wi : (Jvm.Cond.instantiable ST kI).before a0 Z = true)
    {x b : Addr} {A : Cell} {z : Int32} {v0 c0 : Value} (E : RoadKit.Exa Z h x ST) (V : RoadKit.Fld Z h x ST "value" "[B" v0) (C : RoadKit.Fld Z h x ST "coder" "B" c0) (K : RoadKit.Arr Z h b A .char) (hty : Typed .char A) (S : RoadKit.Sta Z h ST "COMPACT_STRINGS" "Z" (.int z)) (hz : ¬ z = 0)
    (l0 : 0 < A.slots.size) (l2 : A.slots.size ≤ 536870912) (hp : ∀ i, i < A.slots.size → ¬ 255 < cv A i) (hfr : 4 ≤ R.frames) (hlo : W + 65 ≤ R.locals) :
    Back l R p e below s args New1.yN len W (fun P a => a = #[.ref x, .ref b] ∧ P.U.heap = h ∧ P.cells + 1 ≤ R.cells ∧ P.slots + A.slots.size ≤ R.slots)
      (fun P _ v B => ∃ L, Q Z x A h v B.U.heap L ∧ B.locs = P.locs ++ L ∧ B.cells = P.cells + 1 ∧ B.slots = P.slots + A.slots.size) := by
  intro m meth c P g ig mk a X hg hsize hdg hW hn hp'
  obtain ⟨rfl, rfl, r1, r2⟩ := hp'
  have al : Z.vm.Alike P.U.vm := hZ.alike.trans X.warmed.alike
  obtain ⟨D, cfV, kV, iV, fV, hD, gV, stV, knV, obV, asV, slV⟩ := id V
  obtain ⟨D', cfC, kC, iC, fC, hD', gC, stC, -, -, asC, slC⟩ := id C
  cases hD.symm.trans hD'
  obtain ⟨D2, kD, e1, e2, e3, e4, e5⟩ := id E
  cases hD.symm.trans e1
  obtain ⟨c2, k2, i1, i2, i3, -⟩ := Cond.instantiable_spec wi
  cases e2.symm.trans i1
  cases e3.symm.trans i2
  obtain ⟨kU, u1, u2⟩ := al.2.2 _ _ e3
  have hB : Blank ST x D P.U := ⟨hD, ⟨knV, fun q hq => by rw [hq] at obV; cases obV⟩, by rw [al.findClass]; exact e2, kU, u1, by rw [u2]; exact i3, by rw [u2]; exact e5 i3⟩
  have F1 : Found ST "value" "[B" fV P.U := ⟨SBG.found_only al ⟨cfV, kV, iV, gV⟩, stV⟩
  have F2 : Found ST "coder" "B" fC P.U := ⟨SBG.found_only al ⟨cfC, kC, iC, gC⟩, stC⟩
  have hA : Ch b A P.U := ⟨⟨K.1, State.isArrayOf_alike al K.2.1, K.2.2, by omega⟩, hty⟩
  have hS : StaticIs P.U ST "COMPACT_STRINGS" "Z" (.int z) := by
    obtain ⟨cfS, iS, kS, fS, st, cS, t1, t2, t3, t4, t5, t6, t7⟩ := S
    exact StaticIs.there (s := { Z with heap := P.U.heap }) ⟨cfS, iS, kS, fS, st, cS, t1, t2, t3, t4, t5, (fun q => by rw [q] at t6; cases t6), t7⟩ al rfl
  obtain ⟨v, B, X', ⟨⟨hv, E', V', q1, q2, q3, q4, q5, q6, q7, q8, q9, q10, q11⟩, hl, hc, hs⟩, st⟩ := New1.pays x D fV fC b A z (tab_of (moved hZ hw)) hfr hlo m meth c P g ig mk _ X hg hsize hdg hW hn ⟨r1, r2, rfl, hB, F1, F2, hA, hS, hz, l0, l2, hp⟩
  have al' : Z.vm.Alike B.U.vm := hZ.alike.trans X'.warmed.alike
  have hsz : E'.slots.size = D.slots.size := by
    obtain ⟨-, -, -, kB, w1, w2, w3⟩ := q1
    obtain ⟨kB', y1, y2⟩ := al'.2.2 _ _ e3
    rw [q2.2.1] at w1
    cases w1.symm.trans y1
    rw [w3, e5 i3, y2]
  refine ⟨v, B, X', ⟨_, ⟨hv, ?_, ⟨by omega, fun y cy hy hn' => q10 y cy (by simpa using hn') hy, fun y cy hy => ?_⟩, q11, ⟨E', _, q1.1, by rw [q2.2.1]; exact e2, by rw [q2.2.1]; exact e3, by rw [q2.1]; exact obV, fun _ => by rw [hsz]; exact e5 i3⟩,
    ⟨E', cfV, kV, iV, fV, q1.1, gV, stV, by rw [q2.1]; exact knV, by rw [q2.1]; exact obV, by rw [q2.2.1]; exact asV, q3⟩, ⟨E', cfC, kC, iC, fC, q1.1, gC, stC, by rw [q2.1]; exact knV, by rw [q2.1]; exact obV, by rw [q2.2.1]; exact asC, q4⟩,
    ⟨V', ⟨q5.1, State.isArrayOf_alike al'.symm q5.2.1, q5.2.2.1⟩, q6, by rw [← al'.findClass]; exact q7, q8, fun j hj => by have := q9 j hj; rwa [Nat.zero_add] at this⟩, fun O n d w F n1 n2 => ?_⟩, hl, hc, hs⟩, st⟩
  · intro y hy
    simp only [List.mem_cons, List.not_mem_nil, or_false] at hy
    rcases hy with rfl | rfl <;> rfl
  · by_cases q : y = x
    · subst q
      cases hD.symm.trans hy
      exact ⟨E', q1.1, q2.2.1, q2.1, hsz⟩
    · exact ⟨cy, q10 y cy q hy, rfl, rfl, rfl⟩
  · obtain ⟨D3, cf, k, i, f, g1, g2, g3, g4, g5, g6, g7⟩ := F
    cases hD.symm.trans g1
    simp only [RoadKit.slotOf, g2, gV, gC, Option.map_some, Option.getD_some] at n1 n2
    exact ⟨E', cf, k, i, f, q1.1, g2, g3, by rw [q2.1]; exact g4, by rw [q2.1]; exact g5, by rw [q2.2.1]; exact g6, by rw [q2.2.2 f.slot (by simp [n1, n2])]; exact g7⟩
end StrChars.Road
namespace StrChars.Road
open Jvm Sem ClassFile Op Lib Jvm.Stand Jvm.Free Jvm.Free.XT
/-- WHAT COMES BACK, the byte[] as a list of values -/
def QA (Z : State) (x : Addr) (zn : Int32) (cs : List Int32) (h : Heap) (v : Option Value) (h' : Heap) (L : List Loc) : Prop := v = none ∧ (∀ y ∈ L, y.base = x) ∧ RoadKit.Keep h h' [x] ∧ h'.size = h.size + 1 ∧ RoadKit.Exa Z h' x ST ∧ RoadKit.Fld Z h' x ST "value" "[B" (.ref h.size) ∧ RoadKit.Fld Z h' x ST "coder" "B" (.int 0) ∧
  (∃ kb, Z.vm.findClass "[B" = some kb ∧ RoadKit.Arv Z h' h.size kb .byte zn (cs.map fun c => .int (lo8 c)) (.int 0)) ∧
  ∀ (O n d : String) (w : Value), RoadKit.Fld Z h x O n d w → RoadKit.slotOf Z O n d ≠ RoadKit.slotOf Z ST "value" "[B" → RoadKit.slotOf Z O n d ≠ RoadKit.slotOf Z ST "coder" "B" → RoadKit.Fld Z h' x O n d w
/-- **new String(chars) AT A CALL, THE ARRAYS AS LISTS**: the char[] at b holds cs, not empty, no char above 255 -/
theorem backArv {p : Program} {l : Launch} {e : Env} {R : Room} {s : State} {args : Array Value} {below : List Frame} {len W : Nat} {Z : State} {a0 : Array Value} {h : Heap} (hZ : Z.Warmed39 s.vm) (hw : ∀ d ∈ words, d.before a0 Z = true) {kI : Nat} (wi : (Jvm.Cond.instantiable ST kI).before a0 Z = true)
    {x b : Addr} {k : ClassId} {zn z : Int32} {cs : List Int32} {dv v0 c0 : Value} (E : RoadKit.Exa Z h x ST) (V : RoadKit.Fld Z h x ST "value" "[B" v0) (C : RoadKit.Fld Z h x ST "coder" "B" c0) (K : RoadKit.Arv Z h b k .char zn (cs.map Value.int) dv) (S : RoadKit.Sta Z h ST "COMPACT_STRINGS" "Z" (.int z)) (hz : ¬ z = 0)
    (hlen : zn.toNatClampNeg = cs.length) (h0 : 0 < cs.length) (hbig : cs.length ≤ 536870912) (hall : ∀ c ∈ cs, ¬ 255 < c) (hfr : 4 ≤ R.frames) (hlo : W + 65 ≤ R.locals) :
    Back l R p e below s args New1.yN len W (fun P a => a = #[.ref x, .ref b] ∧ P.U.heap = h ∧ P.cells + 1 ≤ R.cells ∧ P.slots + cs.length ≤ R.slots)
      (fun P _ v B => ∃ L, QA Z x zn cs h v B.U.heap L ∧ B.locs = P.locs ++ L ∧ B.cells = P.cells + 1 ∧ B.slots = P.slots + cs.length) := by
  obtain ⟨A, K1, K2, K3, K4, K5, K6⟩ := K
  have e : A.slots.size = cs.length := K3.trans hlen
  have hat : ∀ (i : Nat) (hi : i < cs.length), A.slots[i]? = some (.int cs[i]) := fun i hi => by rw [K5 i (by omega)]; simp [List.getD_eq_getElem?_getD, hi]
  have hcv : ∀ (i : Nat) (hi : i < cs.length), cv A i = cs[i] := fun i hi => by unfold cv; rw [hat i hi]
  have hty : Typed .char A := fun i v hv => by
    have hi : i < A.slots.size := (Array.getElem?_eq_some_iff.mp hv).1
    have q := K5 i hi
    rw [hv] at q
    rw [Option.some.inj q]
    exact K6 i hi
  refine Back.mono (back hZ hw wi E V C K1 hty S hz (by omega) (by omega) (fun i hi => by rw [hcv i (by omega)]; exact hall _ (List.getElem_mem _)) hfr hlo) (fun P a hp => ⟨hp.1, hp.2.1, hp.2.2.1, by rw [e]; exact hp.2.2.2⟩) (fun P a v B hp hq => ?_)
  obtain ⟨L, ⟨q1, q2, q3, q4, q5, q6, q7, ⟨V', v1, v2, v3, v4, v5⟩, q9⟩, hl, hc, hs⟩ := hq
  refine ⟨L, ⟨q1, q2, q3, q4, q5, q6, q7, ⟨V'.cls, v3, V', v1, rfl, by rw [v4, e, hlen], K4, fun i hi => ?_, fun i hi => ?_⟩, q9⟩, hl, hc, by rw [hs, e]⟩
  · have hi' : i < cs.length := by omega
    rw [v5 i (by omega), hcv i hi']; simp [List.getD_eq_getElem?_getD, hi']
  · have hi' : i < cs.length := by omega
    simp only [List.getD_eq_getElem?_getD, List.getElem?_map, List.getElem?_eq_getElem hi', Option.map_some, Option.getD_some]
    exact fits_lo8 _
end StrChars.Road
namespace StrChars.Road
open Jvm Sem ClassFile Op Lib Jvm.Stand Jvm.Free Jvm.Free.XT
/-- WHAT COMES BACK, in the writer's own shape -/
def QV (Z : State) (x : Addr) (N : Int32) (bs : List Int32) (h : Heap) (n0 : Nat) (v : Option Value) (h' : Heap) (L : List Loc) : Prop := v = none ∧ RoadKit.Fr n0 L ∧ RoadKit.Keep h h' [x] ∧ RoadKit.Exa Z h' x ST ∧ RoadKit.Fld Z h' x ST "coder" "B" (.int 0) ∧
  ∃ (t : Addr) (kb : ClassId), n0 ≤ t ∧ h.size ≤ t ∧ ¬ t = x ∧ RoadKit.Fld Z h' x ST "value" "[B" (.ref t) ∧ RoadKit.Arv Z h' t kb .byte N (bs.map Value.int) (.int 0)
/-- **new String(chars) AT A CALL, FOR THE WRITER**: a char[] of n known ints, each 0 to 255 -/
theorem backV {p : Program} {l : Launch} {e : Env} {R : Room} {s : State} {args : Array Value} {below : List Frame} {len W : Nat} {Z : State} {a0 : Array Value} {h : Heap} (hZ : Z.Warmed39 s.vm) (hw : ∀ d ∈ words, d.before a0 Z = true) {kI : Nat} (wi : (Jvm.Cond.instantiable ST kI).before a0 Z = true)
    {x b : Addr} {kC : ClassId} {cs bs : List Int32} {d v0 c0 : Value} {z N : Int32} {n n0 : Nat} (hx0 : n0 ≤ x) (hh0 : n0 ≤ h.size) (E : RoadKit.Exa Z h x ST) (V : RoadKit.Fld Z h x ST "value" "[B" v0) (C : RoadKit.Fld Z h x ST "coder" "B" c0) (K : RoadKit.Arv Z h b kC .char N (cs.map Value.int) d) (S : RoadKit.Sta Z h ST "COMPACT_STRINGS" "Z" (.int z)) (hz : ¬ z = 0)
    (hn : cs.length = n) (hN : N = Int32.ofNat n) (l0 : 0 < n) (l2 : n ≤ 4000) (hp : ∀ c ∈ cs, ¬ c < 0 ∧ ¬ (255 : Int32) < c) (hb : bs = cs.map (fun c => c.toInt8.toInt32)) (hfr : 4 ≤ R.frames) (hlo : W + 65 ≤ R.locals) :
    Back l R p e below s args (⟨"java/lang/String", "<init>", "([C)V"⟩ : MethodName) len W (fun P a => a = #[.ref x, .ref b] ∧ P.U.heap = h ∧ P.cells + 1 ≤ R.cells ∧ P.slots + n ≤ R.slots)
      (fun P _ v B => ∃ L, QV Z x N bs h n0 v B.U.heap L ∧ B.locs = P.locs ++ L ∧ B.cells = P.cells + 1 ∧ B.slots = P.slots + n) := by
  subst hn hN hb
  refine Back.mono (backArv hZ hw wi E V C K S hz (n32 (by omega)) l0 (by omega) (fun c hc => (hp c hc).2) hfr hlo) (fun P a hp => hp) (fun P a v B hp hq => ?_)
  obtain ⟨L, ⟨q1, q2, q3, q4, q5, q6, q7, ⟨kb, v1, v2⟩, q9⟩, hl, hc, hs⟩ := hq
  exact ⟨L, ⟨q1, fun y hy => by rw [q2 y hy]; exact hx0, q3, q5, q7, h.size, kb, hh0, Nat.le_refl _, Nat.ne_of_gt E.lt, q6, by rw [List.map_map]; exact v2⟩, hl, hc, hs⟩
end StrChars.Road
end Jvm.Pilot.@@N@@
namespace Jvm.Pilot.@@N@@
open Jvm Jvm.ClassFile Sem Op Lib Jvm.Free Jvm.Stand Jvm.LawKit Jvm.RoadKit Bundle Jvm.Pilot.@@N@@.Jvm.D
theorem own_exa_ns {Z : State} {h : Heap} {a : Addr} {C : String} (E : Exa Z h a C) : ∀ c : Cell, h[a]? = some c → c.vm.isStatics = false := fun c hc => by
  obtain ⟨cell, k, h1, -, -, h4, -⟩ := E
  rw [h1] at hc; cases hc; exact h4
theorem own_sta_keep {Z : State} {h h' : Heap} {C n d : String} {v : Value} {ws : List Addr} (F : Sta Z h C n d v) (K : Keep h h' ws) (q : ∀ x ∈ ws, ∀ c : Cell, h[x]? = some c → c.vm.isStatics = false) : Sta Z h' C n d v := by
  obtain ⟨cf, i, k, f, st, cell, h1, h2, h3, h4, h5, h6, h7⟩ := F
  exact ⟨cf, i, k, f, st, cell, h1, h2, h3, h4, K.2.1 st cell h5 (fun hm => by have := q st hm cell h5; rw [h6] at this; cases this), h6, h7⟩
theorem own_ins_keep {Z : State} {h h' : Heap} {a : Addr} {C : String} {b : Bool} {ws : List Addr} (F : Ins Z h a C b) (K : Keep h h' ws) : Ins Z h' a C b := by
  obtain ⟨cell, cT, h1, h2, h3⟩ := F
  obtain ⟨c', q1, q2, q3, -⟩ := K.2.2 a cell h1
  exact ⟨c', cT, q1, h2, by rw [q3, q2]; exact h3⟩
theorem own_ne {r c : Int32} (k : Int) (hc : c.toInt = k) (h : ¬ r = c) : ¬ r.toInt = k := fun e => h (Int32.toInt_inj.mp (e.trans hc.symm))
theorem own_cat1 {v : Value} (h : v.isRef = true) : 2 * 0 + ([v].map fun v => v.category).sum ≤ 1 := by simp [XT.cat1 h]
theorem mi {d : Jvm.Cond} (i : Nat) (h : tables_1[i]? = some d) : d ∈ tables_1 := List.mem_of_getElem? h
theorem own_shr0 (x : Int32) : x >>> ((0 : Int32) &&& 31) = x := by
  have e : ((0 : Int32) &&& 31) = 0 := by decide
  rw [e]; first | exact Int32.shiftRight_zero | simp
theorem own_irr (x : Int32) : ¬ x < x := by rw [Int32.lt_iff_toInt_lt]; omega
abbrev MFn (l : Launch) (y : MethodName) (b : ByteArray) (n : Nat) (rt : Option FieldType) (ws : List Jvm.Cond) (R : Room) (A : Array Value) (Z : State) (h0 : Heap) (Q : Option Value → Heap → List Loc → Prop) : Prop :=
  MetFree l y (head1 (Jvm.Cond.code y b n rt :: ws) R) (fun a U => a = A ∧ Z.Warmed39 U.vm ∧ U.heap = h0) (fun _ _ _ _ _ => True) (fun _ U o U' => ∃ v L, o = .returned v ∧ Q v U'.heap L ∧ FrameEnd U o U' L R.cells R.slots)
abbrev Go (tb : Tables) (e : Env) (below : List Frame) (T : State) (F : JFrame) (E : State) : Prop := ∀ t, Steps tb e below (T.setTop F) t → Steps tb e below E t
theorem own_nz {z : Int32} (h : z = 0 ∨ z = 1) : narrow .boolean (.int z) = .int z := by rcases h with rfl | rfl <;> rfl
abbrev Rm (f c s l : Nat) : Room := { frames := f, cells := c, slots := s, locals := l }
abbrev QP (n0 : Nat) (h0 : Heap) (r : Option Value) (v : Option Value) (h : Heap) (L : List Loc) : Prop := v = r ∧ Fr n0 L ∧ h = h0
abbrev Fn (p : Program) (e : Env) (below : List Frame) (s : State) (R : Room) (Q : Option Value → Heap → List Loc → Prop) (En : State) : Prop :=
  ∃ s₂ o, Steps p.tables e below En s₂ ∧ s₂.status = .running ∧ Ended s₂ below o ∧ ∃ v L, o = .returned v ∧ Q v s₂.heap L ∧ FrameEnd s o s₂ L R.cells R.slots
theorem gap {tb : Tables} {e : Env} {below : List Frame} {T T' : State} {F F' : JFrame} {E : State} (g : Go tb e below T F E) (s : ∀ t, Steps tb e below (T'.setTop F') t → Steps tb e below (T.setTop F) t) : Go tb e below T' F' E := fun t k => g t (s t k)
theorem gapT {tb : Tables} {e : Env} {below : List Frame} {T T' : State} {F F' : JFrame} {E : State} (g : Go tb e below T F E) (s : Steps tb e below (T.setTop F) (T'.setTop F')) : Go tb e below T' F' E := fun t k => g t (s.trans k)
theorem own_mf {l : Launch} {y : MethodName} {b : ByteArray} {ml : Nat} {rt : Option FieldType} {ws : List Jvm.Cond} {R : Room} {A : Array Value} {Z : State} {h0 : Heap} {Q : Option Value → Heap → List Loc → Prop} {C : String} {Ls : Array Slot} (hc : y.cls = C) (hpl : plainFor y = true) (ef : ∀ m, entryFrame m A ml = mkF m 0 Ls [])
    (body : ∀ (p : Program) (e : Env) (s : State) (m : MethodId) (below : List Frame) (meth : Method) (c : Code) (s₁ En : State), p.tables.exec = Jvm.exec → c.code = b → c.maxLocals = ml → s.vm.findClass C = some m.cls → meth.name = y.name → Z.Warmed39 s.vm → Stand p l e R s m A below meth c s₁ [] 0 0 → s₁.heap = h0 → meth.locks = false → meth.sig.returnType = rt → Go p.tables e below s₁ (mkF m 0 Ls []) En → Fn p e below s R Q En) :
    MFn l y b ml rt ws R A Z h0 Q := by
  refine MetFree.of_bodySF hpl hisR ?_
  intro p e s m args below meth c s₁ Bd hml0 hP hK
  obtain ⟨hA, hZ, hh⟩ := hP
  subst hA hc
  exact body p e s m below meth c s₁ _ Bd.exec Bd.bytes hml0 (findClass_of_methodNamed Bd.named) (name_of_methodNamed Bd.named Bd.method).1 hZ (Stand.of_body Bd) (by rw [← hh, Bd.state]; rfl) Bd.notSynchronized Bd.returns (fun t k => castTop (ef m) k)
section
variable {l : Launch} {R : Room} {p : Program} {e : Env} {below : List Frame} {s : State} {args : Array Value} {Z : State} {aZ : Array Value} {h : Heap} {m : MethodId} {meth : Method} {c : Code} {T : State} {locs : List Loc} {cells slots : Nat} {pc : Nat} {Ls : Array Slot} {En : State} {Q : Option Value → Heap → List Loc → Prop}
theorem own_out (X : Stand p l e R s m args below meth c T locs cells slots) (hx : p.tables.exec = Jvm.exec) (hlk : meth.locks = false) {w : Value} {rest : List Value} {t : FieldType} {i : Instr} (go : Go p.tables e below T (mkF m pc Ls (w :: rest)) En) (hret : meth.sig.returnType = some t) (hn : narrow t w = w)
    (hi : (i = .ireturn ∧ (t = .int ∨ t = .boolean ∨ t = .byte ∨ t = .char ∨ t = .short) ∧ ∃ z, w = .int z) ∨ (i = .lreturn ∧ t = .long ∧ ∃ z, w = .long z) ∨ (i = .dreturn ∧ t = .double ∧ ∃ z, w = .double z) ∨ (i = .freturn ∧ t = .float ∧ ∃ z, w = .float z) ∨ (i = .areturn ∧ t.isReference = true ∧ w.isRef = true))
    (hd : decode c.code pc = .ok (i, 1)) (eT : T.heap = h) (hc : cells ≤ R.cells) (hs : slots ≤ R.slots) (hq : Q (some w) h locs) : Fn p e below s R Q En := by
  obtain ⟨fs, hr, hrun, hended, hW, hsame⟩ := X.leave (v := some w) (fun h => by rw [hret] at h; cases h) hlk
  exact ⟨_, _, go _ (Jvm.RoadKit.retOut X hx hret hn hi hd hr), hrun, hended, _, _, rfl, (by show Q (some w) T.heap locs; rw [eT]; exact hq), ⟨_, rfl⟩, hW, hsame.mono hc hs⟩
theorem own_outV (X : Stand p l e R s m args below meth c T locs cells slots) (hx : p.tables.exec = Jvm.exec) (hlk : meth.locks = false) (go : Go p.tables e below T (mkF m pc Ls []) En) (hret : meth.sig.returnType = none) (hd : decode c.code pc = .ok (.return_, 1)) (eT : T.heap = h) (hc : cells ≤ R.cells) (hs : slots ≤ R.slots) (hq : Q none h locs) : Fn p e below s R Q En := by
  obtain ⟨fs, hr, hrun, hended, hW, hsame⟩ := X.leave (v := none) (fun _ => rfl) hlk
  exact ⟨_, _, go _ (X.returnOut hx hret hd hr), hrun, hended, _, _, rfl, (by show Q none T.heap locs; rw [eT]; exact hq), ⟨_, rfl⟩, hW, hsame.mono hc hs⟩
abbrev SSt (aZ : Array Value) (Z : State) (y : MethodName) (b : ByteArray) (n : Nat) (rt : Option FieldType) : Prop := ((Jvm.Cond.static y).before aZ Z = true ∧ (Jvm.Cond.initialized y.cls).before aZ Z = true) ∧ (Jvm.Cond.code y b n rt).before aZ Z = true
abbrev SVt (aZ : Array Value) (Z : State) (C : String) (y : MethodName) (b : ByteArray) (n : Nat) (rt : Option FieldType) : Prop := (((Jvm.Cond.declares y).before aZ Z = true ∧ (Jvm.Cond.selects C y y).before aZ Z = true) ∧ (Jvm.Cond.instanceMethod y).before aZ Z = true ∧ (Jvm.Cond.initialized y.cls).before aZ Z = true) ∧ (Jvm.Cond.code y b n rt).before aZ Z = true
abbrev SPt (aZ : Array Value) (Z : State) (y : MethodName) (b : ByteArray) (n : Nat) (rt : Option FieldType) : Prop := (((Jvm.Cond.instanceMethod y).before aZ Z = true ∧ (Jvm.Cond.selects y.cls y y).before aZ Z = true) ∧ (Jvm.Cond.privateMethod y).before aZ Z = true ∧ (Jvm.Cond.initialized y.cls).before aZ Z = true) ∧ (Jvm.Cond.code y b n rt).before aZ Z = true
abbrev SIt (aZ : Array Value) (Z : State) (y : MethodName) (b : ByteArray) (n : Nat) : Prop := ((Jvm.Cond.instanceMethod y).before aZ Z = true ∧ (Jvm.Cond.initialized y.cls).before aZ Z = true) ∧ (Jvm.Cond.code y b n none).before aZ Z = true
variable {own : String} {index : Nat} {y : MethodName} {bytes : ByteArray} {maxL : Nat} {ret : Option FieldType} {rm : Room} {as' : Array Value} {W k : Nat} {S : List Value}
theorem own_cs (X : Stand p l e R s m args below meth c T locs cells slots) (hx : p.tables.exec = Jvm.exec) (hZ : Z.Warmed39 s.vm) (hown : s.vm.findClass own = some m.cls) (hml : c.maxLocals = k) (go : Go p.tables e below T (mkF m pc Ls S) En) (hd : decode c.code pc = .ok (.invokestatic index, 3)) (eT : T.heap = h)
    (wl : (Jvm.Cond.methodLink own index y).before aZ Z = true) (w : SSt aZ Z y bytes maxL ret) (hM : MFn l y bytes maxL ret [] rm as' Z h Q) (hy : y.cls ≠ "java/lang/invoke/MethodHandle" ∧ y.cls ≠ "java/lang/invoke/VarHandle") {argsL rest : List Value} (hst : S = argsL.reverse ++ rest) (has : argsL.toArray = as') (hz : Ls.size = k)
    (hlen : ∀ sig, parseMethodDescriptor y.desc = some sig → argsL.length = sig.parameters.length) (hW : (rest.map fun v => v.category).sum = W) (hf : rm.frames + 1 ≤ R.frames) (hl : W + (maxL + 11) + rm.locals ≤ R.locals) (hc : cells + rm.cells ≤ R.cells) (hs : slots + rm.slots ≤ R.slots) :
    ∃ (v : Option Value) (T' : State) (L : List Loc), Stand p l e R s m args below meth c T' (locs ++ L) (cells + rm.cells) (slots + rm.slots) ∧ Q v T'.heap L ∧ Go p.tables e below T' (mkF m (pc + 3) Ls (v.toList ++ rest)) En := by
  obtain ⟨v, vm₁, ⟨T', L, k', n'⟩, -, X', ⟨Lc, hQ, l1, y1, z1⟩, st⟩ := Jvm.LawKit.callS X hx hown (mvT hZ wl) (mvT hZ w.1.1) (mvT hZ w.1.2) (mvT hZ w.2) hy (backOf (W := W) hM hZ w.2 w.1.2 hf hl) (g := mkF m pc Ls S) rfl (hz.trans hml.symm) (argsL := argsL) (rest := rest) hlen hst (by show 2 * 0 + _ ≤ _; rw [hW]; omega) hd (fun _ _ => ⟨has, eT, hc, hs⟩)
  dsimp only [Pt.U, Pt.locs, Pt.cells, Pt.slots] at X' l1 y1 z1 st hQ
  subst l1 y1 z1
  exact ⟨v, T', Lc, X', hQ, gap go st⟩
theorem own_cv (X : Stand p l e R s m args below meth c T locs cells slots) (hx : p.tables.exec = Jvm.exec) (hZ : Z.Warmed39 s.vm) (hown : s.vm.findClass own = some m.cls) (hml : c.maxLocals = k) (go : Go p.tables e below T (mkF m pc Ls S) En) (hd : decode c.code pc = .ok (.invokevirtual index, 3)) (eT : T.heap = h)
    (wl : (Jvm.Cond.methodLink own index y).before aZ Z = true) {C : String} (w : SVt aZ Z C y bytes maxL ret) {a : Addr} (E : Exa Z h a C) (hM : MFn l y bytes maxL ret [] rm as' Z h Q) (hy : y.cls ≠ "java/lang/invoke/MethodHandle" ∧ y.cls ≠ "java/lang/invoke/VarHandle") {argsL rest : List Value} (hst : S = argsL.reverse ++ .ref a :: rest) (has : (Value.ref a :: argsL).toArray = as') (hz : Ls.size = k)
    (hlen : ∀ sig, parseMethodDescriptor y.desc = some sig → argsL.length = sig.parameters.length) (hW : (rest.map fun v => v.category).sum = W) (hf : rm.frames + 1 ≤ R.frames) (hl : W + (maxL + 11) + rm.locals ≤ R.locals) (hc : cells + rm.cells ≤ R.cells) (hs : slots + rm.slots ≤ R.slots) :
    ∃ (v : Option Value) (T' : State) (L : List Loc), Stand p l e R s m args below meth c T' (locs ++ L) (cells + rm.cells) (slots + rm.slots) ∧ Q v T'.heap L ∧ Go p.tables e below T' (mkF m (pc + 3) Ls (v.toList ++ rest)) En := by
  obtain ⟨cB, kB, qa, qb, qc⟩ := isOf hZ eT E
  obtain ⟨v, vm₁, ⟨T', L, k', n'⟩, -, X', ⟨Lc, hQ, l1, y1, z1⟩, st⟩ := X.virtualBack hx hown (mvT hZ wl) (mvT hZ w.1.1.1) (notFace_of_selects (args := #[]) (mvT hZ w.1.1.2)) (mvT hZ w.1.1.2) (mvT hZ w.1.2.1) hy (backOf (W := W) hM hZ w.2 w.1.2.2 hf hl) qa qc (g := mkF m pc Ls S) rfl (hz.trans hml.symm) (Steps.refl _) (argsL := argsL) (rest := rest) hlen hst (by show 2 * 0 + _ ≤ _; rw [hW]; omega) hd (fun _ _ => ⟨has, eT, hc, hs⟩)
  dsimp only [Pt.U, Pt.locs, Pt.cells, Pt.slots] at X' l1 y1 z1 st hQ
  subst l1 y1 z1
  exact ⟨v, T', Lc, X', hQ, gapT go st⟩
theorem own_selp {n : Nat} (wi : (Jvm.Cond.instantiable y.cls n).before aZ Z = true) (wp : (Jvm.Cond.privateMethod y).before aZ Z = true) (wm : (Jvm.Cond.instanceMethod y).before aZ Z = true) (hy : y.cls ≠ "java/lang/invoke/MethodHandle" ∧ y.cls ≠ "java/lang/invoke/VarHandle") : (Jvm.Cond.selects y.cls y y).before aZ Z = true := by
  obtain ⟨t, k, g0, g2, g5, g6, -, -⟩ := Cond.instantiable_spec wi
  simp only [Bool.or_eq_false_iff] at g6
  exact selects_self_of_private g0 g2 g6.1 (Cond.privateMethod_at wp) wm hy
theorem own_cb (X : Stand p l e R s m args below meth c T locs cells slots) (hx : p.tables.exec = Jvm.exec) (hZ : Z.Warmed39 s.vm) (hown : s.vm.findClass own = some m.cls) (hml : c.maxLocals = k) (go : Go p.tables e below T (mkF m pc Ls S) En) (hd : decode c.code pc = .ok (.invokespecial index, 3)) (eT : T.heap = h)
    (wl : (Jvm.Cond.methodLink own index y).before aZ Z = true) (w : SIt aZ Z y bytes maxL) (hn : y.name = "<init>") {a : Addr} {k1 k2 : Nat}
    (hK : Back l R p e below s args y 3 W (fun P a => a = as' ∧ P.U.heap = h ∧ P.cells + k1 ≤ R.cells ∧ P.slots + k2 ≤ R.slots) (fun P _ v B => ∃ L, Q v B.U.heap L ∧ B.locs = P.locs ++ L ∧ B.cells = P.cells + k1 ∧ B.slots = P.slots + k2))
    (hy : y.cls ≠ "java/lang/invoke/MethodHandle" ∧ y.cls ≠ "java/lang/invoke/VarHandle") {argsL rest : List Value} (hst : S = argsL.reverse ++ .ref a :: rest) (has : (Value.ref a :: argsL).toArray = as') (hz : Ls.size = k)
    (hlen : ∀ sig, parseMethodDescriptor y.desc = some sig → argsL.length = sig.parameters.length) (hW : (rest.map fun v => v.category).sum = W) (hc : cells + k1 ≤ R.cells) (hs : slots + k2 ≤ R.slots) :
    ∃ (v : Option Value) (T' : State) (L : List Loc), Stand p l e R s m args below meth c T' (locs ++ L) (cells + k1) (slots + k2) ∧ Q v T'.heap L ∧ Go p.tables e below T' (mkF m (pc + 3) Ls (v.toList ++ rest)) En := by
  obtain ⟨v, vm₁, ⟨T', L, k', n'⟩, -, X', ⟨Lc, hQ, l1, y1, z1⟩, st⟩ := X.specialBack hx hn hown (mvT hZ wl) (mvT hZ w.1.1) (mvT hZ w.2) hy hK (g := mkF m pc Ls S) rfl (hz.trans hml.symm) (Steps.refl _) (a := a) (argsL := argsL) (rest := rest) hlen hst (by show 2 * 0 + _ ≤ _; rw [hW]; omega) hd (fun _ _ => ⟨has, eT, hc, hs⟩)
  dsimp only [Pt.U, Pt.locs, Pt.cells, Pt.slots] at X' l1 y1 z1 st hQ
  subst l1 y1 z1
  exact ⟨v, T', Lc, X', hQ, gapT go st⟩
theorem own_cp (X : Stand p l e R s m args below meth c T locs cells slots) (hx : p.tables.exec = Jvm.exec) (hZ : Z.Warmed39 s.vm) (hown : s.vm.findClass own = some m.cls) (hml : c.maxLocals = k) (go : Go p.tables e below T (mkF m pc Ls S) En) (hd : decode c.code pc = .ok (.invokevirtual index, 3)) (eT : T.heap = h)
    (wl : (Jvm.Cond.methodLink own index y).before aZ Z = true) (w : SPt aZ Z y bytes maxL ret) {C : String} {a : Addr} (E : Exa Z h a C) (hM : MFn l y bytes maxL ret [] rm as' Z h Q) (hy : y.cls ≠ "java/lang/invoke/MethodHandle" ∧ y.cls ≠ "java/lang/invoke/VarHandle") {argsL rest : List Value} (hst : S = argsL.reverse ++ .ref a :: rest) (has : (Value.ref a :: argsL).toArray = as') (hz : Ls.size = k)
    (hlen : ∀ sig, parseMethodDescriptor y.desc = some sig → argsL.length = sig.parameters.length) (hW : (rest.map fun v => v.category).sum = W) (hf : rm.frames + 1 ≤ R.frames) (hl : W + (maxL + 11) + rm.locals ≤ R.locals) (hc : cells + rm.cells ≤ R.cells) (hs : slots + rm.slots ≤ R.slots) :
    ∃ (v : Option Value) (T' : State) (L : List Loc), Stand p l e R s m args below meth c T' (locs ++ L) (cells + rm.cells) (slots + rm.slots) ∧ Q v T'.heap L ∧ Go p.tables e below T' (mkF m (pc + 3) Ls (v.toList ++ rest)) En := by
  obtain ⟨cq, q1, q2⟩ := E.cell
  obtain ⟨v, vm₁, ⟨T', L, k', n'⟩, -, X', ⟨Lc, hQ, l1, y1, z1⟩, st⟩ := X.privateBack hx hown (mvT hZ wl) (mvT hZ w.1.1.1) (mvT hZ w.1.1.2) (Cond.privateMethod_at (mvP hZ w.1.2.1 (args := #[]))) (mvT hZ w.2) hy (backOf (W := W) hM hZ w.2 w.1.2.2 hf hl) (g := mkF m pc Ls S) rfl (hz.trans hml.symm) (Steps.refl _) (a := a) (by rw [eT]; exact q1) q2 (argsL := argsL) (rest := rest) hlen hst (by show 2 * 0 + _ ≤ _; rw [hW]; omega) hd (fun _ _ => ⟨has, eT, hc, hs⟩)
  dsimp only [Pt.U, Pt.locs, Pt.cells, Pt.slots] at X' l1 y1 z1 st hQ
  subst l1 y1 z1
  exact ⟨v, T', Lc, X', hQ, gapT go st⟩
theorem own_ci (X : Stand p l e R s m args below meth c T locs cells slots) (hx : p.tables.exec = Jvm.exec) (hZ : Z.Warmed39 s.vm) (hown : s.vm.findClass own = some m.cls) (hml : c.maxLocals = k) (go : Go p.tables e below T (mkF m pc Ls S) En) (hd : decode c.code pc = .ok (.invokespecial index, 3)) (eT : T.heap = h)
    (wl : (Jvm.Cond.methodLink own index y).before aZ Z = true) (w : SIt aZ Z y bytes maxL) (hn : y.name = "<init>") {a : Addr} (hM : MFn l y bytes maxL none [] rm as' Z h Q) (hy : y.cls ≠ "java/lang/invoke/MethodHandle" ∧ y.cls ≠ "java/lang/invoke/VarHandle") {argsL rest : List Value} (hst : S = argsL.reverse ++ .ref a :: rest) (has : (Value.ref a :: argsL).toArray = as') (hz : Ls.size = k)
    (hlen : ∀ sig, parseMethodDescriptor y.desc = some sig → argsL.length = sig.parameters.length) (hW : (rest.map fun v => v.category).sum = W) (hf : rm.frames + 1 ≤ R.frames) (hl : W + (maxL + 11) + rm.locals ≤ R.locals) (hc : cells + rm.cells ≤ R.cells) (hs : slots + rm.slots ≤ R.slots) :
    ∃ (v : Option Value) (T' : State) (L : List Loc), Stand p l e R s m args below meth c T' (locs ++ L) (cells + rm.cells) (slots + rm.slots) ∧ Q v T'.heap L ∧ Go p.tables e below T' (mkF m (pc + 3) Ls (v.toList ++ rest)) En := by
  obtain ⟨v, vm₁, ⟨T', L, k', n'⟩, -, X', ⟨Lc, hQ, l1, y1, z1⟩, st⟩ := X.specialBack hx hn hown (mvT hZ wl) (mvT hZ w.1.1) (mvT hZ w.2) hy (backOf (W := W) hM hZ w.2 w.1.2 hf hl) (g := mkF m pc Ls S) rfl (hz.trans hml.symm) (Steps.refl _) (a := a) (argsL := argsL) (rest := rest) hlen hst (by show 2 * 0 + _ ≤ _; rw [hW]; omega) hd (fun _ _ => ⟨has, eT, hc, hs⟩)
  dsimp only [Pt.U, Pt.locs, Pt.cells, Pt.slots] at X' l1 y1 z1 st hQ
  subst l1 y1 z1
  exact ⟨v, T', Lc, X', hQ, gapT go st⟩
end
theorem own_ib {Z : State} {vm0 vm1 : Vm} {Ts : List String} (I : IB Z vm0 Ts) (e : vm1.interned = vm0.interned) : IB Z vm1 Ts := by
  obtain ⟨more, q, r⟩ := I; exact ⟨more, e.trans q, r⟩
theorem own_exa_arv_ne {Z : State} {aZ : Array Value} {h : Heap} {a b : Addr} {C : String} {m : Nat} {k : ClassId} {ty : FieldType} {n : Int32} {vs : List Value} {d : Value} (E : Exa Z h a C) (A : Arv Z h b k ty n vs d) (w : (Jvm.Cond.instantiable C m).before aZ Z = true) : a ≠ b := fun q => by
  subst q
  obtain ⟨cell, kc, h1, h2, h3, -, -⟩ := E
  obtain ⟨cl, ⟨g1, g2, -⟩, -⟩ := A
  rw [h1] at g1; cases g1
  obtain ⟨cI, kI, hfI, hkI, hkindI, -⟩ := Cond.instantiable_spec w
  cases h2.symm.trans hfI
  obtain ⟨-, k9, hk9, cm, hkind⟩ := g2
  rw [hkI] at hk9; cases hk9
  rw [hkindI] at hkind; cases hkind
theorem own_frs {n0 : Nat} {h0 : Heap} {s : State} {locs : List Loc} (e : n0 = h0.size) (hh : s.heap = h0) (N : Fr n0 locs) : Fr s.heap.size locs := by subst e hh; exact N
theorem own_frm {n0 n1 : Nat} {L : List Loc} (q : n0 ≤ n1) (N : Fr n1 L) : Fr n0 L := fun y hy => Nat.le_trans q (N y hy)
section
variable {l : Launch} {R : Room} {p : Program} {e : Env} {below : List Frame} {s : State} {args : Array Value} {Z : State} {aZ : Array Value} {h : Heap} {Ts Ts1 : List String}
/-- the way back from a callee that asks In of the tables at its start and says Got of them at its end -/
theorem own_backG {y : MethodName} {bytes : ByteArray} {maxL : Nat} {ret : Option FieldType} {rm : Room} {len W : Nat} {as' : Array Value} {In : Vm → Prop} {End : State → Outcome → State → Prop} {Got : Option Value → Vm → Heap → List Loc → Prop} {Post : Pt → Array Value → Option Value → Pt → Prop}
    (hM : MetFree l y (head1 [Cond.code y bytes maxL ret] rm) (fun a U => a = as' ∧ Z.Warmed39 U.vm ∧ U.heap = h ∧ In U.vm) (fun _ _ _ _ _ => True) (fun _ => End))
    (hZ : Z.Warmed39 s.vm) (wc : (Cond.code y bytes maxL ret).before aZ Z = true) (wz : (Cond.initialized y.cls).before aZ Z = true) (hf : rm.frames + 1 ≤ R.frames) (hl : W + (maxL + 11) + rm.locals ≤ R.locals)
    (hin : ∀ vm, s.WarmedH vm → In vm) (hend : ∀ U o t, End U o t → ∃ v L, o = .returned v ∧ Got v t.vm t.heap L ∧ ReturnedEndW U o t L rm.cells rm.slots)
    (hpost : ∀ A a v B L, Got v (Pt.U B).vm (Pt.U B).heap L → Pt.locs B = Pt.locs A ++ L → Pt.cells B = Pt.cells A + rm.cells → Pt.slots B = Pt.slots A + rm.slots → Post A a v B) :
    BackS l R p e below s args y len W (fun A a => a = as' ∧ A.U.heap = h ∧ A.cells + rm.cells ≤ R.cells ∧ A.slots + rm.slots ≤ R.slots) Post := by
  have warm : ∀ {m meth c} {A : Pt}, Stand p l e R s m args below meth c A.U A.locs A.cells A.slots → Z.Warmed39 A.U.vm := fun Y => wtrans hZ Y.warmed
  refine BackS.of_freeW (bytes := bytes) (maxL := maxL) (ret := ret) (E := fun _ _ o t L k n => ∃ v, o = .returned v ∧ Got v t.vm t.heap L ∧ k = rm.cells ∧ n = rm.slots) hM hf hl ?pre ?here (fun _ _ _ _ _ _ _ _ _ => trivial) ?leave ?post
  case pre =>
    rintro m meth c A a Y ⟨-, -, room⟩
    have k := mv (args := a) (warm Y) wc
    refine ⟨?_, k, mv (warm Y) wz, room⟩
    change (Cond.and _ .tt).before a A.U = true
    simp only [Cond.before_and, k]; rfl
  case here =>
    rintro m meth c A a g mk Y ⟨ea, eh, -⟩
    exact ⟨ea, warm Y, eh, hin _ Y.warmed⟩
  case leave =>
    intro a U o t q
    obtain ⟨v, L, e1, g1, r1⟩ := hend U o t q
    exact ⟨L, _, _, r1, v, e1, g1, rfl, rfl⟩
  case post =>
    rintro m meth c A a g mk v t L k n - - - - ⟨v', e1, g1, rfl, rfl⟩
    cases e1
    exact hpost A a v _ L g1 rfl rfl rfl
theorem own_backOfSI {y : MethodName} {bytes : ByteArray} {maxL : Nat} {ret : Option FieldType} {rm : Room} {len W : Nat} {as' : Array Value} {Q : Option Value → Heap → List Loc → Prop}
    (hM : MetFree l y (head1 [Cond.code y bytes maxL ret] rm) (fun a U => a = as' ∧ Z.Warmed39 U.vm ∧ U.heap = h ∧ IB Z U.vm Ts) (fun _ _ _ _ _ => True) (fun _ U o U' => ∃ v L, o = .returned v ∧ Q v U'.heap L ∧ ReturnedEndW U o U' L rm.cells rm.slots))
    (hZ : Z.Warmed39 s.vm) (wc : (Cond.code y bytes maxL ret).before aZ Z = true) (wz : (Cond.initialized y.cls).before aZ Z = true) (hf : rm.frames + 1 ≤ R.frames) (hl : W + (maxL + 11) + rm.locals ≤ R.locals) (I : IB Z s.vm Ts) :
    BackS l R p e below s args y len W (fun A a => a = as' ∧ A.U.heap = h ∧ A.cells + rm.cells ≤ R.cells ∧ A.slots + rm.slots ≤ R.slots)
      (fun A _ v B => ∃ L, Q v B.U.heap L ∧ B.locs = A.locs ++ L ∧ B.cells = A.cells + rm.cells ∧ B.slots = A.slots + rm.slots) :=
  own_backG (In := fun vm => IB Z vm Ts) (Got := fun v _ h L => Q v h L) hM hZ wc wz hf hl (fun _ w => own_ib I w.interned_eq) (fun _ _ _ q => q) (fun _ _ _ _ L q e1 e2 e3 => ⟨L, q, e1, e2, e3⟩)
theorem own_backOfSIP {y : MethodName} {bytes : ByteArray} {maxL : Nat} {ret : Option FieldType} {rm : Room} {len W : Nat} {as' : Array Value} {Q : Option Value → Heap → List Loc → Prop}
    (hM : MetFree l y (head1 [Cond.code y bytes maxL ret] rm) (fun a U => a = as' ∧ Z.Warmed39 U.vm ∧ U.heap = h ∧ IB Z U.vm Ts) (fun _ _ _ _ _ => True) (fun _ U o U' => ∃ v L, o = .returned v ∧ Q v U'.heap L ∧ IB Z U'.vm Ts1 ∧ ReturnedEndW U o U' L rm.cells rm.slots))
    (hZ : Z.Warmed39 s.vm) (wc : (Cond.code y bytes maxL ret).before aZ Z = true) (wz : (Cond.initialized y.cls).before aZ Z = true) (hf : rm.frames + 1 ≤ R.frames) (hl : W + (maxL + 11) + rm.locals ≤ R.locals) (I : IB Z s.vm Ts) :
    BackS l R p e below s args y len W (fun A a => a = as' ∧ A.U.heap = h ∧ A.cells + rm.cells ≤ R.cells ∧ A.slots + rm.slots ≤ R.slots)
      (fun A _ v B => ∃ L, Q v B.U.heap L ∧ B.locs = A.locs ++ L ∧ B.cells = A.cells + rm.cells ∧ B.slots = A.slots + rm.slots ∧ IB Z B.U.vm Ts1) :=
  own_backG (In := fun vm => IB Z vm Ts) (Got := fun v vm h L => Q v h L ∧ IB Z vm Ts1) hM hZ wc wz hf hl (fun _ w => own_ib I w.interned_eq) (fun _ _ _ ⟨v, L, q1, q2, q3, q4⟩ => ⟨v, L, q1, ⟨q2, q3⟩, q4⟩) (fun _ _ _ _ L q e1 e2 e3 => ⟨L, q.1, e1, e2, e3, q.2⟩)
end
theorem own_arv_n {Z : State} {h : Heap} {b : Addr} {k k' : ClassId} {ty ty' : FieldType} {n n' : Int32} {vs vs' : List Value} {d d' : Value} (A : Arv Z h b k ty n vs d) (B : Arv Z h b k' ty' n' vs' d') : n = n' := by
  obtain ⟨c, A1, -, A2, A3, -⟩ := A
  obtain ⟨c', B1, -, B2, B3, -⟩ := B
  have e := A1.1.symm.trans B1.1
  cases e
  have a := nat_of A3
  have b := nat_of B3
  rw [← Int32.toInt_inj]; omega
theorem own_arv_get {Z : State} {h : Heap} {b : Addr} {k k' : ClassId} {ty ty' : FieldType} {n n' : Int32} {vs vs' : List Value} {d d' : Value} (A : Arv Z h b k ty n vs d) (B : Arv Z h b k' ty' n' vs' d') (i : Nat) (hi : i < n.toNatClampNeg) : vs.getD i d = vs'.getD i d' := by
  obtain ⟨c, A1, -, A2, A3, A4, -⟩ := A
  obtain ⟨c', B1, -, B2, B3, B4, -⟩ := B
  have e := A1.1.symm.trans B1.1
  cases e
  have q := A4 i (by rw [A2]; exact hi)
  have r := B4 i (by rw [A2]; exact hi)
  exact Option.some.inj (q.symm.trans r)
theorem own_fld_eq {Z : State} {h : Heap} {a b : Addr} {C f d : String} {va vb : Addr} (F : Fld Z h a C f d (.ref va)) (G : Fld Z h b C f d (.ref vb)) (e : a = b) : va = vb := Classical.byContradiction fun z => Fld.ne F G (fun r => z (Value.ref.inj r)) e
theorem own_str_ne {Z : State} {h : Heap} {a b : Addr} {C f d : String} {va vb : Addr} {k1 k2 : ClassId} {t1 t2 : FieldType} {n1 n2 : Int32} {v1 v2 : List Value} {d1 d2 : Value} (F : Fld Z h a C f d (.ref va)) (G : Fld Z h b C f d (.ref vb)) (A : Arv Z h va k1 t1 n1 v1 d1) (B : Arv Z h vb k2 t2 n2 v2 d2) (q : ¬ n1 = n2) : ¬ a = b := fun e => by
  have hv := own_fld_eq F G e
  subst hv
  exact q (own_arv_n A B)
def sx (p v i l : Int32) : Int32 := if p = i then v else l
theorem d3_0 : decode jdk_42_method_149_code 0 = .ok (.aload_n 0, 1) := by decide +kernel
theorem d3_1 : decode jdk_42_method_149_code 1 = .ok (.invokespecial 1, 3) := by decide +kernel
theorem d3_4 : decode jdk_42_method_149_code 4 = .ok (.iload_n 3, 1) := by decide +kernel
theorem d3_5 : decode jdk_42_method_149_code 5 = .ok (.ifCond .ne 22, 3) := by decide +kernel
theorem d3_8 : decode jdk_42_method_149_code 8 = .ok (.aload_n 0, 1) := by decide +kernel
theorem d3_9 : decode jdk_42_method_149_code 9 = .ok (.ldc 7, 2) := by decide +kernel
theorem own_sa : ∀ a ∈ Bundle.stringAtoms, a ∈ tables_1 := by decide +kernel
theorem own_txt_java_lang_String_7 : (∀ c ∈ ("" : String).toList, c.toNat < 256) ∧ ("" : String).toList.map (fun c => Value.int (Jvm.Lit.byteI c.toNat.toUInt16)) = [] := ⟨by decide +kernel, by first | rfl | decide +kernel⟩
theorem d3_11 : decode jdk_42_method_149_code 11 = .ok (.getfield 9, 3) := by decide +kernel
theorem d3_14 : decode jdk_42_method_149_code 14 = .ok (.putfield 9, 3) := by decide +kernel
theorem d3_17 : decode jdk_42_method_149_code 17 = .ok (.aload_n 0, 1) := by decide +kernel
theorem d3_18 : decode jdk_42_method_149_code 18 = .ok (.ldc 7, 2) := by decide +kernel
theorem d3_20 : decode jdk_42_method_149_code 20 = .ok (.getfield 15, 3) := by decide +kernel
theorem d3_23 : decode jdk_42_method_149_code 23 = .ok (.putfield 15, 3) := by decide +kernel
theorem d3_26 : decode jdk_42_method_149_code 26 = .ok (.return_, 1) := by decide +kernel
theorem pn_15 : plainName "java/lang/String" = true := by first | (simp [plainName, overriddenIn]; done) | decide +kernel
def QiAn0 (Z : State) (n0 : Nat) (a0 : Addr) (a1 : Addr) (k_a1 : ClassId) (h0 : Heap) (v : Option Value) (h : Heap) (L : List Loc) : Prop := v = none ∧ Fr n0 L ∧ Keep h0 h [a0] ∧ Exa Z h a0 "java/lang/String" ∧ Fld Z h a0 "java/lang/String" "coder" "B" (.int (0 : Int32)) ∧ ∃ (bx : Addr) (kx : ClassId), Fld Z h a0 "java/lang/String" "value" "[B" (.ref bx) ∧ Arv Z h bx kx .byte (0 : Int32) [] (.int (0 : Int32))
theorem efiAn0 (m : MethodId) (a0 : Addr) (a1 : Addr) : entryFrame m #[(.ref a0), (.ref a1), (.int (0 : Int32)), (.int (0 : Int32)), .null] 6 = mkF m 0 #[rv a0, rv a1, iv (0 : Int32), iv (0 : Int32), .val .null, .unset] [] := by first | (simp [entryFrame, mkF, argsToLocals, Value.category]; done) | rfl
abbrev LiAn0_0 (a0 : Addr) (a1 : Addr) : Array Slot := #[rv a0, rv a1, iv 0, iv 0, .val .null, .unset]
set_option maxRecDepth 65536 in
set_option maxHeartbeats 40000000 in
theorem rmiAn0 (l : Launch) (Z : State) (aZ : Array Value) (hw : ∀ d ∈ tables_1, d.before aZ Z = true) (ws : List Jvm.Cond) (a0 : Addr) (a1 : Addr) (k_a1 : ClassId) (h0 : Heap) (n0 : Nat) (Z0 : n0 ≤ h0.size) (E_a0 : Exa Z h0 a0 "java/lang/String") (F_a0_value : Fld Z h0 a0 "java/lang/String" "value" "[B" .null) (F_a0_coder : Fld Z h0 a0 "java/lang/String" "coder" "B" (.int 0)) (g_a0 : n0 ≤ a0) (V_a1 : Arv Z h0 a1 k_a1 .char (0 : Int32) [] (.int 0)) (hkp : ∀ (b : Addr) (cl : Cell), Z.heap[b]? = some cl → h0[b]? = some cl) (hcn7 : Jvm.Lit.constHeld Z "java/lang/String" 7) (hcw : Jvm.Lit.compactW.before aZ Z = true) :
    MetFree l (⟨"java/lang/String", "<init>", "([CIILjava/lang/Void;)V"⟩ : MethodName) (head1 (Jvm.Cond.code (⟨"java/lang/String", "<init>", "([CIILjava/lang/Void;)V"⟩ : MethodName) jdk_42_method_149_code 6 none :: ws) ({ frames := 1, cells := 2, slots := 4, locals := 12 } : Room)) (fun a U => a = #[(.ref a0), (.ref a1), (.int 0), (.int 0), .null] ∧ Z.Warmed39 U.vm ∧ U.heap = h0 ∧ IB Z U.vm []) (fun _ _ _ _ _ => True) (fun _ U o U' => ∃ v L, o = .returned v ∧ QiAn0 Z n0 a0 a1 k_a1 h0 v U'.heap L ∧ IB Z U'.vm [""] ∧ ReturnedEndW U o U' L ({ frames := 1, cells := 2, slots := 4, locals := 12 } : Room).cells ({ frames := 1, cells := 2, slots := 4, locals := 12 } : Room).slots) := by
  refine MetFree.of_bodySF (plainFor_of_name pn_15) hisR ?_
  intro p e s m args below meth c s₁ Bd hml0 hP hK
  obtain ⟨rfl, hZ, hh, IB0⟩ := hP
  have hx := Bd.exec
  have hby := Bd.bytes
  have hml : c.maxLocals = 6 := hml0
  have hown : s.vm.findClass "java/lang/String" = some m.cls := findClass_of_methodNamed Bd.named
  have hnm := (name_of_methodNamed Bd.named Bd.method).1
  have X0 : Stand p l e ({ frames := 1, cells := 2, slots := 4, locals := 12 } : Room) (s.setVm s.vm) m #[(.ref a0), (.ref a1), (.int 0), (.int 0), .null] below meth c s₁ [] 0 0 := Stand.of_body Bd
  have e0 : s₁.heap = h0 := by rw [← hh, Bd.state]; rfl
  have N0 := Fr.nil n0
  have K0 : Keep h0 h0 [a0] := Keep.refl _ _
  obtain ⟨En, hEn⟩ : ∃ z, z = (s₁.setTop (entryFrame m #[(.ref a0), (.ref a1), (.int 0), (.int 0), .null] 6)) := ⟨_, rfl⟩
  have go0 : Go p.tables e below s₁ (mkF m 0 (LiAn0_0 a0 a1) []) En := fun t k => by subst hEn; exact castTop (efiAn0 m a0 a1) k
  have hS0 : s.Since s.vm s.heap.size := (State.WarmedH.refl s).since _
  have hk0 : s.heap.size ≤ h0.size := by rw [← hh]; exact Nat.le_refl _
  have hkS : ∀ (b : Addr) (cl : Cell), Z.heap[b]? = some cl → s.heap[b]? = some cl := fun b cl q => by rw [hh]; exact hkp b cl q
  have neA1 : a0 ≠ a1 := own_exa_arv_ne E_a0 V_a1 (hw _ (mi 7 rfl))
  have go1 : Go p.tables e below s₁ (mkF m 1 (LiAn0_0 a0 a1) [(.ref a0)]) En := by
    intro t k
    refine go0 _ ?_
    refine XS.aloadN X0.here hx rfl (hb hby d3_0) rfl rfl ?_
    exact k
  obtain ⟨T2, X2, e2, st2⟩ := initO X0 hx hZ hown (hw _ (mi 16 rfl)) (hw _ (mi 17 rfl)) (hw _ (mi 18 rfl)) e0 (g := (mkF m 1 (LiAn0_0 a0 a1) [(.ref a0)])) rfl (by rw [hml]; rfl) rfl (hb hby d3_1) (by decide) (W := 0) (by show 2 * 0 + _ ≤ _; exact Nat.le_of_eq rfl) (by decide)
  have go3 := gap go1 st2
  have go4 : Go p.tables e below T2 (mkF m 9 (LiAn0_0 a0 a1) [(.ref a0)]) En := by
    intro t k
    refine go3 _ ?_
    refine XS.iloadN X2.here hx rfl (hb hby d3_4) rfl ?_
    refine XS.ifNo X2.here hx rfl (hb hby d3_5) rfl (XT.i0_ne_f (by decide : ((0 : Int32) = (0 : Int32)))) ?_
    refine XS.aloadN X2.here hx rfl (hb hby d3_8) rfl rfl ?_
    show Steps _ _ _ (T2.setTop (mkF m 9 (LiAn0_0 a0 a1) [(.ref a0)])) _
    exact k
  obtain ⟨b5, T5, h5, k5, bv5, kv5, X5, e5, E5, hS5, hk5, hZ5, hown5, A5, FC5, FV5, AV5, -, -, I5, Lt5, wh5, st5⟩ := ldcSVd X2 hx hZ hown (hw _ (mi 54 rfl)) (fun a ha => hw a (own_sa a ha)) e2 hS0 hk0 (Fr.nil _) hkS IB0 (by decide) hcn7 hcw (vs := []) (z := (0 : Int32)) own_txt_java_lang_String_7 (by decide) rfl (g := (mkF m 9 (LiAn0_0 a0 a1) [(.ref a0)])) rfl (hb hby d3_9) (n := 0) (by decide +kernel) (by decide) (by decide) (by decide)
  have go6 := gap go4 st5
  have K5 : Keep h0 h5 [a0] := K0.ext E5
  have Zs5 : n0 ≤ h5.size := Nat.le_trans Z0 E5.1
  have F7 := F_a0_value.ext E5
  have F8 := F_a0_coder.ext E5
  have neL5_a0 : a0 ≠ b5 := Fld.ne F7 FV5 (fun q => nomatch q)
  have neA5_a0 : a0 ≠ bv5 := own_exa_arv_ne (E_a0.keep K5) AV5 (hw _ (mi 7 rfl))
  obtain ⟨T9, X9, e9, st9⟩ := getF X5 hx hZ5 hown5 (host := "") (Or.inl (hw _ (mi 33 rfl))) Via.refl e5 FV5 (g := (mkF m 11 (LiAn0_0 a0 a1) [(.ref b5), (.ref a0)])) rfl rfl (hb hby d3_11)
  have go10 := gap go6 st9
  obtain ⟨T11, h11, X11, e11, W11, st11⟩ := putF X9 hx hZ5 hown5 (host := "") (Or.inl (hw _ (mi 33 rfl))) Via.refl e9 F7 (E_a0.keep K5) (Or.inr ⟨(hw _ (mi 34 rfl)), rfl, hnm⟩) (hw _ (mi 7 rfl)) (ty := (.array .byte)) (by decide) rfl rfl (g := (mkF m 14 (LiAn0_0 a0 a1) [(.ref bv5), (.ref a0)])) rfl rfl (hb hby d3_14)
  have go12 := gap go10 st11
  have N11 := Fr.snoc X11 N0 g_a0
  have K11 : Keep h0 h11 [a0] := K5.wr W11 (Or.inl (List.mem_of_getElem? (i := 0) rfl))
  have Zs11 : n0 ≤ h11.size := Nat.le_trans Zs5 (Keep.of_wr W11).1
  have hk11 : k5 ≤ h11.size := Nat.le_trans hk5 (Keep.of_wr W11).1
  have F13 : Fld Z h11 a0 "java/lang/String" "value" "[B" (.ref bv5) := F7.same W11
  have F14 := F8.other W11 (Or.inr (slot_ne (Or.inr (hw _ (mi 32 rfl))) (Or.inr (hw _ (mi 34 rfl))) (by decide) (t := .byte) (t' := (.array .byte)) (by decide) (by decide)))
  have F15 := A5.wr W11
  have F16 := FC5.other W11 (Or.inl (Ne.symm neL5_a0))
  have F17 := FV5.other W11 (Or.inl (Ne.symm neL5_a0))
  have F18 := AV5.other W11 (Ne.symm neA5_a0)
  have go19 : Go p.tables e below T11 (mkF m 18 (LiAn0_0 a0 a1) [(.ref a0)]) En := by
    intro t k
    refine go12 _ ?_
    refine XS.aloadN X11.here hx rfl (hb hby d3_17) rfl rfl ?_
    exact k
  have st20 := ldcAgain X11 hx hZ5 hown5 (hw _ (mi 54 rfl)) Lt5 (g := (mkF m 18 (LiAn0_0 a0 a1) [(.ref a0)])) rfl (hb hby d3_18)
  have go21 := gap go19 st20
  obtain ⟨T22, X22, e22, st22⟩ := getF X11 hx hZ5 hown5 (host := "") (Or.inl (hw _ (mi 31 rfl))) Via.refl e11 F16 (g := (mkF m 20 (LiAn0_0 a0 a1) [(.ref b5), (.ref a0)])) rfl rfl (hb hby d3_20)
  have go23 := gap go21 st22
  obtain ⟨T24, h24, X24, e24, W24, st24⟩ := putFN X22 hx hZ5 hown5 (hw _ (mi 31 rfl)) Via.refl e22 F14 (E_a0.keep K11) (Or.inr ⟨(hw _ (mi 32 rfl)), rfl, hnm⟩) (hw _ (mi 7 rfl)) (ty := .byte) (v' := (.int 0)) (by decide) rfl rfl (g := (mkF m 23 (LiAn0_0 a0 a1) [(.int 0), (.ref a0)])) rfl rfl (hb hby d3_23)
  have go25 := gap go23 st24
  have N24 := Fr.snoc X24 N11 g_a0
  have K24 : Keep h0 h24 [a0] := K11.wr W24 (Or.inl (List.mem_of_getElem? (i := 0) rfl))
  have Zs24 : n0 ≤ h24.size := Nat.le_trans Zs11 (Keep.of_wr W24).1
  have hk24 : k5 ≤ h24.size := Nat.le_trans hk11 (Keep.of_wr W24).1
  have F26 := F13.other W24 (Or.inr (slot_ne (Or.inr (hw _ (mi 34 rfl))) (Or.inr (hw _ (mi 32 rfl))) (by decide) (t := (.array .byte)) (t' := .byte) (by decide) (by decide)))
  have F27 : Fld Z h24 a0 "java/lang/String" "coder" "B" (.int 0) := F14.same W24
  have F28 := F15.wr W24
  have F29 := F16.other W24 (Or.inl (Ne.symm neL5_a0))
  have F30 := F17.other W24 (Or.inl (Ne.symm neL5_a0))
  have F31 := F18.other W24 (Ne.symm neA5_a0)
  obtain ⟨fs, hr, hrun, hended, hRW⟩ := X24.leaveW hS5 (by rw [e24]; exact hk24) (v := none) (fun _ => rfl) Bd.notSynchronized
  subst hEn
  refine ⟨_, _, go25 _ (X24.returnOut hx Bd.returns (hb hby d3_26) hr), hrun, hended, _, _, rfl, ?_, own_ib I5 X24.warmed.interned_eq, hRW.1, hRW.2.1, hRW.2.2.1, hRW.2.2.2.mono (by decide) (by decide)⟩
  show QiAn0 _ _ a0 a1 k_a1 h0 _ (T24.setFrames fs).heap _
  have hE : (T24.setFrames fs).heap = h24 := e24
  rw [hE]
  exact ⟨rfl, N24, K24, (E_a0.keep K24), F27, bv5, kv5, F26, F31⟩
theorem d2_0 : decode jdk_42_method_3_code 0 = .ok (.aload_n 0, 1) := by decide +kernel
theorem d2_1 : decode jdk_42_method_3_code 1 = .ok (.aload_n 1, 1) := by decide +kernel
theorem d2_2 : decode jdk_42_method_3_code 2 = .ok (.iconst 0, 1) := by decide +kernel
theorem d2_3 : decode jdk_42_method_3_code 3 = .ok (.aload_n 1, 1) := by decide +kernel
theorem d2_4 : decode jdk_42_method_3_code 4 = .ok (.arraylength, 1) := by decide +kernel
theorem d2_5 : decode jdk_42_method_3_code 5 = .ok (.aconst_null, 1) := by decide +kernel
theorem d2_6 : decode jdk_42_method_3_code 6 = .ok (.invokespecial 27, 3) := by decide +kernel
theorem pd_23 : parseMethodDescriptor "([CIILjava/lang/Void;)V" = some ⟨[(.array .char), .int, .int, (.object "java/lang/Void")], none⟩ := by decide +kernel
theorem d2_9 : decode jdk_42_method_3_code 9 = .ok (.return_, 1) := by decide +kernel
def QiBn0 (Z : State) (n0 : Nat) (a0 : Addr) (a1 : Addr) (k_a1 : ClassId) (h0 : Heap) (v : Option Value) (h : Heap) (L : List Loc) : Prop := v = none ∧ Fr n0 L ∧ Keep h0 h [a0] ∧ Exa Z h a0 "java/lang/String" ∧ Fld Z h a0 "java/lang/String" "coder" "B" (.int (0 : Int32)) ∧ ∃ (bx : Addr) (kx : ClassId), Fld Z h a0 "java/lang/String" "value" "[B" (.ref bx) ∧ Arv Z h bx kx .byte (0 : Int32) [] (.int (0 : Int32))
theorem efiBn0 (m : MethodId) (a0 : Addr) (a1 : Addr) : entryFrame m #[(.ref a0), (.ref a1)] 2 = mkF m 0 #[rv a0, rv a1] [] := by first | (simp [entryFrame, mkF, argsToLocals, Value.category]; done) | rfl
set_option maxRecDepth 65536 in
set_option maxHeartbeats 40000000 in
theorem rmiBn0 (l : Launch) (Z : State) (aZ : Array Value) (hw : ∀ d ∈ tables_1, d.before aZ Z = true) (ws : List Jvm.Cond) (a0 : Addr) (a1 : Addr) (k_a1 : ClassId) (h0 : Heap) (n0 : Nat) (Z0 : n0 ≤ h0.size) (E_a0 : Exa Z h0 a0 "java/lang/String") (F_a0_value : Fld Z h0 a0 "java/lang/String" "value" "[B" .null) (F_a0_coder : Fld Z h0 a0 "java/lang/String" "coder" "B" (.int 0)) (g_a0 : n0 ≤ a0) (V_a1 : Arv Z h0 a1 k_a1 .char (0 : Int32) [] (.int 0)) (hkp : ∀ (b : Addr) (cl : Cell), Z.heap[b]? = some cl → h0[b]? = some cl) (hcn7 : Jvm.Lit.constHeld Z "java/lang/String" 7) (hcw : Jvm.Lit.compactW.before aZ Z = true) :
    MetFree l (⟨"java/lang/String", "<init>", "([C)V"⟩ : MethodName) (head1 (Jvm.Cond.code (⟨"java/lang/String", "<init>", "([C)V"⟩ : MethodName) jdk_42_method_3_code 2 none :: ws) ({ frames := 2, cells := 2, slots := 4, locals := 29 } : Room)) (fun a U => a = #[(.ref a0), (.ref a1)] ∧ Z.Warmed39 U.vm ∧ U.heap = h0 ∧ IB Z U.vm []) (fun _ _ _ _ _ => True) (fun _ U o U' => ∃ v L, o = .returned v ∧ QiBn0 Z n0 a0 a1 k_a1 h0 v U'.heap L ∧ IB Z U'.vm [""] ∧ ReturnedEndW U o U' L ({ frames := 2, cells := 2, slots := 4, locals := 29 } : Room).cells ({ frames := 2, cells := 2, slots := 4, locals := 29 } : Room).slots) := by
  refine MetFree.of_bodySF (plainFor_of_name pn_15) hisR ?_
  intro p e s m args below meth c s₁ Bd hml0 hP hK
  obtain ⟨rfl, hZ, hh, IB0⟩ := hP
  have hx := Bd.exec
  have hby := Bd.bytes
  have hml : c.maxLocals = 2 := hml0
  have hown : s.vm.findClass "java/lang/String" = some m.cls := findClass_of_methodNamed Bd.named
  have hnm := (name_of_methodNamed Bd.named Bd.method).1
  have X0 : Stand p l e ({ frames := 2, cells := 2, slots := 4, locals := 29 } : Room) (s.setVm s.vm) m #[(.ref a0), (.ref a1)] below meth c s₁ [] 0 0 := Stand.of_body Bd
  have e0 : s₁.heap = h0 := by rw [← hh, Bd.state]; rfl
  have N0 := Fr.nil n0
  have K0 : Keep h0 h0 [a0] := Keep.refl _ _
  obtain ⟨En, hEn⟩ : ∃ z, z = (s₁.setTop (entryFrame m #[(.ref a0), (.ref a1)] 2)) := ⟨_, rfl⟩
  have go0 : Go p.tables e below s₁ (mkF m 0 #[rv a0, rv a1] []) En := fun t k => by subst hEn; exact castTop (efiBn0 m a0 a1) k
  have hS0 : s.Since s.vm s.heap.size := (State.WarmedH.refl s).since _
  have hk0 : s.heap.size ≤ h0.size := by rw [← hh]; exact Nat.le_refl _
  have hkS : ∀ (b : Addr) (cl : Cell), Z.heap[b]? = some cl → s.heap[b]? = some cl := fun b cl q => by rw [hh]; exact hkp b cl q
  have neA1 : a0 ≠ a1 := own_exa_arv_ne E_a0 V_a1 (hw _ (mi 7 rfl))
  obtain ⟨cl1, Ar1, q1, S1, N1, H1, G1⟩ := id V_a1
  have go2 : Go p.tables e below s₁ (mkF m 6 #[rv a0, rv a1] [.null, (.int 0), (.int 0), (.ref a1), (.ref a0)]) En := by
    intro t k
    refine go0 _ ?_
    refine XS.aloadN X0.here hx rfl (hb hby d2_0) rfl rfl ?_
    refine XS.aloadN X0.here hx rfl (hb hby d2_1) rfl rfl ?_
    refine XS.iconst X0.here hx rfl (hb hby d2_2) ?_
    show Steps _ _ _ (s₁.setTop (mkF m 3 #[rv a0, rv a1] [(.int 0), (.ref a1), (.ref a0)])) _
    refine XS.aloadN X0.here hx rfl (hb hby d2_3) rfl rfl ?_
    refine X0.arraylength hx (by rw [e0]; exact Ar1.1) (State.isArrayOf_alike hZ.alike Ar1.2.1) (g := (mkF m 4 #[rv a0, rv a1] [(.ref a1), (.int 0), (.ref a1), (.ref a0)])) rfl rfl (hb hby d2_4) _ ?_
    rw [len_of S1 N1]
    show Steps _ _ _ (s₁.setTop (mkF m 5 #[rv a0, rv a1] [(.int 0), (.int 0), (.ref a1), (.ref a0)])) _
    refine XS.aconstNull X0.here hx rfl (hb hby d2_5) ?_
    exact k
  obtain ⟨_, _, ⟨T3, L3, k3, n3⟩, -, X3q, hS3q, hg3, ⟨Lc3, hQ3, l3, y3, z3, IB3⟩, st3⟩ := X0.specialBackS hx (y := (⟨"java/lang/String", "<init>", "([CIILjava/lang/Void;)V"⟩ : MethodName)) rfl hown (mvT hZ (hw _ (mi 12 rfl))) (mvT hZ (hw _ (mi 13 rfl))) (mvT hZ (hw _ (mi 15 rfl))) (by decide) (own_backOfSIP (W := 0) (rmiAn0 l Z aZ hw [] a0 a1 _ h0 n0 Z0 E_a0 F_a0_value F_a0_coder g_a0 V_a1 hkp hcn7 hcw) hZ (hw _ (mi 15 rfl)) (hw _ (mi 8 rfl)) (by decide) (by decide) IB0) (g := (mkF m 6 #[rv a0, rv a1] [.null, (.int 0), (.int 0), (.ref a1), (.ref a0)])) rfl (by rw [hml]; rfl) (Steps.refl _) (a := a0) (argsL := [(.ref a1), (.int 0), (.int 0), .null]) (rest := []) (lenOf pd_23 rfl) rfl (by show 2 * 0 + _ ≤ _; exact Nat.le_of_eq rfl) (hb hby d2_6) (fun _ _ => ⟨rfl, e0, (by decide : 0 + 2 ≤ _), (by decide : 0 + 4 ≤ _)⟩)
  dsimp only [Pt.U, Pt.locs, Pt.cells, Pt.slots] at X3q hS3q hg3 l3 y3 z3 st3 hQ3
  subst l3 y3 z3
  have hk3q : s.heap.size ≤ s₁.heap.size := by rw [e0]; exact hk0
  obtain ⟨X3, hS3, hZ3, hown3⟩ := rebS hS0 hk3q X3q hS3q hg3 hZ hown
  have hk3r : T3.heap.size ≤ T3.heap.size := Nat.le_refl _
  obtain ⟨rfl, N3q, K3q, G3_0, G3_1, bx3, kx3, GX3, GV3⟩ := hQ3
  have N3 := Fr.app N0 N3q
  have K3 : Keep h0 T3.heap [a0] := K0.trans K3q (allS (Or.inl (List.mem_of_getElem? (i := 0) rfl)) all0)
  have Zs3 : n0 ≤ T3.heap.size := Nat.le_trans Z0 K3q.1
  have hk3 : s.heap.size ≤ T3.heap.size := Nat.le_trans hk0 K3q.1
  have go4 := gapT go2 st3
  obtain ⟨fs, hr, hrun, hended, hRW⟩ := X3.leaveW hS3 (hk3r) (v := none) (fun _ => rfl) Bd.notSynchronized
  subst hEn
  refine ⟨_, _, go4 _ (X3.returnOut hx Bd.returns (hb hby d2_9) hr), hrun, hended, _, _, rfl, ?_, own_ib IB3 X3.warmed.interned_eq, hRW.1, hRW.2.1, hRW.2.2.1, hRW.2.2.2.mono (by decide) (by decide)⟩
  show QiBn0 _ _ a0 a1 k_a1 h0 _ (T3.setFrames fs).heap _
  have hE : (T3.setFrames fs).heap = T3.heap := rfl
  rw [hE]
  exact ⟨rfl, N3, K3, G3_0, G3_1, bx3, kx3, GX3, GV3⟩
theorem d1_0 : decode method_2_code 0 = .ok (.iload_n 0, 1) := by decide +kernel
theorem d1_1 : decode method_2_code 1 = .ok (.ifCond .ne 242, 3) := by decide +kernel
theorem d1_4 : decode method_2_code 4 = .ok (.iload_n 1, 1) := by decide +kernel
theorem d1_5 : decode method_2_code 5 = .ok (.ifCond .ne 80, 3) := by decide +kernel
theorem d1_8 : decode method_2_code 8 = .ok (.bipush 13, 2) := by decide +kernel
theorem d1_10 : decode method_2_code 10 = .ok (.newarray .char, 2) := by decide +kernel
theorem d1_12 : decode method_2_code 12 = .ok (.dup, 1) := by decide +kernel
theorem d1_13 : decode method_2_code 13 = .ok (.iconst 0, 1) := by decide +kernel
theorem d1_14 : decode method_2_code 14 = .ok (.bipush 109, 2) := by decide +kernel
theorem d1_16 : decode method_2_code 16 = .ok (.castore, 1) := by decide +kernel
theorem d1_17 : decode method_2_code 17 = .ok (.dup, 1) := by decide +kernel
theorem d1_18 : decode method_2_code 18 = .ok (.iconst 1, 1) := by decide +kernel
theorem d1_19 : decode method_2_code 19 = .ok (.bipush 111, 2) := by decide +kernel
theorem d1_21 : decode method_2_code 21 = .ok (.castore, 1) := by decide +kernel
theorem d1_22 : decode method_2_code 22 = .ok (.dup, 1) := by decide +kernel
theorem d1_23 : decode method_2_code 23 = .ok (.iconst 2, 1) := by decide +kernel
theorem d1_24 : decode method_2_code 24 = .ok (.bipush 100, 2) := by decide +kernel
theorem d1_26 : decode method_2_code 26 = .ok (.castore, 1) := by decide +kernel
theorem d1_27 : decode method_2_code 27 = .ok (.dup, 1) := by decide +kernel
theorem d1_28 : decode method_2_code 28 = .ok (.iconst 3, 1) := by decide +kernel
theorem d1_29 : decode method_2_code 29 = .ok (.bipush 117, 2) := by decide +kernel
theorem d1_31 : decode method_2_code 31 = .ok (.castore, 1) := by decide +kernel
theorem d1_32 : decode method_2_code 32 = .ok (.dup, 1) := by decide +kernel
theorem d1_33 : decode method_2_code 33 = .ok (.iconst 4, 1) := by decide +kernel
theorem d1_34 : decode method_2_code 34 = .ok (.bipush 108, 2) := by decide +kernel
theorem d1_36 : decode method_2_code 36 = .ok (.castore, 1) := by decide +kernel
theorem d1_37 : decode method_2_code 37 = .ok (.dup, 1) := by decide +kernel
theorem d1_38 : decode method_2_code 38 = .ok (.iconst 5, 1) := by decide +kernel
theorem d1_39 : decode method_2_code 39 = .ok (.bipush 101, 2) := by decide +kernel
theorem d1_41 : decode method_2_code 41 = .ok (.castore, 1) := by decide +kernel
theorem d1_42 : decode method_2_code 42 = .ok (.dup, 1) := by decide +kernel
theorem d1_43 : decode method_2_code 43 = .ok (.bipush 6, 2) := by decide +kernel
theorem d1_45 : decode method_2_code 45 = .ok (.bipush 67, 2) := by decide +kernel
theorem d1_47 : decode method_2_code 47 = .ok (.castore, 1) := by decide +kernel
theorem d1_48 : decode method_2_code 48 = .ok (.dup, 1) := by decide +kernel
theorem d1_49 : decode method_2_code 49 = .ok (.bipush 7, 2) := by decide +kernel
theorem d1_51 : decode method_2_code 51 = .ok (.bipush 111, 2) := by decide +kernel
theorem d1_53 : decode method_2_code 53 = .ok (.castore, 1) := by decide +kernel
theorem d1_54 : decode method_2_code 54 = .ok (.dup, 1) := by decide +kernel
theorem d1_55 : decode method_2_code 55 = .ok (.bipush 8, 2) := by decide +kernel
theorem d1_57 : decode method_2_code 57 = .ok (.bipush 110, 2) := by decide +kernel
theorem d1_59 : decode method_2_code 59 = .ok (.castore, 1) := by decide +kernel
theorem d1_60 : decode method_2_code 60 = .ok (.dup, 1) := by decide +kernel
theorem d1_61 : decode method_2_code 61 = .ok (.bipush 9, 2) := by decide +kernel
theorem d1_63 : decode method_2_code 63 = .ok (.bipush 116, 2) := by decide +kernel
theorem d1_65 : decode method_2_code 65 = .ok (.castore, 1) := by decide +kernel
theorem d1_66 : decode method_2_code 66 = .ok (.dup, 1) := by decide +kernel
theorem d1_67 : decode method_2_code 67 = .ok (.bipush 10, 2) := by decide +kernel
theorem d1_69 : decode method_2_code 69 = .ok (.bipush 101, 2) := by decide +kernel
theorem d1_71 : decode method_2_code 71 = .ok (.castore, 1) := by decide +kernel
theorem d1_72 : decode method_2_code 72 = .ok (.dup, 1) := by decide +kernel
theorem d1_73 : decode method_2_code 73 = .ok (.bipush 11, 2) := by decide +kernel
theorem d1_75 : decode method_2_code 75 = .ok (.bipush 120, 2) := by decide +kernel
theorem d1_77 : decode method_2_code 77 = .ok (.castore, 1) := by decide +kernel
theorem d1_78 : decode method_2_code 78 = .ok (.dup, 1) := by decide +kernel
theorem d1_79 : decode method_2_code 79 = .ok (.bipush 12, 2) := by decide +kernel
theorem d1_81 : decode method_2_code 81 = .ok (.bipush 116, 2) := by decide +kernel
theorem d1_83 : decode method_2_code 83 = .ok (.castore, 1) := by decide +kernel
theorem d1_84 : decode method_2_code 84 = .ok (.areturn, 1) := by decide +kernel
theorem pn_84 : plainName "com/example/calycule/calycule/config/ModuleContextIsImplicitPinLaw" = true := by first | (simp [plainName, overriddenIn]; done) | decide +kernel
def Qnm00 (Z : State) (n0 : Nat) (h0 : Heap) (v : Option Value) (h : Heap) (L : List Loc) : Prop := ∃ (b : Addr) (kb : ClassId), v = some (.ref b) ∧ Fr n0 L ∧ Keep h0 h [] ∧ h0.size ≤ b ∧ Arv Z h b kb .char (13 : Int32) [(.int (109 : Int32)), (.int (111 : Int32)), (.int (100 : Int32)), (.int (117 : Int32)), (.int (108 : Int32)), (.int (101 : Int32)), (.int (67 : Int32)), (.int (111 : Int32)), (.int (110 : Int32)), (.int (116 : Int32)), (.int (101 : Int32)), (.int (120 : Int32)), (.int (116 : Int32))] (.int (0 : Int32))
theorem efnm00 (m : MethodId) : entryFrame m #[(.int (0 : Int32)), (.int (0 : Int32))] 2 = mkF m 0 #[iv (0 : Int32), iv (0 : Int32)] [] := by first | (simp [entryFrame, mkF, argsToLocals, Value.category]; done) | rfl
abbrev Lnm00_0 : Array Slot := #[iv 0, iv 0]
set_option maxRecDepth 65536 in
set_option maxHeartbeats 40000000 in
theorem rmnm00 (l : Launch) (Z : State) (aZ : Array Value) (hw : ∀ d ∈ tables_1, d.before aZ Z = true) (ws : List Jvm.Cond) (h0 : Heap) (n0 : Nat) (Z0 : n0 ≤ h0.size) :
    MFn l (⟨"com/example/calycule/calycule/config/ModuleContextIsImplicitPinLaw", "name", "(II)[C"⟩ : MethodName) method_2_code 2 (some (.array .char)) ws (Rm 0 1 13 0) #[(.int 0), (.int 0)] Z h0 (Qnm00 Z n0 h0) := by
  refine own_mf (C := "com/example/calycule/calycule/config/ModuleContextIsImplicitPinLaw") rfl (plainFor_of_name pn_84) (fun m => efnm00 m) ?_
  intro p e s m below meth cd0 s₁ En hx hby hml hown hnm hZ X0 e0 hlk hrt go0
  have N0 := Fr.nil n0
  have K0 : Keep h0 h0 [] := Keep.refl _ _
  have go1 : Go p.tables e below s₁ (mkF m 10 Lnm00_0 [(.int 13)]) En := by
    intro t k
    refine go0 _ ?_
    refine XS.iloadN X0.here hx rfl (hb hby d1_0) rfl ?_
    refine XS.ifNo X0.here hx rfl (hb hby d1_1) rfl (XT.i0_ne_f (by decide : ((0 : Int32) = (0 : Int32)))) ?_
    refine XS.iloadN X0.here hx rfl (hb hby d1_4) rfl ?_
    show Steps _ _ _ (s₁.setTop (mkF m 5 Lnm00_0 [(.int 0)])) _
    refine XS.ifNo X0.here hx rfl (hb hby d1_5) rfl (XT.i0_ne_f (by decide : ((0 : Int32) = (0 : Int32)))) ?_
    refine XS.bipush X0.here hx rfl (hb hby d1_8) ?_
    exact k
  obtain ⟨T2, h2, k2, X2, e2, E2, A2, st2⟩ := newP X0 hx hZ (hw _ (mi 5 rfl)) e0 (g := (mkF m 10 Lnm00_0 [(.int 13)])) rfl (hb hby d1_10) rfl (by decide) (cap := 13) (by decide) (by decide) (by decide) (by decide)
  obtain ⟨b2, g2⟩ : ∃ z, z = h0.size := ⟨_, rfl⟩
  rw [← g2] at A2 st2
  have low2 : n0 ≤ b2 := Nat.le_trans Z0 (Nat.le_of_eq g2.symm)
  have fsh2 : h0.size ≤ b2 := Nat.le_trans K0.1 (Nat.le_of_eq g2.symm)
  have K2 : Keep h0 h2 [] := K0.ext E2
  have Zs2 : n0 ≤ h2.size := Nat.le_trans Z0 E2.1
  have go3 := gap go1 st2
  have F4 : Arv Z h2 b2 k2 .char (13 : Int32) [(.int 0), (.int 0), (.int 0), (.int 0), (.int 0), (.int 0), (.int 0), (.int 0), (.int 0), (.int 0), (.int 0), (.int 0), (.int 0)] (.int 0) := (Arv.new A2 (by decide)).pad (pad_rep [] (.int 0) 13)
  have go5 : Go p.tables e below T2 (mkF m 16 Lnm00_0 [(.int 109), (.int 0), (.ref b2), (.ref b2)]) En := by
    intro t k
    refine go3 _ ?_
    refine XS.dup X2.here hx rfl (hb hby d1_12) rfl rfl ?_
    refine XS.iconst X2.here hx rfl (hb hby d1_13) ?_
    refine XS.bipush X2.here hx rfl (hb hby d1_14) ?_
    show Steps _ _ _ (T2.setTop (mkF m 16 Lnm00_0 [(.int 109), (.int 0), (.ref b2), (.ref b2)])) _
    exact k
  obtain ⟨cl7, Ar7, q7, S7, N7, H7, G7⟩ := id F4
  obtain ⟨T6, h6, X6, e6, W6, st6⟩ := stC X2 hx hZ e2 Ar7 (j := (0 : Int32)) (inb_of S7 ⟨by decide, by decide⟩) (g := (mkF m 16 Lnm00_0 [(.int 109), (.int 0), (.ref b2), (.ref b2)])) rfl rfl (hb hby d1_16)
  have go8 := gap go5 st6
  have N6 := Fr.snoc X6 N0 low2
  have K6 : Keep h0 h6 [] := K2.wr W6 (Or.inr fsh2)
  have Zs6 : n0 ≤ h6.size := Nat.le_trans Zs2 (Keep.of_wr W6).1
  have F9 : Arv Z h6 b2 k2 .char (13 : Int32) [(.int 109), (.int 0), (.int 0), (.int 0), (.int 0), (.int 0), (.int 0), (.int 0), (.int 0), (.int 0), (.int 0), (.int 0), (.int 0)] (.int 0) := Arv.set Ar7 q7 S7 N7 H7 G7 (fits_nar_char _) W6 0 rfl (Nat.le_of_ble_eq_true rfl)
  have go10 : Go p.tables e below T6 (mkF m 21 Lnm00_0 [(.int 111), (.int 1), (.ref b2), (.ref b2)]) En := by
    intro t k
    refine go8 _ ?_
    refine XS.dup X6.here hx rfl (hb hby d1_17) rfl rfl ?_
    refine XS.iconst X6.here hx rfl (hb hby d1_18) ?_
    refine XS.bipush X6.here hx rfl (hb hby d1_19) ?_
    show Steps _ _ _ (T6.setTop (mkF m 21 Lnm00_0 [(.int 111), (.int 1), (.ref b2), (.ref b2)])) _
    exact k
  obtain ⟨cl12, Ar12, q12, S12, N12, H12, G12⟩ := id F9
  obtain ⟨T11, h11, X11, e11, W11, st11⟩ := stC X6 hx hZ e6 Ar12 (j := (1 : Int32)) (inb_of S12 ⟨by decide, by decide⟩) (g := (mkF m 21 Lnm00_0 [(.int 111), (.int 1), (.ref b2), (.ref b2)])) rfl rfl (hb hby d1_21)
  have go13 := gap go10 st11
  have N11 := Fr.snoc X11 N6 low2
  have K11 : Keep h0 h11 [] := K6.wr W11 (Or.inr fsh2)
  have Zs11 : n0 ≤ h11.size := Nat.le_trans Zs6 (Keep.of_wr W11).1
  have F14 : Arv Z h11 b2 k2 .char (13 : Int32) [(.int 109), (.int 111), (.int 0), (.int 0), (.int 0), (.int 0), (.int 0), (.int 0), (.int 0), (.int 0), (.int 0), (.int 0), (.int 0)] (.int 0) := Arv.set Ar12 q12 S12 N12 H12 G12 (fits_nar_char _) W11 1 rfl (Nat.le_of_ble_eq_true rfl)
  have go15 : Go p.tables e below T11 (mkF m 26 Lnm00_0 [(.int 100), (.int 2), (.ref b2), (.ref b2)]) En := by
    intro t k
    refine go13 _ ?_
    refine XS.dup X11.here hx rfl (hb hby d1_22) rfl rfl ?_
    refine XS.iconst X11.here hx rfl (hb hby d1_23) ?_
    refine XS.bipush X11.here hx rfl (hb hby d1_24) ?_
    show Steps _ _ _ (T11.setTop (mkF m 26 Lnm00_0 [(.int 100), (.int 2), (.ref b2), (.ref b2)])) _
    exact k
  obtain ⟨cl17, Ar17, q17, S17, N17, H17, G17⟩ := id F14
  obtain ⟨T16, h16, X16, e16, W16, st16⟩ := stC X11 hx hZ e11 Ar17 (j := (2 : Int32)) (inb_of S17 ⟨by decide, by decide⟩) (g := (mkF m 26 Lnm00_0 [(.int 100), (.int 2), (.ref b2), (.ref b2)])) rfl rfl (hb hby d1_26)
  have go18 := gap go15 st16
  have N16 := Fr.snoc X16 N11 low2
  have K16 : Keep h0 h16 [] := K11.wr W16 (Or.inr fsh2)
  have Zs16 : n0 ≤ h16.size := Nat.le_trans Zs11 (Keep.of_wr W16).1
  have F19 : Arv Z h16 b2 k2 .char (13 : Int32) [(.int 109), (.int 111), (.int 100), (.int 0), (.int 0), (.int 0), (.int 0), (.int 0), (.int 0), (.int 0), (.int 0), (.int 0), (.int 0)] (.int 0) := Arv.set Ar17 q17 S17 N17 H17 G17 (fits_nar_char _) W16 2 rfl (Nat.le_of_ble_eq_true rfl)
  have go20 : Go p.tables e below T16 (mkF m 31 Lnm00_0 [(.int 117), (.int 3), (.ref b2), (.ref b2)]) En := by
    intro t k
    refine go18 _ ?_
    refine XS.dup X16.here hx rfl (hb hby d1_27) rfl rfl ?_
    refine XS.iconst X16.here hx rfl (hb hby d1_28) ?_
    refine XS.bipush X16.here hx rfl (hb hby d1_29) ?_
    show Steps _ _ _ (T16.setTop (mkF m 31 Lnm00_0 [(.int 117), (.int 3), (.ref b2), (.ref b2)])) _
    exact k
  obtain ⟨cl22, Ar22, q22, S22, N22, H22, G22⟩ := id F19
  obtain ⟨T21, h21, X21, e21, W21, st21⟩ := stC X16 hx hZ e16 Ar22 (j := (3 : Int32)) (inb_of S22 ⟨by decide, by decide⟩) (g := (mkF m 31 Lnm00_0 [(.int 117), (.int 3), (.ref b2), (.ref b2)])) rfl rfl (hb hby d1_31)
  have go23 := gap go20 st21
  have N21 := Fr.snoc X21 N16 low2
  have K21 : Keep h0 h21 [] := K16.wr W21 (Or.inr fsh2)
  have Zs21 : n0 ≤ h21.size := Nat.le_trans Zs16 (Keep.of_wr W21).1
  have F24 : Arv Z h21 b2 k2 .char (13 : Int32) [(.int 109), (.int 111), (.int 100), (.int 117), (.int 0), (.int 0), (.int 0), (.int 0), (.int 0), (.int 0), (.int 0), (.int 0), (.int 0)] (.int 0) := Arv.set Ar22 q22 S22 N22 H22 G22 (fits_nar_char _) W21 3 rfl (Nat.le_of_ble_eq_true rfl)
  have go25 : Go p.tables e below T21 (mkF m 36 Lnm00_0 [(.int 108), (.int 4), (.ref b2), (.ref b2)]) En := by
    intro t k
    refine go23 _ ?_
    refine XS.dup X21.here hx rfl (hb hby d1_32) rfl rfl ?_
    refine XS.iconst X21.here hx rfl (hb hby d1_33) ?_
    refine XS.bipush X21.here hx rfl (hb hby d1_34) ?_
    show Steps _ _ _ (T21.setTop (mkF m 36 Lnm00_0 [(.int 108), (.int 4), (.ref b2), (.ref b2)])) _
    exact k
  obtain ⟨cl27, Ar27, q27, S27, N27, H27, G27⟩ := id F24
  obtain ⟨T26, h26, X26, e26, W26, st26⟩ := stC X21 hx hZ e21 Ar27 (j := (4 : Int32)) (inb_of S27 ⟨by decide, by decide⟩) (g := (mkF m 36 Lnm00_0 [(.int 108), (.int 4), (.ref b2), (.ref b2)])) rfl rfl (hb hby d1_36)
  have go28 := gap go25 st26
  have N26 := Fr.snoc X26 N21 low2
  have K26 : Keep h0 h26 [] := K21.wr W26 (Or.inr fsh2)
  have Zs26 : n0 ≤ h26.size := Nat.le_trans Zs21 (Keep.of_wr W26).1
  have F29 : Arv Z h26 b2 k2 .char (13 : Int32) [(.int 109), (.int 111), (.int 100), (.int 117), (.int 108), (.int 0), (.int 0), (.int 0), (.int 0), (.int 0), (.int 0), (.int 0), (.int 0)] (.int 0) := Arv.set Ar27 q27 S27 N27 H27 G27 (fits_nar_char _) W26 4 rfl (Nat.le_of_ble_eq_true rfl)
  have go30 : Go p.tables e below T26 (mkF m 41 Lnm00_0 [(.int 101), (.int 5), (.ref b2), (.ref b2)]) En := by
    intro t k
    refine go28 _ ?_
    refine XS.dup X26.here hx rfl (hb hby d1_37) rfl rfl ?_
    refine XS.iconst X26.here hx rfl (hb hby d1_38) ?_
    refine XS.bipush X26.here hx rfl (hb hby d1_39) ?_
    show Steps _ _ _ (T26.setTop (mkF m 41 Lnm00_0 [(.int 101), (.int 5), (.ref b2), (.ref b2)])) _
    exact k
  obtain ⟨cl32, Ar32, q32, S32, N32, H32, G32⟩ := id F29
  obtain ⟨T31, h31, X31, e31, W31, st31⟩ := stC X26 hx hZ e26 Ar32 (j := (5 : Int32)) (inb_of S32 ⟨by decide, by decide⟩) (g := (mkF m 41 Lnm00_0 [(.int 101), (.int 5), (.ref b2), (.ref b2)])) rfl rfl (hb hby d1_41)
  have go33 := gap go30 st31
  have N31 := Fr.snoc X31 N26 low2
  have K31 : Keep h0 h31 [] := K26.wr W31 (Or.inr fsh2)
  have Zs31 : n0 ≤ h31.size := Nat.le_trans Zs26 (Keep.of_wr W31).1
  have F34 : Arv Z h31 b2 k2 .char (13 : Int32) [(.int 109), (.int 111), (.int 100), (.int 117), (.int 108), (.int 101), (.int 0), (.int 0), (.int 0), (.int 0), (.int 0), (.int 0), (.int 0)] (.int 0) := Arv.set Ar32 q32 S32 N32 H32 G32 (fits_nar_char _) W31 5 rfl (Nat.le_of_ble_eq_true rfl)
  have go35 : Go p.tables e below T31 (mkF m 47 Lnm00_0 [(.int 67), (.int 6), (.ref b2), (.ref b2)]) En := by
    intro t k
    refine go33 _ ?_
    refine XS.dup X31.here hx rfl (hb hby d1_42) rfl rfl ?_
    refine XS.bipush X31.here hx rfl (hb hby d1_43) ?_
    refine XS.bipush X31.here hx rfl (hb hby d1_45) ?_
    show Steps _ _ _ (T31.setTop (mkF m 47 Lnm00_0 [(.int 67), (.int 6), (.ref b2), (.ref b2)])) _
    exact k
  obtain ⟨cl37, Ar37, q37, S37, N37, H37, G37⟩ := id F34
  obtain ⟨T36, h36, X36, e36, W36, st36⟩ := stC X31 hx hZ e31 Ar37 (j := (6 : Int32)) (inb_of S37 ⟨by decide, by decide⟩) (g := (mkF m 47 Lnm00_0 [(.int 67), (.int 6), (.ref b2), (.ref b2)])) rfl rfl (hb hby d1_47)
  have go38 := gap go35 st36
  have N36 := Fr.snoc X36 N31 low2
  have K36 : Keep h0 h36 [] := K31.wr W36 (Or.inr fsh2)
  have Zs36 : n0 ≤ h36.size := Nat.le_trans Zs31 (Keep.of_wr W36).1
  have F39 : Arv Z h36 b2 k2 .char (13 : Int32) [(.int 109), (.int 111), (.int 100), (.int 117), (.int 108), (.int 101), (.int 67), (.int 0), (.int 0), (.int 0), (.int 0), (.int 0), (.int 0)] (.int 0) := Arv.set Ar37 q37 S37 N37 H37 G37 (fits_nar_char _) W36 6 rfl (Nat.le_of_ble_eq_true rfl)
  have go40 : Go p.tables e below T36 (mkF m 53 Lnm00_0 [(.int 111), (.int 7), (.ref b2), (.ref b2)]) En := by
    intro t k
    refine go38 _ ?_
    refine XS.dup X36.here hx rfl (hb hby d1_48) rfl rfl ?_
    refine XS.bipush X36.here hx rfl (hb hby d1_49) ?_
    refine XS.bipush X36.here hx rfl (hb hby d1_51) ?_
    show Steps _ _ _ (T36.setTop (mkF m 53 Lnm00_0 [(.int 111), (.int 7), (.ref b2), (.ref b2)])) _
    exact k
  obtain ⟨cl42, Ar42, q42, S42, N42, H42, G42⟩ := id F39
  obtain ⟨T41, h41, X41, e41, W41, st41⟩ := stC X36 hx hZ e36 Ar42 (j := (7 : Int32)) (inb_of S42 ⟨by decide, by decide⟩) (g := (mkF m 53 Lnm00_0 [(.int 111), (.int 7), (.ref b2), (.ref b2)])) rfl rfl (hb hby d1_53)
  have go43 := gap go40 st41
  have N41 := Fr.snoc X41 N36 low2
  have K41 : Keep h0 h41 [] := K36.wr W41 (Or.inr fsh2)
  have Zs41 : n0 ≤ h41.size := Nat.le_trans Zs36 (Keep.of_wr W41).1
  have F44 : Arv Z h41 b2 k2 .char (13 : Int32) [(.int 109), (.int 111), (.int 100), (.int 117), (.int 108), (.int 101), (.int 67), (.int 111), (.int 0), (.int 0), (.int 0), (.int 0), (.int 0)] (.int 0) := Arv.set Ar42 q42 S42 N42 H42 G42 (fits_nar_char _) W41 7 rfl (Nat.le_of_ble_eq_true rfl)
  have go45 : Go p.tables e below T41 (mkF m 59 Lnm00_0 [(.int 110), (.int 8), (.ref b2), (.ref b2)]) En := by
    intro t k
    refine go43 _ ?_
    refine XS.dup X41.here hx rfl (hb hby d1_54) rfl rfl ?_
    refine XS.bipush X41.here hx rfl (hb hby d1_55) ?_
    refine XS.bipush X41.here hx rfl (hb hby d1_57) ?_
    show Steps _ _ _ (T41.setTop (mkF m 59 Lnm00_0 [(.int 110), (.int 8), (.ref b2), (.ref b2)])) _
    exact k
  obtain ⟨cl47, Ar47, q47, S47, N47, H47, G47⟩ := id F44
  obtain ⟨T46, h46, X46, e46, W46, st46⟩ := stC X41 hx hZ e41 Ar47 (j := (8 : Int32)) (inb_of S47 ⟨by decide, by decide⟩) (g := (mkF m 59 Lnm00_0 [(.int 110), (.int 8), (.ref b2), (.ref b2)])) rfl rfl (hb hby d1_59)
  have go48 := gap go45 st46
  have N46 := Fr.snoc X46 N41 low2
  have K46 : Keep h0 h46 [] := K41.wr W46 (Or.inr fsh2)
  have Zs46 : n0 ≤ h46.size := Nat.le_trans Zs41 (Keep.of_wr W46).1
  have F49 : Arv Z h46 b2 k2 .char (13 : Int32) [(.int 109), (.int 111), (.int 100), (.int 117), (.int 108), (.int 101), (.int 67), (.int 111), (.int 110), (.int 0), (.int 0), (.int 0), (.int 0)] (.int 0) := Arv.set Ar47 q47 S47 N47 H47 G47 (fits_nar_char _) W46 8 rfl (Nat.le_of_ble_eq_true rfl)
  have go50 : Go p.tables e below T46 (mkF m 65 Lnm00_0 [(.int 116), (.int 9), (.ref b2), (.ref b2)]) En := by
    intro t k
    refine go48 _ ?_
    refine XS.dup X46.here hx rfl (hb hby d1_60) rfl rfl ?_
    refine XS.bipush X46.here hx rfl (hb hby d1_61) ?_
    refine XS.bipush X46.here hx rfl (hb hby d1_63) ?_
    show Steps _ _ _ (T46.setTop (mkF m 65 Lnm00_0 [(.int 116), (.int 9), (.ref b2), (.ref b2)])) _
    exact k
  obtain ⟨cl52, Ar52, q52, S52, N52, H52, G52⟩ := id F49
  obtain ⟨T51, h51, X51, e51, W51, st51⟩ := stC X46 hx hZ e46 Ar52 (j := (9 : Int32)) (inb_of S52 ⟨by decide, by decide⟩) (g := (mkF m 65 Lnm00_0 [(.int 116), (.int 9), (.ref b2), (.ref b2)])) rfl rfl (hb hby d1_65)
  have go53 := gap go50 st51
  have N51 := Fr.snoc X51 N46 low2
  have K51 : Keep h0 h51 [] := K46.wr W51 (Or.inr fsh2)
  have Zs51 : n0 ≤ h51.size := Nat.le_trans Zs46 (Keep.of_wr W51).1
  have F54 : Arv Z h51 b2 k2 .char (13 : Int32) [(.int 109), (.int 111), (.int 100), (.int 117), (.int 108), (.int 101), (.int 67), (.int 111), (.int 110), (.int 116), (.int 0), (.int 0), (.int 0)] (.int 0) := Arv.set Ar52 q52 S52 N52 H52 G52 (fits_nar_char _) W51 9 rfl (Nat.le_of_ble_eq_true rfl)
  have go55 : Go p.tables e below T51 (mkF m 71 Lnm00_0 [(.int 101), (.int 10), (.ref b2), (.ref b2)]) En := by
    intro t k
    refine go53 _ ?_
    refine XS.dup X51.here hx rfl (hb hby d1_66) rfl rfl ?_
    refine XS.bipush X51.here hx rfl (hb hby d1_67) ?_
    refine XS.bipush X51.here hx rfl (hb hby d1_69) ?_
    show Steps _ _ _ (T51.setTop (mkF m 71 Lnm00_0 [(.int 101), (.int 10), (.ref b2), (.ref b2)])) _
    exact k
  obtain ⟨cl57, Ar57, q57, S57, N57, H57, G57⟩ := id F54
  obtain ⟨T56, h56, X56, e56, W56, st56⟩ := stC X51 hx hZ e51 Ar57 (j := (10 : Int32)) (inb_of S57 ⟨by decide, by decide⟩) (g := (mkF m 71 Lnm00_0 [(.int 101), (.int 10), (.ref b2), (.ref b2)])) rfl rfl (hb hby d1_71)
  have go58 := gap go55 st56
  have N56 := Fr.snoc X56 N51 low2
  have K56 : Keep h0 h56 [] := K51.wr W56 (Or.inr fsh2)
  have Zs56 : n0 ≤ h56.size := Nat.le_trans Zs51 (Keep.of_wr W56).1
  have F59 : Arv Z h56 b2 k2 .char (13 : Int32) [(.int 109), (.int 111), (.int 100), (.int 117), (.int 108), (.int 101), (.int 67), (.int 111), (.int 110), (.int 116), (.int 101), (.int 0), (.int 0)] (.int 0) := Arv.set Ar57 q57 S57 N57 H57 G57 (fits_nar_char _) W56 10 rfl (Nat.le_of_ble_eq_true rfl)
  have go60 : Go p.tables e below T56 (mkF m 77 Lnm00_0 [(.int 120), (.int 11), (.ref b2), (.ref b2)]) En := by
    intro t k
    refine go58 _ ?_
    refine XS.dup X56.here hx rfl (hb hby d1_72) rfl rfl ?_
    refine XS.bipush X56.here hx rfl (hb hby d1_73) ?_
    refine XS.bipush X56.here hx rfl (hb hby d1_75) ?_
    show Steps _ _ _ (T56.setTop (mkF m 77 Lnm00_0 [(.int 120), (.int 11), (.ref b2), (.ref b2)])) _
    exact k
  obtain ⟨cl62, Ar62, q62, S62, N62, H62, G62⟩ := id F59
  obtain ⟨T61, h61, X61, e61, W61, st61⟩ := stC X56 hx hZ e56 Ar62 (j := (11 : Int32)) (inb_of S62 ⟨by decide, by decide⟩) (g := (mkF m 77 Lnm00_0 [(.int 120), (.int 11), (.ref b2), (.ref b2)])) rfl rfl (hb hby d1_77)
  have go63 := gap go60 st61
  have N61 := Fr.snoc X61 N56 low2
  have K61 : Keep h0 h61 [] := K56.wr W61 (Or.inr fsh2)
  have Zs61 : n0 ≤ h61.size := Nat.le_trans Zs56 (Keep.of_wr W61).1
  have F64 : Arv Z h61 b2 k2 .char (13 : Int32) [(.int 109), (.int 111), (.int 100), (.int 117), (.int 108), (.int 101), (.int 67), (.int 111), (.int 110), (.int 116), (.int 101), (.int 120), (.int 0)] (.int 0) := Arv.set Ar62 q62 S62 N62 H62 G62 (fits_nar_char _) W61 11 rfl (Nat.le_of_ble_eq_true rfl)
  have go65 : Go p.tables e below T61 (mkF m 83 Lnm00_0 [(.int 116), (.int 12), (.ref b2), (.ref b2)]) En := by
    intro t k
    refine go63 _ ?_
    refine XS.dup X61.here hx rfl (hb hby d1_78) rfl rfl ?_
    refine XS.bipush X61.here hx rfl (hb hby d1_79) ?_
    refine XS.bipush X61.here hx rfl (hb hby d1_81) ?_
    show Steps _ _ _ (T61.setTop (mkF m 83 Lnm00_0 [(.int 116), (.int 12), (.ref b2), (.ref b2)])) _
    exact k
  obtain ⟨cl67, Ar67, q67, S67, N67, H67, G67⟩ := id F64
  obtain ⟨T66, h66, X66, e66, W66, st66⟩ := stC X61 hx hZ e61 Ar67 (j := (12 : Int32)) (inb_of S67 ⟨by decide, by decide⟩) (g := (mkF m 83 Lnm00_0 [(.int 116), (.int 12), (.ref b2), (.ref b2)])) rfl rfl (hb hby d1_83)
  have go68 := gap go65 st66
  have N66 := Fr.snoc X66 N61 low2
  have K66 : Keep h0 h66 [] := K61.wr W66 (Or.inr fsh2)
  have Zs66 : n0 ≤ h66.size := Nat.le_trans Zs61 (Keep.of_wr W66).1
  have F69 : Arv Z h66 b2 k2 .char (13 : Int32) [(.int 109), (.int 111), (.int 100), (.int 117), (.int 108), (.int 101), (.int 67), (.int 111), (.int 110), (.int 116), (.int 101), (.int 120), (.int 116)] (.int 0) := Arv.set Ar67 q67 S67 N67 H67 G67 (fits_nar_char _) W66 12 rfl (Nat.le_of_ble_eq_true rfl)
  refine own_out (w := (.ref b2)) X66 hx hlk go68 hrt rfl (Or.inr (Or.inr (Or.inr (Or.inr ⟨rfl, rfl, rfl⟩)))) (hb hby d1_84) e66 (by decide) (by decide) ?_
  exact ⟨b2, k2, rfl, N66, K66, fsh2, F69⟩
theorem d1_85 : decode method_2_code 85 = .ok (.iload_n 1, 1) := by decide +kernel
theorem d1_86 : decode method_2_code 86 = .ok (.iconst 1, 1) := by decide +kernel
theorem d1_87 : decode method_2_code 87 = .ok (.if_icmp .ne 85, 3) := by decide +kernel
theorem d1_90 : decode method_2_code 90 = .ok (.bipush 14, 2) := by decide +kernel
theorem d1_92 : decode method_2_code 92 = .ok (.newarray .char, 2) := by decide +kernel
theorem d1_94 : decode method_2_code 94 = .ok (.dup, 1) := by decide +kernel
theorem d1_95 : decode method_2_code 95 = .ok (.iconst 0, 1) := by decide +kernel
theorem d1_96 : decode method_2_code 96 = .ok (.bipush 109, 2) := by decide +kernel
theorem d1_98 : decode method_2_code 98 = .ok (.castore, 1) := by decide +kernel
theorem d1_99 : decode method_2_code 99 = .ok (.dup, 1) := by decide +kernel
theorem d1_100 : decode method_2_code 100 = .ok (.iconst 1, 1) := by decide +kernel
theorem d1_101 : decode method_2_code 101 = .ok (.bipush 111, 2) := by decide +kernel
theorem d1_103 : decode method_2_code 103 = .ok (.castore, 1) := by decide +kernel
theorem d1_104 : decode method_2_code 104 = .ok (.dup, 1) := by decide +kernel
theorem d1_105 : decode method_2_code 105 = .ok (.iconst 2, 1) := by decide +kernel
theorem d1_106 : decode method_2_code 106 = .ok (.bipush 100, 2) := by decide +kernel
theorem d1_108 : decode method_2_code 108 = .ok (.castore, 1) := by decide +kernel
theorem d1_109 : decode method_2_code 109 = .ok (.dup, 1) := by decide +kernel
theorem d1_110 : decode method_2_code 110 = .ok (.iconst 3, 1) := by decide +kernel
theorem d1_111 : decode method_2_code 111 = .ok (.bipush 117, 2) := by decide +kernel
theorem d1_113 : decode method_2_code 113 = .ok (.castore, 1) := by decide +kernel
theorem d1_114 : decode method_2_code 114 = .ok (.dup, 1) := by decide +kernel
theorem d1_115 : decode method_2_code 115 = .ok (.iconst 4, 1) := by decide +kernel
theorem d1_116 : decode method_2_code 116 = .ok (.bipush 108, 2) := by decide +kernel
theorem d1_118 : decode method_2_code 118 = .ok (.castore, 1) := by decide +kernel
theorem d1_119 : decode method_2_code 119 = .ok (.dup, 1) := by decide +kernel
theorem d1_120 : decode method_2_code 120 = .ok (.iconst 5, 1) := by decide +kernel
theorem d1_121 : decode method_2_code 121 = .ok (.bipush 101, 2) := by decide +kernel
theorem d1_123 : decode method_2_code 123 = .ok (.castore, 1) := by decide +kernel
theorem d1_124 : decode method_2_code 124 = .ok (.dup, 1) := by decide +kernel
theorem d1_125 : decode method_2_code 125 = .ok (.bipush 6, 2) := by decide +kernel
theorem d1_127 : decode method_2_code 127 = .ok (.bipush 67, 2) := by decide +kernel
theorem d1_129 : decode method_2_code 129 = .ok (.castore, 1) := by decide +kernel
theorem d1_130 : decode method_2_code 130 = .ok (.dup, 1) := by decide +kernel
theorem d1_131 : decode method_2_code 131 = .ok (.bipush 7, 2) := by decide +kernel
theorem d1_133 : decode method_2_code 133 = .ok (.bipush 111, 2) := by decide +kernel
theorem d1_135 : decode method_2_code 135 = .ok (.castore, 1) := by decide +kernel
theorem d1_136 : decode method_2_code 136 = .ok (.dup, 1) := by decide +kernel
theorem d1_137 : decode method_2_code 137 = .ok (.bipush 8, 2) := by decide +kernel
theorem d1_139 : decode method_2_code 139 = .ok (.bipush 110, 2) := by decide +kernel
theorem d1_141 : decode method_2_code 141 = .ok (.castore, 1) := by decide +kernel
theorem d1_142 : decode method_2_code 142 = .ok (.dup, 1) := by decide +kernel
theorem d1_143 : decode method_2_code 143 = .ok (.bipush 9, 2) := by decide +kernel
theorem d1_145 : decode method_2_code 145 = .ok (.bipush 116, 2) := by decide +kernel
theorem d1_147 : decode method_2_code 147 = .ok (.castore, 1) := by decide +kernel
theorem d1_148 : decode method_2_code 148 = .ok (.dup, 1) := by decide +kernel
theorem d1_149 : decode method_2_code 149 = .ok (.bipush 10, 2) := by decide +kernel
theorem d1_151 : decode method_2_code 151 = .ok (.bipush 101, 2) := by decide +kernel
theorem d1_153 : decode method_2_code 153 = .ok (.castore, 1) := by decide +kernel
theorem d1_154 : decode method_2_code 154 = .ok (.dup, 1) := by decide +kernel
theorem d1_155 : decode method_2_code 155 = .ok (.bipush 11, 2) := by decide +kernel
theorem d1_157 : decode method_2_code 157 = .ok (.bipush 120, 2) := by decide +kernel
theorem d1_159 : decode method_2_code 159 = .ok (.castore, 1) := by decide +kernel
theorem d1_160 : decode method_2_code 160 = .ok (.dup, 1) := by decide +kernel
theorem d1_161 : decode method_2_code 161 = .ok (.bipush 12, 2) := by decide +kernel
theorem d1_163 : decode method_2_code 163 = .ok (.bipush 116, 2) := by decide +kernel
theorem d1_165 : decode method_2_code 165 = .ok (.castore, 1) := by decide +kernel
theorem d1_166 : decode method_2_code 166 = .ok (.dup, 1) := by decide +kernel
theorem d1_167 : decode method_2_code 167 = .ok (.bipush 13, 2) := by decide +kernel
theorem d1_169 : decode method_2_code 169 = .ok (.iconst 0, 1) := by decide +kernel
theorem d1_170 : decode method_2_code 170 = .ok (.castore, 1) := by decide +kernel
theorem d1_171 : decode method_2_code 171 = .ok (.areturn, 1) := by decide +kernel
def Qnm01 (Z : State) (n0 : Nat) (h0 : Heap) (v : Option Value) (h : Heap) (L : List Loc) : Prop := ∃ (b : Addr) (kb : ClassId), v = some (.ref b) ∧ Fr n0 L ∧ Keep h0 h [] ∧ h0.size ≤ b ∧ Arv Z h b kb .char (14 : Int32) [(.int (109 : Int32)), (.int (111 : Int32)), (.int (100 : Int32)), (.int (117 : Int32)), (.int (108 : Int32)), (.int (101 : Int32)), (.int (67 : Int32)), (.int (111 : Int32)), (.int (110 : Int32)), (.int (116 : Int32)), (.int (101 : Int32)), (.int (120 : Int32)), (.int (116 : Int32)), (.int (0 : Int32))] (.int (0 : Int32))
theorem efnm01 (m : MethodId) : entryFrame m #[(.int (0 : Int32)), (.int (1 : Int32))] 2 = mkF m 0 #[iv (0 : Int32), iv (1 : Int32)] [] := by first | (simp [entryFrame, mkF, argsToLocals, Value.category]; done) | rfl
abbrev Lnm01_0 : Array Slot := #[iv 0, iv 1]
set_option maxRecDepth 65536 in
set_option maxHeartbeats 40000000 in
theorem rmnm01 (l : Launch) (Z : State) (aZ : Array Value) (hw : ∀ d ∈ tables_1, d.before aZ Z = true) (ws : List Jvm.Cond) (h0 : Heap) (n0 : Nat) (Z0 : n0 ≤ h0.size) :
    MFn l (⟨"com/example/calycule/calycule/config/ModuleContextIsImplicitPinLaw", "name", "(II)[C"⟩ : MethodName) method_2_code 2 (some (.array .char)) ws (Rm 0 1 14 0) #[(.int 0), (.int 1)] Z h0 (Qnm01 Z n0 h0) := by
  refine own_mf (C := "com/example/calycule/calycule/config/ModuleContextIsImplicitPinLaw") rfl (plainFor_of_name pn_84) (fun m => efnm01 m) ?_
  intro p e s m below meth cd0 s₁ En hx hby hml hown hnm hZ X0 e0 hlk hrt go0
  have N0 := Fr.nil n0
  have K0 : Keep h0 h0 [] := Keep.refl _ _
  have go1 : Go p.tables e below s₁ (mkF m 92 Lnm01_0 [(.int 14)]) En := by
    intro t k
    refine go0 _ ?_
    refine XS.iloadN X0.here hx rfl (hb hby d1_0) rfl ?_
    refine XS.ifNo X0.here hx rfl (hb hby d1_1) rfl (XT.i0_ne_f (by decide : ((0 : Int32) = (0 : Int32)))) ?_
    refine XS.iloadN X0.here hx rfl (hb hby d1_4) rfl ?_
    show Steps _ _ _ (s₁.setTop (mkF m 5 Lnm01_0 [(.int 1)])) _
    refine XS.ifYes X0.here hx rfl (pc0 := 5) (pc' := 85) rfl (hb hby d1_5) rfl (XT.i0_ne_t (by decide : ¬ ((1 : Int32) = (0 : Int32)))) (by decide) (by decide) ?_
    refine XS.iloadN X0.here hx rfl (hb hby d1_85) rfl ?_
    refine XS.iconst X0.here hx rfl (hb hby d1_86) ?_
    show Steps _ _ _ (s₁.setTop (mkF m 87 Lnm01_0 [(.int 1), (.int 1)])) _
    refine XS.icmpNo X0.here hx rfl (hb hby d1_87) rfl (XT.ii_ne_f (by decide : ((1 : Int32) = (1 : Int32)))) ?_
    refine XS.bipush X0.here hx rfl (hb hby d1_90) ?_
    exact k
  obtain ⟨T2, h2, k2, X2, e2, E2, A2, st2⟩ := newP X0 hx hZ (hw _ (mi 5 rfl)) e0 (g := (mkF m 92 Lnm01_0 [(.int 14)])) rfl (hb hby d1_92) rfl (by decide) (cap := 14) (by decide) (by decide) (by decide) (by decide)
  obtain ⟨b2, g2⟩ : ∃ z, z = h0.size := ⟨_, rfl⟩
  rw [← g2] at A2 st2
  have low2 : n0 ≤ b2 := Nat.le_trans Z0 (Nat.le_of_eq g2.symm)
  have fsh2 : h0.size ≤ b2 := Nat.le_trans K0.1 (Nat.le_of_eq g2.symm)
  have K2 : Keep h0 h2 [] := K0.ext E2
  have Zs2 : n0 ≤ h2.size := Nat.le_trans Z0 E2.1
  have go3 := gap go1 st2
  have F4 : Arv Z h2 b2 k2 .char (14 : Int32) [(.int 0), (.int 0), (.int 0), (.int 0), (.int 0), (.int 0), (.int 0), (.int 0), (.int 0), (.int 0), (.int 0), (.int 0), (.int 0), (.int 0)] (.int 0) := (Arv.new A2 (by decide)).pad (pad_rep [] (.int 0) 14)
  have go5 : Go p.tables e below T2 (mkF m 98 Lnm01_0 [(.int 109), (.int 0), (.ref b2), (.ref b2)]) En := by
    intro t k
    refine go3 _ ?_
    refine XS.dup X2.here hx rfl (hb hby d1_94) rfl rfl ?_
    refine XS.iconst X2.here hx rfl (hb hby d1_95) ?_
    refine XS.bipush X2.here hx rfl (hb hby d1_96) ?_
    show Steps _ _ _ (T2.setTop (mkF m 98 Lnm01_0 [(.int 109), (.int 0), (.ref b2), (.ref b2)])) _
    exact k
  obtain ⟨cl7, Ar7, q7, S7, N7, H7, G7⟩ := id F4
  obtain ⟨T6, h6, X6, e6, W6, st6⟩ := stC X2 hx hZ e2 Ar7 (j := (0 : Int32)) (inb_of S7 ⟨by decide, by decide⟩) (g := (mkF m 98 Lnm01_0 [(.int 109), (.int 0), (.ref b2), (.ref b2)])) rfl rfl (hb hby d1_98)
  have go8 := gap go5 st6
  have N6 := Fr.snoc X6 N0 low2
  have K6 : Keep h0 h6 [] := K2.wr W6 (Or.inr fsh2)
  have Zs6 : n0 ≤ h6.size := Nat.le_trans Zs2 (Keep.of_wr W6).1
  have F9 : Arv Z h6 b2 k2 .char (14 : Int32) [(.int 109), (.int 0), (.int 0), (.int 0), (.int 0), (.int 0), (.int 0), (.int 0), (.int 0), (.int 0), (.int 0), (.int 0), (.int 0), (.int 0)] (.int 0) := Arv.set Ar7 q7 S7 N7 H7 G7 (fits_nar_char _) W6 0 rfl (Nat.le_of_ble_eq_true rfl)
  have go10 : Go p.tables e below T6 (mkF m 103 Lnm01_0 [(.int 111), (.int 1), (.ref b2), (.ref b2)]) En := by
    intro t k
    refine go8 _ ?_
    refine XS.dup X6.here hx rfl (hb hby d1_99) rfl rfl ?_
    refine XS.iconst X6.here hx rfl (hb hby d1_100) ?_
    refine XS.bipush X6.here hx rfl (hb hby d1_101) ?_
    show Steps _ _ _ (T6.setTop (mkF m 103 Lnm01_0 [(.int 111), (.int 1), (.ref b2), (.ref b2)])) _
    exact k
  obtain ⟨cl12, Ar12, q12, S12, N12, H12, G12⟩ := id F9
  obtain ⟨T11, h11, X11, e11, W11, st11⟩ := stC X6 hx hZ e6 Ar12 (j := (1 : Int32)) (inb_of S12 ⟨by decide, by decide⟩) (g := (mkF m 103 Lnm01_0 [(.int 111), (.int 1), (.ref b2), (.ref b2)])) rfl rfl (hb hby d1_103)
  have go13 := gap go10 st11
  have N11 := Fr.snoc X11 N6 low2
  have K11 : Keep h0 h11 [] := K6.wr W11 (Or.inr fsh2)
  have Zs11 : n0 ≤ h11.size := Nat.le_trans Zs6 (Keep.of_wr W11).1
  have F14 : Arv Z h11 b2 k2 .char (14 : Int32) [(.int 109), (.int 111), (.int 0), (.int 0), (.int 0), (.int 0), (.int 0), (.int 0), (.int 0), (.int 0), (.int 0), (.int 0), (.int 0), (.int 0)] (.int 0) := Arv.set Ar12 q12 S12 N12 H12 G12 (fits_nar_char _) W11 1 rfl (Nat.le_of_ble_eq_true rfl)
  have go15 : Go p.tables e below T11 (mkF m 108 Lnm01_0 [(.int 100), (.int 2), (.ref b2), (.ref b2)]) En := by
    intro t k
    refine go13 _ ?_
    refine XS.dup X11.here hx rfl (hb hby d1_104) rfl rfl ?_
    refine XS.iconst X11.here hx rfl (hb hby d1_105) ?_
    refine XS.bipush X11.here hx rfl (hb hby d1_106) ?_
    show Steps _ _ _ (T11.setTop (mkF m 108 Lnm01_0 [(.int 100), (.int 2), (.ref b2), (.ref b2)])) _
    exact k
  obtain ⟨cl17, Ar17, q17, S17, N17, H17, G17⟩ := id F14
  obtain ⟨T16, h16, X16, e16, W16, st16⟩ := stC X11 hx hZ e11 Ar17 (j := (2 : Int32)) (inb_of S17 ⟨by decide, by decide⟩) (g := (mkF m 108 Lnm01_0 [(.int 100), (.int 2), (.ref b2), (.ref b2)])) rfl rfl (hb hby d1_108)
  have go18 := gap go15 st16
  have N16 := Fr.snoc X16 N11 low2
  have K16 : Keep h0 h16 [] := K11.wr W16 (Or.inr fsh2)
  have Zs16 : n0 ≤ h16.size := Nat.le_trans Zs11 (Keep.of_wr W16).1
  have F19 : Arv Z h16 b2 k2 .char (14 : Int32) [(.int 109), (.int 111), (.int 100), (.int 0), (.int 0), (.int 0), (.int 0), (.int 0), (.int 0), (.int 0), (.int 0), (.int 0), (.int 0), (.int 0)] (.int 0) := Arv.set Ar17 q17 S17 N17 H17 G17 (fits_nar_char _) W16 2 rfl (Nat.le_of_ble_eq_true rfl)
  have go20 : Go p.tables e below T16 (mkF m 113 Lnm01_0 [(.int 117), (.int 3), (.ref b2), (.ref b2)]) En := by
    intro t k
    refine go18 _ ?_
    refine XS.dup X16.here hx rfl (hb hby d1_109) rfl rfl ?_
    refine XS.iconst X16.here hx rfl (hb hby d1_110) ?_
    refine XS.bipush X16.here hx rfl (hb hby d1_111) ?_
    show Steps _ _ _ (T16.setTop (mkF m 113 Lnm01_0 [(.int 117), (.int 3), (.ref b2), (.ref b2)])) _
    exact k
  obtain ⟨cl22, Ar22, q22, S22, N22, H22, G22⟩ := id F19
  obtain ⟨T21, h21, X21, e21, W21, st21⟩ := stC X16 hx hZ e16 Ar22 (j := (3 : Int32)) (inb_of S22 ⟨by decide, by decide⟩) (g := (mkF m 113 Lnm01_0 [(.int 117), (.int 3), (.ref b2), (.ref b2)])) rfl rfl (hb hby d1_113)
  have go23 := gap go20 st21
  have N21 := Fr.snoc X21 N16 low2
  have K21 : Keep h0 h21 [] := K16.wr W21 (Or.inr fsh2)
  have Zs21 : n0 ≤ h21.size := Nat.le_trans Zs16 (Keep.of_wr W21).1
  have F24 : Arv Z h21 b2 k2 .char (14 : Int32) [(.int 109), (.int 111), (.int 100), (.int 117), (.int 0), (.int 0), (.int 0), (.int 0), (.int 0), (.int 0), (.int 0), (.int 0), (.int 0), (.int 0)] (.int 0) := Arv.set Ar22 q22 S22 N22 H22 G22 (fits_nar_char _) W21 3 rfl (Nat.le_of_ble_eq_true rfl)
  have go25 : Go p.tables e below T21 (mkF m 118 Lnm01_0 [(.int 108), (.int 4), (.ref b2), (.ref b2)]) En := by
    intro t k
    refine go23 _ ?_
    refine XS.dup X21.here hx rfl (hb hby d1_114) rfl rfl ?_
    refine XS.iconst X21.here hx rfl (hb hby d1_115) ?_
    refine XS.bipush X21.here hx rfl (hb hby d1_116) ?_
    show Steps _ _ _ (T21.setTop (mkF m 118 Lnm01_0 [(.int 108), (.int 4), (.ref b2), (.ref b2)])) _
    exact k
  obtain ⟨cl27, Ar27, q27, S27, N27, H27, G27⟩ := id F24
  obtain ⟨T26, h26, X26, e26, W26, st26⟩ := stC X21 hx hZ e21 Ar27 (j := (4 : Int32)) (inb_of S27 ⟨by decide, by decide⟩) (g := (mkF m 118 Lnm01_0 [(.int 108), (.int 4), (.ref b2), (.ref b2)])) rfl rfl (hb hby d1_118)
  have go28 := gap go25 st26
  have N26 := Fr.snoc X26 N21 low2
  have K26 : Keep h0 h26 [] := K21.wr W26 (Or.inr fsh2)
  have Zs26 : n0 ≤ h26.size := Nat.le_trans Zs21 (Keep.of_wr W26).1
  have F29 : Arv Z h26 b2 k2 .char (14 : Int32) [(.int 109), (.int 111), (.int 100), (.int 117), (.int 108), (.int 0), (.int 0), (.int 0), (.int 0), (.int 0), (.int 0), (.int 0), (.int 0), (.int 0)] (.int 0) := Arv.set Ar27 q27 S27 N27 H27 G27 (fits_nar_char _) W26 4 rfl (Nat.le_of_ble_eq_true rfl)
  have go30 : Go p.tables e below T26 (mkF m 123 Lnm01_0 [(.int 101), (.int 5), (.ref b2), (.ref b2)]) En := by
    intro t k
    refine go28 _ ?_
    refine XS.dup X26.here hx rfl (hb hby d1_119) rfl rfl ?_
    refine XS.iconst X26.here hx rfl (hb hby d1_120) ?_
    refine XS.bipush X26.here hx rfl (hb hby d1_121) ?_
    show Steps _ _ _ (T26.setTop (mkF m 123 Lnm01_0 [(.int 101), (.int 5), (.ref b2), (.ref b2)])) _
    exact k
  obtain ⟨cl32, Ar32, q32, S32, N32, H32, G32⟩ := id F29
  obtain ⟨T31, h31, X31, e31, W31, st31⟩ := stC X26 hx hZ e26 Ar32 (j := (5 : Int32)) (inb_of S32 ⟨by decide, by decide⟩) (g := (mkF m 123 Lnm01_0 [(.int 101), (.int 5), (.ref b2), (.ref b2)])) rfl rfl (hb hby d1_123)
  have go33 := gap go30 st31
  have N31 := Fr.snoc X31 N26 low2
  have K31 : Keep h0 h31 [] := K26.wr W31 (Or.inr fsh2)
  have Zs31 : n0 ≤ h31.size := Nat.le_trans Zs26 (Keep.of_wr W31).1
  have F34 : Arv Z h31 b2 k2 .char (14 : Int32) [(.int 109), (.int 111), (.int 100), (.int 117), (.int 108), (.int 101), (.int 0), (.int 0), (.int 0), (.int 0), (.int 0), (.int 0), (.int 0), (.int 0)] (.int 0) := Arv.set Ar32 q32 S32 N32 H32 G32 (fits_nar_char _) W31 5 rfl (Nat.le_of_ble_eq_true rfl)
  have go35 : Go p.tables e below T31 (mkF m 129 Lnm01_0 [(.int 67), (.int 6), (.ref b2), (.ref b2)]) En := by
    intro t k
    refine go33 _ ?_
    refine XS.dup X31.here hx rfl (hb hby d1_124) rfl rfl ?_
    refine XS.bipush X31.here hx rfl (hb hby d1_125) ?_
    refine XS.bipush X31.here hx rfl (hb hby d1_127) ?_
    show Steps _ _ _ (T31.setTop (mkF m 129 Lnm01_0 [(.int 67), (.int 6), (.ref b2), (.ref b2)])) _
    exact k
  obtain ⟨cl37, Ar37, q37, S37, N37, H37, G37⟩ := id F34
  obtain ⟨T36, h36, X36, e36, W36, st36⟩ := stC X31 hx hZ e31 Ar37 (j := (6 : Int32)) (inb_of S37 ⟨by decide, by decide⟩) (g := (mkF m 129 Lnm01_0 [(.int 67), (.int 6), (.ref b2), (.ref b2)])) rfl rfl (hb hby d1_129)
  have go38 := gap go35 st36
  have N36 := Fr.snoc X36 N31 low2
  have K36 : Keep h0 h36 [] := K31.wr W36 (Or.inr fsh2)
  have Zs36 : n0 ≤ h36.size := Nat.le_trans Zs31 (Keep.of_wr W36).1
  have F39 : Arv Z h36 b2 k2 .char (14 : Int32) [(.int 109), (.int 111), (.int 100), (.int 117), (.int 108), (.int 101), (.int 67), (.int 0), (.int 0), (.int 0), (.int 0), (.int 0), (.int 0), (.int 0)] (.int 0) := Arv.set Ar37 q37 S37 N37 H37 G37 (fits_nar_char _) W36 6 rfl (Nat.le_of_ble_eq_true rfl)
  have go40 : Go p.tables e below T36 (mkF m 135 Lnm01_0 [(.int 111), (.int 7), (.ref b2), (.ref b2)]) En := by
    intro t k
    refine go38 _ ?_
    refine XS.dup X36.here hx rfl (hb hby d1_130) rfl rfl ?_
    refine XS.bipush X36.here hx rfl (hb hby d1_131) ?_
    refine XS.bipush X36.here hx rfl (hb hby d1_133) ?_
    show Steps _ _ _ (T36.setTop (mkF m 135 Lnm01_0 [(.int 111), (.int 7), (.ref b2), (.ref b2)])) _
    exact k
  obtain ⟨cl42, Ar42, q42, S42, N42, H42, G42⟩ := id F39
  obtain ⟨T41, h41, X41, e41, W41, st41⟩ := stC X36 hx hZ e36 Ar42 (j := (7 : Int32)) (inb_of S42 ⟨by decide, by decide⟩) (g := (mkF m 135 Lnm01_0 [(.int 111), (.int 7), (.ref b2), (.ref b2)])) rfl rfl (hb hby d1_135)
  have go43 := gap go40 st41
  have N41 := Fr.snoc X41 N36 low2
  have K41 : Keep h0 h41 [] := K36.wr W41 (Or.inr fsh2)
  have Zs41 : n0 ≤ h41.size := Nat.le_trans Zs36 (Keep.of_wr W41).1
  have F44 : Arv Z h41 b2 k2 .char (14 : Int32) [(.int 109), (.int 111), (.int 100), (.int 117), (.int 108), (.int 101), (.int 67), (.int 111), (.int 0), (.int 0), (.int 0), (.int 0), (.int 0), (.int 0)] (.int 0) := Arv.set Ar42 q42 S42 N42 H42 G42 (fits_nar_char _) W41 7 rfl (Nat.le_of_ble_eq_true rfl)
  have go45 : Go p.tables e below T41 (mkF m 141 Lnm01_0 [(.int 110), (.int 8), (.ref b2), (.ref b2)]) En := by
    intro t k
    refine go43 _ ?_
    refine XS.dup X41.here hx rfl (hb hby d1_136) rfl rfl ?_
    refine XS.bipush X41.here hx rfl (hb hby d1_137) ?_
    refine XS.bipush X41.here hx rfl (hb hby d1_139) ?_
    show Steps _ _ _ (T41.setTop (mkF m 141 Lnm01_0 [(.int 110), (.int 8), (.ref b2), (.ref b2)])) _
    exact k
  obtain ⟨cl47, Ar47, q47, S47, N47, H47, G47⟩ := id F44
  obtain ⟨T46, h46, X46, e46, W46, st46⟩ := stC X41 hx hZ e41 Ar47 (j := (8 : Int32)) (inb_of S47 ⟨by decide, by decide⟩) (g := (mkF m 141 Lnm01_0 [(.int 110), (.int 8), (.ref b2), (.ref b2)])) rfl rfl (hb hby d1_141)
  have go48 := gap go45 st46
  have N46 := Fr.snoc X46 N41 low2
  have K46 : Keep h0 h46 [] := K41.wr W46 (Or.inr fsh2)
  have Zs46 : n0 ≤ h46.size := Nat.le_trans Zs41 (Keep.of_wr W46).1
  have F49 : Arv Z h46 b2 k2 .char (14 : Int32) [(.int 109), (.int 111), (.int 100), (.int 117), (.int 108), (.int 101), (.int 67), (.int 111), (.int 110), (.int 0), (.int 0), (.int 0), (.int 0), (.int 0)] (.int 0) := Arv.set Ar47 q47 S47 N47 H47 G47 (fits_nar_char _) W46 8 rfl (Nat.le_of_ble_eq_true rfl)
  have go50 : Go p.tables e below T46 (mkF m 147 Lnm01_0 [(.int 116), (.int 9), (.ref b2), (.ref b2)]) En := by
    intro t k
    refine go48 _ ?_
    refine XS.dup X46.here hx rfl (hb hby d1_142) rfl rfl ?_
    refine XS.bipush X46.here hx rfl (hb hby d1_143) ?_
    refine XS.bipush X46.here hx rfl (hb hby d1_145) ?_
    show Steps _ _ _ (T46.setTop (mkF m 147 Lnm01_0 [(.int 116), (.int 9), (.ref b2), (.ref b2)])) _
    exact k
  obtain ⟨cl52, Ar52, q52, S52, N52, H52, G52⟩ := id F49
  obtain ⟨T51, h51, X51, e51, W51, st51⟩ := stC X46 hx hZ e46 Ar52 (j := (9 : Int32)) (inb_of S52 ⟨by decide, by decide⟩) (g := (mkF m 147 Lnm01_0 [(.int 116), (.int 9), (.ref b2), (.ref b2)])) rfl rfl (hb hby d1_147)
  have go53 := gap go50 st51
  have N51 := Fr.snoc X51 N46 low2
  have K51 : Keep h0 h51 [] := K46.wr W51 (Or.inr fsh2)
  have Zs51 : n0 ≤ h51.size := Nat.le_trans Zs46 (Keep.of_wr W51).1
  have F54 : Arv Z h51 b2 k2 .char (14 : Int32) [(.int 109), (.int 111), (.int 100), (.int 117), (.int 108), (.int 101), (.int 67), (.int 111), (.int 110), (.int 116), (.int 0), (.int 0), (.int 0), (.int 0)] (.int 0) := Arv.set Ar52 q52 S52 N52 H52 G52 (fits_nar_char _) W51 9 rfl (Nat.le_of_ble_eq_true rfl)
  have go55 : Go p.tables e below T51 (mkF m 153 Lnm01_0 [(.int 101), (.int 10), (.ref b2), (.ref b2)]) En := by
    intro t k
    refine go53 _ ?_
    refine XS.dup X51.here hx rfl (hb hby d1_148) rfl rfl ?_
    refine XS.bipush X51.here hx rfl (hb hby d1_149) ?_
    refine XS.bipush X51.here hx rfl (hb hby d1_151) ?_
    show Steps _ _ _ (T51.setTop (mkF m 153 Lnm01_0 [(.int 101), (.int 10), (.ref b2), (.ref b2)])) _
    exact k
  obtain ⟨cl57, Ar57, q57, S57, N57, H57, G57⟩ := id F54
  obtain ⟨T56, h56, X56, e56, W56, st56⟩ := stC X51 hx hZ e51 Ar57 (j := (10 : Int32)) (inb_of S57 ⟨by decide, by decide⟩) (g := (mkF m 153 Lnm01_0 [(.int 101), (.int 10), (.ref b2), (.ref b2)])) rfl rfl (hb hby d1_153)
  have go58 := gap go55 st56
  have N56 := Fr.snoc X56 N51 low2
  have K56 : Keep h0 h56 [] := K51.wr W56 (Or.inr fsh2)
  have Zs56 : n0 ≤ h56.size := Nat.le_trans Zs51 (Keep.of_wr W56).1
  have F59 : Arv Z h56 b2 k2 .char (14 : Int32) [(.int 109), (.int 111), (.int 100), (.int 117), (.int 108), (.int 101), (.int 67), (.int 111), (.int 110), (.int 116), (.int 101), (.int 0), (.int 0), (.int 0)] (.int 0) := Arv.set Ar57 q57 S57 N57 H57 G57 (fits_nar_char _) W56 10 rfl (Nat.le_of_ble_eq_true rfl)
  have go60 : Go p.tables e below T56 (mkF m 159 Lnm01_0 [(.int 120), (.int 11), (.ref b2), (.ref b2)]) En := by
    intro t k
    refine go58 _ ?_
    refine XS.dup X56.here hx rfl (hb hby d1_154) rfl rfl ?_
    refine XS.bipush X56.here hx rfl (hb hby d1_155) ?_
    refine XS.bipush X56.here hx rfl (hb hby d1_157) ?_
    show Steps _ _ _ (T56.setTop (mkF m 159 Lnm01_0 [(.int 120), (.int 11), (.ref b2), (.ref b2)])) _
    exact k
  obtain ⟨cl62, Ar62, q62, S62, N62, H62, G62⟩ := id F59
  obtain ⟨T61, h61, X61, e61, W61, st61⟩ := stC X56 hx hZ e56 Ar62 (j := (11 : Int32)) (inb_of S62 ⟨by decide, by decide⟩) (g := (mkF m 159 Lnm01_0 [(.int 120), (.int 11), (.ref b2), (.ref b2)])) rfl rfl (hb hby d1_159)
  have go63 := gap go60 st61
  have N61 := Fr.snoc X61 N56 low2
  have K61 : Keep h0 h61 [] := K56.wr W61 (Or.inr fsh2)
  have Zs61 : n0 ≤ h61.size := Nat.le_trans Zs56 (Keep.of_wr W61).1
  have F64 : Arv Z h61 b2 k2 .char (14 : Int32) [(.int 109), (.int 111), (.int 100), (.int 117), (.int 108), (.int 101), (.int 67), (.int 111), (.int 110), (.int 116), (.int 101), (.int 120), (.int 0), (.int 0)] (.int 0) := Arv.set Ar62 q62 S62 N62 H62 G62 (fits_nar_char _) W61 11 rfl (Nat.le_of_ble_eq_true rfl)
  have go65 : Go p.tables e below T61 (mkF m 165 Lnm01_0 [(.int 116), (.int 12), (.ref b2), (.ref b2)]) En := by
    intro t k
    refine go63 _ ?_
    refine XS.dup X61.here hx rfl (hb hby d1_160) rfl rfl ?_
    refine XS.bipush X61.here hx rfl (hb hby d1_161) ?_
    refine XS.bipush X61.here hx rfl (hb hby d1_163) ?_
    show Steps _ _ _ (T61.setTop (mkF m 165 Lnm01_0 [(.int 116), (.int 12), (.ref b2), (.ref b2)])) _
    exact k
  obtain ⟨cl67, Ar67, q67, S67, N67, H67, G67⟩ := id F64
  obtain ⟨T66, h66, X66, e66, W66, st66⟩ := stC X61 hx hZ e61 Ar67 (j := (12 : Int32)) (inb_of S67 ⟨by decide, by decide⟩) (g := (mkF m 165 Lnm01_0 [(.int 116), (.int 12), (.ref b2), (.ref b2)])) rfl rfl (hb hby d1_165)
  have go68 := gap go65 st66
  have N66 := Fr.snoc X66 N61 low2
  have K66 : Keep h0 h66 [] := K61.wr W66 (Or.inr fsh2)
  have Zs66 : n0 ≤ h66.size := Nat.le_trans Zs61 (Keep.of_wr W66).1
  have F69 : Arv Z h66 b2 k2 .char (14 : Int32) [(.int 109), (.int 111), (.int 100), (.int 117), (.int 108), (.int 101), (.int 67), (.int 111), (.int 110), (.int 116), (.int 101), (.int 120), (.int 116), (.int 0)] (.int 0) := Arv.set Ar67 q67 S67 N67 H67 G67 (fits_nar_char _) W66 12 rfl (Nat.le_of_ble_eq_true rfl)
  have go70 : Go p.tables e below T66 (mkF m 170 Lnm01_0 [(.int 0), (.int 13), (.ref b2), (.ref b2)]) En := by
    intro t k
    refine go68 _ ?_
    refine XS.dup X66.here hx rfl (hb hby d1_166) rfl rfl ?_
    refine XS.bipush X66.here hx rfl (hb hby d1_167) ?_
    refine XS.iconst X66.here hx rfl (hb hby d1_169) ?_
    show Steps _ _ _ (T66.setTop (mkF m 170 Lnm01_0 [(.int 0), (.int 13), (.ref b2), (.ref b2)])) _
    exact k
  obtain ⟨cl72, Ar72, q72, S72, N72, H72, G72⟩ := id F69
  obtain ⟨T71, h71, X71, e71, W71, st71⟩ := stC X66 hx hZ e66 Ar72 (j := (13 : Int32)) (inb_of S72 ⟨by decide, by decide⟩) (g := (mkF m 170 Lnm01_0 [(.int 0), (.int 13), (.ref b2), (.ref b2)])) rfl rfl (hb hby d1_170)
  have go73 := gap go70 st71
  have N71 := Fr.snoc X71 N66 low2
  have K71 : Keep h0 h71 [] := K66.wr W71 (Or.inr fsh2)
  have Zs71 : n0 ≤ h71.size := Nat.le_trans Zs66 (Keep.of_wr W71).1
  have F74 : Arv Z h71 b2 k2 .char (14 : Int32) [(.int 109), (.int 111), (.int 100), (.int 117), (.int 108), (.int 101), (.int 67), (.int 111), (.int 110), (.int 116), (.int 101), (.int 120), (.int 116), (.int 0)] (.int 0) := Arv.set Ar72 q72 S72 N72 H72 G72 (fits_nar_char _) W71 13 rfl (Nat.le_of_ble_eq_true rfl)
  refine own_out (w := (.ref b2)) X71 hx hlk go73 hrt rfl (Or.inr (Or.inr (Or.inr (Or.inr ⟨rfl, rfl, rfl⟩)))) (hb hby d1_171) e71 (by decide) (by decide) ?_
  exact ⟨b2, k2, rfl, N71, K71, fsh2, F74⟩
theorem d1_172 : decode method_2_code 172 = .ok (.bipush 12, 2) := by decide +kernel
theorem d1_174 : decode method_2_code 174 = .ok (.newarray .char, 2) := by decide +kernel
theorem d1_176 : decode method_2_code 176 = .ok (.dup, 1) := by decide +kernel
theorem d1_177 : decode method_2_code 177 = .ok (.iconst 0, 1) := by decide +kernel
theorem d1_178 : decode method_2_code 178 = .ok (.bipush 109, 2) := by decide +kernel
theorem d1_180 : decode method_2_code 180 = .ok (.castore, 1) := by decide +kernel
theorem d1_181 : decode method_2_code 181 = .ok (.dup, 1) := by decide +kernel
theorem d1_182 : decode method_2_code 182 = .ok (.iconst 1, 1) := by decide +kernel
theorem d1_183 : decode method_2_code 183 = .ok (.bipush 111, 2) := by decide +kernel
theorem d1_185 : decode method_2_code 185 = .ok (.castore, 1) := by decide +kernel
theorem d1_186 : decode method_2_code 186 = .ok (.dup, 1) := by decide +kernel
theorem d1_187 : decode method_2_code 187 = .ok (.iconst 2, 1) := by decide +kernel
theorem d1_188 : decode method_2_code 188 = .ok (.bipush 100, 2) := by decide +kernel
theorem d1_190 : decode method_2_code 190 = .ok (.castore, 1) := by decide +kernel
theorem d1_191 : decode method_2_code 191 = .ok (.dup, 1) := by decide +kernel
theorem d1_192 : decode method_2_code 192 = .ok (.iconst 3, 1) := by decide +kernel
theorem d1_193 : decode method_2_code 193 = .ok (.bipush 117, 2) := by decide +kernel
theorem d1_195 : decode method_2_code 195 = .ok (.castore, 1) := by decide +kernel
theorem d1_196 : decode method_2_code 196 = .ok (.dup, 1) := by decide +kernel
theorem d1_197 : decode method_2_code 197 = .ok (.iconst 4, 1) := by decide +kernel
theorem d1_198 : decode method_2_code 198 = .ok (.bipush 108, 2) := by decide +kernel
theorem d1_200 : decode method_2_code 200 = .ok (.castore, 1) := by decide +kernel
theorem d1_201 : decode method_2_code 201 = .ok (.dup, 1) := by decide +kernel
theorem d1_202 : decode method_2_code 202 = .ok (.iconst 5, 1) := by decide +kernel
theorem d1_203 : decode method_2_code 203 = .ok (.bipush 101, 2) := by decide +kernel
theorem d1_205 : decode method_2_code 205 = .ok (.castore, 1) := by decide +kernel
theorem d1_206 : decode method_2_code 206 = .ok (.dup, 1) := by decide +kernel
theorem d1_207 : decode method_2_code 207 = .ok (.bipush 6, 2) := by decide +kernel
theorem d1_209 : decode method_2_code 209 = .ok (.bipush 67, 2) := by decide +kernel
theorem d1_211 : decode method_2_code 211 = .ok (.castore, 1) := by decide +kernel
theorem d1_212 : decode method_2_code 212 = .ok (.dup, 1) := by decide +kernel
theorem d1_213 : decode method_2_code 213 = .ok (.bipush 7, 2) := by decide +kernel
theorem d1_215 : decode method_2_code 215 = .ok (.bipush 111, 2) := by decide +kernel
theorem d1_217 : decode method_2_code 217 = .ok (.castore, 1) := by decide +kernel
theorem d1_218 : decode method_2_code 218 = .ok (.dup, 1) := by decide +kernel
theorem d1_219 : decode method_2_code 219 = .ok (.bipush 8, 2) := by decide +kernel
theorem d1_221 : decode method_2_code 221 = .ok (.bipush 110, 2) := by decide +kernel
theorem d1_223 : decode method_2_code 223 = .ok (.castore, 1) := by decide +kernel
theorem d1_224 : decode method_2_code 224 = .ok (.dup, 1) := by decide +kernel
theorem d1_225 : decode method_2_code 225 = .ok (.bipush 9, 2) := by decide +kernel
theorem d1_227 : decode method_2_code 227 = .ok (.bipush 116, 2) := by decide +kernel
theorem d1_229 : decode method_2_code 229 = .ok (.castore, 1) := by decide +kernel
theorem d1_230 : decode method_2_code 230 = .ok (.dup, 1) := by decide +kernel
theorem d1_231 : decode method_2_code 231 = .ok (.bipush 10, 2) := by decide +kernel
theorem d1_233 : decode method_2_code 233 = .ok (.bipush 101, 2) := by decide +kernel
theorem d1_235 : decode method_2_code 235 = .ok (.castore, 1) := by decide +kernel
theorem d1_236 : decode method_2_code 236 = .ok (.dup, 1) := by decide +kernel
theorem d1_237 : decode method_2_code 237 = .ok (.bipush 11, 2) := by decide +kernel
theorem d1_239 : decode method_2_code 239 = .ok (.bipush 120, 2) := by decide +kernel
theorem d1_241 : decode method_2_code 241 = .ok (.castore, 1) := by decide +kernel
theorem d1_242 : decode method_2_code 242 = .ok (.areturn, 1) := by decide +kernel
def Qnm02 (Z : State) (n0 : Nat) (h0 : Heap) (v : Option Value) (h : Heap) (L : List Loc) : Prop := ∃ (b : Addr) (kb : ClassId), v = some (.ref b) ∧ Fr n0 L ∧ Keep h0 h [] ∧ h0.size ≤ b ∧ Arv Z h b kb .char (12 : Int32) [(.int (109 : Int32)), (.int (111 : Int32)), (.int (100 : Int32)), (.int (117 : Int32)), (.int (108 : Int32)), (.int (101 : Int32)), (.int (67 : Int32)), (.int (111 : Int32)), (.int (110 : Int32)), (.int (116 : Int32)), (.int (101 : Int32)), (.int (120 : Int32))] (.int (0 : Int32))
theorem efnm02 (m : MethodId) : entryFrame m #[(.int (0 : Int32)), (.int (2 : Int32))] 2 = mkF m 0 #[iv (0 : Int32), iv (2 : Int32)] [] := by first | (simp [entryFrame, mkF, argsToLocals, Value.category]; done) | rfl
abbrev Lnm02_0 : Array Slot := #[iv 0, iv 2]
set_option maxRecDepth 65536 in
set_option maxHeartbeats 40000000 in
theorem rmnm02 (l : Launch) (Z : State) (aZ : Array Value) (hw : ∀ d ∈ tables_1, d.before aZ Z = true) (ws : List Jvm.Cond) (h0 : Heap) (n0 : Nat) (Z0 : n0 ≤ h0.size) :
    MFn l (⟨"com/example/calycule/calycule/config/ModuleContextIsImplicitPinLaw", "name", "(II)[C"⟩ : MethodName) method_2_code 2 (some (.array .char)) ws (Rm 0 1 12 0) #[(.int 0), (.int 2)] Z h0 (Qnm02 Z n0 h0) := by
  refine own_mf (C := "com/example/calycule/calycule/config/ModuleContextIsImplicitPinLaw") rfl (plainFor_of_name pn_84) (fun m => efnm02 m) ?_
  intro p e s m below meth cd0 s₁ En hx hby hml hown hnm hZ X0 e0 hlk hrt go0
  have N0 := Fr.nil n0
  have K0 : Keep h0 h0 [] := Keep.refl _ _
  have go1 : Go p.tables e below s₁ (mkF m 174 Lnm02_0 [(.int 12)]) En := by
    intro t k
    refine go0 _ ?_
    refine XS.iloadN X0.here hx rfl (hb hby d1_0) rfl ?_
    refine XS.ifNo X0.here hx rfl (hb hby d1_1) rfl (XT.i0_ne_f (by decide : ((0 : Int32) = (0 : Int32)))) ?_
    refine XS.iloadN X0.here hx rfl (hb hby d1_4) rfl ?_
    show Steps _ _ _ (s₁.setTop (mkF m 5 Lnm02_0 [(.int 2)])) _
    refine XS.ifYes X0.here hx rfl (pc0 := 5) (pc' := 85) rfl (hb hby d1_5) rfl (XT.i0_ne_t (by decide : ¬ ((2 : Int32) = (0 : Int32)))) (by decide) (by decide) ?_
    refine XS.iloadN X0.here hx rfl (hb hby d1_85) rfl ?_
    refine XS.iconst X0.here hx rfl (hb hby d1_86) ?_
    show Steps _ _ _ (s₁.setTop (mkF m 87 Lnm02_0 [(.int 1), (.int 2)])) _
    refine XS.icmpYes X0.here hx rfl (pc0 := 87) (pc' := 172) rfl (hb hby d1_87) rfl (XT.ii_ne_t (by decide : ¬ ((2 : Int32) = (1 : Int32)))) (by decide) (by decide) ?_
    refine XS.bipush X0.here hx rfl (hb hby d1_172) ?_
    exact k
  obtain ⟨T2, h2, k2, X2, e2, E2, A2, st2⟩ := newP X0 hx hZ (hw _ (mi 5 rfl)) e0 (g := (mkF m 174 Lnm02_0 [(.int 12)])) rfl (hb hby d1_174) rfl (by decide) (cap := 12) (by decide) (by decide) (by decide) (by decide)
  obtain ⟨b2, g2⟩ : ∃ z, z = h0.size := ⟨_, rfl⟩
  rw [← g2] at A2 st2
  have low2 : n0 ≤ b2 := Nat.le_trans Z0 (Nat.le_of_eq g2.symm)
  have fsh2 : h0.size ≤ b2 := Nat.le_trans K0.1 (Nat.le_of_eq g2.symm)
  have K2 : Keep h0 h2 [] := K0.ext E2
  have Zs2 : n0 ≤ h2.size := Nat.le_trans Z0 E2.1
  have go3 := gap go1 st2
  have F4 : Arv Z h2 b2 k2 .char (12 : Int32) [(.int 0), (.int 0), (.int 0), (.int 0), (.int 0), (.int 0), (.int 0), (.int 0), (.int 0), (.int 0), (.int 0), (.int 0)] (.int 0) := (Arv.new A2 (by decide)).pad (pad_rep [] (.int 0) 12)
  have go5 : Go p.tables e below T2 (mkF m 180 Lnm02_0 [(.int 109), (.int 0), (.ref b2), (.ref b2)]) En := by
    intro t k
    refine go3 _ ?_
    refine XS.dup X2.here hx rfl (hb hby d1_176) rfl rfl ?_
    refine XS.iconst X2.here hx rfl (hb hby d1_177) ?_
    refine XS.bipush X2.here hx rfl (hb hby d1_178) ?_
    show Steps _ _ _ (T2.setTop (mkF m 180 Lnm02_0 [(.int 109), (.int 0), (.ref b2), (.ref b2)])) _
    exact k
  obtain ⟨cl7, Ar7, q7, S7, N7, H7, G7⟩ := id F4
  obtain ⟨T6, h6, X6, e6, W6, st6⟩ := stC X2 hx hZ e2 Ar7 (j := (0 : Int32)) (inb_of S7 ⟨by decide, by decide⟩) (g := (mkF m 180 Lnm02_0 [(.int 109), (.int 0), (.ref b2), (.ref b2)])) rfl rfl (hb hby d1_180)
  have go8 := gap go5 st6
  have N6 := Fr.snoc X6 N0 low2
  have K6 : Keep h0 h6 [] := K2.wr W6 (Or.inr fsh2)
  have Zs6 : n0 ≤ h6.size := Nat.le_trans Zs2 (Keep.of_wr W6).1
  have F9 : Arv Z h6 b2 k2 .char (12 : Int32) [(.int 109), (.int 0), (.int 0), (.int 0), (.int 0), (.int 0), (.int 0), (.int 0), (.int 0), (.int 0), (.int 0), (.int 0)] (.int 0) := Arv.set Ar7 q7 S7 N7 H7 G7 (fits_nar_char _) W6 0 rfl (Nat.le_of_ble_eq_true rfl)
  have go10 : Go p.tables e below T6 (mkF m 185 Lnm02_0 [(.int 111), (.int 1), (.ref b2), (.ref b2)]) En := by
    intro t k
    refine go8 _ ?_
    refine XS.dup X6.here hx rfl (hb hby d1_181) rfl rfl ?_
    refine XS.iconst X6.here hx rfl (hb hby d1_182) ?_
    refine XS.bipush X6.here hx rfl (hb hby d1_183) ?_
    show Steps _ _ _ (T6.setTop (mkF m 185 Lnm02_0 [(.int 111), (.int 1), (.ref b2), (.ref b2)])) _
    exact k
  obtain ⟨cl12, Ar12, q12, S12, N12, H12, G12⟩ := id F9
  obtain ⟨T11, h11, X11, e11, W11, st11⟩ := stC X6 hx hZ e6 Ar12 (j := (1 : Int32)) (inb_of S12 ⟨by decide, by decide⟩) (g := (mkF m 185 Lnm02_0 [(.int 111), (.int 1), (.ref b2), (.ref b2)])) rfl rfl (hb hby d1_185)
  have go13 := gap go10 st11
  have N11 := Fr.snoc X11 N6 low2
  have K11 : Keep h0 h11 [] := K6.wr W11 (Or.inr fsh2)
  have Zs11 : n0 ≤ h11.size := Nat.le_trans Zs6 (Keep.of_wr W11).1
  have F14 : Arv Z h11 b2 k2 .char (12 : Int32) [(.int 109), (.int 111), (.int 0), (.int 0), (.int 0), (.int 0), (.int 0), (.int 0), (.int 0), (.int 0), (.int 0), (.int 0)] (.int 0) := Arv.set Ar12 q12 S12 N12 H12 G12 (fits_nar_char _) W11 1 rfl (Nat.le_of_ble_eq_true rfl)
  have go15 : Go p.tables e below T11 (mkF m 190 Lnm02_0 [(.int 100), (.int 2), (.ref b2), (.ref b2)]) En := by
    intro t k
    refine go13 _ ?_
    refine XS.dup X11.here hx rfl (hb hby d1_186) rfl rfl ?_
    refine XS.iconst X11.here hx rfl (hb hby d1_187) ?_
    refine XS.bipush X11.here hx rfl (hb hby d1_188) ?_
    show Steps _ _ _ (T11.setTop (mkF m 190 Lnm02_0 [(.int 100), (.int 2), (.ref b2), (.ref b2)])) _
    exact k
  obtain ⟨cl17, Ar17, q17, S17, N17, H17, G17⟩ := id F14
  obtain ⟨T16, h16, X16, e16, W16, st16⟩ := stC X11 hx hZ e11 Ar17 (j := (2 : Int32)) (inb_of S17 ⟨by decide, by decide⟩) (g := (mkF m 190 Lnm02_0 [(.int 100), (.int 2), (.ref b2), (.ref b2)])) rfl rfl (hb hby d1_190)
  have go18 := gap go15 st16
  have N16 := Fr.snoc X16 N11 low2
  have K16 : Keep h0 h16 [] := K11.wr W16 (Or.inr fsh2)
  have Zs16 : n0 ≤ h16.size := Nat.le_trans Zs11 (Keep.of_wr W16).1
  have F19 : Arv Z h16 b2 k2 .char (12 : Int32) [(.int 109), (.int 111), (.int 100), (.int 0), (.int 0), (.int 0), (.int 0), (.int 0), (.int 0), (.int 0), (.int 0), (.int 0)] (.int 0) := Arv.set Ar17 q17 S17 N17 H17 G17 (fits_nar_char _) W16 2 rfl (Nat.le_of_ble_eq_true rfl)
  have go20 : Go p.tables e below T16 (mkF m 195 Lnm02_0 [(.int 117), (.int 3), (.ref b2), (.ref b2)]) En := by
    intro t k
    refine go18 _ ?_
    refine XS.dup X16.here hx rfl (hb hby d1_191) rfl rfl ?_
    refine XS.iconst X16.here hx rfl (hb hby d1_192) ?_
    refine XS.bipush X16.here hx rfl (hb hby d1_193) ?_
    show Steps _ _ _ (T16.setTop (mkF m 195 Lnm02_0 [(.int 117), (.int 3), (.ref b2), (.ref b2)])) _
    exact k
  obtain ⟨cl22, Ar22, q22, S22, N22, H22, G22⟩ := id F19
  obtain ⟨T21, h21, X21, e21, W21, st21⟩ := stC X16 hx hZ e16 Ar22 (j := (3 : Int32)) (inb_of S22 ⟨by decide, by decide⟩) (g := (mkF m 195 Lnm02_0 [(.int 117), (.int 3), (.ref b2), (.ref b2)])) rfl rfl (hb hby d1_195)
  have go23 := gap go20 st21
  have N21 := Fr.snoc X21 N16 low2
  have K21 : Keep h0 h21 [] := K16.wr W21 (Or.inr fsh2)
  have Zs21 : n0 ≤ h21.size := Nat.le_trans Zs16 (Keep.of_wr W21).1
  have F24 : Arv Z h21 b2 k2 .char (12 : Int32) [(.int 109), (.int 111), (.int 100), (.int 117), (.int 0), (.int 0), (.int 0), (.int 0), (.int 0), (.int 0), (.int 0), (.int 0)] (.int 0) := Arv.set Ar22 q22 S22 N22 H22 G22 (fits_nar_char _) W21 3 rfl (Nat.le_of_ble_eq_true rfl)
  have go25 : Go p.tables e below T21 (mkF m 200 Lnm02_0 [(.int 108), (.int 4), (.ref b2), (.ref b2)]) En := by
    intro t k
    refine go23 _ ?_
    refine XS.dup X21.here hx rfl (hb hby d1_196) rfl rfl ?_
    refine XS.iconst X21.here hx rfl (hb hby d1_197) ?_
    refine XS.bipush X21.here hx rfl (hb hby d1_198) ?_
    show Steps _ _ _ (T21.setTop (mkF m 200 Lnm02_0 [(.int 108), (.int 4), (.ref b2), (.ref b2)])) _
    exact k
  obtain ⟨cl27, Ar27, q27, S27, N27, H27, G27⟩ := id F24
  obtain ⟨T26, h26, X26, e26, W26, st26⟩ := stC X21 hx hZ e21 Ar27 (j := (4 : Int32)) (inb_of S27 ⟨by decide, by decide⟩) (g := (mkF m 200 Lnm02_0 [(.int 108), (.int 4), (.ref b2), (.ref b2)])) rfl rfl (hb hby d1_200)
  have go28 := gap go25 st26
  have N26 := Fr.snoc X26 N21 low2
  have K26 : Keep h0 h26 [] := K21.wr W26 (Or.inr fsh2)
  have Zs26 : n0 ≤ h26.size := Nat.le_trans Zs21 (Keep.of_wr W26).1
  have F29 : Arv Z h26 b2 k2 .char (12 : Int32) [(.int 109), (.int 111), (.int 100), (.int 117), (.int 108), (.int 0), (.int 0), (.int 0), (.int 0), (.int 0), (.int 0), (.int 0)] (.int 0) := Arv.set Ar27 q27 S27 N27 H27 G27 (fits_nar_char _) W26 4 rfl (Nat.le_of_ble_eq_true rfl)
  have go30 : Go p.tables e below T26 (mkF m 205 Lnm02_0 [(.int 101), (.int 5), (.ref b2), (.ref b2)]) En := by
    intro t k
    refine go28 _ ?_
    refine XS.dup X26.here hx rfl (hb hby d1_201) rfl rfl ?_
    refine XS.iconst X26.here hx rfl (hb hby d1_202) ?_
    refine XS.bipush X26.here hx rfl (hb hby d1_203) ?_
    show Steps _ _ _ (T26.setTop (mkF m 205 Lnm02_0 [(.int 101), (.int 5), (.ref b2), (.ref b2)])) _
    exact k
  obtain ⟨cl32, Ar32, q32, S32, N32, H32, G32⟩ := id F29
  obtain ⟨T31, h31, X31, e31, W31, st31⟩ := stC X26 hx hZ e26 Ar32 (j := (5 : Int32)) (inb_of S32 ⟨by decide, by decide⟩) (g := (mkF m 205 Lnm02_0 [(.int 101), (.int 5), (.ref b2), (.ref b2)])) rfl rfl (hb hby d1_205)
  have go33 := gap go30 st31
  have N31 := Fr.snoc X31 N26 low2
  have K31 : Keep h0 h31 [] := K26.wr W31 (Or.inr fsh2)
  have Zs31 : n0 ≤ h31.size := Nat.le_trans Zs26 (Keep.of_wr W31).1
  have F34 : Arv Z h31 b2 k2 .char (12 : Int32) [(.int 109), (.int 111), (.int 100), (.int 117), (.int 108), (.int 101), (.int 0), (.int 0), (.int 0), (.int 0), (.int 0), (.int 0)] (.int 0) := Arv.set Ar32 q32 S32 N32 H32 G32 (fits_nar_char _) W31 5 rfl (Nat.le_of_ble_eq_true rfl)
  have go35 : Go p.tables e below T31 (mkF m 211 Lnm02_0 [(.int 67), (.int 6), (.ref b2), (.ref b2)]) En := by
    intro t k
    refine go33 _ ?_
    refine XS.dup X31.here hx rfl (hb hby d1_206) rfl rfl ?_
    refine XS.bipush X31.here hx rfl (hb hby d1_207) ?_
    refine XS.bipush X31.here hx rfl (hb hby d1_209) ?_
    show Steps _ _ _ (T31.setTop (mkF m 211 Lnm02_0 [(.int 67), (.int 6), (.ref b2), (.ref b2)])) _
    exact k
  obtain ⟨cl37, Ar37, q37, S37, N37, H37, G37⟩ := id F34
  obtain ⟨T36, h36, X36, e36, W36, st36⟩ := stC X31 hx hZ e31 Ar37 (j := (6 : Int32)) (inb_of S37 ⟨by decide, by decide⟩) (g := (mkF m 211 Lnm02_0 [(.int 67), (.int 6), (.ref b2), (.ref b2)])) rfl rfl (hb hby d1_211)
  have go38 := gap go35 st36
  have N36 := Fr.snoc X36 N31 low2
  have K36 : Keep h0 h36 [] := K31.wr W36 (Or.inr fsh2)
  have Zs36 : n0 ≤ h36.size := Nat.le_trans Zs31 (Keep.of_wr W36).1
  have F39 : Arv Z h36 b2 k2 .char (12 : Int32) [(.int 109), (.int 111), (.int 100), (.int 117), (.int 108), (.int 101), (.int 67), (.int 0), (.int 0), (.int 0), (.int 0), (.int 0)] (.int 0) := Arv.set Ar37 q37 S37 N37 H37 G37 (fits_nar_char _) W36 6 rfl (Nat.le_of_ble_eq_true rfl)
  have go40 : Go p.tables e below T36 (mkF m 217 Lnm02_0 [(.int 111), (.int 7), (.ref b2), (.ref b2)]) En := by
    intro t k
    refine go38 _ ?_
    refine XS.dup X36.here hx rfl (hb hby d1_212) rfl rfl ?_
    refine XS.bipush X36.here hx rfl (hb hby d1_213) ?_
    refine XS.bipush X36.here hx rfl (hb hby d1_215) ?_
    show Steps _ _ _ (T36.setTop (mkF m 217 Lnm02_0 [(.int 111), (.int 7), (.ref b2), (.ref b2)])) _
    exact k
  obtain ⟨cl42, Ar42, q42, S42, N42, H42, G42⟩ := id F39
  obtain ⟨T41, h41, X41, e41, W41, st41⟩ := stC X36 hx hZ e36 Ar42 (j := (7 : Int32)) (inb_of S42 ⟨by decide, by decide⟩) (g := (mkF m 217 Lnm02_0 [(.int 111), (.int 7), (.ref b2), (.ref b2)])) rfl rfl (hb hby d1_217)
  have go43 := gap go40 st41
  have N41 := Fr.snoc X41 N36 low2
  have K41 : Keep h0 h41 [] := K36.wr W41 (Or.inr fsh2)
  have Zs41 : n0 ≤ h41.size := Nat.le_trans Zs36 (Keep.of_wr W41).1
  have F44 : Arv Z h41 b2 k2 .char (12 : Int32) [(.int 109), (.int 111), (.int 100), (.int 117), (.int 108), (.int 101), (.int 67), (.int 111), (.int 0), (.int 0), (.int 0), (.int 0)] (.int 0) := Arv.set Ar42 q42 S42 N42 H42 G42 (fits_nar_char _) W41 7 rfl (Nat.le_of_ble_eq_true rfl)
  have go45 : Go p.tables e below T41 (mkF m 223 Lnm02_0 [(.int 110), (.int 8), (.ref b2), (.ref b2)]) En := by
    intro t k
    refine go43 _ ?_
    refine XS.dup X41.here hx rfl (hb hby d1_218) rfl rfl ?_
    refine XS.bipush X41.here hx rfl (hb hby d1_219) ?_
    refine XS.bipush X41.here hx rfl (hb hby d1_221) ?_
    show Steps _ _ _ (T41.setTop (mkF m 223 Lnm02_0 [(.int 110), (.int 8), (.ref b2), (.ref b2)])) _
    exact k
  obtain ⟨cl47, Ar47, q47, S47, N47, H47, G47⟩ := id F44
  obtain ⟨T46, h46, X46, e46, W46, st46⟩ := stC X41 hx hZ e41 Ar47 (j := (8 : Int32)) (inb_of S47 ⟨by decide, by decide⟩) (g := (mkF m 223 Lnm02_0 [(.int 110), (.int 8), (.ref b2), (.ref b2)])) rfl rfl (hb hby d1_223)
  have go48 := gap go45 st46
  have N46 := Fr.snoc X46 N41 low2
  have K46 : Keep h0 h46 [] := K41.wr W46 (Or.inr fsh2)
  have Zs46 : n0 ≤ h46.size := Nat.le_trans Zs41 (Keep.of_wr W46).1
  have F49 : Arv Z h46 b2 k2 .char (12 : Int32) [(.int 109), (.int 111), (.int 100), (.int 117), (.int 108), (.int 101), (.int 67), (.int 111), (.int 110), (.int 0), (.int 0), (.int 0)] (.int 0) := Arv.set Ar47 q47 S47 N47 H47 G47 (fits_nar_char _) W46 8 rfl (Nat.le_of_ble_eq_true rfl)
  have go50 : Go p.tables e below T46 (mkF m 229 Lnm02_0 [(.int 116), (.int 9), (.ref b2), (.ref b2)]) En := by
    intro t k
    refine go48 _ ?_
    refine XS.dup X46.here hx rfl (hb hby d1_224) rfl rfl ?_
    refine XS.bipush X46.here hx rfl (hb hby d1_225) ?_
    refine XS.bipush X46.here hx rfl (hb hby d1_227) ?_
    show Steps _ _ _ (T46.setTop (mkF m 229 Lnm02_0 [(.int 116), (.int 9), (.ref b2), (.ref b2)])) _
    exact k
  obtain ⟨cl52, Ar52, q52, S52, N52, H52, G52⟩ := id F49
  obtain ⟨T51, h51, X51, e51, W51, st51⟩ := stC X46 hx hZ e46 Ar52 (j := (9 : Int32)) (inb_of S52 ⟨by decide, by decide⟩) (g := (mkF m 229 Lnm02_0 [(.int 116), (.int 9), (.ref b2), (.ref b2)])) rfl rfl (hb hby d1_229)
  have go53 := gap go50 st51
  have N51 := Fr.snoc X51 N46 low2
  have K51 : Keep h0 h51 [] := K46.wr W51 (Or.inr fsh2)
  have Zs51 : n0 ≤ h51.size := Nat.le_trans Zs46 (Keep.of_wr W51).1
  have F54 : Arv Z h51 b2 k2 .char (12 : Int32) [(.int 109), (.int 111), (.int 100), (.int 117), (.int 108), (.int 101), (.int 67), (.int 111), (.int 110), (.int 116), (.int 0), (.int 0)] (.int 0) := Arv.set Ar52 q52 S52 N52 H52 G52 (fits_nar_char _) W51 9 rfl (Nat.le_of_ble_eq_true rfl)
  have go55 : Go p.tables e below T51 (mkF m 235 Lnm02_0 [(.int 101), (.int 10), (.ref b2), (.ref b2)]) En := by
    intro t k
    refine go53 _ ?_
    refine XS.dup X51.here hx rfl (hb hby d1_230) rfl rfl ?_
    refine XS.bipush X51.here hx rfl (hb hby d1_231) ?_
    refine XS.bipush X51.here hx rfl (hb hby d1_233) ?_
    show Steps _ _ _ (T51.setTop (mkF m 235 Lnm02_0 [(.int 101), (.int 10), (.ref b2), (.ref b2)])) _
    exact k
  obtain ⟨cl57, Ar57, q57, S57, N57, H57, G57⟩ := id F54
  obtain ⟨T56, h56, X56, e56, W56, st56⟩ := stC X51 hx hZ e51 Ar57 (j := (10 : Int32)) (inb_of S57 ⟨by decide, by decide⟩) (g := (mkF m 235 Lnm02_0 [(.int 101), (.int 10), (.ref b2), (.ref b2)])) rfl rfl (hb hby d1_235)
  have go58 := gap go55 st56
  have N56 := Fr.snoc X56 N51 low2
  have K56 : Keep h0 h56 [] := K51.wr W56 (Or.inr fsh2)
  have Zs56 : n0 ≤ h56.size := Nat.le_trans Zs51 (Keep.of_wr W56).1
  have F59 : Arv Z h56 b2 k2 .char (12 : Int32) [(.int 109), (.int 111), (.int 100), (.int 117), (.int 108), (.int 101), (.int 67), (.int 111), (.int 110), (.int 116), (.int 101), (.int 0)] (.int 0) := Arv.set Ar57 q57 S57 N57 H57 G57 (fits_nar_char _) W56 10 rfl (Nat.le_of_ble_eq_true rfl)
  have go60 : Go p.tables e below T56 (mkF m 241 Lnm02_0 [(.int 120), (.int 11), (.ref b2), (.ref b2)]) En := by
    intro t k
    refine go58 _ ?_
    refine XS.dup X56.here hx rfl (hb hby d1_236) rfl rfl ?_
    refine XS.bipush X56.here hx rfl (hb hby d1_237) ?_
    refine XS.bipush X56.here hx rfl (hb hby d1_239) ?_
    show Steps _ _ _ (T56.setTop (mkF m 241 Lnm02_0 [(.int 120), (.int 11), (.ref b2), (.ref b2)])) _
    exact k
  obtain ⟨cl62, Ar62, q62, S62, N62, H62, G62⟩ := id F59
  obtain ⟨T61, h61, X61, e61, W61, st61⟩ := stC X56 hx hZ e56 Ar62 (j := (11 : Int32)) (inb_of S62 ⟨by decide, by decide⟩) (g := (mkF m 241 Lnm02_0 [(.int 120), (.int 11), (.ref b2), (.ref b2)])) rfl rfl (hb hby d1_241)
  have go63 := gap go60 st61
  have N61 := Fr.snoc X61 N56 low2
  have K61 : Keep h0 h61 [] := K56.wr W61 (Or.inr fsh2)
  have Zs61 : n0 ≤ h61.size := Nat.le_trans Zs56 (Keep.of_wr W61).1
  have F64 : Arv Z h61 b2 k2 .char (12 : Int32) [(.int 109), (.int 111), (.int 100), (.int 117), (.int 108), (.int 101), (.int 67), (.int 111), (.int 110), (.int 116), (.int 101), (.int 120)] (.int 0) := Arv.set Ar62 q62 S62 N62 H62 G62 (fits_nar_char _) W61 11 rfl (Nat.le_of_ble_eq_true rfl)
  refine own_out (w := (.ref b2)) X61 hx hlk go63 hrt rfl (Or.inr (Or.inr (Or.inr (Or.inr ⟨rfl, rfl, rfl⟩)))) (hb hby d1_242) e61 (by decide) (by decide) ?_
  exact ⟨b2, k2, rfl, N61, K61, fsh2, F64⟩
theorem d1_243 : decode method_2_code 243 = .ok (.iload_n 0, 1) := by decide +kernel
theorem d1_244 : decode method_2_code 244 = .ok (.iconst 1, 1) := by decide +kernel
theorem d1_245 : decode method_2_code 245 = .ok (.if_icmp .ne 206, 3) := by decide +kernel
theorem d1_248 : decode method_2_code 248 = .ok (.iload_n 1, 1) := by decide +kernel
theorem d1_249 : decode method_2_code 249 = .ok (.ifCond .ne 68, 3) := by decide +kernel
theorem d1_252 : decode method_2_code 252 = .ok (.bipush 11, 2) := by decide +kernel
theorem d1_254 : decode method_2_code 254 = .ok (.newarray .char, 2) := by decide +kernel
theorem d1_256 : decode method_2_code 256 = .ok (.dup, 1) := by decide +kernel
theorem d1_257 : decode method_2_code 257 = .ok (.iconst 0, 1) := by decide +kernel
theorem d1_258 : decode method_2_code 258 = .ok (.bipush 109, 2) := by decide +kernel
theorem d1_260 : decode method_2_code 260 = .ok (.castore, 1) := by decide +kernel
theorem d1_261 : decode method_2_code 261 = .ok (.dup, 1) := by decide +kernel
theorem d1_262 : decode method_2_code 262 = .ok (.iconst 1, 1) := by decide +kernel
theorem d1_263 : decode method_2_code 263 = .ok (.bipush 111, 2) := by decide +kernel
theorem d1_265 : decode method_2_code 265 = .ok (.castore, 1) := by decide +kernel
theorem d1_266 : decode method_2_code 266 = .ok (.dup, 1) := by decide +kernel
theorem d1_267 : decode method_2_code 267 = .ok (.iconst 2, 1) := by decide +kernel
theorem d1_268 : decode method_2_code 268 = .ok (.bipush 100, 2) := by decide +kernel
theorem d1_270 : decode method_2_code 270 = .ok (.castore, 1) := by decide +kernel
theorem d1_271 : decode method_2_code 271 = .ok (.dup, 1) := by decide +kernel
theorem d1_272 : decode method_2_code 272 = .ok (.iconst 3, 1) := by decide +kernel
theorem d1_273 : decode method_2_code 273 = .ok (.bipush 117, 2) := by decide +kernel
theorem d1_275 : decode method_2_code 275 = .ok (.castore, 1) := by decide +kernel
theorem d1_276 : decode method_2_code 276 = .ok (.dup, 1) := by decide +kernel
theorem d1_277 : decode method_2_code 277 = .ok (.iconst 4, 1) := by decide +kernel
theorem d1_278 : decode method_2_code 278 = .ok (.bipush 108, 2) := by decide +kernel
theorem d1_280 : decode method_2_code 280 = .ok (.castore, 1) := by decide +kernel
theorem d1_281 : decode method_2_code 281 = .ok (.dup, 1) := by decide +kernel
theorem d1_282 : decode method_2_code 282 = .ok (.iconst 5, 1) := by decide +kernel
theorem d1_283 : decode method_2_code 283 = .ok (.bipush 101, 2) := by decide +kernel
theorem d1_285 : decode method_2_code 285 = .ok (.castore, 1) := by decide +kernel
theorem d1_286 : decode method_2_code 286 = .ok (.dup, 1) := by decide +kernel
theorem d1_287 : decode method_2_code 287 = .ok (.bipush 6, 2) := by decide +kernel
theorem d1_289 : decode method_2_code 289 = .ok (.bipush 83, 2) := by decide +kernel
theorem d1_291 : decode method_2_code 291 = .ok (.castore, 1) := by decide +kernel
theorem d1_292 : decode method_2_code 292 = .ok (.dup, 1) := by decide +kernel
theorem d1_293 : decode method_2_code 293 = .ok (.bipush 7, 2) := by decide +kernel
theorem d1_295 : decode method_2_code 295 = .ok (.bipush 99, 2) := by decide +kernel
theorem d1_297 : decode method_2_code 297 = .ok (.castore, 1) := by decide +kernel
theorem d1_298 : decode method_2_code 298 = .ok (.dup, 1) := by decide +kernel
theorem d1_299 : decode method_2_code 299 = .ok (.bipush 8, 2) := by decide +kernel
theorem d1_301 : decode method_2_code 301 = .ok (.bipush 111, 2) := by decide +kernel
theorem d1_303 : decode method_2_code 303 = .ok (.castore, 1) := by decide +kernel
theorem d1_304 : decode method_2_code 304 = .ok (.dup, 1) := by decide +kernel
theorem d1_305 : decode method_2_code 305 = .ok (.bipush 9, 2) := by decide +kernel
theorem d1_307 : decode method_2_code 307 = .ok (.bipush 112, 2) := by decide +kernel
theorem d1_309 : decode method_2_code 309 = .ok (.castore, 1) := by decide +kernel
theorem d1_310 : decode method_2_code 310 = .ok (.dup, 1) := by decide +kernel
theorem d1_311 : decode method_2_code 311 = .ok (.bipush 10, 2) := by decide +kernel
theorem d1_313 : decode method_2_code 313 = .ok (.bipush 101, 2) := by decide +kernel
theorem d1_315 : decode method_2_code 315 = .ok (.castore, 1) := by decide +kernel
theorem d1_316 : decode method_2_code 316 = .ok (.areturn, 1) := by decide +kernel
def Qnm10 (Z : State) (n0 : Nat) (h0 : Heap) (v : Option Value) (h : Heap) (L : List Loc) : Prop := ∃ (b : Addr) (kb : ClassId), v = some (.ref b) ∧ Fr n0 L ∧ Keep h0 h [] ∧ h0.size ≤ b ∧ Arv Z h b kb .char (11 : Int32) [(.int (109 : Int32)), (.int (111 : Int32)), (.int (100 : Int32)), (.int (117 : Int32)), (.int (108 : Int32)), (.int (101 : Int32)), (.int (83 : Int32)), (.int (99 : Int32)), (.int (111 : Int32)), (.int (112 : Int32)), (.int (101 : Int32))] (.int (0 : Int32))
theorem efnm10 (m : MethodId) : entryFrame m #[(.int (1 : Int32)), (.int (0 : Int32))] 2 = mkF m 0 #[iv (1 : Int32), iv (0 : Int32)] [] := by first | (simp [entryFrame, mkF, argsToLocals, Value.category]; done) | rfl
abbrev Lnm10_0 : Array Slot := #[iv 1, iv 0]
set_option maxRecDepth 65536 in
set_option maxHeartbeats 40000000 in
theorem rmnm10 (l : Launch) (Z : State) (aZ : Array Value) (hw : ∀ d ∈ tables_1, d.before aZ Z = true) (ws : List Jvm.Cond) (h0 : Heap) (n0 : Nat) (Z0 : n0 ≤ h0.size) :
    MFn l (⟨"com/example/calycule/calycule/config/ModuleContextIsImplicitPinLaw", "name", "(II)[C"⟩ : MethodName) method_2_code 2 (some (.array .char)) ws (Rm 0 1 11 0) #[(.int 1), (.int 0)] Z h0 (Qnm10 Z n0 h0) := by
  refine own_mf (C := "com/example/calycule/calycule/config/ModuleContextIsImplicitPinLaw") rfl (plainFor_of_name pn_84) (fun m => efnm10 m) ?_
  intro p e s m below meth cd0 s₁ En hx hby hml hown hnm hZ X0 e0 hlk hrt go0
  have N0 := Fr.nil n0
  have K0 : Keep h0 h0 [] := Keep.refl _ _
  have go1 : Go p.tables e below s₁ (mkF m 254 Lnm10_0 [(.int 11)]) En := by
    intro t k
    refine go0 _ ?_
    refine XS.iloadN X0.here hx rfl (hb hby d1_0) rfl ?_
    refine XS.ifYes X0.here hx rfl (pc0 := 1) (pc' := 243) rfl (hb hby d1_1) rfl (XT.i0_ne_t (by decide : ¬ ((1 : Int32) = (0 : Int32)))) (by decide) (by decide) ?_
    refine XS.iloadN X0.here hx rfl (hb hby d1_243) rfl ?_
    show Steps _ _ _ (s₁.setTop (mkF m 244 Lnm10_0 [(.int 1)])) _
    refine XS.iconst X0.here hx rfl (hb hby d1_244) ?_
    refine XS.icmpNo X0.here hx rfl (hb hby d1_245) rfl (XT.ii_ne_f (by decide : ((1 : Int32) = (1 : Int32)))) ?_
    refine XS.iloadN X0.here hx rfl (hb hby d1_248) rfl ?_
    show Steps _ _ _ (s₁.setTop (mkF m 249 Lnm10_0 [(.int 0)])) _
    refine XS.ifNo X0.here hx rfl (hb hby d1_249) rfl (XT.i0_ne_f (by decide : ((0 : Int32) = (0 : Int32)))) ?_
    refine XS.bipush X0.here hx rfl (hb hby d1_252) ?_
    exact k
  obtain ⟨T2, h2, k2, X2, e2, E2, A2, st2⟩ := newP X0 hx hZ (hw _ (mi 5 rfl)) e0 (g := (mkF m 254 Lnm10_0 [(.int 11)])) rfl (hb hby d1_254) rfl (by decide) (cap := 11) (by decide) (by decide) (by decide) (by decide)
  obtain ⟨b2, g2⟩ : ∃ z, z = h0.size := ⟨_, rfl⟩
  rw [← g2] at A2 st2
  have low2 : n0 ≤ b2 := Nat.le_trans Z0 (Nat.le_of_eq g2.symm)
  have fsh2 : h0.size ≤ b2 := Nat.le_trans K0.1 (Nat.le_of_eq g2.symm)
  have K2 : Keep h0 h2 [] := K0.ext E2
  have Zs2 : n0 ≤ h2.size := Nat.le_trans Z0 E2.1
  have go3 := gap go1 st2
  have F4 : Arv Z h2 b2 k2 .char (11 : Int32) [(.int 0), (.int 0), (.int 0), (.int 0), (.int 0), (.int 0), (.int 0), (.int 0), (.int 0), (.int 0), (.int 0)] (.int 0) := (Arv.new A2 (by decide)).pad (pad_rep [] (.int 0) 11)
  have go5 : Go p.tables e below T2 (mkF m 260 Lnm10_0 [(.int 109), (.int 0), (.ref b2), (.ref b2)]) En := by
    intro t k
    refine go3 _ ?_
    refine XS.dup X2.here hx rfl (hb hby d1_256) rfl rfl ?_
    refine XS.iconst X2.here hx rfl (hb hby d1_257) ?_
    refine XS.bipush X2.here hx rfl (hb hby d1_258) ?_
    show Steps _ _ _ (T2.setTop (mkF m 260 Lnm10_0 [(.int 109), (.int 0), (.ref b2), (.ref b2)])) _
    exact k
  obtain ⟨cl7, Ar7, q7, S7, N7, H7, G7⟩ := id F4
  obtain ⟨T6, h6, X6, e6, W6, st6⟩ := stC X2 hx hZ e2 Ar7 (j := (0 : Int32)) (inb_of S7 ⟨by decide, by decide⟩) (g := (mkF m 260 Lnm10_0 [(.int 109), (.int 0), (.ref b2), (.ref b2)])) rfl rfl (hb hby d1_260)
  have go8 := gap go5 st6
  have N6 := Fr.snoc X6 N0 low2
  have K6 : Keep h0 h6 [] := K2.wr W6 (Or.inr fsh2)
  have Zs6 : n0 ≤ h6.size := Nat.le_trans Zs2 (Keep.of_wr W6).1
  have F9 : Arv Z h6 b2 k2 .char (11 : Int32) [(.int 109), (.int 0), (.int 0), (.int 0), (.int 0), (.int 0), (.int 0), (.int 0), (.int 0), (.int 0), (.int 0)] (.int 0) := Arv.set Ar7 q7 S7 N7 H7 G7 (fits_nar_char _) W6 0 rfl (Nat.le_of_ble_eq_true rfl)
  have go10 : Go p.tables e below T6 (mkF m 265 Lnm10_0 [(.int 111), (.int 1), (.ref b2), (.ref b2)]) En := by
    intro t k
    refine go8 _ ?_
    refine XS.dup X6.here hx rfl (hb hby d1_261) rfl rfl ?_
    refine XS.iconst X6.here hx rfl (hb hby d1_262) ?_
    refine XS.bipush X6.here hx rfl (hb hby d1_263) ?_
    show Steps _ _ _ (T6.setTop (mkF m 265 Lnm10_0 [(.int 111), (.int 1), (.ref b2), (.ref b2)])) _
    exact k
  obtain ⟨cl12, Ar12, q12, S12, N12, H12, G12⟩ := id F9
  obtain ⟨T11, h11, X11, e11, W11, st11⟩ := stC X6 hx hZ e6 Ar12 (j := (1 : Int32)) (inb_of S12 ⟨by decide, by decide⟩) (g := (mkF m 265 Lnm10_0 [(.int 111), (.int 1), (.ref b2), (.ref b2)])) rfl rfl (hb hby d1_265)
  have go13 := gap go10 st11
  have N11 := Fr.snoc X11 N6 low2
  have K11 : Keep h0 h11 [] := K6.wr W11 (Or.inr fsh2)
  have Zs11 : n0 ≤ h11.size := Nat.le_trans Zs6 (Keep.of_wr W11).1
  have F14 : Arv Z h11 b2 k2 .char (11 : Int32) [(.int 109), (.int 111), (.int 0), (.int 0), (.int 0), (.int 0), (.int 0), (.int 0), (.int 0), (.int 0), (.int 0)] (.int 0) := Arv.set Ar12 q12 S12 N12 H12 G12 (fits_nar_char _) W11 1 rfl (Nat.le_of_ble_eq_true rfl)
  have go15 : Go p.tables e below T11 (mkF m 270 Lnm10_0 [(.int 100), (.int 2), (.ref b2), (.ref b2)]) En := by
    intro t k
    refine go13 _ ?_
    refine XS.dup X11.here hx rfl (hb hby d1_266) rfl rfl ?_
    refine XS.iconst X11.here hx rfl (hb hby d1_267) ?_
    refine XS.bipush X11.here hx rfl (hb hby d1_268) ?_
    show Steps _ _ _ (T11.setTop (mkF m 270 Lnm10_0 [(.int 100), (.int 2), (.ref b2), (.ref b2)])) _
    exact k
  obtain ⟨cl17, Ar17, q17, S17, N17, H17, G17⟩ := id F14
  obtain ⟨T16, h16, X16, e16, W16, st16⟩ := stC X11 hx hZ e11 Ar17 (j := (2 : Int32)) (inb_of S17 ⟨by decide, by decide⟩) (g := (mkF m 270 Lnm10_0 [(.int 100), (.int 2), (.ref b2), (.ref b2)])) rfl rfl (hb hby d1_270)
  have go18 := gap go15 st16
  have N16 := Fr.snoc X16 N11 low2
  have K16 : Keep h0 h16 [] := K11.wr W16 (Or.inr fsh2)
  have Zs16 : n0 ≤ h16.size := Nat.le_trans Zs11 (Keep.of_wr W16).1
  have F19 : Arv Z h16 b2 k2 .char (11 : Int32) [(.int 109), (.int 111), (.int 100), (.int 0), (.int 0), (.int 0), (.int 0), (.int 0), (.int 0), (.int 0), (.int 0)] (.int 0) := Arv.set Ar17 q17 S17 N17 H17 G17 (fits_nar_char _) W16 2 rfl (Nat.le_of_ble_eq_true rfl)
  have go20 : Go p.tables e below T16 (mkF m 275 Lnm10_0 [(.int 117), (.int 3), (.ref b2), (.ref b2)]) En := by
    intro t k
    refine go18 _ ?_
    refine XS.dup X16.here hx rfl (hb hby d1_271) rfl rfl ?_
    refine XS.iconst X16.here hx rfl (hb hby d1_272) ?_
    refine XS.bipush X16.here hx rfl (hb hby d1_273) ?_
    show Steps _ _ _ (T16.setTop (mkF m 275 Lnm10_0 [(.int 117), (.int 3), (.ref b2), (.ref b2)])) _
    exact k
  obtain ⟨cl22, Ar22, q22, S22, N22, H22, G22⟩ := id F19
  obtain ⟨T21, h21, X21, e21, W21, st21⟩ := stC X16 hx hZ e16 Ar22 (j := (3 : Int32)) (inb_of S22 ⟨by decide, by decide⟩) (g := (mkF m 275 Lnm10_0 [(.int 117), (.int 3), (.ref b2), (.ref b2)])) rfl rfl (hb hby d1_275)
  have go23 := gap go20 st21
  have N21 := Fr.snoc X21 N16 low2
  have K21 : Keep h0 h21 [] := K16.wr W21 (Or.inr fsh2)
  have Zs21 : n0 ≤ h21.size := Nat.le_trans Zs16 (Keep.of_wr W21).1
  have F24 : Arv Z h21 b2 k2 .char (11 : Int32) [(.int 109), (.int 111), (.int 100), (.int 117), (.int 0), (.int 0), (.int 0), (.int 0), (.int 0), (.int 0), (.int 0)] (.int 0) := Arv.set Ar22 q22 S22 N22 H22 G22 (fits_nar_char _) W21 3 rfl (Nat.le_of_ble_eq_true rfl)
  have go25 : Go p.tables e below T21 (mkF m 280 Lnm10_0 [(.int 108), (.int 4), (.ref b2), (.ref b2)]) En := by
    intro t k
    refine go23 _ ?_
    refine XS.dup X21.here hx rfl (hb hby d1_276) rfl rfl ?_
    refine XS.iconst X21.here hx rfl (hb hby d1_277) ?_
    refine XS.bipush X21.here hx rfl (hb hby d1_278) ?_
    show Steps _ _ _ (T21.setTop (mkF m 280 Lnm10_0 [(.int 108), (.int 4), (.ref b2), (.ref b2)])) _
    exact k
  obtain ⟨cl27, Ar27, q27, S27, N27, H27, G27⟩ := id F24
  obtain ⟨T26, h26, X26, e26, W26, st26⟩ := stC X21 hx hZ e21 Ar27 (j := (4 : Int32)) (inb_of S27 ⟨by decide, by decide⟩) (g := (mkF m 280 Lnm10_0 [(.int 108), (.int 4), (.ref b2), (.ref b2)])) rfl rfl (hb hby d1_280)
  have go28 := gap go25 st26
  have N26 := Fr.snoc X26 N21 low2
  have K26 : Keep h0 h26 [] := K21.wr W26 (Or.inr fsh2)
  have Zs26 : n0 ≤ h26.size := Nat.le_trans Zs21 (Keep.of_wr W26).1
  have F29 : Arv Z h26 b2 k2 .char (11 : Int32) [(.int 109), (.int 111), (.int 100), (.int 117), (.int 108), (.int 0), (.int 0), (.int 0), (.int 0), (.int 0), (.int 0)] (.int 0) := Arv.set Ar27 q27 S27 N27 H27 G27 (fits_nar_char _) W26 4 rfl (Nat.le_of_ble_eq_true rfl)
  have go30 : Go p.tables e below T26 (mkF m 285 Lnm10_0 [(.int 101), (.int 5), (.ref b2), (.ref b2)]) En := by
    intro t k
    refine go28 _ ?_
    refine XS.dup X26.here hx rfl (hb hby d1_281) rfl rfl ?_
    refine XS.iconst X26.here hx rfl (hb hby d1_282) ?_
    refine XS.bipush X26.here hx rfl (hb hby d1_283) ?_
    show Steps _ _ _ (T26.setTop (mkF m 285 Lnm10_0 [(.int 101), (.int 5), (.ref b2), (.ref b2)])) _
    exact k
  obtain ⟨cl32, Ar32, q32, S32, N32, H32, G32⟩ := id F29
  obtain ⟨T31, h31, X31, e31, W31, st31⟩ := stC X26 hx hZ e26 Ar32 (j := (5 : Int32)) (inb_of S32 ⟨by decide, by decide⟩) (g := (mkF m 285 Lnm10_0 [(.int 101), (.int 5), (.ref b2), (.ref b2)])) rfl rfl (hb hby d1_285)
  have go33 := gap go30 st31
  have N31 := Fr.snoc X31 N26 low2
  have K31 : Keep h0 h31 [] := K26.wr W31 (Or.inr fsh2)
  have Zs31 : n0 ≤ h31.size := Nat.le_trans Zs26 (Keep.of_wr W31).1
  have F34 : Arv Z h31 b2 k2 .char (11 : Int32) [(.int 109), (.int 111), (.int 100), (.int 117), (.int 108), (.int 101), (.int 0), (.int 0), (.int 0), (.int 0), (.int 0)] (.int 0) := Arv.set Ar32 q32 S32 N32 H32 G32 (fits_nar_char _) W31 5 rfl (Nat.le_of_ble_eq_true rfl)
  have go35 : Go p.tables e below T31 (mkF m 291 Lnm10_0 [(.int 83), (.int 6), (.ref b2), (.ref b2)]) En := by
    intro t k
    refine go33 _ ?_
    refine XS.dup X31.here hx rfl (hb hby d1_286) rfl rfl ?_
    refine XS.bipush X31.here hx rfl (hb hby d1_287) ?_
    refine XS.bipush X31.here hx rfl (hb hby d1_289) ?_
    show Steps _ _ _ (T31.setTop (mkF m 291 Lnm10_0 [(.int 83), (.int 6), (.ref b2), (.ref b2)])) _
    exact k
  obtain ⟨cl37, Ar37, q37, S37, N37, H37, G37⟩ := id F34
  obtain ⟨T36, h36, X36, e36, W36, st36⟩ := stC X31 hx hZ e31 Ar37 (j := (6 : Int32)) (inb_of S37 ⟨by decide, by decide⟩) (g := (mkF m 291 Lnm10_0 [(.int 83), (.int 6), (.ref b2), (.ref b2)])) rfl rfl (hb hby d1_291)
  have go38 := gap go35 st36
  have N36 := Fr.snoc X36 N31 low2
  have K36 : Keep h0 h36 [] := K31.wr W36 (Or.inr fsh2)
  have Zs36 : n0 ≤ h36.size := Nat.le_trans Zs31 (Keep.of_wr W36).1
  have F39 : Arv Z h36 b2 k2 .char (11 : Int32) [(.int 109), (.int 111), (.int 100), (.int 117), (.int 108), (.int 101), (.int 83), (.int 0), (.int 0), (.int 0), (.int 0)] (.int 0) := Arv.set Ar37 q37 S37 N37 H37 G37 (fits_nar_char _) W36 6 rfl (Nat.le_of_ble_eq_true rfl)
  have go40 : Go p.tables e below T36 (mkF m 297 Lnm10_0 [(.int 99), (.int 7), (.ref b2), (.ref b2)]) En := by
    intro t k
    refine go38 _ ?_
    refine XS.dup X36.here hx rfl (hb hby d1_292) rfl rfl ?_
    refine XS.bipush X36.here hx rfl (hb hby d1_293) ?_
    refine XS.bipush X36.here hx rfl (hb hby d1_295) ?_
    show Steps _ _ _ (T36.setTop (mkF m 297 Lnm10_0 [(.int 99), (.int 7), (.ref b2), (.ref b2)])) _
    exact k
  obtain ⟨cl42, Ar42, q42, S42, N42, H42, G42⟩ := id F39
  obtain ⟨T41, h41, X41, e41, W41, st41⟩ := stC X36 hx hZ e36 Ar42 (j := (7 : Int32)) (inb_of S42 ⟨by decide, by decide⟩) (g := (mkF m 297 Lnm10_0 [(.int 99), (.int 7), (.ref b2), (.ref b2)])) rfl rfl (hb hby d1_297)
  have go43 := gap go40 st41
  have N41 := Fr.snoc X41 N36 low2
  have K41 : Keep h0 h41 [] := K36.wr W41 (Or.inr fsh2)
  have Zs41 : n0 ≤ h41.size := Nat.le_trans Zs36 (Keep.of_wr W41).1
  have F44 : Arv Z h41 b2 k2 .char (11 : Int32) [(.int 109), (.int 111), (.int 100), (.int 117), (.int 108), (.int 101), (.int 83), (.int 99), (.int 0), (.int 0), (.int 0)] (.int 0) := Arv.set Ar42 q42 S42 N42 H42 G42 (fits_nar_char _) W41 7 rfl (Nat.le_of_ble_eq_true rfl)
  have go45 : Go p.tables e below T41 (mkF m 303 Lnm10_0 [(.int 111), (.int 8), (.ref b2), (.ref b2)]) En := by
    intro t k
    refine go43 _ ?_
    refine XS.dup X41.here hx rfl (hb hby d1_298) rfl rfl ?_
    refine XS.bipush X41.here hx rfl (hb hby d1_299) ?_
    refine XS.bipush X41.here hx rfl (hb hby d1_301) ?_
    show Steps _ _ _ (T41.setTop (mkF m 303 Lnm10_0 [(.int 111), (.int 8), (.ref b2), (.ref b2)])) _
    exact k
  obtain ⟨cl47, Ar47, q47, S47, N47, H47, G47⟩ := id F44
  obtain ⟨T46, h46, X46, e46, W46, st46⟩ := stC X41 hx hZ e41 Ar47 (j := (8 : Int32)) (inb_of S47 ⟨by decide, by decide⟩) (g := (mkF m 303 Lnm10_0 [(.int 111), (.int 8), (.ref b2), (.ref b2)])) rfl rfl (hb hby d1_303)
  have go48 := gap go45 st46
  have N46 := Fr.snoc X46 N41 low2
  have K46 : Keep h0 h46 [] := K41.wr W46 (Or.inr fsh2)
  have Zs46 : n0 ≤ h46.size := Nat.le_trans Zs41 (Keep.of_wr W46).1
  have F49 : Arv Z h46 b2 k2 .char (11 : Int32) [(.int 109), (.int 111), (.int 100), (.int 117), (.int 108), (.int 101), (.int 83), (.int 99), (.int 111), (.int 0), (.int 0)] (.int 0) := Arv.set Ar47 q47 S47 N47 H47 G47 (fits_nar_char _) W46 8 rfl (Nat.le_of_ble_eq_true rfl)
  have go50 : Go p.tables e below T46 (mkF m 309 Lnm10_0 [(.int 112), (.int 9), (.ref b2), (.ref b2)]) En := by
    intro t k
    refine go48 _ ?_
    refine XS.dup X46.here hx rfl (hb hby d1_304) rfl rfl ?_
    refine XS.bipush X46.here hx rfl (hb hby d1_305) ?_
    refine XS.bipush X46.here hx rfl (hb hby d1_307) ?_
    show Steps _ _ _ (T46.setTop (mkF m 309 Lnm10_0 [(.int 112), (.int 9), (.ref b2), (.ref b2)])) _
    exact k
  obtain ⟨cl52, Ar52, q52, S52, N52, H52, G52⟩ := id F49
  obtain ⟨T51, h51, X51, e51, W51, st51⟩ := stC X46 hx hZ e46 Ar52 (j := (9 : Int32)) (inb_of S52 ⟨by decide, by decide⟩) (g := (mkF m 309 Lnm10_0 [(.int 112), (.int 9), (.ref b2), (.ref b2)])) rfl rfl (hb hby d1_309)
  have go53 := gap go50 st51
  have N51 := Fr.snoc X51 N46 low2
  have K51 : Keep h0 h51 [] := K46.wr W51 (Or.inr fsh2)
  have Zs51 : n0 ≤ h51.size := Nat.le_trans Zs46 (Keep.of_wr W51).1
  have F54 : Arv Z h51 b2 k2 .char (11 : Int32) [(.int 109), (.int 111), (.int 100), (.int 117), (.int 108), (.int 101), (.int 83), (.int 99), (.int 111), (.int 112), (.int 0)] (.int 0) := Arv.set Ar52 q52 S52 N52 H52 G52 (fits_nar_char _) W51 9 rfl (Nat.le_of_ble_eq_true rfl)
  have go55 : Go p.tables e below T51 (mkF m 315 Lnm10_0 [(.int 101), (.int 10), (.ref b2), (.ref b2)]) En := by
    intro t k
    refine go53 _ ?_
    refine XS.dup X51.here hx rfl (hb hby d1_310) rfl rfl ?_
    refine XS.bipush X51.here hx rfl (hb hby d1_311) ?_
    refine XS.bipush X51.here hx rfl (hb hby d1_313) ?_
    show Steps _ _ _ (T51.setTop (mkF m 315 Lnm10_0 [(.int 101), (.int 10), (.ref b2), (.ref b2)])) _
    exact k
  obtain ⟨cl57, Ar57, q57, S57, N57, H57, G57⟩ := id F54
  obtain ⟨T56, h56, X56, e56, W56, st56⟩ := stC X51 hx hZ e51 Ar57 (j := (10 : Int32)) (inb_of S57 ⟨by decide, by decide⟩) (g := (mkF m 315 Lnm10_0 [(.int 101), (.int 10), (.ref b2), (.ref b2)])) rfl rfl (hb hby d1_315)
  have go58 := gap go55 st56
  have N56 := Fr.snoc X56 N51 low2
  have K56 : Keep h0 h56 [] := K51.wr W56 (Or.inr fsh2)
  have Zs56 : n0 ≤ h56.size := Nat.le_trans Zs51 (Keep.of_wr W56).1
  have F59 : Arv Z h56 b2 k2 .char (11 : Int32) [(.int 109), (.int 111), (.int 100), (.int 117), (.int 108), (.int 101), (.int 83), (.int 99), (.int 111), (.int 112), (.int 101)] (.int 0) := Arv.set Ar57 q57 S57 N57 H57 G57 (fits_nar_char _) W56 10 rfl (Nat.le_of_ble_eq_true rfl)
  refine own_out (w := (.ref b2)) X56 hx hlk go58 hrt rfl (Or.inr (Or.inr (Or.inr (Or.inr ⟨rfl, rfl, rfl⟩)))) (hb hby d1_316) e56 (by decide) (by decide) ?_
  exact ⟨b2, k2, rfl, N56, K56, fsh2, F59⟩
theorem d1_317 : decode method_2_code 317 = .ok (.iload_n 1, 1) := by decide +kernel
theorem d1_318 : decode method_2_code 318 = .ok (.iconst 1, 1) := by decide +kernel
theorem d1_319 : decode method_2_code 319 = .ok (.if_icmp .ne 73, 3) := by decide +kernel
theorem d1_322 : decode method_2_code 322 = .ok (.bipush 12, 2) := by decide +kernel
theorem d1_324 : decode method_2_code 324 = .ok (.newarray .char, 2) := by decide +kernel
theorem d1_326 : decode method_2_code 326 = .ok (.dup, 1) := by decide +kernel
theorem d1_327 : decode method_2_code 327 = .ok (.iconst 0, 1) := by decide +kernel
theorem d1_328 : decode method_2_code 328 = .ok (.bipush 109, 2) := by decide +kernel
theorem d1_330 : decode method_2_code 330 = .ok (.castore, 1) := by decide +kernel
theorem d1_331 : decode method_2_code 331 = .ok (.dup, 1) := by decide +kernel
theorem d1_332 : decode method_2_code 332 = .ok (.iconst 1, 1) := by decide +kernel
theorem d1_333 : decode method_2_code 333 = .ok (.bipush 111, 2) := by decide +kernel
theorem d1_335 : decode method_2_code 335 = .ok (.castore, 1) := by decide +kernel
theorem d1_336 : decode method_2_code 336 = .ok (.dup, 1) := by decide +kernel
theorem d1_337 : decode method_2_code 337 = .ok (.iconst 2, 1) := by decide +kernel
theorem d1_338 : decode method_2_code 338 = .ok (.bipush 100, 2) := by decide +kernel
theorem d1_340 : decode method_2_code 340 = .ok (.castore, 1) := by decide +kernel
theorem d1_341 : decode method_2_code 341 = .ok (.dup, 1) := by decide +kernel
theorem d1_342 : decode method_2_code 342 = .ok (.iconst 3, 1) := by decide +kernel
theorem d1_343 : decode method_2_code 343 = .ok (.bipush 117, 2) := by decide +kernel
theorem d1_345 : decode method_2_code 345 = .ok (.castore, 1) := by decide +kernel
theorem d1_346 : decode method_2_code 346 = .ok (.dup, 1) := by decide +kernel
theorem d1_347 : decode method_2_code 347 = .ok (.iconst 4, 1) := by decide +kernel
theorem d1_348 : decode method_2_code 348 = .ok (.bipush 108, 2) := by decide +kernel
theorem d1_350 : decode method_2_code 350 = .ok (.castore, 1) := by decide +kernel
theorem d1_351 : decode method_2_code 351 = .ok (.dup, 1) := by decide +kernel
theorem d1_352 : decode method_2_code 352 = .ok (.iconst 5, 1) := by decide +kernel
theorem d1_353 : decode method_2_code 353 = .ok (.bipush 101, 2) := by decide +kernel
theorem d1_355 : decode method_2_code 355 = .ok (.castore, 1) := by decide +kernel
theorem d1_356 : decode method_2_code 356 = .ok (.dup, 1) := by decide +kernel
theorem d1_357 : decode method_2_code 357 = .ok (.bipush 6, 2) := by decide +kernel
theorem d1_359 : decode method_2_code 359 = .ok (.bipush 83, 2) := by decide +kernel
theorem d1_361 : decode method_2_code 361 = .ok (.castore, 1) := by decide +kernel
theorem d1_362 : decode method_2_code 362 = .ok (.dup, 1) := by decide +kernel
theorem d1_363 : decode method_2_code 363 = .ok (.bipush 7, 2) := by decide +kernel
theorem d1_365 : decode method_2_code 365 = .ok (.bipush 99, 2) := by decide +kernel
theorem d1_367 : decode method_2_code 367 = .ok (.castore, 1) := by decide +kernel
theorem d1_368 : decode method_2_code 368 = .ok (.dup, 1) := by decide +kernel
theorem d1_369 : decode method_2_code 369 = .ok (.bipush 8, 2) := by decide +kernel
theorem d1_371 : decode method_2_code 371 = .ok (.bipush 111, 2) := by decide +kernel
theorem d1_373 : decode method_2_code 373 = .ok (.castore, 1) := by decide +kernel
theorem d1_374 : decode method_2_code 374 = .ok (.dup, 1) := by decide +kernel
theorem d1_375 : decode method_2_code 375 = .ok (.bipush 9, 2) := by decide +kernel
theorem d1_377 : decode method_2_code 377 = .ok (.bipush 112, 2) := by decide +kernel
theorem d1_379 : decode method_2_code 379 = .ok (.castore, 1) := by decide +kernel
theorem d1_380 : decode method_2_code 380 = .ok (.dup, 1) := by decide +kernel
theorem d1_381 : decode method_2_code 381 = .ok (.bipush 10, 2) := by decide +kernel
theorem d1_383 : decode method_2_code 383 = .ok (.bipush 101, 2) := by decide +kernel
theorem d1_385 : decode method_2_code 385 = .ok (.castore, 1) := by decide +kernel
theorem d1_386 : decode method_2_code 386 = .ok (.dup, 1) := by decide +kernel
theorem d1_387 : decode method_2_code 387 = .ok (.bipush 11, 2) := by decide +kernel
theorem d1_389 : decode method_2_code 389 = .ok (.iconst 0, 1) := by decide +kernel
theorem d1_390 : decode method_2_code 390 = .ok (.castore, 1) := by decide +kernel
theorem d1_391 : decode method_2_code 391 = .ok (.areturn, 1) := by decide +kernel
def Qnm11 (Z : State) (n0 : Nat) (h0 : Heap) (v : Option Value) (h : Heap) (L : List Loc) : Prop := ∃ (b : Addr) (kb : ClassId), v = some (.ref b) ∧ Fr n0 L ∧ Keep h0 h [] ∧ h0.size ≤ b ∧ Arv Z h b kb .char (12 : Int32) [(.int (109 : Int32)), (.int (111 : Int32)), (.int (100 : Int32)), (.int (117 : Int32)), (.int (108 : Int32)), (.int (101 : Int32)), (.int (83 : Int32)), (.int (99 : Int32)), (.int (111 : Int32)), (.int (112 : Int32)), (.int (101 : Int32)), (.int (0 : Int32))] (.int (0 : Int32))
theorem efnm11 (m : MethodId) : entryFrame m #[(.int (1 : Int32)), (.int (1 : Int32))] 2 = mkF m 0 #[iv (1 : Int32), iv (1 : Int32)] [] := by first | (simp [entryFrame, mkF, argsToLocals, Value.category]; done) | rfl
abbrev Lnm11_0 : Array Slot := #[iv 1, iv 1]
set_option maxRecDepth 65536 in
set_option maxHeartbeats 40000000 in
theorem rmnm11 (l : Launch) (Z : State) (aZ : Array Value) (hw : ∀ d ∈ tables_1, d.before aZ Z = true) (ws : List Jvm.Cond) (h0 : Heap) (n0 : Nat) (Z0 : n0 ≤ h0.size) :
    MFn l (⟨"com/example/calycule/calycule/config/ModuleContextIsImplicitPinLaw", "name", "(II)[C"⟩ : MethodName) method_2_code 2 (some (.array .char)) ws (Rm 0 1 12 0) #[(.int 1), (.int 1)] Z h0 (Qnm11 Z n0 h0) := by
  refine own_mf (C := "com/example/calycule/calycule/config/ModuleContextIsImplicitPinLaw") rfl (plainFor_of_name pn_84) (fun m => efnm11 m) ?_
  intro p e s m below meth cd0 s₁ En hx hby hml hown hnm hZ X0 e0 hlk hrt go0
  have N0 := Fr.nil n0
  have K0 : Keep h0 h0 [] := Keep.refl _ _
  have go1 : Go p.tables e below s₁ (mkF m 324 Lnm11_0 [(.int 12)]) En := by
    intro t k
    refine go0 _ ?_
    refine XS.iloadN X0.here hx rfl (hb hby d1_0) rfl ?_
    refine XS.ifYes X0.here hx rfl (pc0 := 1) (pc' := 243) rfl (hb hby d1_1) rfl (XT.i0_ne_t (by decide : ¬ ((1 : Int32) = (0 : Int32)))) (by decide) (by decide) ?_
    refine XS.iloadN X0.here hx rfl (hb hby d1_243) rfl ?_
    show Steps _ _ _ (s₁.setTop (mkF m 244 Lnm11_0 [(.int 1)])) _
    refine XS.iconst X0.here hx rfl (hb hby d1_244) ?_
    refine XS.icmpNo X0.here hx rfl (hb hby d1_245) rfl (XT.ii_ne_f (by decide : ((1 : Int32) = (1 : Int32)))) ?_
    refine XS.iloadN X0.here hx rfl (hb hby d1_248) rfl ?_
    show Steps _ _ _ (s₁.setTop (mkF m 249 Lnm11_0 [(.int 1)])) _
    refine XS.ifYes X0.here hx rfl (pc0 := 249) (pc' := 317) rfl (hb hby d1_249) rfl (XT.i0_ne_t (by decide : ¬ ((1 : Int32) = (0 : Int32)))) (by decide) (by decide) ?_
    refine XS.iloadN X0.here hx rfl (hb hby d1_317) rfl ?_
    refine XS.iconst X0.here hx rfl (hb hby d1_318) ?_
    show Steps _ _ _ (s₁.setTop (mkF m 319 Lnm11_0 [(.int 1), (.int 1)])) _
    refine XS.icmpNo X0.here hx rfl (hb hby d1_319) rfl (XT.ii_ne_f (by decide : ((1 : Int32) = (1 : Int32)))) ?_
    refine XS.bipush X0.here hx rfl (hb hby d1_322) ?_
    exact k
  obtain ⟨T2, h2, k2, X2, e2, E2, A2, st2⟩ := newP X0 hx hZ (hw _ (mi 5 rfl)) e0 (g := (mkF m 324 Lnm11_0 [(.int 12)])) rfl (hb hby d1_324) rfl (by decide) (cap := 12) (by decide) (by decide) (by decide) (by decide)
  obtain ⟨b2, g2⟩ : ∃ z, z = h0.size := ⟨_, rfl⟩
  rw [← g2] at A2 st2
  have low2 : n0 ≤ b2 := Nat.le_trans Z0 (Nat.le_of_eq g2.symm)
  have fsh2 : h0.size ≤ b2 := Nat.le_trans K0.1 (Nat.le_of_eq g2.symm)
  have K2 : Keep h0 h2 [] := K0.ext E2
  have Zs2 : n0 ≤ h2.size := Nat.le_trans Z0 E2.1
  have go3 := gap go1 st2
  have F4 : Arv Z h2 b2 k2 .char (12 : Int32) [(.int 0), (.int 0), (.int 0), (.int 0), (.int 0), (.int 0), (.int 0), (.int 0), (.int 0), (.int 0), (.int 0), (.int 0)] (.int 0) := (Arv.new A2 (by decide)).pad (pad_rep [] (.int 0) 12)
  have go5 : Go p.tables e below T2 (mkF m 330 Lnm11_0 [(.int 109), (.int 0), (.ref b2), (.ref b2)]) En := by
    intro t k
    refine go3 _ ?_
    refine XS.dup X2.here hx rfl (hb hby d1_326) rfl rfl ?_
    refine XS.iconst X2.here hx rfl (hb hby d1_327) ?_
    refine XS.bipush X2.here hx rfl (hb hby d1_328) ?_
    show Steps _ _ _ (T2.setTop (mkF m 330 Lnm11_0 [(.int 109), (.int 0), (.ref b2), (.ref b2)])) _
    exact k
  obtain ⟨cl7, Ar7, q7, S7, N7, H7, G7⟩ := id F4
  obtain ⟨T6, h6, X6, e6, W6, st6⟩ := stC X2 hx hZ e2 Ar7 (j := (0 : Int32)) (inb_of S7 ⟨by decide, by decide⟩) (g := (mkF m 330 Lnm11_0 [(.int 109), (.int 0), (.ref b2), (.ref b2)])) rfl rfl (hb hby d1_330)
  have go8 := gap go5 st6
  have N6 := Fr.snoc X6 N0 low2
  have K6 : Keep h0 h6 [] := K2.wr W6 (Or.inr fsh2)
  have Zs6 : n0 ≤ h6.size := Nat.le_trans Zs2 (Keep.of_wr W6).1
  have F9 : Arv Z h6 b2 k2 .char (12 : Int32) [(.int 109), (.int 0), (.int 0), (.int 0), (.int 0), (.int 0), (.int 0), (.int 0), (.int 0), (.int 0), (.int 0), (.int 0)] (.int 0) := Arv.set Ar7 q7 S7 N7 H7 G7 (fits_nar_char _) W6 0 rfl (Nat.le_of_ble_eq_true rfl)
  have go10 : Go p.tables e below T6 (mkF m 335 Lnm11_0 [(.int 111), (.int 1), (.ref b2), (.ref b2)]) En := by
    intro t k
    refine go8 _ ?_
    refine XS.dup X6.here hx rfl (hb hby d1_331) rfl rfl ?_
    refine XS.iconst X6.here hx rfl (hb hby d1_332) ?_
    refine XS.bipush X6.here hx rfl (hb hby d1_333) ?_
    show Steps _ _ _ (T6.setTop (mkF m 335 Lnm11_0 [(.int 111), (.int 1), (.ref b2), (.ref b2)])) _
    exact k
  obtain ⟨cl12, Ar12, q12, S12, N12, H12, G12⟩ := id F9
  obtain ⟨T11, h11, X11, e11, W11, st11⟩ := stC X6 hx hZ e6 Ar12 (j := (1 : Int32)) (inb_of S12 ⟨by decide, by decide⟩) (g := (mkF m 335 Lnm11_0 [(.int 111), (.int 1), (.ref b2), (.ref b2)])) rfl rfl (hb hby d1_335)
  have go13 := gap go10 st11
  have N11 := Fr.snoc X11 N6 low2
  have K11 : Keep h0 h11 [] := K6.wr W11 (Or.inr fsh2)
  have Zs11 : n0 ≤ h11.size := Nat.le_trans Zs6 (Keep.of_wr W11).1
  have F14 : Arv Z h11 b2 k2 .char (12 : Int32) [(.int 109), (.int 111), (.int 0), (.int 0), (.int 0), (.int 0), (.int 0), (.int 0), (.int 0), (.int 0), (.int 0), (.int 0)] (.int 0) := Arv.set Ar12 q12 S12 N12 H12 G12 (fits_nar_char _) W11 1 rfl (Nat.le_of_ble_eq_true rfl)
  have go15 : Go p.tables e below T11 (mkF m 340 Lnm11_0 [(.int 100), (.int 2), (.ref b2), (.ref b2)]) En := by
    intro t k
    refine go13 _ ?_
    refine XS.dup X11.here hx rfl (hb hby d1_336) rfl rfl ?_
    refine XS.iconst X11.here hx rfl (hb hby d1_337) ?_
    refine XS.bipush X11.here hx rfl (hb hby d1_338) ?_
    show Steps _ _ _ (T11.setTop (mkF m 340 Lnm11_0 [(.int 100), (.int 2), (.ref b2), (.ref b2)])) _
    exact k
  obtain ⟨cl17, Ar17, q17, S17, N17, H17, G17⟩ := id F14
  obtain ⟨T16, h16, X16, e16, W16, st16⟩ := stC X11 hx hZ e11 Ar17 (j := (2 : Int32)) (inb_of S17 ⟨by decide, by decide⟩) (g := (mkF m 340 Lnm11_0 [(.int 100), (.int 2), (.ref b2), (.ref b2)])) rfl rfl (hb hby d1_340)
  have go18 := gap go15 st16
  have N16 := Fr.snoc X16 N11 low2
  have K16 : Keep h0 h16 [] := K11.wr W16 (Or.inr fsh2)
  have Zs16 : n0 ≤ h16.size := Nat.le_trans Zs11 (Keep.of_wr W16).1
  have F19 : Arv Z h16 b2 k2 .char (12 : Int32) [(.int 109), (.int 111), (.int 100), (.int 0), (.int 0), (.int 0), (.int 0), (.int 0), (.int 0), (.int 0), (.int 0), (.int 0)] (.int 0) := Arv.set Ar17 q17 S17 N17 H17 G17 (fits_nar_char _) W16 2 rfl (Nat.le_of_ble_eq_true rfl)
  have go20 : Go p.tables e below T16 (mkF m 345 Lnm11_0 [(.int 117), (.int 3), (.ref b2), (.ref b2)]) En := by
    intro t k
    refine go18 _ ?_
    refine XS.dup X16.here hx rfl (hb hby d1_341) rfl rfl ?_
    refine XS.iconst X16.here hx rfl (hb hby d1_342) ?_
    refine XS.bipush X16.here hx rfl (hb hby d1_343) ?_
    show Steps _ _ _ (T16.setTop (mkF m 345 Lnm11_0 [(.int 117), (.int 3), (.ref b2), (.ref b2)])) _
    exact k
  obtain ⟨cl22, Ar22, q22, S22, N22, H22, G22⟩ := id F19
  obtain ⟨T21, h21, X21, e21, W21, st21⟩ := stC X16 hx hZ e16 Ar22 (j := (3 : Int32)) (inb_of S22 ⟨by decide, by decide⟩) (g := (mkF m 345 Lnm11_0 [(.int 117), (.int 3), (.ref b2), (.ref b2)])) rfl rfl (hb hby d1_345)
  have go23 := gap go20 st21
  have N21 := Fr.snoc X21 N16 low2
  have K21 : Keep h0 h21 [] := K16.wr W21 (Or.inr fsh2)
  have Zs21 : n0 ≤ h21.size := Nat.le_trans Zs16 (Keep.of_wr W21).1
  have F24 : Arv Z h21 b2 k2 .char (12 : Int32) [(.int 109), (.int 111), (.int 100), (.int 117), (.int 0), (.int 0), (.int 0), (.int 0), (.int 0), (.int 0), (.int 0), (.int 0)] (.int 0) := Arv.set Ar22 q22 S22 N22 H22 G22 (fits_nar_char _) W21 3 rfl (Nat.le_of_ble_eq_true rfl)
  have go25 : Go p.tables e below T21 (mkF m 350 Lnm11_0 [(.int 108), (.int 4), (.ref b2), (.ref b2)]) En := by
    intro t k
    refine go23 _ ?_
    refine XS.dup X21.here hx rfl (hb hby d1_346) rfl rfl ?_
    refine XS.iconst X21.here hx rfl (hb hby d1_347) ?_
    refine XS.bipush X21.here hx rfl (hb hby d1_348) ?_
    show Steps _ _ _ (T21.setTop (mkF m 350 Lnm11_0 [(.int 108), (.int 4), (.ref b2), (.ref b2)])) _
    exact k
  obtain ⟨cl27, Ar27, q27, S27, N27, H27, G27⟩ := id F24
  obtain ⟨T26, h26, X26, e26, W26, st26⟩ := stC X21 hx hZ e21 Ar27 (j := (4 : Int32)) (inb_of S27 ⟨by decide, by decide⟩) (g := (mkF m 350 Lnm11_0 [(.int 108), (.int 4), (.ref b2), (.ref b2)])) rfl rfl (hb hby d1_350)
  have go28 := gap go25 st26
  have N26 := Fr.snoc X26 N21 low2
  have K26 : Keep h0 h26 [] := K21.wr W26 (Or.inr fsh2)
  have Zs26 : n0 ≤ h26.size := Nat.le_trans Zs21 (Keep.of_wr W26).1
  have F29 : Arv Z h26 b2 k2 .char (12 : Int32) [(.int 109), (.int 111), (.int 100), (.int 117), (.int 108), (.int 0), (.int 0), (.int 0), (.int 0), (.int 0), (.int 0), (.int 0)] (.int 0) := Arv.set Ar27 q27 S27 N27 H27 G27 (fits_nar_char _) W26 4 rfl (Nat.le_of_ble_eq_true rfl)
  have go30 : Go p.tables e below T26 (mkF m 355 Lnm11_0 [(.int 101), (.int 5), (.ref b2), (.ref b2)]) En := by
    intro t k
    refine go28 _ ?_
    refine XS.dup X26.here hx rfl (hb hby d1_351) rfl rfl ?_
    refine XS.iconst X26.here hx rfl (hb hby d1_352) ?_
    refine XS.bipush X26.here hx rfl (hb hby d1_353) ?_
    show Steps _ _ _ (T26.setTop (mkF m 355 Lnm11_0 [(.int 101), (.int 5), (.ref b2), (.ref b2)])) _
    exact k
  obtain ⟨cl32, Ar32, q32, S32, N32, H32, G32⟩ := id F29
  obtain ⟨T31, h31, X31, e31, W31, st31⟩ := stC X26 hx hZ e26 Ar32 (j := (5 : Int32)) (inb_of S32 ⟨by decide, by decide⟩) (g := (mkF m 355 Lnm11_0 [(.int 101), (.int 5), (.ref b2), (.ref b2)])) rfl rfl (hb hby d1_355)
  have go33 := gap go30 st31
  have N31 := Fr.snoc X31 N26 low2
  have K31 : Keep h0 h31 [] := K26.wr W31 (Or.inr fsh2)
  have Zs31 : n0 ≤ h31.size := Nat.le_trans Zs26 (Keep.of_wr W31).1
  have F34 : Arv Z h31 b2 k2 .char (12 : Int32) [(.int 109), (.int 111), (.int 100), (.int 117), (.int 108), (.int 101), (.int 0), (.int 0), (.int 0), (.int 0), (.int 0), (.int 0)] (.int 0) := Arv.set Ar32 q32 S32 N32 H32 G32 (fits_nar_char _) W31 5 rfl (Nat.le_of_ble_eq_true rfl)
  have go35 : Go p.tables e below T31 (mkF m 361 Lnm11_0 [(.int 83), (.int 6), (.ref b2), (.ref b2)]) En := by
    intro t k
    refine go33 _ ?_
    refine XS.dup X31.here hx rfl (hb hby d1_356) rfl rfl ?_
    refine XS.bipush X31.here hx rfl (hb hby d1_357) ?_
    refine XS.bipush X31.here hx rfl (hb hby d1_359) ?_
    show Steps _ _ _ (T31.setTop (mkF m 361 Lnm11_0 [(.int 83), (.int 6), (.ref b2), (.ref b2)])) _
    exact k
  obtain ⟨cl37, Ar37, q37, S37, N37, H37, G37⟩ := id F34
  obtain ⟨T36, h36, X36, e36, W36, st36⟩ := stC X31 hx hZ e31 Ar37 (j := (6 : Int32)) (inb_of S37 ⟨by decide, by decide⟩) (g := (mkF m 361 Lnm11_0 [(.int 83), (.int 6), (.ref b2), (.ref b2)])) rfl rfl (hb hby d1_361)
  have go38 := gap go35 st36
  have N36 := Fr.snoc X36 N31 low2
  have K36 : Keep h0 h36 [] := K31.wr W36 (Or.inr fsh2)
  have Zs36 : n0 ≤ h36.size := Nat.le_trans Zs31 (Keep.of_wr W36).1
  have F39 : Arv Z h36 b2 k2 .char (12 : Int32) [(.int 109), (.int 111), (.int 100), (.int 117), (.int 108), (.int 101), (.int 83), (.int 0), (.int 0), (.int 0), (.int 0), (.int 0)] (.int 0) := Arv.set Ar37 q37 S37 N37 H37 G37 (fits_nar_char _) W36 6 rfl (Nat.le_of_ble_eq_true rfl)
  have go40 : Go p.tables e below T36 (mkF m 367 Lnm11_0 [(.int 99), (.int 7), (.ref b2), (.ref b2)]) En := by
    intro t k
    refine go38 _ ?_
    refine XS.dup X36.here hx rfl (hb hby d1_362) rfl rfl ?_
    refine XS.bipush X36.here hx rfl (hb hby d1_363) ?_
    refine XS.bipush X36.here hx rfl (hb hby d1_365) ?_
    show Steps _ _ _ (T36.setTop (mkF m 367 Lnm11_0 [(.int 99), (.int 7), (.ref b2), (.ref b2)])) _
    exact k
  obtain ⟨cl42, Ar42, q42, S42, N42, H42, G42⟩ := id F39
  obtain ⟨T41, h41, X41, e41, W41, st41⟩ := stC X36 hx hZ e36 Ar42 (j := (7 : Int32)) (inb_of S42 ⟨by decide, by decide⟩) (g := (mkF m 367 Lnm11_0 [(.int 99), (.int 7), (.ref b2), (.ref b2)])) rfl rfl (hb hby d1_367)
  have go43 := gap go40 st41
  have N41 := Fr.snoc X41 N36 low2
  have K41 : Keep h0 h41 [] := K36.wr W41 (Or.inr fsh2)
  have Zs41 : n0 ≤ h41.size := Nat.le_trans Zs36 (Keep.of_wr W41).1
  have F44 : Arv Z h41 b2 k2 .char (12 : Int32) [(.int 109), (.int 111), (.int 100), (.int 117), (.int 108), (.int 101), (.int 83), (.int 99), (.int 0), (.int 0), (.int 0), (.int 0)] (.int 0) := Arv.set Ar42 q42 S42 N42 H42 G42 (fits_nar_char _) W41 7 rfl (Nat.le_of_ble_eq_true rfl)
  have go45 : Go p.tables e below T41 (mkF m 373 Lnm11_0 [(.int 111), (.int 8), (.ref b2), (.ref b2)]) En := by
    intro t k
    refine go43 _ ?_
    refine XS.dup X41.here hx rfl (hb hby d1_368) rfl rfl ?_
    refine XS.bipush X41.here hx rfl (hb hby d1_369) ?_
    refine XS.bipush X41.here hx rfl (hb hby d1_371) ?_
    show Steps _ _ _ (T41.setTop (mkF m 373 Lnm11_0 [(.int 111), (.int 8), (.ref b2), (.ref b2)])) _
    exact k
  obtain ⟨cl47, Ar47, q47, S47, N47, H47, G47⟩ := id F44
  obtain ⟨T46, h46, X46, e46, W46, st46⟩ := stC X41 hx hZ e41 Ar47 (j := (8 : Int32)) (inb_of S47 ⟨by decide, by decide⟩) (g := (mkF m 373 Lnm11_0 [(.int 111), (.int 8), (.ref b2), (.ref b2)])) rfl rfl (hb hby d1_373)
  have go48 := gap go45 st46
  have N46 := Fr.snoc X46 N41 low2
  have K46 : Keep h0 h46 [] := K41.wr W46 (Or.inr fsh2)
  have Zs46 : n0 ≤ h46.size := Nat.le_trans Zs41 (Keep.of_wr W46).1
  have F49 : Arv Z h46 b2 k2 .char (12 : Int32) [(.int 109), (.int 111), (.int 100), (.int 117), (.int 108), (.int 101), (.int 83), (.int 99), (.int 111), (.int 0), (.int 0), (.int 0)] (.int 0) := Arv.set Ar47 q47 S47 N47 H47 G47 (fits_nar_char _) W46 8 rfl (Nat.le_of_ble_eq_true rfl)
  have go50 : Go p.tables e below T46 (mkF m 379 Lnm11_0 [(.int 112), (.int 9), (.ref b2), (.ref b2)]) En := by
    intro t k
    refine go48 _ ?_
    refine XS.dup X46.here hx rfl (hb hby d1_374) rfl rfl ?_
    refine XS.bipush X46.here hx rfl (hb hby d1_375) ?_
    refine XS.bipush X46.here hx rfl (hb hby d1_377) ?_
    show Steps _ _ _ (T46.setTop (mkF m 379 Lnm11_0 [(.int 112), (.int 9), (.ref b2), (.ref b2)])) _
    exact k
  obtain ⟨cl52, Ar52, q52, S52, N52, H52, G52⟩ := id F49
  obtain ⟨T51, h51, X51, e51, W51, st51⟩ := stC X46 hx hZ e46 Ar52 (j := (9 : Int32)) (inb_of S52 ⟨by decide, by decide⟩) (g := (mkF m 379 Lnm11_0 [(.int 112), (.int 9), (.ref b2), (.ref b2)])) rfl rfl (hb hby d1_379)
  have go53 := gap go50 st51
  have N51 := Fr.snoc X51 N46 low2
  have K51 : Keep h0 h51 [] := K46.wr W51 (Or.inr fsh2)
  have Zs51 : n0 ≤ h51.size := Nat.le_trans Zs46 (Keep.of_wr W51).1
  have F54 : Arv Z h51 b2 k2 .char (12 : Int32) [(.int 109), (.int 111), (.int 100), (.int 117), (.int 108), (.int 101), (.int 83), (.int 99), (.int 111), (.int 112), (.int 0), (.int 0)] (.int 0) := Arv.set Ar52 q52 S52 N52 H52 G52 (fits_nar_char _) W51 9 rfl (Nat.le_of_ble_eq_true rfl)
  have go55 : Go p.tables e below T51 (mkF m 385 Lnm11_0 [(.int 101), (.int 10), (.ref b2), (.ref b2)]) En := by
    intro t k
    refine go53 _ ?_
    refine XS.dup X51.here hx rfl (hb hby d1_380) rfl rfl ?_
    refine XS.bipush X51.here hx rfl (hb hby d1_381) ?_
    refine XS.bipush X51.here hx rfl (hb hby d1_383) ?_
    show Steps _ _ _ (T51.setTop (mkF m 385 Lnm11_0 [(.int 101), (.int 10), (.ref b2), (.ref b2)])) _
    exact k
  obtain ⟨cl57, Ar57, q57, S57, N57, H57, G57⟩ := id F54
  obtain ⟨T56, h56, X56, e56, W56, st56⟩ := stC X51 hx hZ e51 Ar57 (j := (10 : Int32)) (inb_of S57 ⟨by decide, by decide⟩) (g := (mkF m 385 Lnm11_0 [(.int 101), (.int 10), (.ref b2), (.ref b2)])) rfl rfl (hb hby d1_385)
  have go58 := gap go55 st56
  have N56 := Fr.snoc X56 N51 low2
  have K56 : Keep h0 h56 [] := K51.wr W56 (Or.inr fsh2)
  have Zs56 : n0 ≤ h56.size := Nat.le_trans Zs51 (Keep.of_wr W56).1
  have F59 : Arv Z h56 b2 k2 .char (12 : Int32) [(.int 109), (.int 111), (.int 100), (.int 117), (.int 108), (.int 101), (.int 83), (.int 99), (.int 111), (.int 112), (.int 101), (.int 0)] (.int 0) := Arv.set Ar57 q57 S57 N57 H57 G57 (fits_nar_char _) W56 10 rfl (Nat.le_of_ble_eq_true rfl)
  have go60 : Go p.tables e below T56 (mkF m 390 Lnm11_0 [(.int 0), (.int 11), (.ref b2), (.ref b2)]) En := by
    intro t k
    refine go58 _ ?_
    refine XS.dup X56.here hx rfl (hb hby d1_386) rfl rfl ?_
    refine XS.bipush X56.here hx rfl (hb hby d1_387) ?_
    refine XS.iconst X56.here hx rfl (hb hby d1_389) ?_
    show Steps _ _ _ (T56.setTop (mkF m 390 Lnm11_0 [(.int 0), (.int 11), (.ref b2), (.ref b2)])) _
    exact k
  obtain ⟨cl62, Ar62, q62, S62, N62, H62, G62⟩ := id F59
  obtain ⟨T61, h61, X61, e61, W61, st61⟩ := stC X56 hx hZ e56 Ar62 (j := (11 : Int32)) (inb_of S62 ⟨by decide, by decide⟩) (g := (mkF m 390 Lnm11_0 [(.int 0), (.int 11), (.ref b2), (.ref b2)])) rfl rfl (hb hby d1_390)
  have go63 := gap go60 st61
  have N61 := Fr.snoc X61 N56 low2
  have K61 : Keep h0 h61 [] := K56.wr W61 (Or.inr fsh2)
  have Zs61 : n0 ≤ h61.size := Nat.le_trans Zs56 (Keep.of_wr W61).1
  have F64 : Arv Z h61 b2 k2 .char (12 : Int32) [(.int 109), (.int 111), (.int 100), (.int 117), (.int 108), (.int 101), (.int 83), (.int 99), (.int 111), (.int 112), (.int 101), (.int 0)] (.int 0) := Arv.set Ar62 q62 S62 N62 H62 G62 (fits_nar_char _) W61 11 rfl (Nat.le_of_ble_eq_true rfl)
  refine own_out (w := (.ref b2)) X61 hx hlk go63 hrt rfl (Or.inr (Or.inr (Or.inr (Or.inr ⟨rfl, rfl, rfl⟩)))) (hb hby d1_391) e61 (by decide) (by decide) ?_
  exact ⟨b2, k2, rfl, N61, K61, fsh2, F64⟩
theorem d1_392 : decode method_2_code 392 = .ok (.bipush 10, 2) := by decide +kernel
theorem d1_394 : decode method_2_code 394 = .ok (.newarray .char, 2) := by decide +kernel
theorem d1_396 : decode method_2_code 396 = .ok (.dup, 1) := by decide +kernel
theorem d1_397 : decode method_2_code 397 = .ok (.iconst 0, 1) := by decide +kernel
theorem d1_398 : decode method_2_code 398 = .ok (.bipush 109, 2) := by decide +kernel
theorem d1_400 : decode method_2_code 400 = .ok (.castore, 1) := by decide +kernel
theorem d1_401 : decode method_2_code 401 = .ok (.dup, 1) := by decide +kernel
theorem d1_402 : decode method_2_code 402 = .ok (.iconst 1, 1) := by decide +kernel
theorem d1_403 : decode method_2_code 403 = .ok (.bipush 111, 2) := by decide +kernel
theorem d1_405 : decode method_2_code 405 = .ok (.castore, 1) := by decide +kernel
theorem d1_406 : decode method_2_code 406 = .ok (.dup, 1) := by decide +kernel
theorem d1_407 : decode method_2_code 407 = .ok (.iconst 2, 1) := by decide +kernel
theorem d1_408 : decode method_2_code 408 = .ok (.bipush 100, 2) := by decide +kernel
theorem d1_410 : decode method_2_code 410 = .ok (.castore, 1) := by decide +kernel
theorem d1_411 : decode method_2_code 411 = .ok (.dup, 1) := by decide +kernel
theorem d1_412 : decode method_2_code 412 = .ok (.iconst 3, 1) := by decide +kernel
theorem d1_413 : decode method_2_code 413 = .ok (.bipush 117, 2) := by decide +kernel
theorem d1_415 : decode method_2_code 415 = .ok (.castore, 1) := by decide +kernel
theorem d1_416 : decode method_2_code 416 = .ok (.dup, 1) := by decide +kernel
theorem d1_417 : decode method_2_code 417 = .ok (.iconst 4, 1) := by decide +kernel
theorem d1_418 : decode method_2_code 418 = .ok (.bipush 108, 2) := by decide +kernel
theorem d1_420 : decode method_2_code 420 = .ok (.castore, 1) := by decide +kernel
theorem d1_421 : decode method_2_code 421 = .ok (.dup, 1) := by decide +kernel
theorem d1_422 : decode method_2_code 422 = .ok (.iconst 5, 1) := by decide +kernel
theorem d1_423 : decode method_2_code 423 = .ok (.bipush 101, 2) := by decide +kernel
theorem d1_425 : decode method_2_code 425 = .ok (.castore, 1) := by decide +kernel
theorem d1_426 : decode method_2_code 426 = .ok (.dup, 1) := by decide +kernel
theorem d1_427 : decode method_2_code 427 = .ok (.bipush 6, 2) := by decide +kernel
theorem d1_429 : decode method_2_code 429 = .ok (.bipush 83, 2) := by decide +kernel
theorem d1_431 : decode method_2_code 431 = .ok (.castore, 1) := by decide +kernel
theorem d1_432 : decode method_2_code 432 = .ok (.dup, 1) := by decide +kernel
theorem d1_433 : decode method_2_code 433 = .ok (.bipush 7, 2) := by decide +kernel
theorem d1_435 : decode method_2_code 435 = .ok (.bipush 99, 2) := by decide +kernel
theorem d1_437 : decode method_2_code 437 = .ok (.castore, 1) := by decide +kernel
theorem d1_438 : decode method_2_code 438 = .ok (.dup, 1) := by decide +kernel
theorem d1_439 : decode method_2_code 439 = .ok (.bipush 8, 2) := by decide +kernel
theorem d1_441 : decode method_2_code 441 = .ok (.bipush 111, 2) := by decide +kernel
theorem d1_443 : decode method_2_code 443 = .ok (.castore, 1) := by decide +kernel
theorem d1_444 : decode method_2_code 444 = .ok (.dup, 1) := by decide +kernel
theorem d1_445 : decode method_2_code 445 = .ok (.bipush 9, 2) := by decide +kernel
theorem d1_447 : decode method_2_code 447 = .ok (.bipush 112, 2) := by decide +kernel
theorem d1_449 : decode method_2_code 449 = .ok (.castore, 1) := by decide +kernel
theorem d1_450 : decode method_2_code 450 = .ok (.areturn, 1) := by decide +kernel
def Qnm12 (Z : State) (n0 : Nat) (h0 : Heap) (v : Option Value) (h : Heap) (L : List Loc) : Prop := ∃ (b : Addr) (kb : ClassId), v = some (.ref b) ∧ Fr n0 L ∧ Keep h0 h [] ∧ h0.size ≤ b ∧ Arv Z h b kb .char (10 : Int32) [(.int (109 : Int32)), (.int (111 : Int32)), (.int (100 : Int32)), (.int (117 : Int32)), (.int (108 : Int32)), (.int (101 : Int32)), (.int (83 : Int32)), (.int (99 : Int32)), (.int (111 : Int32)), (.int (112 : Int32))] (.int (0 : Int32))
theorem efnm12 (m : MethodId) : entryFrame m #[(.int (1 : Int32)), (.int (2 : Int32))] 2 = mkF m 0 #[iv (1 : Int32), iv (2 : Int32)] [] := by first | (simp [entryFrame, mkF, argsToLocals, Value.category]; done) | rfl
abbrev Lnm12_0 : Array Slot := #[iv 1, iv 2]
set_option maxRecDepth 65536 in
set_option maxHeartbeats 40000000 in
theorem rmnm12 (l : Launch) (Z : State) (aZ : Array Value) (hw : ∀ d ∈ tables_1, d.before aZ Z = true) (ws : List Jvm.Cond) (h0 : Heap) (n0 : Nat) (Z0 : n0 ≤ h0.size) :
    MFn l (⟨"com/example/calycule/calycule/config/ModuleContextIsImplicitPinLaw", "name", "(II)[C"⟩ : MethodName) method_2_code 2 (some (.array .char)) ws (Rm 0 1 10 0) #[(.int 1), (.int 2)] Z h0 (Qnm12 Z n0 h0) := by
  refine own_mf (C := "com/example/calycule/calycule/config/ModuleContextIsImplicitPinLaw") rfl (plainFor_of_name pn_84) (fun m => efnm12 m) ?_
  intro p e s m below meth cd0 s₁ En hx hby hml hown hnm hZ X0 e0 hlk hrt go0
  have N0 := Fr.nil n0
  have K0 : Keep h0 h0 [] := Keep.refl _ _
  have go1 : Go p.tables e below s₁ (mkF m 394 Lnm12_0 [(.int 10)]) En := by
    intro t k
    refine go0 _ ?_
    refine XS.iloadN X0.here hx rfl (hb hby d1_0) rfl ?_
    refine XS.ifYes X0.here hx rfl (pc0 := 1) (pc' := 243) rfl (hb hby d1_1) rfl (XT.i0_ne_t (by decide : ¬ ((1 : Int32) = (0 : Int32)))) (by decide) (by decide) ?_
    refine XS.iloadN X0.here hx rfl (hb hby d1_243) rfl ?_
    show Steps _ _ _ (s₁.setTop (mkF m 244 Lnm12_0 [(.int 1)])) _
    refine XS.iconst X0.here hx rfl (hb hby d1_244) ?_
    refine XS.icmpNo X0.here hx rfl (hb hby d1_245) rfl (XT.ii_ne_f (by decide : ((1 : Int32) = (1 : Int32)))) ?_
    refine XS.iloadN X0.here hx rfl (hb hby d1_248) rfl ?_
    show Steps _ _ _ (s₁.setTop (mkF m 249 Lnm12_0 [(.int 2)])) _
    refine XS.ifYes X0.here hx rfl (pc0 := 249) (pc' := 317) rfl (hb hby d1_249) rfl (XT.i0_ne_t (by decide : ¬ ((2 : Int32) = (0 : Int32)))) (by decide) (by decide) ?_
    refine XS.iloadN X0.here hx rfl (hb hby d1_317) rfl ?_
    refine XS.iconst X0.here hx rfl (hb hby d1_318) ?_
    show Steps _ _ _ (s₁.setTop (mkF m 319 Lnm12_0 [(.int 1), (.int 2)])) _
    refine XS.icmpYes X0.here hx rfl (pc0 := 319) (pc' := 392) rfl (hb hby d1_319) rfl (XT.ii_ne_t (by decide : ¬ ((2 : Int32) = (1 : Int32)))) (by decide) (by decide) ?_
    refine XS.bipush X0.here hx rfl (hb hby d1_392) ?_
    exact k
  obtain ⟨T2, h2, k2, X2, e2, E2, A2, st2⟩ := newP X0 hx hZ (hw _ (mi 5 rfl)) e0 (g := (mkF m 394 Lnm12_0 [(.int 10)])) rfl (hb hby d1_394) rfl (by decide) (cap := 10) (by decide) (by decide) (by decide) (by decide)
  obtain ⟨b2, g2⟩ : ∃ z, z = h0.size := ⟨_, rfl⟩
  rw [← g2] at A2 st2
  have low2 : n0 ≤ b2 := Nat.le_trans Z0 (Nat.le_of_eq g2.symm)
  have fsh2 : h0.size ≤ b2 := Nat.le_trans K0.1 (Nat.le_of_eq g2.symm)
  have K2 : Keep h0 h2 [] := K0.ext E2
  have Zs2 : n0 ≤ h2.size := Nat.le_trans Z0 E2.1
  have go3 := gap go1 st2
  have F4 : Arv Z h2 b2 k2 .char (10 : Int32) [(.int 0), (.int 0), (.int 0), (.int 0), (.int 0), (.int 0), (.int 0), (.int 0), (.int 0), (.int 0)] (.int 0) := (Arv.new A2 (by decide)).pad (pad_rep [] (.int 0) 10)
  have go5 : Go p.tables e below T2 (mkF m 400 Lnm12_0 [(.int 109), (.int 0), (.ref b2), (.ref b2)]) En := by
    intro t k
    refine go3 _ ?_
    refine XS.dup X2.here hx rfl (hb hby d1_396) rfl rfl ?_
    refine XS.iconst X2.here hx rfl (hb hby d1_397) ?_
    refine XS.bipush X2.here hx rfl (hb hby d1_398) ?_
    show Steps _ _ _ (T2.setTop (mkF m 400 Lnm12_0 [(.int 109), (.int 0), (.ref b2), (.ref b2)])) _
    exact k
  obtain ⟨cl7, Ar7, q7, S7, N7, H7, G7⟩ := id F4
  obtain ⟨T6, h6, X6, e6, W6, st6⟩ := stC X2 hx hZ e2 Ar7 (j := (0 : Int32)) (inb_of S7 ⟨by decide, by decide⟩) (g := (mkF m 400 Lnm12_0 [(.int 109), (.int 0), (.ref b2), (.ref b2)])) rfl rfl (hb hby d1_400)
  have go8 := gap go5 st6
  have N6 := Fr.snoc X6 N0 low2
  have K6 : Keep h0 h6 [] := K2.wr W6 (Or.inr fsh2)
  have Zs6 : n0 ≤ h6.size := Nat.le_trans Zs2 (Keep.of_wr W6).1
  have F9 : Arv Z h6 b2 k2 .char (10 : Int32) [(.int 109), (.int 0), (.int 0), (.int 0), (.int 0), (.int 0), (.int 0), (.int 0), (.int 0), (.int 0)] (.int 0) := Arv.set Ar7 q7 S7 N7 H7 G7 (fits_nar_char _) W6 0 rfl (Nat.le_of_ble_eq_true rfl)
  have go10 : Go p.tables e below T6 (mkF m 405 Lnm12_0 [(.int 111), (.int 1), (.ref b2), (.ref b2)]) En := by
    intro t k
    refine go8 _ ?_
    refine XS.dup X6.here hx rfl (hb hby d1_401) rfl rfl ?_
    refine XS.iconst X6.here hx rfl (hb hby d1_402) ?_
    refine XS.bipush X6.here hx rfl (hb hby d1_403) ?_
    show Steps _ _ _ (T6.setTop (mkF m 405 Lnm12_0 [(.int 111), (.int 1), (.ref b2), (.ref b2)])) _
    exact k
  obtain ⟨cl12, Ar12, q12, S12, N12, H12, G12⟩ := id F9
  obtain ⟨T11, h11, X11, e11, W11, st11⟩ := stC X6 hx hZ e6 Ar12 (j := (1 : Int32)) (inb_of S12 ⟨by decide, by decide⟩) (g := (mkF m 405 Lnm12_0 [(.int 111), (.int 1), (.ref b2), (.ref b2)])) rfl rfl (hb hby d1_405)
  have go13 := gap go10 st11
  have N11 := Fr.snoc X11 N6 low2
  have K11 : Keep h0 h11 [] := K6.wr W11 (Or.inr fsh2)
  have Zs11 : n0 ≤ h11.size := Nat.le_trans Zs6 (Keep.of_wr W11).1
  have F14 : Arv Z h11 b2 k2 .char (10 : Int32) [(.int 109), (.int 111), (.int 0), (.int 0), (.int 0), (.int 0), (.int 0), (.int 0), (.int 0), (.int 0)] (.int 0) := Arv.set Ar12 q12 S12 N12 H12 G12 (fits_nar_char _) W11 1 rfl (Nat.le_of_ble_eq_true rfl)
  have go15 : Go p.tables e below T11 (mkF m 410 Lnm12_0 [(.int 100), (.int 2), (.ref b2), (.ref b2)]) En := by
    intro t k
    refine go13 _ ?_
    refine XS.dup X11.here hx rfl (hb hby d1_406) rfl rfl ?_
    refine XS.iconst X11.here hx rfl (hb hby d1_407) ?_
    refine XS.bipush X11.here hx rfl (hb hby d1_408) ?_
    show Steps _ _ _ (T11.setTop (mkF m 410 Lnm12_0 [(.int 100), (.int 2), (.ref b2), (.ref b2)])) _
    exact k
  obtain ⟨cl17, Ar17, q17, S17, N17, H17, G17⟩ := id F14
  obtain ⟨T16, h16, X16, e16, W16, st16⟩ := stC X11 hx hZ e11 Ar17 (j := (2 : Int32)) (inb_of S17 ⟨by decide, by decide⟩) (g := (mkF m 410 Lnm12_0 [(.int 100), (.int 2), (.ref b2), (.ref b2)])) rfl rfl (hb hby d1_410)
  have go18 := gap go15 st16
  have N16 := Fr.snoc X16 N11 low2
  have K16 : Keep h0 h16 [] := K11.wr W16 (Or.inr fsh2)
  have Zs16 : n0 ≤ h16.size := Nat.le_trans Zs11 (Keep.of_wr W16).1
  have F19 : Arv Z h16 b2 k2 .char (10 : Int32) [(.int 109), (.int 111), (.int 100), (.int 0), (.int 0), (.int 0), (.int 0), (.int 0), (.int 0), (.int 0)] (.int 0) := Arv.set Ar17 q17 S17 N17 H17 G17 (fits_nar_char _) W16 2 rfl (Nat.le_of_ble_eq_true rfl)
  have go20 : Go p.tables e below T16 (mkF m 415 Lnm12_0 [(.int 117), (.int 3), (.ref b2), (.ref b2)]) En := by
    intro t k
    refine go18 _ ?_
    refine XS.dup X16.here hx rfl (hb hby d1_411) rfl rfl ?_
    refine XS.iconst X16.here hx rfl (hb hby d1_412) ?_
    refine XS.bipush X16.here hx rfl (hb hby d1_413) ?_
    show Steps _ _ _ (T16.setTop (mkF m 415 Lnm12_0 [(.int 117), (.int 3), (.ref b2), (.ref b2)])) _
    exact k
  obtain ⟨cl22, Ar22, q22, S22, N22, H22, G22⟩ := id F19
  obtain ⟨T21, h21, X21, e21, W21, st21⟩ := stC X16 hx hZ e16 Ar22 (j := (3 : Int32)) (inb_of S22 ⟨by decide, by decide⟩) (g := (mkF m 415 Lnm12_0 [(.int 117), (.int 3), (.ref b2), (.ref b2)])) rfl rfl (hb hby d1_415)
  have go23 := gap go20 st21
  have N21 := Fr.snoc X21 N16 low2
  have K21 : Keep h0 h21 [] := K16.wr W21 (Or.inr fsh2)
  have Zs21 : n0 ≤ h21.size := Nat.le_trans Zs16 (Keep.of_wr W21).1
  have F24 : Arv Z h21 b2 k2 .char (10 : Int32) [(.int 109), (.int 111), (.int 100), (.int 117), (.int 0), (.int 0), (.int 0), (.int 0), (.int 0), (.int 0)] (.int 0) := Arv.set Ar22 q22 S22 N22 H22 G22 (fits_nar_char _) W21 3 rfl (Nat.le_of_ble_eq_true rfl)
  have go25 : Go p.tables e below T21 (mkF m 420 Lnm12_0 [(.int 108), (.int 4), (.ref b2), (.ref b2)]) En := by
    intro t k
    refine go23 _ ?_
    refine XS.dup X21.here hx rfl (hb hby d1_416) rfl rfl ?_
    refine XS.iconst X21.here hx rfl (hb hby d1_417) ?_
    refine XS.bipush X21.here hx rfl (hb hby d1_418) ?_
    show Steps _ _ _ (T21.setTop (mkF m 420 Lnm12_0 [(.int 108), (.int 4), (.ref b2), (.ref b2)])) _
    exact k
  obtain ⟨cl27, Ar27, q27, S27, N27, H27, G27⟩ := id F24
  obtain ⟨T26, h26, X26, e26, W26, st26⟩ := stC X21 hx hZ e21 Ar27 (j := (4 : Int32)) (inb_of S27 ⟨by decide, by decide⟩) (g := (mkF m 420 Lnm12_0 [(.int 108), (.int 4), (.ref b2), (.ref b2)])) rfl rfl (hb hby d1_420)
  have go28 := gap go25 st26
  have N26 := Fr.snoc X26 N21 low2
  have K26 : Keep h0 h26 [] := K21.wr W26 (Or.inr fsh2)
  have Zs26 : n0 ≤ h26.size := Nat.le_trans Zs21 (Keep.of_wr W26).1
  have F29 : Arv Z h26 b2 k2 .char (10 : Int32) [(.int 109), (.int 111), (.int 100), (.int 117), (.int 108), (.int 0), (.int 0), (.int 0), (.int 0), (.int 0)] (.int 0) := Arv.set Ar27 q27 S27 N27 H27 G27 (fits_nar_char _) W26 4 rfl (Nat.le_of_ble_eq_true rfl)
  have go30 : Go p.tables e below T26 (mkF m 425 Lnm12_0 [(.int 101), (.int 5), (.ref b2), (.ref b2)]) En := by
    intro t k
    refine go28 _ ?_
    refine XS.dup X26.here hx rfl (hb hby d1_421) rfl rfl ?_
    refine XS.iconst X26.here hx rfl (hb hby d1_422) ?_
    refine XS.bipush X26.here hx rfl (hb hby d1_423) ?_
    show Steps _ _ _ (T26.setTop (mkF m 425 Lnm12_0 [(.int 101), (.int 5), (.ref b2), (.ref b2)])) _
    exact k
  obtain ⟨cl32, Ar32, q32, S32, N32, H32, G32⟩ := id F29
  obtain ⟨T31, h31, X31, e31, W31, st31⟩ := stC X26 hx hZ e26 Ar32 (j := (5 : Int32)) (inb_of S32 ⟨by decide, by decide⟩) (g := (mkF m 425 Lnm12_0 [(.int 101), (.int 5), (.ref b2), (.ref b2)])) rfl rfl (hb hby d1_425)
  have go33 := gap go30 st31
  have N31 := Fr.snoc X31 N26 low2
  have K31 : Keep h0 h31 [] := K26.wr W31 (Or.inr fsh2)
  have Zs31 : n0 ≤ h31.size := Nat.le_trans Zs26 (Keep.of_wr W31).1
  have F34 : Arv Z h31 b2 k2 .char (10 : Int32) [(.int 109), (.int 111), (.int 100), (.int 117), (.int 108), (.int 101), (.int 0), (.int 0), (.int 0), (.int 0)] (.int 0) := Arv.set Ar32 q32 S32 N32 H32 G32 (fits_nar_char _) W31 5 rfl (Nat.le_of_ble_eq_true rfl)
  have go35 : Go p.tables e below T31 (mkF m 431 Lnm12_0 [(.int 83), (.int 6), (.ref b2), (.ref b2)]) En := by
    intro t k
    refine go33 _ ?_
    refine XS.dup X31.here hx rfl (hb hby d1_426) rfl rfl ?_
    refine XS.bipush X31.here hx rfl (hb hby d1_427) ?_
    refine XS.bipush X31.here hx rfl (hb hby d1_429) ?_
    show Steps _ _ _ (T31.setTop (mkF m 431 Lnm12_0 [(.int 83), (.int 6), (.ref b2), (.ref b2)])) _
    exact k
  obtain ⟨cl37, Ar37, q37, S37, N37, H37, G37⟩ := id F34
  obtain ⟨T36, h36, X36, e36, W36, st36⟩ := stC X31 hx hZ e31 Ar37 (j := (6 : Int32)) (inb_of S37 ⟨by decide, by decide⟩) (g := (mkF m 431 Lnm12_0 [(.int 83), (.int 6), (.ref b2), (.ref b2)])) rfl rfl (hb hby d1_431)
  have go38 := gap go35 st36
  have N36 := Fr.snoc X36 N31 low2
  have K36 : Keep h0 h36 [] := K31.wr W36 (Or.inr fsh2)
  have Zs36 : n0 ≤ h36.size := Nat.le_trans Zs31 (Keep.of_wr W36).1
  have F39 : Arv Z h36 b2 k2 .char (10 : Int32) [(.int 109), (.int 111), (.int 100), (.int 117), (.int 108), (.int 101), (.int 83), (.int 0), (.int 0), (.int 0)] (.int 0) := Arv.set Ar37 q37 S37 N37 H37 G37 (fits_nar_char _) W36 6 rfl (Nat.le_of_ble_eq_true rfl)
  have go40 : Go p.tables e below T36 (mkF m 437 Lnm12_0 [(.int 99), (.int 7), (.ref b2), (.ref b2)]) En := by
    intro t k
    refine go38 _ ?_
    refine XS.dup X36.here hx rfl (hb hby d1_432) rfl rfl ?_
    refine XS.bipush X36.here hx rfl (hb hby d1_433) ?_
    refine XS.bipush X36.here hx rfl (hb hby d1_435) ?_
    show Steps _ _ _ (T36.setTop (mkF m 437 Lnm12_0 [(.int 99), (.int 7), (.ref b2), (.ref b2)])) _
    exact k
  obtain ⟨cl42, Ar42, q42, S42, N42, H42, G42⟩ := id F39
  obtain ⟨T41, h41, X41, e41, W41, st41⟩ := stC X36 hx hZ e36 Ar42 (j := (7 : Int32)) (inb_of S42 ⟨by decide, by decide⟩) (g := (mkF m 437 Lnm12_0 [(.int 99), (.int 7), (.ref b2), (.ref b2)])) rfl rfl (hb hby d1_437)
  have go43 := gap go40 st41
  have N41 := Fr.snoc X41 N36 low2
  have K41 : Keep h0 h41 [] := K36.wr W41 (Or.inr fsh2)
  have Zs41 : n0 ≤ h41.size := Nat.le_trans Zs36 (Keep.of_wr W41).1
  have F44 : Arv Z h41 b2 k2 .char (10 : Int32) [(.int 109), (.int 111), (.int 100), (.int 117), (.int 108), (.int 101), (.int 83), (.int 99), (.int 0), (.int 0)] (.int 0) := Arv.set Ar42 q42 S42 N42 H42 G42 (fits_nar_char _) W41 7 rfl (Nat.le_of_ble_eq_true rfl)
  have go45 : Go p.tables e below T41 (mkF m 443 Lnm12_0 [(.int 111), (.int 8), (.ref b2), (.ref b2)]) En := by
    intro t k
    refine go43 _ ?_
    refine XS.dup X41.here hx rfl (hb hby d1_438) rfl rfl ?_
    refine XS.bipush X41.here hx rfl (hb hby d1_439) ?_
    refine XS.bipush X41.here hx rfl (hb hby d1_441) ?_
    show Steps _ _ _ (T41.setTop (mkF m 443 Lnm12_0 [(.int 111), (.int 8), (.ref b2), (.ref b2)])) _
    exact k
  obtain ⟨cl47, Ar47, q47, S47, N47, H47, G47⟩ := id F44
  obtain ⟨T46, h46, X46, e46, W46, st46⟩ := stC X41 hx hZ e41 Ar47 (j := (8 : Int32)) (inb_of S47 ⟨by decide, by decide⟩) (g := (mkF m 443 Lnm12_0 [(.int 111), (.int 8), (.ref b2), (.ref b2)])) rfl rfl (hb hby d1_443)
  have go48 := gap go45 st46
  have N46 := Fr.snoc X46 N41 low2
  have K46 : Keep h0 h46 [] := K41.wr W46 (Or.inr fsh2)
  have Zs46 : n0 ≤ h46.size := Nat.le_trans Zs41 (Keep.of_wr W46).1
  have F49 : Arv Z h46 b2 k2 .char (10 : Int32) [(.int 109), (.int 111), (.int 100), (.int 117), (.int 108), (.int 101), (.int 83), (.int 99), (.int 111), (.int 0)] (.int 0) := Arv.set Ar47 q47 S47 N47 H47 G47 (fits_nar_char _) W46 8 rfl (Nat.le_of_ble_eq_true rfl)
  have go50 : Go p.tables e below T46 (mkF m 449 Lnm12_0 [(.int 112), (.int 9), (.ref b2), (.ref b2)]) En := by
    intro t k
    refine go48 _ ?_
    refine XS.dup X46.here hx rfl (hb hby d1_444) rfl rfl ?_
    refine XS.bipush X46.here hx rfl (hb hby d1_445) ?_
    refine XS.bipush X46.here hx rfl (hb hby d1_447) ?_
    show Steps _ _ _ (T46.setTop (mkF m 449 Lnm12_0 [(.int 112), (.int 9), (.ref b2), (.ref b2)])) _
    exact k
  obtain ⟨cl52, Ar52, q52, S52, N52, H52, G52⟩ := id F49
  obtain ⟨T51, h51, X51, e51, W51, st51⟩ := stC X46 hx hZ e46 Ar52 (j := (9 : Int32)) (inb_of S52 ⟨by decide, by decide⟩) (g := (mkF m 449 Lnm12_0 [(.int 112), (.int 9), (.ref b2), (.ref b2)])) rfl rfl (hb hby d1_449)
  have go53 := gap go50 st51
  have N51 := Fr.snoc X51 N46 low2
  have K51 : Keep h0 h51 [] := K46.wr W51 (Or.inr fsh2)
  have Zs51 : n0 ≤ h51.size := Nat.le_trans Zs46 (Keep.of_wr W51).1
  have F54 : Arv Z h51 b2 k2 .char (10 : Int32) [(.int 109), (.int 111), (.int 100), (.int 117), (.int 108), (.int 101), (.int 83), (.int 99), (.int 111), (.int 112)] (.int 0) := Arv.set Ar52 q52 S52 N52 H52 G52 (fits_nar_char _) W51 9 rfl (Nat.le_of_ble_eq_true rfl)
  refine own_out (w := (.ref b2)) X51 hx hlk go53 hrt rfl (Or.inr (Or.inr (Or.inr (Or.inr ⟨rfl, rfl, rfl⟩)))) (hb hby d1_450) e51 (by decide) (by decide) ?_
  exact ⟨b2, k2, rfl, N51, K51, fsh2, F54⟩
theorem d1_451 : decode method_2_code 451 = .ok (.iload_n 1, 1) := by decide +kernel
theorem d1_452 : decode method_2_code 452 = .ok (.ifCond .ne 98, 3) := by decide +kernel
theorem d1_455 : decode method_2_code 455 = .ok (.bipush 16, 2) := by decide +kernel
theorem d1_457 : decode method_2_code 457 = .ok (.newarray .char, 2) := by decide +kernel
theorem d1_459 : decode method_2_code 459 = .ok (.dup, 1) := by decide +kernel
theorem d1_460 : decode method_2_code 460 = .ok (.iconst 0, 1) := by decide +kernel
theorem d1_461 : decode method_2_code 461 = .ok (.bipush 97, 2) := by decide +kernel
theorem d1_463 : decode method_2_code 463 = .ok (.castore, 1) := by decide +kernel
theorem d1_464 : decode method_2_code 464 = .ok (.dup, 1) := by decide +kernel
theorem d1_465 : decode method_2_code 465 = .ok (.iconst 1, 1) := by decide +kernel
theorem d1_466 : decode method_2_code 466 = .ok (.bipush 112, 2) := by decide +kernel
theorem d1_468 : decode method_2_code 468 = .ok (.castore, 1) := by decide +kernel
theorem d1_469 : decode method_2_code 469 = .ok (.dup, 1) := by decide +kernel
theorem d1_470 : decode method_2_code 470 = .ok (.iconst 2, 1) := by decide +kernel
theorem d1_471 : decode method_2_code 471 = .ok (.bipush 112, 2) := by decide +kernel
theorem d1_473 : decode method_2_code 473 = .ok (.castore, 1) := by decide +kernel
theorem d1_474 : decode method_2_code 474 = .ok (.dup, 1) := by decide +kernel
theorem d1_475 : decode method_2_code 475 = .ok (.iconst 3, 1) := by decide +kernel
theorem d1_476 : decode method_2_code 476 = .ok (.bipush 108, 2) := by decide +kernel
theorem d1_478 : decode method_2_code 478 = .ok (.castore, 1) := by decide +kernel
theorem d1_479 : decode method_2_code 479 = .ok (.dup, 1) := by decide +kernel
theorem d1_480 : decode method_2_code 480 = .ok (.iconst 4, 1) := by decide +kernel
theorem d1_481 : decode method_2_code 481 = .ok (.bipush 105, 2) := by decide +kernel
theorem d1_483 : decode method_2_code 483 = .ok (.castore, 1) := by decide +kernel
theorem d1_484 : decode method_2_code 484 = .ok (.dup, 1) := by decide +kernel
theorem d1_485 : decode method_2_code 485 = .ok (.iconst 5, 1) := by decide +kernel
theorem d1_486 : decode method_2_code 486 = .ok (.bipush 99, 2) := by decide +kernel
theorem d1_488 : decode method_2_code 488 = .ok (.castore, 1) := by decide +kernel
theorem d1_489 : decode method_2_code 489 = .ok (.dup, 1) := by decide +kernel
theorem d1_490 : decode method_2_code 490 = .ok (.bipush 6, 2) := by decide +kernel
theorem d1_492 : decode method_2_code 492 = .ok (.bipush 97, 2) := by decide +kernel
theorem d1_494 : decode method_2_code 494 = .ok (.castore, 1) := by decide +kernel
theorem d1_495 : decode method_2_code 495 = .ok (.dup, 1) := by decide +kernel
theorem d1_496 : decode method_2_code 496 = .ok (.bipush 7, 2) := by decide +kernel
theorem d1_498 : decode method_2_code 498 = .ok (.bipush 116, 2) := by decide +kernel
theorem d1_500 : decode method_2_code 500 = .ok (.castore, 1) := by decide +kernel
theorem d1_501 : decode method_2_code 501 = .ok (.dup, 1) := by decide +kernel
theorem d1_502 : decode method_2_code 502 = .ok (.bipush 8, 2) := by decide +kernel
theorem d1_504 : decode method_2_code 504 = .ok (.bipush 105, 2) := by decide +kernel
theorem d1_506 : decode method_2_code 506 = .ok (.castore, 1) := by decide +kernel
theorem d1_507 : decode method_2_code 507 = .ok (.dup, 1) := by decide +kernel
theorem d1_508 : decode method_2_code 508 = .ok (.bipush 9, 2) := by decide +kernel
theorem d1_510 : decode method_2_code 510 = .ok (.bipush 111, 2) := by decide +kernel
theorem d1_512 : decode method_2_code 512 = .ok (.castore, 1) := by decide +kernel
theorem d1_513 : decode method_2_code 513 = .ok (.dup, 1) := by decide +kernel
theorem d1_514 : decode method_2_code 514 = .ok (.bipush 10, 2) := by decide +kernel
theorem d1_516 : decode method_2_code 516 = .ok (.bipush 110, 2) := by decide +kernel
theorem d1_518 : decode method_2_code 518 = .ok (.castore, 1) := by decide +kernel
theorem d1_519 : decode method_2_code 519 = .ok (.dup, 1) := by decide +kernel
theorem d1_520 : decode method_2_code 520 = .ok (.bipush 11, 2) := by decide +kernel
theorem d1_522 : decode method_2_code 522 = .ok (.bipush 83, 2) := by decide +kernel
theorem d1_524 : decode method_2_code 524 = .ok (.castore, 1) := by decide +kernel
theorem d1_525 : decode method_2_code 525 = .ok (.dup, 1) := by decide +kernel
theorem d1_526 : decode method_2_code 526 = .ok (.bipush 12, 2) := by decide +kernel
theorem d1_528 : decode method_2_code 528 = .ok (.bipush 99, 2) := by decide +kernel
theorem d1_530 : decode method_2_code 530 = .ok (.castore, 1) := by decide +kernel
theorem d1_531 : decode method_2_code 531 = .ok (.dup, 1) := by decide +kernel
theorem d1_532 : decode method_2_code 532 = .ok (.bipush 13, 2) := by decide +kernel
theorem d1_534 : decode method_2_code 534 = .ok (.bipush 111, 2) := by decide +kernel
theorem d1_536 : decode method_2_code 536 = .ok (.castore, 1) := by decide +kernel
theorem d1_537 : decode method_2_code 537 = .ok (.dup, 1) := by decide +kernel
theorem d1_538 : decode method_2_code 538 = .ok (.bipush 14, 2) := by decide +kernel
theorem d1_540 : decode method_2_code 540 = .ok (.bipush 112, 2) := by decide +kernel
theorem d1_542 : decode method_2_code 542 = .ok (.castore, 1) := by decide +kernel
theorem d1_543 : decode method_2_code 543 = .ok (.dup, 1) := by decide +kernel
theorem d1_544 : decode method_2_code 544 = .ok (.bipush 15, 2) := by decide +kernel
theorem d1_546 : decode method_2_code 546 = .ok (.bipush 101, 2) := by decide +kernel
theorem d1_548 : decode method_2_code 548 = .ok (.castore, 1) := by decide +kernel
theorem d1_549 : decode method_2_code 549 = .ok (.areturn, 1) := by decide +kernel
def Qnm20 (Z : State) (n0 : Nat) (h0 : Heap) (v : Option Value) (h : Heap) (L : List Loc) : Prop := ∃ (b : Addr) (kb : ClassId), v = some (.ref b) ∧ Fr n0 L ∧ Keep h0 h [] ∧ h0.size ≤ b ∧ Arv Z h b kb .char (16 : Int32) [(.int (97 : Int32)), (.int (112 : Int32)), (.int (112 : Int32)), (.int (108 : Int32)), (.int (105 : Int32)), (.int (99 : Int32)), (.int (97 : Int32)), (.int (116 : Int32)), (.int (105 : Int32)), (.int (111 : Int32)), (.int (110 : Int32)), (.int (83 : Int32)), (.int (99 : Int32)), (.int (111 : Int32)), (.int (112 : Int32)), (.int (101 : Int32))] (.int (0 : Int32))
theorem efnm20 (m : MethodId) : entryFrame m #[(.int (2 : Int32)), (.int (0 : Int32))] 2 = mkF m 0 #[iv (2 : Int32), iv (0 : Int32)] [] := by first | (simp [entryFrame, mkF, argsToLocals, Value.category]; done) | rfl
abbrev Lnm20_0 : Array Slot := #[iv 2, iv 0]
set_option maxRecDepth 65536 in
set_option maxHeartbeats 40000000 in
theorem rmnm20 (l : Launch) (Z : State) (aZ : Array Value) (hw : ∀ d ∈ tables_1, d.before aZ Z = true) (ws : List Jvm.Cond) (h0 : Heap) (n0 : Nat) (Z0 : n0 ≤ h0.size) :
    MFn l (⟨"com/example/calycule/calycule/config/ModuleContextIsImplicitPinLaw", "name", "(II)[C"⟩ : MethodName) method_2_code 2 (some (.array .char)) ws (Rm 0 1 16 0) #[(.int 2), (.int 0)] Z h0 (Qnm20 Z n0 h0) := by
  refine own_mf (C := "com/example/calycule/calycule/config/ModuleContextIsImplicitPinLaw") rfl (plainFor_of_name pn_84) (fun m => efnm20 m) ?_
  intro p e s m below meth cd0 s₁ En hx hby hml hown hnm hZ X0 e0 hlk hrt go0
  have N0 := Fr.nil n0
  have K0 : Keep h0 h0 [] := Keep.refl _ _
  have go1 : Go p.tables e below s₁ (mkF m 457 Lnm20_0 [(.int 16)]) En := by
    intro t k
    refine go0 _ ?_
    refine XS.iloadN X0.here hx rfl (hb hby d1_0) rfl ?_
    refine XS.ifYes X0.here hx rfl (pc0 := 1) (pc' := 243) rfl (hb hby d1_1) rfl (XT.i0_ne_t (by decide : ¬ ((2 : Int32) = (0 : Int32)))) (by decide) (by decide) ?_
    refine XS.iloadN X0.here hx rfl (hb hby d1_243) rfl ?_
    show Steps _ _ _ (s₁.setTop (mkF m 244 Lnm20_0 [(.int 2)])) _
    refine XS.iconst X0.here hx rfl (hb hby d1_244) ?_
    refine XS.icmpYes X0.here hx rfl (pc0 := 245) (pc' := 451) rfl (hb hby d1_245) rfl (XT.ii_ne_t (by decide : ¬ ((2 : Int32) = (1 : Int32)))) (by decide) (by decide) ?_
    refine XS.iloadN X0.here hx rfl (hb hby d1_451) rfl ?_
    show Steps _ _ _ (s₁.setTop (mkF m 452 Lnm20_0 [(.int 0)])) _
    refine XS.ifNo X0.here hx rfl (hb hby d1_452) rfl (XT.i0_ne_f (by decide : ((0 : Int32) = (0 : Int32)))) ?_
    refine XS.bipush X0.here hx rfl (hb hby d1_455) ?_
    exact k
  obtain ⟨T2, h2, k2, X2, e2, E2, A2, st2⟩ := newP X0 hx hZ (hw _ (mi 5 rfl)) e0 (g := (mkF m 457 Lnm20_0 [(.int 16)])) rfl (hb hby d1_457) rfl (by decide) (cap := 16) (by decide) (by decide) (by decide) (by decide)
  obtain ⟨b2, g2⟩ : ∃ z, z = h0.size := ⟨_, rfl⟩
  rw [← g2] at A2 st2
  have low2 : n0 ≤ b2 := Nat.le_trans Z0 (Nat.le_of_eq g2.symm)
  have fsh2 : h0.size ≤ b2 := Nat.le_trans K0.1 (Nat.le_of_eq g2.symm)
  have K2 : Keep h0 h2 [] := K0.ext E2
  have Zs2 : n0 ≤ h2.size := Nat.le_trans Z0 E2.1
  have go3 := gap go1 st2
  have F4 : Arv Z h2 b2 k2 .char (16 : Int32) [(.int 0), (.int 0), (.int 0), (.int 0), (.int 0), (.int 0), (.int 0), (.int 0), (.int 0), (.int 0), (.int 0), (.int 0), (.int 0), (.int 0), (.int 0), (.int 0)] (.int 0) := (Arv.new A2 (by decide)).pad (pad_rep [] (.int 0) 16)
  have go5 : Go p.tables e below T2 (mkF m 463 Lnm20_0 [(.int 97), (.int 0), (.ref b2), (.ref b2)]) En := by
    intro t k
    refine go3 _ ?_
    refine XS.dup X2.here hx rfl (hb hby d1_459) rfl rfl ?_
    refine XS.iconst X2.here hx rfl (hb hby d1_460) ?_
    refine XS.bipush X2.here hx rfl (hb hby d1_461) ?_
    show Steps _ _ _ (T2.setTop (mkF m 463 Lnm20_0 [(.int 97), (.int 0), (.ref b2), (.ref b2)])) _
    exact k
  obtain ⟨cl7, Ar7, q7, S7, N7, H7, G7⟩ := id F4
  obtain ⟨T6, h6, X6, e6, W6, st6⟩ := stC X2 hx hZ e2 Ar7 (j := (0 : Int32)) (inb_of S7 ⟨by decide, by decide⟩) (g := (mkF m 463 Lnm20_0 [(.int 97), (.int 0), (.ref b2), (.ref b2)])) rfl rfl (hb hby d1_463)
  have go8 := gap go5 st6
  have N6 := Fr.snoc X6 N0 low2
  have K6 : Keep h0 h6 [] := K2.wr W6 (Or.inr fsh2)
  have Zs6 : n0 ≤ h6.size := Nat.le_trans Zs2 (Keep.of_wr W6).1
  have F9 : Arv Z h6 b2 k2 .char (16 : Int32) [(.int 97), (.int 0), (.int 0), (.int 0), (.int 0), (.int 0), (.int 0), (.int 0), (.int 0), (.int 0), (.int 0), (.int 0), (.int 0), (.int 0), (.int 0), (.int 0)] (.int 0) := Arv.set Ar7 q7 S7 N7 H7 G7 (fits_nar_char _) W6 0 rfl (Nat.le_of_ble_eq_true rfl)
  have go10 : Go p.tables e below T6 (mkF m 468 Lnm20_0 [(.int 112), (.int 1), (.ref b2), (.ref b2)]) En := by
    intro t k
    refine go8 _ ?_
    refine XS.dup X6.here hx rfl (hb hby d1_464) rfl rfl ?_
    refine XS.iconst X6.here hx rfl (hb hby d1_465) ?_
    refine XS.bipush X6.here hx rfl (hb hby d1_466) ?_
    show Steps _ _ _ (T6.setTop (mkF m 468 Lnm20_0 [(.int 112), (.int 1), (.ref b2), (.ref b2)])) _
    exact k
  obtain ⟨cl12, Ar12, q12, S12, N12, H12, G12⟩ := id F9
  obtain ⟨T11, h11, X11, e11, W11, st11⟩ := stC X6 hx hZ e6 Ar12 (j := (1 : Int32)) (inb_of S12 ⟨by decide, by decide⟩) (g := (mkF m 468 Lnm20_0 [(.int 112), (.int 1), (.ref b2), (.ref b2)])) rfl rfl (hb hby d1_468)
  have go13 := gap go10 st11
  have N11 := Fr.snoc X11 N6 low2
  have K11 : Keep h0 h11 [] := K6.wr W11 (Or.inr fsh2)
  have Zs11 : n0 ≤ h11.size := Nat.le_trans Zs6 (Keep.of_wr W11).1
  have F14 : Arv Z h11 b2 k2 .char (16 : Int32) [(.int 97), (.int 112), (.int 0), (.int 0), (.int 0), (.int 0), (.int 0), (.int 0), (.int 0), (.int 0), (.int 0), (.int 0), (.int 0), (.int 0), (.int 0), (.int 0)] (.int 0) := Arv.set Ar12 q12 S12 N12 H12 G12 (fits_nar_char _) W11 1 rfl (Nat.le_of_ble_eq_true rfl)
  have go15 : Go p.tables e below T11 (mkF m 473 Lnm20_0 [(.int 112), (.int 2), (.ref b2), (.ref b2)]) En := by
    intro t k
    refine go13 _ ?_
    refine XS.dup X11.here hx rfl (hb hby d1_469) rfl rfl ?_
    refine XS.iconst X11.here hx rfl (hb hby d1_470) ?_
    refine XS.bipush X11.here hx rfl (hb hby d1_471) ?_
    show Steps _ _ _ (T11.setTop (mkF m 473 Lnm20_0 [(.int 112), (.int 2), (.ref b2), (.ref b2)])) _
    exact k
  obtain ⟨cl17, Ar17, q17, S17, N17, H17, G17⟩ := id F14
  obtain ⟨T16, h16, X16, e16, W16, st16⟩ := stC X11 hx hZ e11 Ar17 (j := (2 : Int32)) (inb_of S17 ⟨by decide, by decide⟩) (g := (mkF m 473 Lnm20_0 [(.int 112), (.int 2), (.ref b2), (.ref b2)])) rfl rfl (hb hby d1_473)
  have go18 := gap go15 st16
  have N16 := Fr.snoc X16 N11 low2
  have K16 : Keep h0 h16 [] := K11.wr W16 (Or.inr fsh2)
  have Zs16 : n0 ≤ h16.size := Nat.le_trans Zs11 (Keep.of_wr W16).1
  have F19 : Arv Z h16 b2 k2 .char (16 : Int32) [(.int 97), (.int 112), (.int 112), (.int 0), (.int 0), (.int 0), (.int 0), (.int 0), (.int 0), (.int 0), (.int 0), (.int 0), (.int 0), (.int 0), (.int 0), (.int 0)] (.int 0) := Arv.set Ar17 q17 S17 N17 H17 G17 (fits_nar_char _) W16 2 rfl (Nat.le_of_ble_eq_true rfl)
  have go20 : Go p.tables e below T16 (mkF m 478 Lnm20_0 [(.int 108), (.int 3), (.ref b2), (.ref b2)]) En := by
    intro t k
    refine go18 _ ?_
    refine XS.dup X16.here hx rfl (hb hby d1_474) rfl rfl ?_
    refine XS.iconst X16.here hx rfl (hb hby d1_475) ?_
    refine XS.bipush X16.here hx rfl (hb hby d1_476) ?_
    show Steps _ _ _ (T16.setTop (mkF m 478 Lnm20_0 [(.int 108), (.int 3), (.ref b2), (.ref b2)])) _
    exact k
  obtain ⟨cl22, Ar22, q22, S22, N22, H22, G22⟩ := id F19
  obtain ⟨T21, h21, X21, e21, W21, st21⟩ := stC X16 hx hZ e16 Ar22 (j := (3 : Int32)) (inb_of S22 ⟨by decide, by decide⟩) (g := (mkF m 478 Lnm20_0 [(.int 108), (.int 3), (.ref b2), (.ref b2)])) rfl rfl (hb hby d1_478)
  have go23 := gap go20 st21
  have N21 := Fr.snoc X21 N16 low2
  have K21 : Keep h0 h21 [] := K16.wr W21 (Or.inr fsh2)
  have Zs21 : n0 ≤ h21.size := Nat.le_trans Zs16 (Keep.of_wr W21).1
  have F24 : Arv Z h21 b2 k2 .char (16 : Int32) [(.int 97), (.int 112), (.int 112), (.int 108), (.int 0), (.int 0), (.int 0), (.int 0), (.int 0), (.int 0), (.int 0), (.int 0), (.int 0), (.int 0), (.int 0), (.int 0)] (.int 0) := Arv.set Ar22 q22 S22 N22 H22 G22 (fits_nar_char _) W21 3 rfl (Nat.le_of_ble_eq_true rfl)
  have go25 : Go p.tables e below T21 (mkF m 483 Lnm20_0 [(.int 105), (.int 4), (.ref b2), (.ref b2)]) En := by
    intro t k
    refine go23 _ ?_
    refine XS.dup X21.here hx rfl (hb hby d1_479) rfl rfl ?_
    refine XS.iconst X21.here hx rfl (hb hby d1_480) ?_
    refine XS.bipush X21.here hx rfl (hb hby d1_481) ?_
    show Steps _ _ _ (T21.setTop (mkF m 483 Lnm20_0 [(.int 105), (.int 4), (.ref b2), (.ref b2)])) _
    exact k
  obtain ⟨cl27, Ar27, q27, S27, N27, H27, G27⟩ := id F24
  obtain ⟨T26, h26, X26, e26, W26, st26⟩ := stC X21 hx hZ e21 Ar27 (j := (4 : Int32)) (inb_of S27 ⟨by decide, by decide⟩) (g := (mkF m 483 Lnm20_0 [(.int 105), (.int 4), (.ref b2), (.ref b2)])) rfl rfl (hb hby d1_483)
  have go28 := gap go25 st26
  have N26 := Fr.snoc X26 N21 low2
  have K26 : Keep h0 h26 [] := K21.wr W26 (Or.inr fsh2)
  have Zs26 : n0 ≤ h26.size := Nat.le_trans Zs21 (Keep.of_wr W26).1
  have F29 : Arv Z h26 b2 k2 .char (16 : Int32) [(.int 97), (.int 112), (.int 112), (.int 108), (.int 105), (.int 0), (.int 0), (.int 0), (.int 0), (.int 0), (.int 0), (.int 0), (.int 0), (.int 0), (.int 0), (.int 0)] (.int 0) := Arv.set Ar27 q27 S27 N27 H27 G27 (fits_nar_char _) W26 4 rfl (Nat.le_of_ble_eq_true rfl)
  have go30 : Go p.tables e below T26 (mkF m 488 Lnm20_0 [(.int 99), (.int 5), (.ref b2), (.ref b2)]) En := by
    intro t k
    refine go28 _ ?_
    refine XS.dup X26.here hx rfl (hb hby d1_484) rfl rfl ?_
    refine XS.iconst X26.here hx rfl (hb hby d1_485) ?_
    refine XS.bipush X26.here hx rfl (hb hby d1_486) ?_
    show Steps _ _ _ (T26.setTop (mkF m 488 Lnm20_0 [(.int 99), (.int 5), (.ref b2), (.ref b2)])) _
    exact k
  obtain ⟨cl32, Ar32, q32, S32, N32, H32, G32⟩ := id F29
  obtain ⟨T31, h31, X31, e31, W31, st31⟩ := stC X26 hx hZ e26 Ar32 (j := (5 : Int32)) (inb_of S32 ⟨by decide, by decide⟩) (g := (mkF m 488 Lnm20_0 [(.int 99), (.int 5), (.ref b2), (.ref b2)])) rfl rfl (hb hby d1_488)
  have go33 := gap go30 st31
  have N31 := Fr.snoc X31 N26 low2
  have K31 : Keep h0 h31 [] := K26.wr W31 (Or.inr fsh2)
  have Zs31 : n0 ≤ h31.size := Nat.le_trans Zs26 (Keep.of_wr W31).1
  have F34 : Arv Z h31 b2 k2 .char (16 : Int32) [(.int 97), (.int 112), (.int 112), (.int 108), (.int 105), (.int 99), (.int 0), (.int 0), (.int 0), (.int 0), (.int 0), (.int 0), (.int 0), (.int 0), (.int 0), (.int 0)] (.int 0) := Arv.set Ar32 q32 S32 N32 H32 G32 (fits_nar_char _) W31 5 rfl (Nat.le_of_ble_eq_true rfl)
  have go35 : Go p.tables e below T31 (mkF m 494 Lnm20_0 [(.int 97), (.int 6), (.ref b2), (.ref b2)]) En := by
    intro t k
    refine go33 _ ?_
    refine XS.dup X31.here hx rfl (hb hby d1_489) rfl rfl ?_
    refine XS.bipush X31.here hx rfl (hb hby d1_490) ?_
    refine XS.bipush X31.here hx rfl (hb hby d1_492) ?_
    show Steps _ _ _ (T31.setTop (mkF m 494 Lnm20_0 [(.int 97), (.int 6), (.ref b2), (.ref b2)])) _
    exact k
  obtain ⟨cl37, Ar37, q37, S37, N37, H37, G37⟩ := id F34
  obtain ⟨T36, h36, X36, e36, W36, st36⟩ := stC X31 hx hZ e31 Ar37 (j := (6 : Int32)) (inb_of S37 ⟨by decide, by decide⟩) (g := (mkF m 494 Lnm20_0 [(.int 97), (.int 6), (.ref b2), (.ref b2)])) rfl rfl (hb hby d1_494)
  have go38 := gap go35 st36
  have N36 := Fr.snoc X36 N31 low2
  have K36 : Keep h0 h36 [] := K31.wr W36 (Or.inr fsh2)
  have Zs36 : n0 ≤ h36.size := Nat.le_trans Zs31 (Keep.of_wr W36).1
  have F39 : Arv Z h36 b2 k2 .char (16 : Int32) [(.int 97), (.int 112), (.int 112), (.int 108), (.int 105), (.int 99), (.int 97), (.int 0), (.int 0), (.int 0), (.int 0), (.int 0), (.int 0), (.int 0), (.int 0), (.int 0)] (.int 0) := Arv.set Ar37 q37 S37 N37 H37 G37 (fits_nar_char _) W36 6 rfl (Nat.le_of_ble_eq_true rfl)
  have go40 : Go p.tables e below T36 (mkF m 500 Lnm20_0 [(.int 116), (.int 7), (.ref b2), (.ref b2)]) En := by
    intro t k
    refine go38 _ ?_
    refine XS.dup X36.here hx rfl (hb hby d1_495) rfl rfl ?_
    refine XS.bipush X36.here hx rfl (hb hby d1_496) ?_
    refine XS.bipush X36.here hx rfl (hb hby d1_498) ?_
    show Steps _ _ _ (T36.setTop (mkF m 500 Lnm20_0 [(.int 116), (.int 7), (.ref b2), (.ref b2)])) _
    exact k
  obtain ⟨cl42, Ar42, q42, S42, N42, H42, G42⟩ := id F39
  obtain ⟨T41, h41, X41, e41, W41, st41⟩ := stC X36 hx hZ e36 Ar42 (j := (7 : Int32)) (inb_of S42 ⟨by decide, by decide⟩) (g := (mkF m 500 Lnm20_0 [(.int 116), (.int 7), (.ref b2), (.ref b2)])) rfl rfl (hb hby d1_500)
  have go43 := gap go40 st41
  have N41 := Fr.snoc X41 N36 low2
  have K41 : Keep h0 h41 [] := K36.wr W41 (Or.inr fsh2)
  have Zs41 : n0 ≤ h41.size := Nat.le_trans Zs36 (Keep.of_wr W41).1
  have F44 : Arv Z h41 b2 k2 .char (16 : Int32) [(.int 97), (.int 112), (.int 112), (.int 108), (.int 105), (.int 99), (.int 97), (.int 116), (.int 0), (.int 0), (.int 0), (.int 0), (.int 0), (.int 0), (.int 0), (.int 0)] (.int 0) := Arv.set Ar42 q42 S42 N42 H42 G42 (fits_nar_char _) W41 7 rfl (Nat.le_of_ble_eq_true rfl)
  have go45 : Go p.tables e below T41 (mkF m 506 Lnm20_0 [(.int 105), (.int 8), (.ref b2), (.ref b2)]) En := by
    intro t k
    refine go43 _ ?_
    refine XS.dup X41.here hx rfl (hb hby d1_501) rfl rfl ?_
    refine XS.bipush X41.here hx rfl (hb hby d1_502) ?_
    refine XS.bipush X41.here hx rfl (hb hby d1_504) ?_
    show Steps _ _ _ (T41.setTop (mkF m 506 Lnm20_0 [(.int 105), (.int 8), (.ref b2), (.ref b2)])) _
    exact k
  obtain ⟨cl47, Ar47, q47, S47, N47, H47, G47⟩ := id F44
  obtain ⟨T46, h46, X46, e46, W46, st46⟩ := stC X41 hx hZ e41 Ar47 (j := (8 : Int32)) (inb_of S47 ⟨by decide, by decide⟩) (g := (mkF m 506 Lnm20_0 [(.int 105), (.int 8), (.ref b2), (.ref b2)])) rfl rfl (hb hby d1_506)
  have go48 := gap go45 st46
  have N46 := Fr.snoc X46 N41 low2
  have K46 : Keep h0 h46 [] := K41.wr W46 (Or.inr fsh2)
  have Zs46 : n0 ≤ h46.size := Nat.le_trans Zs41 (Keep.of_wr W46).1
  have F49 : Arv Z h46 b2 k2 .char (16 : Int32) [(.int 97), (.int 112), (.int 112), (.int 108), (.int 105), (.int 99), (.int 97), (.int 116), (.int 105), (.int 0), (.int 0), (.int 0), (.int 0), (.int 0), (.int 0), (.int 0)] (.int 0) := Arv.set Ar47 q47 S47 N47 H47 G47 (fits_nar_char _) W46 8 rfl (Nat.le_of_ble_eq_true rfl)
  have go50 : Go p.tables e below T46 (mkF m 512 Lnm20_0 [(.int 111), (.int 9), (.ref b2), (.ref b2)]) En := by
    intro t k
    refine go48 _ ?_
    refine XS.dup X46.here hx rfl (hb hby d1_507) rfl rfl ?_
    refine XS.bipush X46.here hx rfl (hb hby d1_508) ?_
    refine XS.bipush X46.here hx rfl (hb hby d1_510) ?_
    show Steps _ _ _ (T46.setTop (mkF m 512 Lnm20_0 [(.int 111), (.int 9), (.ref b2), (.ref b2)])) _
    exact k
  obtain ⟨cl52, Ar52, q52, S52, N52, H52, G52⟩ := id F49
  obtain ⟨T51, h51, X51, e51, W51, st51⟩ := stC X46 hx hZ e46 Ar52 (j := (9 : Int32)) (inb_of S52 ⟨by decide, by decide⟩) (g := (mkF m 512 Lnm20_0 [(.int 111), (.int 9), (.ref b2), (.ref b2)])) rfl rfl (hb hby d1_512)
  have go53 := gap go50 st51
  have N51 := Fr.snoc X51 N46 low2
  have K51 : Keep h0 h51 [] := K46.wr W51 (Or.inr fsh2)
  have Zs51 : n0 ≤ h51.size := Nat.le_trans Zs46 (Keep.of_wr W51).1
  have F54 : Arv Z h51 b2 k2 .char (16 : Int32) [(.int 97), (.int 112), (.int 112), (.int 108), (.int 105), (.int 99), (.int 97), (.int 116), (.int 105), (.int 111), (.int 0), (.int 0), (.int 0), (.int 0), (.int 0), (.int 0)] (.int 0) := Arv.set Ar52 q52 S52 N52 H52 G52 (fits_nar_char _) W51 9 rfl (Nat.le_of_ble_eq_true rfl)
  have go55 : Go p.tables e below T51 (mkF m 518 Lnm20_0 [(.int 110), (.int 10), (.ref b2), (.ref b2)]) En := by
    intro t k
    refine go53 _ ?_
    refine XS.dup X51.here hx rfl (hb hby d1_513) rfl rfl ?_
    refine XS.bipush X51.here hx rfl (hb hby d1_514) ?_
    refine XS.bipush X51.here hx rfl (hb hby d1_516) ?_
    show Steps _ _ _ (T51.setTop (mkF m 518 Lnm20_0 [(.int 110), (.int 10), (.ref b2), (.ref b2)])) _
    exact k
  obtain ⟨cl57, Ar57, q57, S57, N57, H57, G57⟩ := id F54
  obtain ⟨T56, h56, X56, e56, W56, st56⟩ := stC X51 hx hZ e51 Ar57 (j := (10 : Int32)) (inb_of S57 ⟨by decide, by decide⟩) (g := (mkF m 518 Lnm20_0 [(.int 110), (.int 10), (.ref b2), (.ref b2)])) rfl rfl (hb hby d1_518)
  have go58 := gap go55 st56
  have N56 := Fr.snoc X56 N51 low2
  have K56 : Keep h0 h56 [] := K51.wr W56 (Or.inr fsh2)
  have Zs56 : n0 ≤ h56.size := Nat.le_trans Zs51 (Keep.of_wr W56).1
  have F59 : Arv Z h56 b2 k2 .char (16 : Int32) [(.int 97), (.int 112), (.int 112), (.int 108), (.int 105), (.int 99), (.int 97), (.int 116), (.int 105), (.int 111), (.int 110), (.int 0), (.int 0), (.int 0), (.int 0), (.int 0)] (.int 0) := Arv.set Ar57 q57 S57 N57 H57 G57 (fits_nar_char _) W56 10 rfl (Nat.le_of_ble_eq_true rfl)
  have go60 : Go p.tables e below T56 (mkF m 524 Lnm20_0 [(.int 83), (.int 11), (.ref b2), (.ref b2)]) En := by
    intro t k
    refine go58 _ ?_
    refine XS.dup X56.here hx rfl (hb hby d1_519) rfl rfl ?_
    refine XS.bipush X56.here hx rfl (hb hby d1_520) ?_
    refine XS.bipush X56.here hx rfl (hb hby d1_522) ?_
    show Steps _ _ _ (T56.setTop (mkF m 524 Lnm20_0 [(.int 83), (.int 11), (.ref b2), (.ref b2)])) _
    exact k
  obtain ⟨cl62, Ar62, q62, S62, N62, H62, G62⟩ := id F59
  obtain ⟨T61, h61, X61, e61, W61, st61⟩ := stC X56 hx hZ e56 Ar62 (j := (11 : Int32)) (inb_of S62 ⟨by decide, by decide⟩) (g := (mkF m 524 Lnm20_0 [(.int 83), (.int 11), (.ref b2), (.ref b2)])) rfl rfl (hb hby d1_524)
  have go63 := gap go60 st61
  have N61 := Fr.snoc X61 N56 low2
  have K61 : Keep h0 h61 [] := K56.wr W61 (Or.inr fsh2)
  have Zs61 : n0 ≤ h61.size := Nat.le_trans Zs56 (Keep.of_wr W61).1
  have F64 : Arv Z h61 b2 k2 .char (16 : Int32) [(.int 97), (.int 112), (.int 112), (.int 108), (.int 105), (.int 99), (.int 97), (.int 116), (.int 105), (.int 111), (.int 110), (.int 83), (.int 0), (.int 0), (.int 0), (.int 0)] (.int 0) := Arv.set Ar62 q62 S62 N62 H62 G62 (fits_nar_char _) W61 11 rfl (Nat.le_of_ble_eq_true rfl)
  have go65 : Go p.tables e below T61 (mkF m 530 Lnm20_0 [(.int 99), (.int 12), (.ref b2), (.ref b2)]) En := by
    intro t k
    refine go63 _ ?_
    refine XS.dup X61.here hx rfl (hb hby d1_525) rfl rfl ?_
    refine XS.bipush X61.here hx rfl (hb hby d1_526) ?_
    refine XS.bipush X61.here hx rfl (hb hby d1_528) ?_
    show Steps _ _ _ (T61.setTop (mkF m 530 Lnm20_0 [(.int 99), (.int 12), (.ref b2), (.ref b2)])) _
    exact k
  obtain ⟨cl67, Ar67, q67, S67, N67, H67, G67⟩ := id F64
  obtain ⟨T66, h66, X66, e66, W66, st66⟩ := stC X61 hx hZ e61 Ar67 (j := (12 : Int32)) (inb_of S67 ⟨by decide, by decide⟩) (g := (mkF m 530 Lnm20_0 [(.int 99), (.int 12), (.ref b2), (.ref b2)])) rfl rfl (hb hby d1_530)
  have go68 := gap go65 st66
  have N66 := Fr.snoc X66 N61 low2
  have K66 : Keep h0 h66 [] := K61.wr W66 (Or.inr fsh2)
  have Zs66 : n0 ≤ h66.size := Nat.le_trans Zs61 (Keep.of_wr W66).1
  have F69 : Arv Z h66 b2 k2 .char (16 : Int32) [(.int 97), (.int 112), (.int 112), (.int 108), (.int 105), (.int 99), (.int 97), (.int 116), (.int 105), (.int 111), (.int 110), (.int 83), (.int 99), (.int 0), (.int 0), (.int 0)] (.int 0) := Arv.set Ar67 q67 S67 N67 H67 G67 (fits_nar_char _) W66 12 rfl (Nat.le_of_ble_eq_true rfl)
  have go70 : Go p.tables e below T66 (mkF m 536 Lnm20_0 [(.int 111), (.int 13), (.ref b2), (.ref b2)]) En := by
    intro t k
    refine go68 _ ?_
    refine XS.dup X66.here hx rfl (hb hby d1_531) rfl rfl ?_
    refine XS.bipush X66.here hx rfl (hb hby d1_532) ?_
    refine XS.bipush X66.here hx rfl (hb hby d1_534) ?_
    show Steps _ _ _ (T66.setTop (mkF m 536 Lnm20_0 [(.int 111), (.int 13), (.ref b2), (.ref b2)])) _
    exact k
  obtain ⟨cl72, Ar72, q72, S72, N72, H72, G72⟩ := id F69
  obtain ⟨T71, h71, X71, e71, W71, st71⟩ := stC X66 hx hZ e66 Ar72 (j := (13 : Int32)) (inb_of S72 ⟨by decide, by decide⟩) (g := (mkF m 536 Lnm20_0 [(.int 111), (.int 13), (.ref b2), (.ref b2)])) rfl rfl (hb hby d1_536)
  have go73 := gap go70 st71
  have N71 := Fr.snoc X71 N66 low2
  have K71 : Keep h0 h71 [] := K66.wr W71 (Or.inr fsh2)
  have Zs71 : n0 ≤ h71.size := Nat.le_trans Zs66 (Keep.of_wr W71).1
  have F74 : Arv Z h71 b2 k2 .char (16 : Int32) [(.int 97), (.int 112), (.int 112), (.int 108), (.int 105), (.int 99), (.int 97), (.int 116), (.int 105), (.int 111), (.int 110), (.int 83), (.int 99), (.int 111), (.int 0), (.int 0)] (.int 0) := Arv.set Ar72 q72 S72 N72 H72 G72 (fits_nar_char _) W71 13 rfl (Nat.le_of_ble_eq_true rfl)
  have go75 : Go p.tables e below T71 (mkF m 542 Lnm20_0 [(.int 112), (.int 14), (.ref b2), (.ref b2)]) En := by
    intro t k
    refine go73 _ ?_
    refine XS.dup X71.here hx rfl (hb hby d1_537) rfl rfl ?_
    refine XS.bipush X71.here hx rfl (hb hby d1_538) ?_
    refine XS.bipush X71.here hx rfl (hb hby d1_540) ?_
    show Steps _ _ _ (T71.setTop (mkF m 542 Lnm20_0 [(.int 112), (.int 14), (.ref b2), (.ref b2)])) _
    exact k
  obtain ⟨cl77, Ar77, q77, S77, N77, H77, G77⟩ := id F74
  obtain ⟨T76, h76, X76, e76, W76, st76⟩ := stC X71 hx hZ e71 Ar77 (j := (14 : Int32)) (inb_of S77 ⟨by decide, by decide⟩) (g := (mkF m 542 Lnm20_0 [(.int 112), (.int 14), (.ref b2), (.ref b2)])) rfl rfl (hb hby d1_542)
  have go78 := gap go75 st76
  have N76 := Fr.snoc X76 N71 low2
  have K76 : Keep h0 h76 [] := K71.wr W76 (Or.inr fsh2)
  have Zs76 : n0 ≤ h76.size := Nat.le_trans Zs71 (Keep.of_wr W76).1
  have F79 : Arv Z h76 b2 k2 .char (16 : Int32) [(.int 97), (.int 112), (.int 112), (.int 108), (.int 105), (.int 99), (.int 97), (.int 116), (.int 105), (.int 111), (.int 110), (.int 83), (.int 99), (.int 111), (.int 112), (.int 0)] (.int 0) := Arv.set Ar77 q77 S77 N77 H77 G77 (fits_nar_char _) W76 14 rfl (Nat.le_of_ble_eq_true rfl)
  have go80 : Go p.tables e below T76 (mkF m 548 Lnm20_0 [(.int 101), (.int 15), (.ref b2), (.ref b2)]) En := by
    intro t k
    refine go78 _ ?_
    refine XS.dup X76.here hx rfl (hb hby d1_543) rfl rfl ?_
    refine XS.bipush X76.here hx rfl (hb hby d1_544) ?_
    refine XS.bipush X76.here hx rfl (hb hby d1_546) ?_
    show Steps _ _ _ (T76.setTop (mkF m 548 Lnm20_0 [(.int 101), (.int 15), (.ref b2), (.ref b2)])) _
    exact k
  obtain ⟨cl82, Ar82, q82, S82, N82, H82, G82⟩ := id F79
  obtain ⟨T81, h81, X81, e81, W81, st81⟩ := stC X76 hx hZ e76 Ar82 (j := (15 : Int32)) (inb_of S82 ⟨by decide, by decide⟩) (g := (mkF m 548 Lnm20_0 [(.int 101), (.int 15), (.ref b2), (.ref b2)])) rfl rfl (hb hby d1_548)
  have go83 := gap go80 st81
  have N81 := Fr.snoc X81 N76 low2
  have K81 : Keep h0 h81 [] := K76.wr W81 (Or.inr fsh2)
  have Zs81 : n0 ≤ h81.size := Nat.le_trans Zs76 (Keep.of_wr W81).1
  have F84 : Arv Z h81 b2 k2 .char (16 : Int32) [(.int 97), (.int 112), (.int 112), (.int 108), (.int 105), (.int 99), (.int 97), (.int 116), (.int 105), (.int 111), (.int 110), (.int 83), (.int 99), (.int 111), (.int 112), (.int 101)] (.int 0) := Arv.set Ar82 q82 S82 N82 H82 G82 (fits_nar_char _) W81 15 rfl (Nat.le_of_ble_eq_true rfl)
  refine own_out (w := (.ref b2)) X81 hx hlk go83 hrt rfl (Or.inr (Or.inr (Or.inr (Or.inr ⟨rfl, rfl, rfl⟩)))) (hb hby d1_549) e81 (by decide) (by decide) ?_
  exact ⟨b2, k2, rfl, N81, K81, fsh2, F84⟩
theorem d1_550 : decode method_2_code 550 = .ok (.iload_n 1, 1) := by decide +kernel
theorem d1_551 : decode method_2_code 551 = .ok (.iconst 1, 1) := by decide +kernel
theorem d1_552 : decode method_2_code 552 = .ok (.if_icmp .ne 103, 3) := by decide +kernel
theorem d1_555 : decode method_2_code 555 = .ok (.bipush 17, 2) := by decide +kernel
theorem d1_557 : decode method_2_code 557 = .ok (.newarray .char, 2) := by decide +kernel
theorem d1_559 : decode method_2_code 559 = .ok (.dup, 1) := by decide +kernel
theorem d1_560 : decode method_2_code 560 = .ok (.iconst 0, 1) := by decide +kernel
theorem d1_561 : decode method_2_code 561 = .ok (.bipush 97, 2) := by decide +kernel
theorem d1_563 : decode method_2_code 563 = .ok (.castore, 1) := by decide +kernel
theorem d1_564 : decode method_2_code 564 = .ok (.dup, 1) := by decide +kernel
theorem d1_565 : decode method_2_code 565 = .ok (.iconst 1, 1) := by decide +kernel
theorem d1_566 : decode method_2_code 566 = .ok (.bipush 112, 2) := by decide +kernel
theorem d1_568 : decode method_2_code 568 = .ok (.castore, 1) := by decide +kernel
theorem d1_569 : decode method_2_code 569 = .ok (.dup, 1) := by decide +kernel
theorem d1_570 : decode method_2_code 570 = .ok (.iconst 2, 1) := by decide +kernel
theorem d1_571 : decode method_2_code 571 = .ok (.bipush 112, 2) := by decide +kernel
theorem d1_573 : decode method_2_code 573 = .ok (.castore, 1) := by decide +kernel
theorem d1_574 : decode method_2_code 574 = .ok (.dup, 1) := by decide +kernel
theorem d1_575 : decode method_2_code 575 = .ok (.iconst 3, 1) := by decide +kernel
theorem d1_576 : decode method_2_code 576 = .ok (.bipush 108, 2) := by decide +kernel
theorem d1_578 : decode method_2_code 578 = .ok (.castore, 1) := by decide +kernel
theorem d1_579 : decode method_2_code 579 = .ok (.dup, 1) := by decide +kernel
theorem d1_580 : decode method_2_code 580 = .ok (.iconst 4, 1) := by decide +kernel
theorem d1_581 : decode method_2_code 581 = .ok (.bipush 105, 2) := by decide +kernel
theorem d1_583 : decode method_2_code 583 = .ok (.castore, 1) := by decide +kernel
theorem d1_584 : decode method_2_code 584 = .ok (.dup, 1) := by decide +kernel
theorem d1_585 : decode method_2_code 585 = .ok (.iconst 5, 1) := by decide +kernel
theorem d1_586 : decode method_2_code 586 = .ok (.bipush 99, 2) := by decide +kernel
theorem d1_588 : decode method_2_code 588 = .ok (.castore, 1) := by decide +kernel
theorem d1_589 : decode method_2_code 589 = .ok (.dup, 1) := by decide +kernel
theorem d1_590 : decode method_2_code 590 = .ok (.bipush 6, 2) := by decide +kernel
theorem d1_592 : decode method_2_code 592 = .ok (.bipush 97, 2) := by decide +kernel
theorem d1_594 : decode method_2_code 594 = .ok (.castore, 1) := by decide +kernel
theorem d1_595 : decode method_2_code 595 = .ok (.dup, 1) := by decide +kernel
theorem d1_596 : decode method_2_code 596 = .ok (.bipush 7, 2) := by decide +kernel
theorem d1_598 : decode method_2_code 598 = .ok (.bipush 116, 2) := by decide +kernel
theorem d1_600 : decode method_2_code 600 = .ok (.castore, 1) := by decide +kernel
theorem d1_601 : decode method_2_code 601 = .ok (.dup, 1) := by decide +kernel
theorem d1_602 : decode method_2_code 602 = .ok (.bipush 8, 2) := by decide +kernel
theorem d1_604 : decode method_2_code 604 = .ok (.bipush 105, 2) := by decide +kernel
theorem d1_606 : decode method_2_code 606 = .ok (.castore, 1) := by decide +kernel
theorem d1_607 : decode method_2_code 607 = .ok (.dup, 1) := by decide +kernel
theorem d1_608 : decode method_2_code 608 = .ok (.bipush 9, 2) := by decide +kernel
theorem d1_610 : decode method_2_code 610 = .ok (.bipush 111, 2) := by decide +kernel
theorem d1_612 : decode method_2_code 612 = .ok (.castore, 1) := by decide +kernel
theorem d1_613 : decode method_2_code 613 = .ok (.dup, 1) := by decide +kernel
theorem d1_614 : decode method_2_code 614 = .ok (.bipush 10, 2) := by decide +kernel
theorem d1_616 : decode method_2_code 616 = .ok (.bipush 110, 2) := by decide +kernel
theorem d1_618 : decode method_2_code 618 = .ok (.castore, 1) := by decide +kernel
theorem d1_619 : decode method_2_code 619 = .ok (.dup, 1) := by decide +kernel
theorem d1_620 : decode method_2_code 620 = .ok (.bipush 11, 2) := by decide +kernel
theorem d1_622 : decode method_2_code 622 = .ok (.bipush 83, 2) := by decide +kernel
theorem d1_624 : decode method_2_code 624 = .ok (.castore, 1) := by decide +kernel
theorem d1_625 : decode method_2_code 625 = .ok (.dup, 1) := by decide +kernel
theorem d1_626 : decode method_2_code 626 = .ok (.bipush 12, 2) := by decide +kernel
theorem d1_628 : decode method_2_code 628 = .ok (.bipush 99, 2) := by decide +kernel
theorem d1_630 : decode method_2_code 630 = .ok (.castore, 1) := by decide +kernel
theorem d1_631 : decode method_2_code 631 = .ok (.dup, 1) := by decide +kernel
theorem d1_632 : decode method_2_code 632 = .ok (.bipush 13, 2) := by decide +kernel
theorem d1_634 : decode method_2_code 634 = .ok (.bipush 111, 2) := by decide +kernel
theorem d1_636 : decode method_2_code 636 = .ok (.castore, 1) := by decide +kernel
theorem d1_637 : decode method_2_code 637 = .ok (.dup, 1) := by decide +kernel
theorem d1_638 : decode method_2_code 638 = .ok (.bipush 14, 2) := by decide +kernel
theorem d1_640 : decode method_2_code 640 = .ok (.bipush 112, 2) := by decide +kernel
theorem d1_642 : decode method_2_code 642 = .ok (.castore, 1) := by decide +kernel
theorem d1_643 : decode method_2_code 643 = .ok (.dup, 1) := by decide +kernel
theorem d1_644 : decode method_2_code 644 = .ok (.bipush 15, 2) := by decide +kernel
theorem d1_646 : decode method_2_code 646 = .ok (.bipush 101, 2) := by decide +kernel
theorem d1_648 : decode method_2_code 648 = .ok (.castore, 1) := by decide +kernel
theorem d1_649 : decode method_2_code 649 = .ok (.dup, 1) := by decide +kernel
theorem d1_650 : decode method_2_code 650 = .ok (.bipush 16, 2) := by decide +kernel
theorem d1_652 : decode method_2_code 652 = .ok (.iconst 0, 1) := by decide +kernel
theorem d1_653 : decode method_2_code 653 = .ok (.castore, 1) := by decide +kernel
theorem d1_654 : decode method_2_code 654 = .ok (.areturn, 1) := by decide +kernel
def Qnm21 (Z : State) (n0 : Nat) (h0 : Heap) (v : Option Value) (h : Heap) (L : List Loc) : Prop := ∃ (b : Addr) (kb : ClassId), v = some (.ref b) ∧ Fr n0 L ∧ Keep h0 h [] ∧ h0.size ≤ b ∧ Arv Z h b kb .char (17 : Int32) [(.int (97 : Int32)), (.int (112 : Int32)), (.int (112 : Int32)), (.int (108 : Int32)), (.int (105 : Int32)), (.int (99 : Int32)), (.int (97 : Int32)), (.int (116 : Int32)), (.int (105 : Int32)), (.int (111 : Int32)), (.int (110 : Int32)), (.int (83 : Int32)), (.int (99 : Int32)), (.int (111 : Int32)), (.int (112 : Int32)), (.int (101 : Int32)), (.int (0 : Int32))] (.int (0 : Int32))
theorem efnm21 (m : MethodId) : entryFrame m #[(.int (2 : Int32)), (.int (1 : Int32))] 2 = mkF m 0 #[iv (2 : Int32), iv (1 : Int32)] [] := by first | (simp [entryFrame, mkF, argsToLocals, Value.category]; done) | rfl
abbrev Lnm21_0 : Array Slot := #[iv 2, iv 1]
set_option maxRecDepth 65536 in
set_option maxHeartbeats 40000000 in
theorem rmnm21 (l : Launch) (Z : State) (aZ : Array Value) (hw : ∀ d ∈ tables_1, d.before aZ Z = true) (ws : List Jvm.Cond) (h0 : Heap) (n0 : Nat) (Z0 : n0 ≤ h0.size) :
    MFn l (⟨"com/example/calycule/calycule/config/ModuleContextIsImplicitPinLaw", "name", "(II)[C"⟩ : MethodName) method_2_code 2 (some (.array .char)) ws (Rm 0 1 17 0) #[(.int 2), (.int 1)] Z h0 (Qnm21 Z n0 h0) := by
  refine own_mf (C := "com/example/calycule/calycule/config/ModuleContextIsImplicitPinLaw") rfl (plainFor_of_name pn_84) (fun m => efnm21 m) ?_
  intro p e s m below meth cd0 s₁ En hx hby hml hown hnm hZ X0 e0 hlk hrt go0
  have N0 := Fr.nil n0
  have K0 : Keep h0 h0 [] := Keep.refl _ _
  have go1 : Go p.tables e below s₁ (mkF m 557 Lnm21_0 [(.int 17)]) En := by
    intro t k
    refine go0 _ ?_
    refine XS.iloadN X0.here hx rfl (hb hby d1_0) rfl ?_
    refine XS.ifYes X0.here hx rfl (pc0 := 1) (pc' := 243) rfl (hb hby d1_1) rfl (XT.i0_ne_t (by decide : ¬ ((2 : Int32) = (0 : Int32)))) (by decide) (by decide) ?_
    refine XS.iloadN X0.here hx rfl (hb hby d1_243) rfl ?_
    show Steps _ _ _ (s₁.setTop (mkF m 244 Lnm21_0 [(.int 2)])) _
    refine XS.iconst X0.here hx rfl (hb hby d1_244) ?_
    refine XS.icmpYes X0.here hx rfl (pc0 := 245) (pc' := 451) rfl (hb hby d1_245) rfl (XT.ii_ne_t (by decide : ¬ ((2 : Int32) = (1 : Int32)))) (by decide) (by decide) ?_
    refine XS.iloadN X0.here hx rfl (hb hby d1_451) rfl ?_
    show Steps _ _ _ (s₁.setTop (mkF m 452 Lnm21_0 [(.int 1)])) _
    refine XS.ifYes X0.here hx rfl (pc0 := 452) (pc' := 550) rfl (hb hby d1_452) rfl (XT.i0_ne_t (by decide : ¬ ((1 : Int32) = (0 : Int32)))) (by decide) (by decide) ?_
    refine XS.iloadN X0.here hx rfl (hb hby d1_550) rfl ?_
    refine XS.iconst X0.here hx rfl (hb hby d1_551) ?_
    show Steps _ _ _ (s₁.setTop (mkF m 552 Lnm21_0 [(.int 1), (.int 1)])) _
    refine XS.icmpNo X0.here hx rfl (hb hby d1_552) rfl (XT.ii_ne_f (by decide : ((1 : Int32) = (1 : Int32)))) ?_
    refine XS.bipush X0.here hx rfl (hb hby d1_555) ?_
    exact k
  obtain ⟨T2, h2, k2, X2, e2, E2, A2, st2⟩ := newP X0 hx hZ (hw _ (mi 5 rfl)) e0 (g := (mkF m 557 Lnm21_0 [(.int 17)])) rfl (hb hby d1_557) rfl (by decide) (cap := 17) (by decide) (by decide) (by decide) (by decide)
  obtain ⟨b2, g2⟩ : ∃ z, z = h0.size := ⟨_, rfl⟩
  rw [← g2] at A2 st2
  have low2 : n0 ≤ b2 := Nat.le_trans Z0 (Nat.le_of_eq g2.symm)
  have fsh2 : h0.size ≤ b2 := Nat.le_trans K0.1 (Nat.le_of_eq g2.symm)
  have K2 : Keep h0 h2 [] := K0.ext E2
  have Zs2 : n0 ≤ h2.size := Nat.le_trans Z0 E2.1
  have go3 := gap go1 st2
  have F4 : Arv Z h2 b2 k2 .char (17 : Int32) [(.int 0), (.int 0), (.int 0), (.int 0), (.int 0), (.int 0), (.int 0), (.int 0), (.int 0), (.int 0), (.int 0), (.int 0), (.int 0), (.int 0), (.int 0), (.int 0), (.int 0)] (.int 0) := (Arv.new A2 (by decide)).pad (pad_rep [] (.int 0) 17)
  have go5 : Go p.tables e below T2 (mkF m 563 Lnm21_0 [(.int 97), (.int 0), (.ref b2), (.ref b2)]) En := by
    intro t k
    refine go3 _ ?_
    refine XS.dup X2.here hx rfl (hb hby d1_559) rfl rfl ?_
    refine XS.iconst X2.here hx rfl (hb hby d1_560) ?_
    refine XS.bipush X2.here hx rfl (hb hby d1_561) ?_
    show Steps _ _ _ (T2.setTop (mkF m 563 Lnm21_0 [(.int 97), (.int 0), (.ref b2), (.ref b2)])) _
    exact k
  obtain ⟨cl7, Ar7, q7, S7, N7, H7, G7⟩ := id F4
  obtain ⟨T6, h6, X6, e6, W6, st6⟩ := stC X2 hx hZ e2 Ar7 (j := (0 : Int32)) (inb_of S7 ⟨by decide, by decide⟩) (g := (mkF m 563 Lnm21_0 [(.int 97), (.int 0), (.ref b2), (.ref b2)])) rfl rfl (hb hby d1_563)
  have go8 := gap go5 st6
  have N6 := Fr.snoc X6 N0 low2
  have K6 : Keep h0 h6 [] := K2.wr W6 (Or.inr fsh2)
  have Zs6 : n0 ≤ h6.size := Nat.le_trans Zs2 (Keep.of_wr W6).1
  have F9 : Arv Z h6 b2 k2 .char (17 : Int32) [(.int 97), (.int 0), (.int 0), (.int 0), (.int 0), (.int 0), (.int 0), (.int 0), (.int 0), (.int 0), (.int 0), (.int 0), (.int 0), (.int 0), (.int 0), (.int 0), (.int 0)] (.int 0) := Arv.set Ar7 q7 S7 N7 H7 G7 (fits_nar_char _) W6 0 rfl (Nat.le_of_ble_eq_true rfl)
  have go10 : Go p.tables e below T6 (mkF m 568 Lnm21_0 [(.int 112), (.int 1), (.ref b2), (.ref b2)]) En := by
    intro t k
    refine go8 _ ?_
    refine XS.dup X6.here hx rfl (hb hby d1_564) rfl rfl ?_
    refine XS.iconst X6.here hx rfl (hb hby d1_565) ?_
    refine XS.bipush X6.here hx rfl (hb hby d1_566) ?_
    show Steps _ _ _ (T6.setTop (mkF m 568 Lnm21_0 [(.int 112), (.int 1), (.ref b2), (.ref b2)])) _
    exact k
  obtain ⟨cl12, Ar12, q12, S12, N12, H12, G12⟩ := id F9
  obtain ⟨T11, h11, X11, e11, W11, st11⟩ := stC X6 hx hZ e6 Ar12 (j := (1 : Int32)) (inb_of S12 ⟨by decide, by decide⟩) (g := (mkF m 568 Lnm21_0 [(.int 112), (.int 1), (.ref b2), (.ref b2)])) rfl rfl (hb hby d1_568)
  have go13 := gap go10 st11
  have N11 := Fr.snoc X11 N6 low2
  have K11 : Keep h0 h11 [] := K6.wr W11 (Or.inr fsh2)
  have Zs11 : n0 ≤ h11.size := Nat.le_trans Zs6 (Keep.of_wr W11).1
  have F14 : Arv Z h11 b2 k2 .char (17 : Int32) [(.int 97), (.int 112), (.int 0), (.int 0), (.int 0), (.int 0), (.int 0), (.int 0), (.int 0), (.int 0), (.int 0), (.int 0), (.int 0), (.int 0), (.int 0), (.int 0), (.int 0)] (.int 0) := Arv.set Ar12 q12 S12 N12 H12 G12 (fits_nar_char _) W11 1 rfl (Nat.le_of_ble_eq_true rfl)
  have go15 : Go p.tables e below T11 (mkF m 573 Lnm21_0 [(.int 112), (.int 2), (.ref b2), (.ref b2)]) En := by
    intro t k
    refine go13 _ ?_
    refine XS.dup X11.here hx rfl (hb hby d1_569) rfl rfl ?_
    refine XS.iconst X11.here hx rfl (hb hby d1_570) ?_
    refine XS.bipush X11.here hx rfl (hb hby d1_571) ?_
    show Steps _ _ _ (T11.setTop (mkF m 573 Lnm21_0 [(.int 112), (.int 2), (.ref b2), (.ref b2)])) _
    exact k
  obtain ⟨cl17, Ar17, q17, S17, N17, H17, G17⟩ := id F14
  obtain ⟨T16, h16, X16, e16, W16, st16⟩ := stC X11 hx hZ e11 Ar17 (j := (2 : Int32)) (inb_of S17 ⟨by decide, by decide⟩) (g := (mkF m 573 Lnm21_0 [(.int 112), (.int 2), (.ref b2), (.ref b2)])) rfl rfl (hb hby d1_573)
  have go18 := gap go15 st16
  have N16 := Fr.snoc X16 N11 low2
  have K16 : Keep h0 h16 [] := K11.wr W16 (Or.inr fsh2)
  have Zs16 : n0 ≤ h16.size := Nat.le_trans Zs11 (Keep.of_wr W16).1
  have F19 : Arv Z h16 b2 k2 .char (17 : Int32) [(.int 97), (.int 112), (.int 112), (.int 0), (.int 0), (.int 0), (.int 0), (.int 0), (.int 0), (.int 0), (.int 0), (.int 0), (.int 0), (.int 0), (.int 0), (.int 0), (.int 0)] (.int 0) := Arv.set Ar17 q17 S17 N17 H17 G17 (fits_nar_char _) W16 2 rfl (Nat.le_of_ble_eq_true rfl)
  have go20 : Go p.tables e below T16 (mkF m 578 Lnm21_0 [(.int 108), (.int 3), (.ref b2), (.ref b2)]) En := by
    intro t k
    refine go18 _ ?_
    refine XS.dup X16.here hx rfl (hb hby d1_574) rfl rfl ?_
    refine XS.iconst X16.here hx rfl (hb hby d1_575) ?_
    refine XS.bipush X16.here hx rfl (hb hby d1_576) ?_
    show Steps _ _ _ (T16.setTop (mkF m 578 Lnm21_0 [(.int 108), (.int 3), (.ref b2), (.ref b2)])) _
    exact k
  obtain ⟨cl22, Ar22, q22, S22, N22, H22, G22⟩ := id F19
  obtain ⟨T21, h21, X21, e21, W21, st21⟩ := stC X16 hx hZ e16 Ar22 (j := (3 : Int32)) (inb_of S22 ⟨by decide, by decide⟩) (g := (mkF m 578 Lnm21_0 [(.int 108), (.int 3), (.ref b2), (.ref b2)])) rfl rfl (hb hby d1_578)
  have go23 := gap go20 st21
  have N21 := Fr.snoc X21 N16 low2
  have K21 : Keep h0 h21 [] := K16.wr W21 (Or.inr fsh2)
  have Zs21 : n0 ≤ h21.size := Nat.le_trans Zs16 (Keep.of_wr W21).1
  have F24 : Arv Z h21 b2 k2 .char (17 : Int32) [(.int 97), (.int 112), (.int 112), (.int 108), (.int 0), (.int 0), (.int 0), (.int 0), (.int 0), (.int 0), (.int 0), (.int 0), (.int 0), (.int 0), (.int 0), (.int 0), (.int 0)] (.int 0) := Arv.set Ar22 q22 S22 N22 H22 G22 (fits_nar_char _) W21 3 rfl (Nat.le_of_ble_eq_true rfl)
  have go25 : Go p.tables e below T21 (mkF m 583 Lnm21_0 [(.int 105), (.int 4), (.ref b2), (.ref b2)]) En := by
    intro t k
    refine go23 _ ?_
    refine XS.dup X21.here hx rfl (hb hby d1_579) rfl rfl ?_
    refine XS.iconst X21.here hx rfl (hb hby d1_580) ?_
    refine XS.bipush X21.here hx rfl (hb hby d1_581) ?_
    show Steps _ _ _ (T21.setTop (mkF m 583 Lnm21_0 [(.int 105), (.int 4), (.ref b2), (.ref b2)])) _
    exact k
  obtain ⟨cl27, Ar27, q27, S27, N27, H27, G27⟩ := id F24
  obtain ⟨T26, h26, X26, e26, W26, st26⟩ := stC X21 hx hZ e21 Ar27 (j := (4 : Int32)) (inb_of S27 ⟨by decide, by decide⟩) (g := (mkF m 583 Lnm21_0 [(.int 105), (.int 4), (.ref b2), (.ref b2)])) rfl rfl (hb hby d1_583)
  have go28 := gap go25 st26
  have N26 := Fr.snoc X26 N21 low2
  have K26 : Keep h0 h26 [] := K21.wr W26 (Or.inr fsh2)
  have Zs26 : n0 ≤ h26.size := Nat.le_trans Zs21 (Keep.of_wr W26).1
  have F29 : Arv Z h26 b2 k2 .char (17 : Int32) [(.int 97), (.int 112), (.int 112), (.int 108), (.int 105), (.int 0), (.int 0), (.int 0), (.int 0), (.int 0), (.int 0), (.int 0), (.int 0), (.int 0), (.int 0), (.int 0), (.int 0)] (.int 0) := Arv.set Ar27 q27 S27 N27 H27 G27 (fits_nar_char _) W26 4 rfl (Nat.le_of_ble_eq_true rfl)
  have go30 : Go p.tables e below T26 (mkF m 588 Lnm21_0 [(.int 99), (.int 5), (.ref b2), (.ref b2)]) En := by
    intro t k
    refine go28 _ ?_
    refine XS.dup X26.here hx rfl (hb hby d1_584) rfl rfl ?_
    refine XS.iconst X26.here hx rfl (hb hby d1_585) ?_
    refine XS.bipush X26.here hx rfl (hb hby d1_586) ?_
    show Steps _ _ _ (T26.setTop (mkF m 588 Lnm21_0 [(.int 99), (.int 5), (.ref b2), (.ref b2)])) _
    exact k
  obtain ⟨cl32, Ar32, q32, S32, N32, H32, G32⟩ := id F29
  obtain ⟨T31, h31, X31, e31, W31, st31⟩ := stC X26 hx hZ e26 Ar32 (j := (5 : Int32)) (inb_of S32 ⟨by decide, by decide⟩) (g := (mkF m 588 Lnm21_0 [(.int 99), (.int 5), (.ref b2), (.ref b2)])) rfl rfl (hb hby d1_588)
  have go33 := gap go30 st31
  have N31 := Fr.snoc X31 N26 low2
  have K31 : Keep h0 h31 [] := K26.wr W31 (Or.inr fsh2)
  have Zs31 : n0 ≤ h31.size := Nat.le_trans Zs26 (Keep.of_wr W31).1
  have F34 : Arv Z h31 b2 k2 .char (17 : Int32) [(.int 97), (.int 112), (.int 112), (.int 108), (.int 105), (.int 99), (.int 0), (.int 0), (.int 0), (.int 0), (.int 0), (.int 0), (.int 0), (.int 0), (.int 0), (.int 0), (.int 0)] (.int 0) := Arv.set Ar32 q32 S32 N32 H32 G32 (fits_nar_char _) W31 5 rfl (Nat.le_of_ble_eq_true rfl)
  have go35 : Go p.tables e below T31 (mkF m 594 Lnm21_0 [(.int 97), (.int 6), (.ref b2), (.ref b2)]) En := by
    intro t k
    refine go33 _ ?_
    refine XS.dup X31.here hx rfl (hb hby d1_589) rfl rfl ?_
    refine XS.bipush X31.here hx rfl (hb hby d1_590) ?_
    refine XS.bipush X31.here hx rfl (hb hby d1_592) ?_
    show Steps _ _ _ (T31.setTop (mkF m 594 Lnm21_0 [(.int 97), (.int 6), (.ref b2), (.ref b2)])) _
    exact k
  obtain ⟨cl37, Ar37, q37, S37, N37, H37, G37⟩ := id F34
  obtain ⟨T36, h36, X36, e36, W36, st36⟩ := stC X31 hx hZ e31 Ar37 (j := (6 : Int32)) (inb_of S37 ⟨by decide, by decide⟩) (g := (mkF m 594 Lnm21_0 [(.int 97), (.int 6), (.ref b2), (.ref b2)])) rfl rfl (hb hby d1_594)
  have go38 := gap go35 st36
  have N36 := Fr.snoc X36 N31 low2
  have K36 : Keep h0 h36 [] := K31.wr W36 (Or.inr fsh2)
  have Zs36 : n0 ≤ h36.size := Nat.le_trans Zs31 (Keep.of_wr W36).1
  have F39 : Arv Z h36 b2 k2 .char (17 : Int32) [(.int 97), (.int 112), (.int 112), (.int 108), (.int 105), (.int 99), (.int 97), (.int 0), (.int 0), (.int 0), (.int 0), (.int 0), (.int 0), (.int 0), (.int 0), (.int 0), (.int 0)] (.int 0) := Arv.set Ar37 q37 S37 N37 H37 G37 (fits_nar_char _) W36 6 rfl (Nat.le_of_ble_eq_true rfl)
  have go40 : Go p.tables e below T36 (mkF m 600 Lnm21_0 [(.int 116), (.int 7), (.ref b2), (.ref b2)]) En := by
    intro t k
    refine go38 _ ?_
    refine XS.dup X36.here hx rfl (hb hby d1_595) rfl rfl ?_
    refine XS.bipush X36.here hx rfl (hb hby d1_596) ?_
    refine XS.bipush X36.here hx rfl (hb hby d1_598) ?_
    show Steps _ _ _ (T36.setTop (mkF m 600 Lnm21_0 [(.int 116), (.int 7), (.ref b2), (.ref b2)])) _
    exact k
  obtain ⟨cl42, Ar42, q42, S42, N42, H42, G42⟩ := id F39
  obtain ⟨T41, h41, X41, e41, W41, st41⟩ := stC X36 hx hZ e36 Ar42 (j := (7 : Int32)) (inb_of S42 ⟨by decide, by decide⟩) (g := (mkF m 600 Lnm21_0 [(.int 116), (.int 7), (.ref b2), (.ref b2)])) rfl rfl (hb hby d1_600)
  have go43 := gap go40 st41
  have N41 := Fr.snoc X41 N36 low2
  have K41 : Keep h0 h41 [] := K36.wr W41 (Or.inr fsh2)
  have Zs41 : n0 ≤ h41.size := Nat.le_trans Zs36 (Keep.of_wr W41).1
  have F44 : Arv Z h41 b2 k2 .char (17 : Int32) [(.int 97), (.int 112), (.int 112), (.int 108), (.int 105), (.int 99), (.int 97), (.int 116), (.int 0), (.int 0), (.int 0), (.int 0), (.int 0), (.int 0), (.int 0), (.int 0), (.int 0)] (.int 0) := Arv.set Ar42 q42 S42 N42 H42 G42 (fits_nar_char _) W41 7 rfl (Nat.le_of_ble_eq_true rfl)
  have go45 : Go p.tables e below T41 (mkF m 606 Lnm21_0 [(.int 105), (.int 8), (.ref b2), (.ref b2)]) En := by
    intro t k
    refine go43 _ ?_
    refine XS.dup X41.here hx rfl (hb hby d1_601) rfl rfl ?_
    refine XS.bipush X41.here hx rfl (hb hby d1_602) ?_
    refine XS.bipush X41.here hx rfl (hb hby d1_604) ?_
    show Steps _ _ _ (T41.setTop (mkF m 606 Lnm21_0 [(.int 105), (.int 8), (.ref b2), (.ref b2)])) _
    exact k
  obtain ⟨cl47, Ar47, q47, S47, N47, H47, G47⟩ := id F44
  obtain ⟨T46, h46, X46, e46, W46, st46⟩ := stC X41 hx hZ e41 Ar47 (j := (8 : Int32)) (inb_of S47 ⟨by decide, by decide⟩) (g := (mkF m 606 Lnm21_0 [(.int 105), (.int 8), (.ref b2), (.ref b2)])) rfl rfl (hb hby d1_606)
  have go48 := gap go45 st46
  have N46 := Fr.snoc X46 N41 low2
  have K46 : Keep h0 h46 [] := K41.wr W46 (Or.inr fsh2)
  have Zs46 : n0 ≤ h46.size := Nat.le_trans Zs41 (Keep.of_wr W46).1
  have F49 : Arv Z h46 b2 k2 .char (17 : Int32) [(.int 97), (.int 112), (.int 112), (.int 108), (.int 105), (.int 99), (.int 97), (.int 116), (.int 105), (.int 0), (.int 0), (.int 0), (.int 0), (.int 0), (.int 0), (.int 0), (.int 0)] (.int 0) := Arv.set Ar47 q47 S47 N47 H47 G47 (fits_nar_char _) W46 8 rfl (Nat.le_of_ble_eq_true rfl)
  have go50 : Go p.tables e below T46 (mkF m 612 Lnm21_0 [(.int 111), (.int 9), (.ref b2), (.ref b2)]) En := by
    intro t k
    refine go48 _ ?_
    refine XS.dup X46.here hx rfl (hb hby d1_607) rfl rfl ?_
    refine XS.bipush X46.here hx rfl (hb hby d1_608) ?_
    refine XS.bipush X46.here hx rfl (hb hby d1_610) ?_
    show Steps _ _ _ (T46.setTop (mkF m 612 Lnm21_0 [(.int 111), (.int 9), (.ref b2), (.ref b2)])) _
    exact k
  obtain ⟨cl52, Ar52, q52, S52, N52, H52, G52⟩ := id F49
  obtain ⟨T51, h51, X51, e51, W51, st51⟩ := stC X46 hx hZ e46 Ar52 (j := (9 : Int32)) (inb_of S52 ⟨by decide, by decide⟩) (g := (mkF m 612 Lnm21_0 [(.int 111), (.int 9), (.ref b2), (.ref b2)])) rfl rfl (hb hby d1_612)
  have go53 := gap go50 st51
  have N51 := Fr.snoc X51 N46 low2
  have K51 : Keep h0 h51 [] := K46.wr W51 (Or.inr fsh2)
  have Zs51 : n0 ≤ h51.size := Nat.le_trans Zs46 (Keep.of_wr W51).1
  have F54 : Arv Z h51 b2 k2 .char (17 : Int32) [(.int 97), (.int 112), (.int 112), (.int 108), (.int 105), (.int 99), (.int 97), (.int 116), (.int 105), (.int 111), (.int 0), (.int 0), (.int 0), (.int 0), (.int 0), (.int 0), (.int 0)] (.int 0) := Arv.set Ar52 q52 S52 N52 H52 G52 (fits_nar_char _) W51 9 rfl (Nat.le_of_ble_eq_true rfl)
  have go55 : Go p.tables e below T51 (mkF m 618 Lnm21_0 [(.int 110), (.int 10), (.ref b2), (.ref b2)]) En := by
    intro t k
    refine go53 _ ?_
    refine XS.dup X51.here hx rfl (hb hby d1_613) rfl rfl ?_
    refine XS.bipush X51.here hx rfl (hb hby d1_614) ?_
    refine XS.bipush X51.here hx rfl (hb hby d1_616) ?_
    show Steps _ _ _ (T51.setTop (mkF m 618 Lnm21_0 [(.int 110), (.int 10), (.ref b2), (.ref b2)])) _
    exact k
  obtain ⟨cl57, Ar57, q57, S57, N57, H57, G57⟩ := id F54
  obtain ⟨T56, h56, X56, e56, W56, st56⟩ := stC X51 hx hZ e51 Ar57 (j := (10 : Int32)) (inb_of S57 ⟨by decide, by decide⟩) (g := (mkF m 618 Lnm21_0 [(.int 110), (.int 10), (.ref b2), (.ref b2)])) rfl rfl (hb hby d1_618)
  have go58 := gap go55 st56
  have N56 := Fr.snoc X56 N51 low2
  have K56 : Keep h0 h56 [] := K51.wr W56 (Or.inr fsh2)
  have Zs56 : n0 ≤ h56.size := Nat.le_trans Zs51 (Keep.of_wr W56).1
  have F59 : Arv Z h56 b2 k2 .char (17 : Int32) [(.int 97), (.int 112), (.int 112), (.int 108), (.int 105), (.int 99), (.int 97), (.int 116), (.int 105), (.int 111), (.int 110), (.int 0), (.int 0), (.int 0), (.int 0), (.int 0), (.int 0)] (.int 0) := Arv.set Ar57 q57 S57 N57 H57 G57 (fits_nar_char _) W56 10 rfl (Nat.le_of_ble_eq_true rfl)
  have go60 : Go p.tables e below T56 (mkF m 624 Lnm21_0 [(.int 83), (.int 11), (.ref b2), (.ref b2)]) En := by
    intro t k
    refine go58 _ ?_
    refine XS.dup X56.here hx rfl (hb hby d1_619) rfl rfl ?_
    refine XS.bipush X56.here hx rfl (hb hby d1_620) ?_
    refine XS.bipush X56.here hx rfl (hb hby d1_622) ?_
    show Steps _ _ _ (T56.setTop (mkF m 624 Lnm21_0 [(.int 83), (.int 11), (.ref b2), (.ref b2)])) _
    exact k
  obtain ⟨cl62, Ar62, q62, S62, N62, H62, G62⟩ := id F59
  obtain ⟨T61, h61, X61, e61, W61, st61⟩ := stC X56 hx hZ e56 Ar62 (j := (11 : Int32)) (inb_of S62 ⟨by decide, by decide⟩) (g := (mkF m 624 Lnm21_0 [(.int 83), (.int 11), (.ref b2), (.ref b2)])) rfl rfl (hb hby d1_624)
  have go63 := gap go60 st61
  have N61 := Fr.snoc X61 N56 low2
  have K61 : Keep h0 h61 [] := K56.wr W61 (Or.inr fsh2)
  have Zs61 : n0 ≤ h61.size := Nat.le_trans Zs56 (Keep.of_wr W61).1
  have F64 : Arv Z h61 b2 k2 .char (17 : Int32) [(.int 97), (.int 112), (.int 112), (.int 108), (.int 105), (.int 99), (.int 97), (.int 116), (.int 105), (.int 111), (.int 110), (.int 83), (.int 0), (.int 0), (.int 0), (.int 0), (.int 0)] (.int 0) := Arv.set Ar62 q62 S62 N62 H62 G62 (fits_nar_char _) W61 11 rfl (Nat.le_of_ble_eq_true rfl)
  have go65 : Go p.tables e below T61 (mkF m 630 Lnm21_0 [(.int 99), (.int 12), (.ref b2), (.ref b2)]) En := by
    intro t k
    refine go63 _ ?_
    refine XS.dup X61.here hx rfl (hb hby d1_625) rfl rfl ?_
    refine XS.bipush X61.here hx rfl (hb hby d1_626) ?_
    refine XS.bipush X61.here hx rfl (hb hby d1_628) ?_
    show Steps _ _ _ (T61.setTop (mkF m 630 Lnm21_0 [(.int 99), (.int 12), (.ref b2), (.ref b2)])) _
    exact k
  obtain ⟨cl67, Ar67, q67, S67, N67, H67, G67⟩ := id F64
  obtain ⟨T66, h66, X66, e66, W66, st66⟩ := stC X61 hx hZ e61 Ar67 (j := (12 : Int32)) (inb_of S67 ⟨by decide, by decide⟩) (g := (mkF m 630 Lnm21_0 [(.int 99), (.int 12), (.ref b2), (.ref b2)])) rfl rfl (hb hby d1_630)
  have go68 := gap go65 st66
  have N66 := Fr.snoc X66 N61 low2
  have K66 : Keep h0 h66 [] := K61.wr W66 (Or.inr fsh2)
  have Zs66 : n0 ≤ h66.size := Nat.le_trans Zs61 (Keep.of_wr W66).1
  have F69 : Arv Z h66 b2 k2 .char (17 : Int32) [(.int 97), (.int 112), (.int 112), (.int 108), (.int 105), (.int 99), (.int 97), (.int 116), (.int 105), (.int 111), (.int 110), (.int 83), (.int 99), (.int 0), (.int 0), (.int 0), (.int 0)] (.int 0) := Arv.set Ar67 q67 S67 N67 H67 G67 (fits_nar_char _) W66 12 rfl (Nat.le_of_ble_eq_true rfl)
  have go70 : Go p.tables e below T66 (mkF m 636 Lnm21_0 [(.int 111), (.int 13), (.ref b2), (.ref b2)]) En := by
    intro t k
    refine go68 _ ?_
    refine XS.dup X66.here hx rfl (hb hby d1_631) rfl rfl ?_
    refine XS.bipush X66.here hx rfl (hb hby d1_632) ?_
    refine XS.bipush X66.here hx rfl (hb hby d1_634) ?_
    show Steps _ _ _ (T66.setTop (mkF m 636 Lnm21_0 [(.int 111), (.int 13), (.ref b2), (.ref b2)])) _
    exact k
  obtain ⟨cl72, Ar72, q72, S72, N72, H72, G72⟩ := id F69
  obtain ⟨T71, h71, X71, e71, W71, st71⟩ := stC X66 hx hZ e66 Ar72 (j := (13 : Int32)) (inb_of S72 ⟨by decide, by decide⟩) (g := (mkF m 636 Lnm21_0 [(.int 111), (.int 13), (.ref b2), (.ref b2)])) rfl rfl (hb hby d1_636)
  have go73 := gap go70 st71
  have N71 := Fr.snoc X71 N66 low2
  have K71 : Keep h0 h71 [] := K66.wr W71 (Or.inr fsh2)
  have Zs71 : n0 ≤ h71.size := Nat.le_trans Zs66 (Keep.of_wr W71).1
  have F74 : Arv Z h71 b2 k2 .char (17 : Int32) [(.int 97), (.int 112), (.int 112), (.int 108), (.int 105), (.int 99), (.int 97), (.int 116), (.int 105), (.int 111), (.int 110), (.int 83), (.int 99), (.int 111), (.int 0), (.int 0), (.int 0)] (.int 0) := Arv.set Ar72 q72 S72 N72 H72 G72 (fits_nar_char _) W71 13 rfl (Nat.le_of_ble_eq_true rfl)
  have go75 : Go p.tables e below T71 (mkF m 642 Lnm21_0 [(.int 112), (.int 14), (.ref b2), (.ref b2)]) En := by
    intro t k
    refine go73 _ ?_
    refine XS.dup X71.here hx rfl (hb hby d1_637) rfl rfl ?_
    refine XS.bipush X71.here hx rfl (hb hby d1_638) ?_
    refine XS.bipush X71.here hx rfl (hb hby d1_640) ?_
    show Steps _ _ _ (T71.setTop (mkF m 642 Lnm21_0 [(.int 112), (.int 14), (.ref b2), (.ref b2)])) _
    exact k
  obtain ⟨cl77, Ar77, q77, S77, N77, H77, G77⟩ := id F74
  obtain ⟨T76, h76, X76, e76, W76, st76⟩ := stC X71 hx hZ e71 Ar77 (j := (14 : Int32)) (inb_of S77 ⟨by decide, by decide⟩) (g := (mkF m 642 Lnm21_0 [(.int 112), (.int 14), (.ref b2), (.ref b2)])) rfl rfl (hb hby d1_642)
  have go78 := gap go75 st76
  have N76 := Fr.snoc X76 N71 low2
  have K76 : Keep h0 h76 [] := K71.wr W76 (Or.inr fsh2)
  have Zs76 : n0 ≤ h76.size := Nat.le_trans Zs71 (Keep.of_wr W76).1
  have F79 : Arv Z h76 b2 k2 .char (17 : Int32) [(.int 97), (.int 112), (.int 112), (.int 108), (.int 105), (.int 99), (.int 97), (.int 116), (.int 105), (.int 111), (.int 110), (.int 83), (.int 99), (.int 111), (.int 112), (.int 0), (.int 0)] (.int 0) := Arv.set Ar77 q77 S77 N77 H77 G77 (fits_nar_char _) W76 14 rfl (Nat.le_of_ble_eq_true rfl)
  have go80 : Go p.tables e below T76 (mkF m 648 Lnm21_0 [(.int 101), (.int 15), (.ref b2), (.ref b2)]) En := by
    intro t k
    refine go78 _ ?_
    refine XS.dup X76.here hx rfl (hb hby d1_643) rfl rfl ?_
    refine XS.bipush X76.here hx rfl (hb hby d1_644) ?_
    refine XS.bipush X76.here hx rfl (hb hby d1_646) ?_
    show Steps _ _ _ (T76.setTop (mkF m 648 Lnm21_0 [(.int 101), (.int 15), (.ref b2), (.ref b2)])) _
    exact k
  obtain ⟨cl82, Ar82, q82, S82, N82, H82, G82⟩ := id F79
  obtain ⟨T81, h81, X81, e81, W81, st81⟩ := stC X76 hx hZ e76 Ar82 (j := (15 : Int32)) (inb_of S82 ⟨by decide, by decide⟩) (g := (mkF m 648 Lnm21_0 [(.int 101), (.int 15), (.ref b2), (.ref b2)])) rfl rfl (hb hby d1_648)
  have go83 := gap go80 st81
  have N81 := Fr.snoc X81 N76 low2
  have K81 : Keep h0 h81 [] := K76.wr W81 (Or.inr fsh2)
  have Zs81 : n0 ≤ h81.size := Nat.le_trans Zs76 (Keep.of_wr W81).1
  have F84 : Arv Z h81 b2 k2 .char (17 : Int32) [(.int 97), (.int 112), (.int 112), (.int 108), (.int 105), (.int 99), (.int 97), (.int 116), (.int 105), (.int 111), (.int 110), (.int 83), (.int 99), (.int 111), (.int 112), (.int 101), (.int 0)] (.int 0) := Arv.set Ar82 q82 S82 N82 H82 G82 (fits_nar_char _) W81 15 rfl (Nat.le_of_ble_eq_true rfl)
  have go85 : Go p.tables e below T81 (mkF m 653 Lnm21_0 [(.int 0), (.int 16), (.ref b2), (.ref b2)]) En := by
    intro t k
    refine go83 _ ?_
    refine XS.dup X81.here hx rfl (hb hby d1_649) rfl rfl ?_
    refine XS.bipush X81.here hx rfl (hb hby d1_650) ?_
    refine XS.iconst X81.here hx rfl (hb hby d1_652) ?_
    show Steps _ _ _ (T81.setTop (mkF m 653 Lnm21_0 [(.int 0), (.int 16), (.ref b2), (.ref b2)])) _
    exact k
  obtain ⟨cl87, Ar87, q87, S87, N87, H87, G87⟩ := id F84
  obtain ⟨T86, h86, X86, e86, W86, st86⟩ := stC X81 hx hZ e81 Ar87 (j := (16 : Int32)) (inb_of S87 ⟨by decide, by decide⟩) (g := (mkF m 653 Lnm21_0 [(.int 0), (.int 16), (.ref b2), (.ref b2)])) rfl rfl (hb hby d1_653)
  have go88 := gap go85 st86
  have N86 := Fr.snoc X86 N81 low2
  have K86 : Keep h0 h86 [] := K81.wr W86 (Or.inr fsh2)
  have Zs86 : n0 ≤ h86.size := Nat.le_trans Zs81 (Keep.of_wr W86).1
  have F89 : Arv Z h86 b2 k2 .char (17 : Int32) [(.int 97), (.int 112), (.int 112), (.int 108), (.int 105), (.int 99), (.int 97), (.int 116), (.int 105), (.int 111), (.int 110), (.int 83), (.int 99), (.int 111), (.int 112), (.int 101), (.int 0)] (.int 0) := Arv.set Ar87 q87 S87 N87 H87 G87 (fits_nar_char _) W86 16 rfl (Nat.le_of_ble_eq_true rfl)
  refine own_out (w := (.ref b2)) X86 hx hlk go88 hrt rfl (Or.inr (Or.inr (Or.inr (Or.inr ⟨rfl, rfl, rfl⟩)))) (hb hby d1_654) e86 (by decide) (by decide) ?_
  exact ⟨b2, k2, rfl, N86, K86, fsh2, F89⟩
theorem d1_655 : decode method_2_code 655 = .ok (.bipush 15, 2) := by decide +kernel
theorem d1_657 : decode method_2_code 657 = .ok (.newarray .char, 2) := by decide +kernel
theorem d1_659 : decode method_2_code 659 = .ok (.dup, 1) := by decide +kernel
theorem d1_660 : decode method_2_code 660 = .ok (.iconst 0, 1) := by decide +kernel
theorem d1_661 : decode method_2_code 661 = .ok (.bipush 97, 2) := by decide +kernel
theorem d1_663 : decode method_2_code 663 = .ok (.castore, 1) := by decide +kernel
theorem d1_664 : decode method_2_code 664 = .ok (.dup, 1) := by decide +kernel
theorem d1_665 : decode method_2_code 665 = .ok (.iconst 1, 1) := by decide +kernel
theorem d1_666 : decode method_2_code 666 = .ok (.bipush 112, 2) := by decide +kernel
theorem d1_668 : decode method_2_code 668 = .ok (.castore, 1) := by decide +kernel
theorem d1_669 : decode method_2_code 669 = .ok (.dup, 1) := by decide +kernel
theorem d1_670 : decode method_2_code 670 = .ok (.iconst 2, 1) := by decide +kernel
theorem d1_671 : decode method_2_code 671 = .ok (.bipush 112, 2) := by decide +kernel
theorem d1_673 : decode method_2_code 673 = .ok (.castore, 1) := by decide +kernel
theorem d1_674 : decode method_2_code 674 = .ok (.dup, 1) := by decide +kernel
theorem d1_675 : decode method_2_code 675 = .ok (.iconst 3, 1) := by decide +kernel
theorem d1_676 : decode method_2_code 676 = .ok (.bipush 108, 2) := by decide +kernel
theorem d1_678 : decode method_2_code 678 = .ok (.castore, 1) := by decide +kernel
theorem d1_679 : decode method_2_code 679 = .ok (.dup, 1) := by decide +kernel
theorem d1_680 : decode method_2_code 680 = .ok (.iconst 4, 1) := by decide +kernel
theorem d1_681 : decode method_2_code 681 = .ok (.bipush 105, 2) := by decide +kernel
theorem d1_683 : decode method_2_code 683 = .ok (.castore, 1) := by decide +kernel
theorem d1_684 : decode method_2_code 684 = .ok (.dup, 1) := by decide +kernel
theorem d1_685 : decode method_2_code 685 = .ok (.iconst 5, 1) := by decide +kernel
theorem d1_686 : decode method_2_code 686 = .ok (.bipush 99, 2) := by decide +kernel
theorem d1_688 : decode method_2_code 688 = .ok (.castore, 1) := by decide +kernel
theorem d1_689 : decode method_2_code 689 = .ok (.dup, 1) := by decide +kernel
theorem d1_690 : decode method_2_code 690 = .ok (.bipush 6, 2) := by decide +kernel
theorem d1_692 : decode method_2_code 692 = .ok (.bipush 97, 2) := by decide +kernel
theorem d1_694 : decode method_2_code 694 = .ok (.castore, 1) := by decide +kernel
theorem d1_695 : decode method_2_code 695 = .ok (.dup, 1) := by decide +kernel
theorem d1_696 : decode method_2_code 696 = .ok (.bipush 7, 2) := by decide +kernel
theorem d1_698 : decode method_2_code 698 = .ok (.bipush 116, 2) := by decide +kernel
theorem d1_700 : decode method_2_code 700 = .ok (.castore, 1) := by decide +kernel
theorem d1_701 : decode method_2_code 701 = .ok (.dup, 1) := by decide +kernel
theorem d1_702 : decode method_2_code 702 = .ok (.bipush 8, 2) := by decide +kernel
theorem d1_704 : decode method_2_code 704 = .ok (.bipush 105, 2) := by decide +kernel
theorem d1_706 : decode method_2_code 706 = .ok (.castore, 1) := by decide +kernel
theorem d1_707 : decode method_2_code 707 = .ok (.dup, 1) := by decide +kernel
theorem d1_708 : decode method_2_code 708 = .ok (.bipush 9, 2) := by decide +kernel
theorem d1_710 : decode method_2_code 710 = .ok (.bipush 111, 2) := by decide +kernel
theorem d1_712 : decode method_2_code 712 = .ok (.castore, 1) := by decide +kernel
theorem d1_713 : decode method_2_code 713 = .ok (.dup, 1) := by decide +kernel
theorem d1_714 : decode method_2_code 714 = .ok (.bipush 10, 2) := by decide +kernel
theorem d1_716 : decode method_2_code 716 = .ok (.bipush 110, 2) := by decide +kernel
theorem d1_718 : decode method_2_code 718 = .ok (.castore, 1) := by decide +kernel
theorem d1_719 : decode method_2_code 719 = .ok (.dup, 1) := by decide +kernel
theorem d1_720 : decode method_2_code 720 = .ok (.bipush 11, 2) := by decide +kernel
theorem d1_722 : decode method_2_code 722 = .ok (.bipush 83, 2) := by decide +kernel
theorem d1_724 : decode method_2_code 724 = .ok (.castore, 1) := by decide +kernel
theorem d1_725 : decode method_2_code 725 = .ok (.dup, 1) := by decide +kernel
theorem d1_726 : decode method_2_code 726 = .ok (.bipush 12, 2) := by decide +kernel
theorem d1_728 : decode method_2_code 728 = .ok (.bipush 99, 2) := by decide +kernel
theorem d1_730 : decode method_2_code 730 = .ok (.castore, 1) := by decide +kernel
theorem d1_731 : decode method_2_code 731 = .ok (.dup, 1) := by decide +kernel
theorem d1_732 : decode method_2_code 732 = .ok (.bipush 13, 2) := by decide +kernel
theorem d1_734 : decode method_2_code 734 = .ok (.bipush 111, 2) := by decide +kernel
theorem d1_736 : decode method_2_code 736 = .ok (.castore, 1) := by decide +kernel
theorem d1_737 : decode method_2_code 737 = .ok (.dup, 1) := by decide +kernel
theorem d1_738 : decode method_2_code 738 = .ok (.bipush 14, 2) := by decide +kernel
theorem d1_740 : decode method_2_code 740 = .ok (.bipush 112, 2) := by decide +kernel
theorem d1_742 : decode method_2_code 742 = .ok (.castore, 1) := by decide +kernel
theorem d1_743 : decode method_2_code 743 = .ok (.areturn, 1) := by decide +kernel
def Qnm22 (Z : State) (n0 : Nat) (h0 : Heap) (v : Option Value) (h : Heap) (L : List Loc) : Prop := ∃ (b : Addr) (kb : ClassId), v = some (.ref b) ∧ Fr n0 L ∧ Keep h0 h [] ∧ h0.size ≤ b ∧ Arv Z h b kb .char (15 : Int32) [(.int (97 : Int32)), (.int (112 : Int32)), (.int (112 : Int32)), (.int (108 : Int32)), (.int (105 : Int32)), (.int (99 : Int32)), (.int (97 : Int32)), (.int (116 : Int32)), (.int (105 : Int32)), (.int (111 : Int32)), (.int (110 : Int32)), (.int (83 : Int32)), (.int (99 : Int32)), (.int (111 : Int32)), (.int (112 : Int32))] (.int (0 : Int32))
theorem efnm22 (m : MethodId) : entryFrame m #[(.int (2 : Int32)), (.int (2 : Int32))] 2 = mkF m 0 #[iv (2 : Int32), iv (2 : Int32)] [] := by first | (simp [entryFrame, mkF, argsToLocals, Value.category]; done) | rfl
abbrev Lnm22_0 : Array Slot := #[iv 2, iv 2]
set_option maxRecDepth 65536 in
set_option maxHeartbeats 40000000 in
theorem rmnm22 (l : Launch) (Z : State) (aZ : Array Value) (hw : ∀ d ∈ tables_1, d.before aZ Z = true) (ws : List Jvm.Cond) (h0 : Heap) (n0 : Nat) (Z0 : n0 ≤ h0.size) :
    MFn l (⟨"com/example/calycule/calycule/config/ModuleContextIsImplicitPinLaw", "name", "(II)[C"⟩ : MethodName) method_2_code 2 (some (.array .char)) ws (Rm 0 1 15 0) #[(.int 2), (.int 2)] Z h0 (Qnm22 Z n0 h0) := by
  refine own_mf (C := "com/example/calycule/calycule/config/ModuleContextIsImplicitPinLaw") rfl (plainFor_of_name pn_84) (fun m => efnm22 m) ?_
  intro p e s m below meth cd0 s₁ En hx hby hml hown hnm hZ X0 e0 hlk hrt go0
  have N0 := Fr.nil n0
  have K0 : Keep h0 h0 [] := Keep.refl _ _
  have go1 : Go p.tables e below s₁ (mkF m 657 Lnm22_0 [(.int 15)]) En := by
    intro t k
    refine go0 _ ?_
    refine XS.iloadN X0.here hx rfl (hb hby d1_0) rfl ?_
    refine XS.ifYes X0.here hx rfl (pc0 := 1) (pc' := 243) rfl (hb hby d1_1) rfl (XT.i0_ne_t (by decide : ¬ ((2 : Int32) = (0 : Int32)))) (by decide) (by decide) ?_
    refine XS.iloadN X0.here hx rfl (hb hby d1_243) rfl ?_
    show Steps _ _ _ (s₁.setTop (mkF m 244 Lnm22_0 [(.int 2)])) _
    refine XS.iconst X0.here hx rfl (hb hby d1_244) ?_
    refine XS.icmpYes X0.here hx rfl (pc0 := 245) (pc' := 451) rfl (hb hby d1_245) rfl (XT.ii_ne_t (by decide : ¬ ((2 : Int32) = (1 : Int32)))) (by decide) (by decide) ?_
    refine XS.iloadN X0.here hx rfl (hb hby d1_451) rfl ?_
    show Steps _ _ _ (s₁.setTop (mkF m 452 Lnm22_0 [(.int 2)])) _
    refine XS.ifYes X0.here hx rfl (pc0 := 452) (pc' := 550) rfl (hb hby d1_452) rfl (XT.i0_ne_t (by decide : ¬ ((2 : Int32) = (0 : Int32)))) (by decide) (by decide) ?_
    refine XS.iloadN X0.here hx rfl (hb hby d1_550) rfl ?_
    refine XS.iconst X0.here hx rfl (hb hby d1_551) ?_
    show Steps _ _ _ (s₁.setTop (mkF m 552 Lnm22_0 [(.int 1), (.int 2)])) _
    refine XS.icmpYes X0.here hx rfl (pc0 := 552) (pc' := 655) rfl (hb hby d1_552) rfl (XT.ii_ne_t (by decide : ¬ ((2 : Int32) = (1 : Int32)))) (by decide) (by decide) ?_
    refine XS.bipush X0.here hx rfl (hb hby d1_655) ?_
    exact k
  obtain ⟨T2, h2, k2, X2, e2, E2, A2, st2⟩ := newP X0 hx hZ (hw _ (mi 5 rfl)) e0 (g := (mkF m 657 Lnm22_0 [(.int 15)])) rfl (hb hby d1_657) rfl (by decide) (cap := 15) (by decide) (by decide) (by decide) (by decide)
  obtain ⟨b2, g2⟩ : ∃ z, z = h0.size := ⟨_, rfl⟩
  rw [← g2] at A2 st2
  have low2 : n0 ≤ b2 := Nat.le_trans Z0 (Nat.le_of_eq g2.symm)
  have fsh2 : h0.size ≤ b2 := Nat.le_trans K0.1 (Nat.le_of_eq g2.symm)
  have K2 : Keep h0 h2 [] := K0.ext E2
  have Zs2 : n0 ≤ h2.size := Nat.le_trans Z0 E2.1
  have go3 := gap go1 st2
  have F4 : Arv Z h2 b2 k2 .char (15 : Int32) [(.int 0), (.int 0), (.int 0), (.int 0), (.int 0), (.int 0), (.int 0), (.int 0), (.int 0), (.int 0), (.int 0), (.int 0), (.int 0), (.int 0), (.int 0)] (.int 0) := (Arv.new A2 (by decide)).pad (pad_rep [] (.int 0) 15)
  have go5 : Go p.tables e below T2 (mkF m 663 Lnm22_0 [(.int 97), (.int 0), (.ref b2), (.ref b2)]) En := by
    intro t k
    refine go3 _ ?_
    refine XS.dup X2.here hx rfl (hb hby d1_659) rfl rfl ?_
    refine XS.iconst X2.here hx rfl (hb hby d1_660) ?_
    refine XS.bipush X2.here hx rfl (hb hby d1_661) ?_
    show Steps _ _ _ (T2.setTop (mkF m 663 Lnm22_0 [(.int 97), (.int 0), (.ref b2), (.ref b2)])) _
    exact k
  obtain ⟨cl7, Ar7, q7, S7, N7, H7, G7⟩ := id F4
  obtain ⟨T6, h6, X6, e6, W6, st6⟩ := stC X2 hx hZ e2 Ar7 (j := (0 : Int32)) (inb_of S7 ⟨by decide, by decide⟩) (g := (mkF m 663 Lnm22_0 [(.int 97), (.int 0), (.ref b2), (.ref b2)])) rfl rfl (hb hby d1_663)
  have go8 := gap go5 st6
  have N6 := Fr.snoc X6 N0 low2
  have K6 : Keep h0 h6 [] := K2.wr W6 (Or.inr fsh2)
  have Zs6 : n0 ≤ h6.size := Nat.le_trans Zs2 (Keep.of_wr W6).1
  have F9 : Arv Z h6 b2 k2 .char (15 : Int32) [(.int 97), (.int 0), (.int 0), (.int 0), (.int 0), (.int 0), (.int 0), (.int 0), (.int 0), (.int 0), (.int 0), (.int 0), (.int 0), (.int 0), (.int 0)] (.int 0) := Arv.set Ar7 q7 S7 N7 H7 G7 (fits_nar_char _) W6 0 rfl (Nat.le_of_ble_eq_true rfl)
  have go10 : Go p.tables e below T6 (mkF m 668 Lnm22_0 [(.int 112), (.int 1), (.ref b2), (.ref b2)]) En := by
    intro t k
    refine go8 _ ?_
    refine XS.dup X6.here hx rfl (hb hby d1_664) rfl rfl ?_
    refine XS.iconst X6.here hx rfl (hb hby d1_665) ?_
    refine XS.bipush X6.here hx rfl (hb hby d1_666) ?_
    show Steps _ _ _ (T6.setTop (mkF m 668 Lnm22_0 [(.int 112), (.int 1), (.ref b2), (.ref b2)])) _
    exact k
  obtain ⟨cl12, Ar12, q12, S12, N12, H12, G12⟩ := id F9
  obtain ⟨T11, h11, X11, e11, W11, st11⟩ := stC X6 hx hZ e6 Ar12 (j := (1 : Int32)) (inb_of S12 ⟨by decide, by decide⟩) (g := (mkF m 668 Lnm22_0 [(.int 112), (.int 1), (.ref b2), (.ref b2)])) rfl rfl (hb hby d1_668)
  have go13 := gap go10 st11
  have N11 := Fr.snoc X11 N6 low2
  have K11 : Keep h0 h11 [] := K6.wr W11 (Or.inr fsh2)
  have Zs11 : n0 ≤ h11.size := Nat.le_trans Zs6 (Keep.of_wr W11).1
  have F14 : Arv Z h11 b2 k2 .char (15 : Int32) [(.int 97), (.int 112), (.int 0), (.int 0), (.int 0), (.int 0), (.int 0), (.int 0), (.int 0), (.int 0), (.int 0), (.int 0), (.int 0), (.int 0), (.int 0)] (.int 0) := Arv.set Ar12 q12 S12 N12 H12 G12 (fits_nar_char _) W11 1 rfl (Nat.le_of_ble_eq_true rfl)
  have go15 : Go p.tables e below T11 (mkF m 673 Lnm22_0 [(.int 112), (.int 2), (.ref b2), (.ref b2)]) En := by
    intro t k
    refine go13 _ ?_
    refine XS.dup X11.here hx rfl (hb hby d1_669) rfl rfl ?_
    refine XS.iconst X11.here hx rfl (hb hby d1_670) ?_
    refine XS.bipush X11.here hx rfl (hb hby d1_671) ?_
    show Steps _ _ _ (T11.setTop (mkF m 673 Lnm22_0 [(.int 112), (.int 2), (.ref b2), (.ref b2)])) _
    exact k
  obtain ⟨cl17, Ar17, q17, S17, N17, H17, G17⟩ := id F14
  obtain ⟨T16, h16, X16, e16, W16, st16⟩ := stC X11 hx hZ e11 Ar17 (j := (2 : Int32)) (inb_of S17 ⟨by decide, by decide⟩) (g := (mkF m 673 Lnm22_0 [(.int 112), (.int 2), (.ref b2), (.ref b2)])) rfl rfl (hb hby d1_673)
  have go18 := gap go15 st16
  have N16 := Fr.snoc X16 N11 low2
  have K16 : Keep h0 h16 [] := K11.wr W16 (Or.inr fsh2)
  have Zs16 : n0 ≤ h16.size := Nat.le_trans Zs11 (Keep.of_wr W16).1
  have F19 : Arv Z h16 b2 k2 .char (15 : Int32) [(.int 97), (.int 112), (.int 112), (.int 0), (.int 0), (.int 0), (.int 0), (.int 0), (.int 0), (.int 0), (.int 0), (.int 0), (.int 0), (.int 0), (.int 0)] (.int 0) := Arv.set Ar17 q17 S17 N17 H17 G17 (fits_nar_char _) W16 2 rfl (Nat.le_of_ble_eq_true rfl)
  have go20 : Go p.tables e below T16 (mkF m 678 Lnm22_0 [(.int 108), (.int 3), (.ref b2), (.ref b2)]) En := by
    intro t k
    refine go18 _ ?_
    refine XS.dup X16.here hx rfl (hb hby d1_674) rfl rfl ?_
    refine XS.iconst X16.here hx rfl (hb hby d1_675) ?_
    refine XS.bipush X16.here hx rfl (hb hby d1_676) ?_
    show Steps _ _ _ (T16.setTop (mkF m 678 Lnm22_0 [(.int 108), (.int 3), (.ref b2), (.ref b2)])) _
    exact k
  obtain ⟨cl22, Ar22, q22, S22, N22, H22, G22⟩ := id F19
  obtain ⟨T21, h21, X21, e21, W21, st21⟩ := stC X16 hx hZ e16 Ar22 (j := (3 : Int32)) (inb_of S22 ⟨by decide, by decide⟩) (g := (mkF m 678 Lnm22_0 [(.int 108), (.int 3), (.ref b2), (.ref b2)])) rfl rfl (hb hby d1_678)
  have go23 := gap go20 st21
  have N21 := Fr.snoc X21 N16 low2
  have K21 : Keep h0 h21 [] := K16.wr W21 (Or.inr fsh2)
  have Zs21 : n0 ≤ h21.size := Nat.le_trans Zs16 (Keep.of_wr W21).1
  have F24 : Arv Z h21 b2 k2 .char (15 : Int32) [(.int 97), (.int 112), (.int 112), (.int 108), (.int 0), (.int 0), (.int 0), (.int 0), (.int 0), (.int 0), (.int 0), (.int 0), (.int 0), (.int 0), (.int 0)] (.int 0) := Arv.set Ar22 q22 S22 N22 H22 G22 (fits_nar_char _) W21 3 rfl (Nat.le_of_ble_eq_true rfl)
  have go25 : Go p.tables e below T21 (mkF m 683 Lnm22_0 [(.int 105), (.int 4), (.ref b2), (.ref b2)]) En := by
    intro t k
    refine go23 _ ?_
    refine XS.dup X21.here hx rfl (hb hby d1_679) rfl rfl ?_
    refine XS.iconst X21.here hx rfl (hb hby d1_680) ?_
    refine XS.bipush X21.here hx rfl (hb hby d1_681) ?_
    show Steps _ _ _ (T21.setTop (mkF m 683 Lnm22_0 [(.int 105), (.int 4), (.ref b2), (.ref b2)])) _
    exact k
  obtain ⟨cl27, Ar27, q27, S27, N27, H27, G27⟩ := id F24
  obtain ⟨T26, h26, X26, e26, W26, st26⟩ := stC X21 hx hZ e21 Ar27 (j := (4 : Int32)) (inb_of S27 ⟨by decide, by decide⟩) (g := (mkF m 683 Lnm22_0 [(.int 105), (.int 4), (.ref b2), (.ref b2)])) rfl rfl (hb hby d1_683)
  have go28 := gap go25 st26
  have N26 := Fr.snoc X26 N21 low2
  have K26 : Keep h0 h26 [] := K21.wr W26 (Or.inr fsh2)
  have Zs26 : n0 ≤ h26.size := Nat.le_trans Zs21 (Keep.of_wr W26).1
  have F29 : Arv Z h26 b2 k2 .char (15 : Int32) [(.int 97), (.int 112), (.int 112), (.int 108), (.int 105), (.int 0), (.int 0), (.int 0), (.int 0), (.int 0), (.int 0), (.int 0), (.int 0), (.int 0), (.int 0)] (.int 0) := Arv.set Ar27 q27 S27 N27 H27 G27 (fits_nar_char _) W26 4 rfl (Nat.le_of_ble_eq_true rfl)
  have go30 : Go p.tables e below T26 (mkF m 688 Lnm22_0 [(.int 99), (.int 5), (.ref b2), (.ref b2)]) En := by
    intro t k
    refine go28 _ ?_
    refine XS.dup X26.here hx rfl (hb hby d1_684) rfl rfl ?_
    refine XS.iconst X26.here hx rfl (hb hby d1_685) ?_
    refine XS.bipush X26.here hx rfl (hb hby d1_686) ?_
    show Steps _ _ _ (T26.setTop (mkF m 688 Lnm22_0 [(.int 99), (.int 5), (.ref b2), (.ref b2)])) _
    exact k
  obtain ⟨cl32, Ar32, q32, S32, N32, H32, G32⟩ := id F29
  obtain ⟨T31, h31, X31, e31, W31, st31⟩ := stC X26 hx hZ e26 Ar32 (j := (5 : Int32)) (inb_of S32 ⟨by decide, by decide⟩) (g := (mkF m 688 Lnm22_0 [(.int 99), (.int 5), (.ref b2), (.ref b2)])) rfl rfl (hb hby d1_688)
  have go33 := gap go30 st31
  have N31 := Fr.snoc X31 N26 low2
  have K31 : Keep h0 h31 [] := K26.wr W31 (Or.inr fsh2)
  have Zs31 : n0 ≤ h31.size := Nat.le_trans Zs26 (Keep.of_wr W31).1
  have F34 : Arv Z h31 b2 k2 .char (15 : Int32) [(.int 97), (.int 112), (.int 112), (.int 108), (.int 105), (.int 99), (.int 0), (.int 0), (.int 0), (.int 0), (.int 0), (.int 0), (.int 0), (.int 0), (.int 0)] (.int 0) := Arv.set Ar32 q32 S32 N32 H32 G32 (fits_nar_char _) W31 5 rfl (Nat.le_of_ble_eq_true rfl)
  have go35 : Go p.tables e below T31 (mkF m 694 Lnm22_0 [(.int 97), (.int 6), (.ref b2), (.ref b2)]) En := by
    intro t k
    refine go33 _ ?_
    refine XS.dup X31.here hx rfl (hb hby d1_689) rfl rfl ?_
    refine XS.bipush X31.here hx rfl (hb hby d1_690) ?_
    refine XS.bipush X31.here hx rfl (hb hby d1_692) ?_
    show Steps _ _ _ (T31.setTop (mkF m 694 Lnm22_0 [(.int 97), (.int 6), (.ref b2), (.ref b2)])) _
    exact k
  obtain ⟨cl37, Ar37, q37, S37, N37, H37, G37⟩ := id F34
  obtain ⟨T36, h36, X36, e36, W36, st36⟩ := stC X31 hx hZ e31 Ar37 (j := (6 : Int32)) (inb_of S37 ⟨by decide, by decide⟩) (g := (mkF m 694 Lnm22_0 [(.int 97), (.int 6), (.ref b2), (.ref b2)])) rfl rfl (hb hby d1_694)
  have go38 := gap go35 st36
  have N36 := Fr.snoc X36 N31 low2
  have K36 : Keep h0 h36 [] := K31.wr W36 (Or.inr fsh2)
  have Zs36 : n0 ≤ h36.size := Nat.le_trans Zs31 (Keep.of_wr W36).1
  have F39 : Arv Z h36 b2 k2 .char (15 : Int32) [(.int 97), (.int 112), (.int 112), (.int 108), (.int 105), (.int 99), (.int 97), (.int 0), (.int 0), (.int 0), (.int 0), (.int 0), (.int 0), (.int 0), (.int 0)] (.int 0) := Arv.set Ar37 q37 S37 N37 H37 G37 (fits_nar_char _) W36 6 rfl (Nat.le_of_ble_eq_true rfl)
  have go40 : Go p.tables e below T36 (mkF m 700 Lnm22_0 [(.int 116), (.int 7), (.ref b2), (.ref b2)]) En := by
    intro t k
    refine go38 _ ?_
    refine XS.dup X36.here hx rfl (hb hby d1_695) rfl rfl ?_
    refine XS.bipush X36.here hx rfl (hb hby d1_696) ?_
    refine XS.bipush X36.here hx rfl (hb hby d1_698) ?_
    show Steps _ _ _ (T36.setTop (mkF m 700 Lnm22_0 [(.int 116), (.int 7), (.ref b2), (.ref b2)])) _
    exact k
  obtain ⟨cl42, Ar42, q42, S42, N42, H42, G42⟩ := id F39
  obtain ⟨T41, h41, X41, e41, W41, st41⟩ := stC X36 hx hZ e36 Ar42 (j := (7 : Int32)) (inb_of S42 ⟨by decide, by decide⟩) (g := (mkF m 700 Lnm22_0 [(.int 116), (.int 7), (.ref b2), (.ref b2)])) rfl rfl (hb hby d1_700)
  have go43 := gap go40 st41
  have N41 := Fr.snoc X41 N36 low2
  have K41 : Keep h0 h41 [] := K36.wr W41 (Or.inr fsh2)
  have Zs41 : n0 ≤ h41.size := Nat.le_trans Zs36 (Keep.of_wr W41).1
  have F44 : Arv Z h41 b2 k2 .char (15 : Int32) [(.int 97), (.int 112), (.int 112), (.int 108), (.int 105), (.int 99), (.int 97), (.int 116), (.int 0), (.int 0), (.int 0), (.int 0), (.int 0), (.int 0), (.int 0)] (.int 0) := Arv.set Ar42 q42 S42 N42 H42 G42 (fits_nar_char _) W41 7 rfl (Nat.le_of_ble_eq_true rfl)
  have go45 : Go p.tables e below T41 (mkF m 706 Lnm22_0 [(.int 105), (.int 8), (.ref b2), (.ref b2)]) En := by
    intro t k
    refine go43 _ ?_
    refine XS.dup X41.here hx rfl (hb hby d1_701) rfl rfl ?_
    refine XS.bipush X41.here hx rfl (hb hby d1_702) ?_
    refine XS.bipush X41.here hx rfl (hb hby d1_704) ?_
    show Steps _ _ _ (T41.setTop (mkF m 706 Lnm22_0 [(.int 105), (.int 8), (.ref b2), (.ref b2)])) _
    exact k
  obtain ⟨cl47, Ar47, q47, S47, N47, H47, G47⟩ := id F44
  obtain ⟨T46, h46, X46, e46, W46, st46⟩ := stC X41 hx hZ e41 Ar47 (j := (8 : Int32)) (inb_of S47 ⟨by decide, by decide⟩) (g := (mkF m 706 Lnm22_0 [(.int 105), (.int 8), (.ref b2), (.ref b2)])) rfl rfl (hb hby d1_706)
  have go48 := gap go45 st46
  have N46 := Fr.snoc X46 N41 low2
  have K46 : Keep h0 h46 [] := K41.wr W46 (Or.inr fsh2)
  have Zs46 : n0 ≤ h46.size := Nat.le_trans Zs41 (Keep.of_wr W46).1
  have F49 : Arv Z h46 b2 k2 .char (15 : Int32) [(.int 97), (.int 112), (.int 112), (.int 108), (.int 105), (.int 99), (.int 97), (.int 116), (.int 105), (.int 0), (.int 0), (.int 0), (.int 0), (.int 0), (.int 0)] (.int 0) := Arv.set Ar47 q47 S47 N47 H47 G47 (fits_nar_char _) W46 8 rfl (Nat.le_of_ble_eq_true rfl)
  have go50 : Go p.tables e below T46 (mkF m 712 Lnm22_0 [(.int 111), (.int 9), (.ref b2), (.ref b2)]) En := by
    intro t k
    refine go48 _ ?_
    refine XS.dup X46.here hx rfl (hb hby d1_707) rfl rfl ?_
    refine XS.bipush X46.here hx rfl (hb hby d1_708) ?_
    refine XS.bipush X46.here hx rfl (hb hby d1_710) ?_
    show Steps _ _ _ (T46.setTop (mkF m 712 Lnm22_0 [(.int 111), (.int 9), (.ref b2), (.ref b2)])) _
    exact k
  obtain ⟨cl52, Ar52, q52, S52, N52, H52, G52⟩ := id F49
  obtain ⟨T51, h51, X51, e51, W51, st51⟩ := stC X46 hx hZ e46 Ar52 (j := (9 : Int32)) (inb_of S52 ⟨by decide, by decide⟩) (g := (mkF m 712 Lnm22_0 [(.int 111), (.int 9), (.ref b2), (.ref b2)])) rfl rfl (hb hby d1_712)
  have go53 := gap go50 st51
  have N51 := Fr.snoc X51 N46 low2
  have K51 : Keep h0 h51 [] := K46.wr W51 (Or.inr fsh2)
  have Zs51 : n0 ≤ h51.size := Nat.le_trans Zs46 (Keep.of_wr W51).1
  have F54 : Arv Z h51 b2 k2 .char (15 : Int32) [(.int 97), (.int 112), (.int 112), (.int 108), (.int 105), (.int 99), (.int 97), (.int 116), (.int 105), (.int 111), (.int 0), (.int 0), (.int 0), (.int 0), (.int 0)] (.int 0) := Arv.set Ar52 q52 S52 N52 H52 G52 (fits_nar_char _) W51 9 rfl (Nat.le_of_ble_eq_true rfl)
  have go55 : Go p.tables e below T51 (mkF m 718 Lnm22_0 [(.int 110), (.int 10), (.ref b2), (.ref b2)]) En := by
    intro t k
    refine go53 _ ?_
    refine XS.dup X51.here hx rfl (hb hby d1_713) rfl rfl ?_
    refine XS.bipush X51.here hx rfl (hb hby d1_714) ?_
    refine XS.bipush X51.here hx rfl (hb hby d1_716) ?_
    show Steps _ _ _ (T51.setTop (mkF m 718 Lnm22_0 [(.int 110), (.int 10), (.ref b2), (.ref b2)])) _
    exact k
  obtain ⟨cl57, Ar57, q57, S57, N57, H57, G57⟩ := id F54
  obtain ⟨T56, h56, X56, e56, W56, st56⟩ := stC X51 hx hZ e51 Ar57 (j := (10 : Int32)) (inb_of S57 ⟨by decide, by decide⟩) (g := (mkF m 718 Lnm22_0 [(.int 110), (.int 10), (.ref b2), (.ref b2)])) rfl rfl (hb hby d1_718)
  have go58 := gap go55 st56
  have N56 := Fr.snoc X56 N51 low2
  have K56 : Keep h0 h56 [] := K51.wr W56 (Or.inr fsh2)
  have Zs56 : n0 ≤ h56.size := Nat.le_trans Zs51 (Keep.of_wr W56).1
  have F59 : Arv Z h56 b2 k2 .char (15 : Int32) [(.int 97), (.int 112), (.int 112), (.int 108), (.int 105), (.int 99), (.int 97), (.int 116), (.int 105), (.int 111), (.int 110), (.int 0), (.int 0), (.int 0), (.int 0)] (.int 0) := Arv.set Ar57 q57 S57 N57 H57 G57 (fits_nar_char _) W56 10 rfl (Nat.le_of_ble_eq_true rfl)
  have go60 : Go p.tables e below T56 (mkF m 724 Lnm22_0 [(.int 83), (.int 11), (.ref b2), (.ref b2)]) En := by
    intro t k
    refine go58 _ ?_
    refine XS.dup X56.here hx rfl (hb hby d1_719) rfl rfl ?_
    refine XS.bipush X56.here hx rfl (hb hby d1_720) ?_
    refine XS.bipush X56.here hx rfl (hb hby d1_722) ?_
    show Steps _ _ _ (T56.setTop (mkF m 724 Lnm22_0 [(.int 83), (.int 11), (.ref b2), (.ref b2)])) _
    exact k
  obtain ⟨cl62, Ar62, q62, S62, N62, H62, G62⟩ := id F59
  obtain ⟨T61, h61, X61, e61, W61, st61⟩ := stC X56 hx hZ e56 Ar62 (j := (11 : Int32)) (inb_of S62 ⟨by decide, by decide⟩) (g := (mkF m 724 Lnm22_0 [(.int 83), (.int 11), (.ref b2), (.ref b2)])) rfl rfl (hb hby d1_724)
  have go63 := gap go60 st61
  have N61 := Fr.snoc X61 N56 low2
  have K61 : Keep h0 h61 [] := K56.wr W61 (Or.inr fsh2)
  have Zs61 : n0 ≤ h61.size := Nat.le_trans Zs56 (Keep.of_wr W61).1
  have F64 : Arv Z h61 b2 k2 .char (15 : Int32) [(.int 97), (.int 112), (.int 112), (.int 108), (.int 105), (.int 99), (.int 97), (.int 116), (.int 105), (.int 111), (.int 110), (.int 83), (.int 0), (.int 0), (.int 0)] (.int 0) := Arv.set Ar62 q62 S62 N62 H62 G62 (fits_nar_char _) W61 11 rfl (Nat.le_of_ble_eq_true rfl)
  have go65 : Go p.tables e below T61 (mkF m 730 Lnm22_0 [(.int 99), (.int 12), (.ref b2), (.ref b2)]) En := by
    intro t k
    refine go63 _ ?_
    refine XS.dup X61.here hx rfl (hb hby d1_725) rfl rfl ?_
    refine XS.bipush X61.here hx rfl (hb hby d1_726) ?_
    refine XS.bipush X61.here hx rfl (hb hby d1_728) ?_
    show Steps _ _ _ (T61.setTop (mkF m 730 Lnm22_0 [(.int 99), (.int 12), (.ref b2), (.ref b2)])) _
    exact k
  obtain ⟨cl67, Ar67, q67, S67, N67, H67, G67⟩ := id F64
  obtain ⟨T66, h66, X66, e66, W66, st66⟩ := stC X61 hx hZ e61 Ar67 (j := (12 : Int32)) (inb_of S67 ⟨by decide, by decide⟩) (g := (mkF m 730 Lnm22_0 [(.int 99), (.int 12), (.ref b2), (.ref b2)])) rfl rfl (hb hby d1_730)
  have go68 := gap go65 st66
  have N66 := Fr.snoc X66 N61 low2
  have K66 : Keep h0 h66 [] := K61.wr W66 (Or.inr fsh2)
  have Zs66 : n0 ≤ h66.size := Nat.le_trans Zs61 (Keep.of_wr W66).1
  have F69 : Arv Z h66 b2 k2 .char (15 : Int32) [(.int 97), (.int 112), (.int 112), (.int 108), (.int 105), (.int 99), (.int 97), (.int 116), (.int 105), (.int 111), (.int 110), (.int 83), (.int 99), (.int 0), (.int 0)] (.int 0) := Arv.set Ar67 q67 S67 N67 H67 G67 (fits_nar_char _) W66 12 rfl (Nat.le_of_ble_eq_true rfl)
  have go70 : Go p.tables e below T66 (mkF m 736 Lnm22_0 [(.int 111), (.int 13), (.ref b2), (.ref b2)]) En := by
    intro t k
    refine go68 _ ?_
    refine XS.dup X66.here hx rfl (hb hby d1_731) rfl rfl ?_
    refine XS.bipush X66.here hx rfl (hb hby d1_732) ?_
    refine XS.bipush X66.here hx rfl (hb hby d1_734) ?_
    show Steps _ _ _ (T66.setTop (mkF m 736 Lnm22_0 [(.int 111), (.int 13), (.ref b2), (.ref b2)])) _
    exact k
  obtain ⟨cl72, Ar72, q72, S72, N72, H72, G72⟩ := id F69
  obtain ⟨T71, h71, X71, e71, W71, st71⟩ := stC X66 hx hZ e66 Ar72 (j := (13 : Int32)) (inb_of S72 ⟨by decide, by decide⟩) (g := (mkF m 736 Lnm22_0 [(.int 111), (.int 13), (.ref b2), (.ref b2)])) rfl rfl (hb hby d1_736)
  have go73 := gap go70 st71
  have N71 := Fr.snoc X71 N66 low2
  have K71 : Keep h0 h71 [] := K66.wr W71 (Or.inr fsh2)
  have Zs71 : n0 ≤ h71.size := Nat.le_trans Zs66 (Keep.of_wr W71).1
  have F74 : Arv Z h71 b2 k2 .char (15 : Int32) [(.int 97), (.int 112), (.int 112), (.int 108), (.int 105), (.int 99), (.int 97), (.int 116), (.int 105), (.int 111), (.int 110), (.int 83), (.int 99), (.int 111), (.int 0)] (.int 0) := Arv.set Ar72 q72 S72 N72 H72 G72 (fits_nar_char _) W71 13 rfl (Nat.le_of_ble_eq_true rfl)
  have go75 : Go p.tables e below T71 (mkF m 742 Lnm22_0 [(.int 112), (.int 14), (.ref b2), (.ref b2)]) En := by
    intro t k
    refine go73 _ ?_
    refine XS.dup X71.here hx rfl (hb hby d1_737) rfl rfl ?_
    refine XS.bipush X71.here hx rfl (hb hby d1_738) ?_
    refine XS.bipush X71.here hx rfl (hb hby d1_740) ?_
    show Steps _ _ _ (T71.setTop (mkF m 742 Lnm22_0 [(.int 112), (.int 14), (.ref b2), (.ref b2)])) _
    exact k
  obtain ⟨cl77, Ar77, q77, S77, N77, H77, G77⟩ := id F74
  obtain ⟨T76, h76, X76, e76, W76, st76⟩ := stC X71 hx hZ e71 Ar77 (j := (14 : Int32)) (inb_of S77 ⟨by decide, by decide⟩) (g := (mkF m 742 Lnm22_0 [(.int 112), (.int 14), (.ref b2), (.ref b2)])) rfl rfl (hb hby d1_742)
  have go78 := gap go75 st76
  have N76 := Fr.snoc X76 N71 low2
  have K76 : Keep h0 h76 [] := K71.wr W76 (Or.inr fsh2)
  have Zs76 : n0 ≤ h76.size := Nat.le_trans Zs71 (Keep.of_wr W76).1
  have F79 : Arv Z h76 b2 k2 .char (15 : Int32) [(.int 97), (.int 112), (.int 112), (.int 108), (.int 105), (.int 99), (.int 97), (.int 116), (.int 105), (.int 111), (.int 110), (.int 83), (.int 99), (.int 111), (.int 112)] (.int 0) := Arv.set Ar77 q77 S77 N77 H77 G77 (fits_nar_char _) W76 14 rfl (Nat.le_of_ble_eq_true rfl)
  refine own_out (w := (.ref b2)) X76 hx hlk go78 hrt rfl (Or.inr (Or.inr (Or.inr (Or.inr ⟨rfl, rfl, rfl⟩)))) (hb hby d1_743) e76 (by decide) (by decide) ?_
  exact ⟨b2, k2, rfl, N76, K76, fsh2, F79⟩
theorem d10_0 : decode jdk_43_method_13_code 0 = .ok (.aload_n 0, 1) := by decide +kernel
theorem d10_1 : decode jdk_43_method_13_code 1 = .ok (.arraylength, 1) := by decide +kernel
theorem d10_2 : decode jdk_43_method_13_code 2 = .ok (.aload_n 1, 1) := by decide +kernel
theorem d10_3 : decode jdk_43_method_13_code 3 = .ok (.arraylength, 1) := by decide +kernel
theorem d10_4 : decode jdk_43_method_13_code 4 = .ok (.if_icmp .ne 30, 3) := by decide +kernel
theorem d10_34 : decode jdk_43_method_13_code 34 = .ok (.iconst 0, 1) := by decide +kernel
theorem d10_35 : decode jdk_43_method_13_code 35 = .ok (.ireturn, 1) := by decide +kernel
theorem pn_560 : plainName "java/lang/StringLatin1" = true := by first | (simp [plainName, overriddenIn]; done) | decide +kernel
theorem efld (m : MethodId) (a0 : Addr) (a1 : Addr) : entryFrame m #[(.ref a0), (.ref a1)] 3 = mkF m 0 #[rv a0, rv a1, .unset] [] := by first | (simp [entryFrame, mkF, argsToLocals, Value.category]; done) | rfl
set_option maxRecDepth 65536 in
set_option maxHeartbeats 40000000 in
theorem rmld (l : Launch) (Z : State) (aZ : Array Value) (hw : ∀ d ∈ tables_1, d.before aZ Z = true) (ws : List Jvm.Cond) (a0 : Addr) (a1 : Addr) (k_a0 : ClassId) (n_a0 : Int32) (vs_a0 : List Value) (k_a1 : ClassId) (n_a1 : Int32) (vs_a1 : List Value) (h0 : Heap) (n0 : Nat) (Z0 : n0 ≤ h0.size) (V_a0 : Arv Z h0 a0 k_a0 .byte n_a0 vs_a0 (.int 0)) (V_a1 : Arv Z h0 a1 k_a1 .byte n_a1 vs_a1 (.int 0)) (hne : ¬ n_a0 = n_a1) :
    MFn l (⟨"java/lang/StringLatin1", "equals", "([B[B)Z"⟩ : MethodName) jdk_43_method_13_code 3 (some .boolean) ws (Rm 0 0 0 0) #[(.ref a0), (.ref a1)] Z h0 (QP n0 h0 (some (.int 0))) := by
  refine own_mf (C := "java/lang/StringLatin1") rfl (plainFor_of_name pn_560) (fun m => efld m a0 a1) ?_
  intro p e s m below meth cd0 s₁ En hx hby hml hown hnm hZ X0 e0 hlk hrt go0
  have N0 := Fr.nil n0
  have K0 : Keep h0 h0 [] := Keep.refl _ _
  obtain ⟨cl1, Ar1, q1, S1, N1, H1, G1⟩ := id V_a0
  obtain ⟨cl2, Ar2, q2, S2, N2, H2, G2⟩ := id V_a1
  have go3 : Go p.tables e below s₁ (mkF m 35 #[rv a0, rv a1, .unset] [(.int 0)]) En := by
    intro t k
    refine go0 _ ?_
    refine XS.aloadN X0.here hx rfl (hb hby d10_0) rfl rfl ?_
    refine X0.arraylength hx (by rw [e0]; exact Ar1.1) (State.isArrayOf_alike hZ.alike Ar1.2.1) (g := (mkF m 1 #[rv a0, rv a1, .unset] [(.ref a0)])) rfl rfl (hb hby d10_1) _ ?_
    rw [len_of S1 N1]
    show Steps _ _ _ (s₁.setTop (mkF m 2 #[rv a0, rv a1, .unset] [(.int n_a0)])) _
    refine XS.aloadN X0.here hx rfl (hb hby d10_2) rfl rfl ?_
    refine X0.arraylength hx (by rw [e0]; exact Ar2.1) (State.isArrayOf_alike hZ.alike Ar2.2.1) (g := (mkF m 3 #[rv a0, rv a1, .unset] [(.ref a1), (.int n_a0)])) rfl rfl (hb hby d10_3) _ ?_
    rw [len_of S2 N2]
    show Steps _ _ _ (s₁.setTop (mkF m 4 #[rv a0, rv a1, .unset] [(.int n_a1), (.int n_a0)])) _
    refine XS.icmpYes X0.here hx rfl (pc0 := 4) (pc' := 34) rfl (hb hby d10_4) rfl (XT.ii_ne_t hne) (by decide) (by decide) ?_
    refine XS.iconst X0.here hx rfl (hb hby d10_34) ?_
    exact k
  refine own_out (w := (.int 0)) X0 hx hlk go3 hrt rfl (Or.inl ⟨rfl, Or.inr (Or.inl rfl), _, rfl⟩) (hb hby d10_35) e0 (by decide) (by decide) ?_
  exact ⟨rfl, N0, rfl⟩
theorem d10_7 : decode jdk_43_method_13_code 7 = .ok (.iconst 0, 1) := by decide +kernel
theorem d10_8 : decode jdk_43_method_13_code 8 = .ok (.istore_n 2, 1) := by decide +kernel
theorem d10_9 : decode jdk_43_method_13_code 9 = .ok (.iload_n 2, 1) := by decide +kernel
theorem d10_10 : decode jdk_43_method_13_code 10 = .ok (.aload_n 0, 1) := by decide +kernel
theorem d10_11 : decode jdk_43_method_13_code 11 = .ok (.arraylength, 1) := by decide +kernel
theorem d10_12 : decode jdk_43_method_13_code 12 = .ok (.if_icmp .ge 20, 3) := by decide +kernel
theorem d10_15 : decode jdk_43_method_13_code 15 = .ok (.aload_n 0, 1) := by decide +kernel
theorem d10_16 : decode jdk_43_method_13_code 16 = .ok (.iload_n 2, 1) := by decide +kernel
theorem d10_17 : decode jdk_43_method_13_code 17 = .ok (.baload, 1) := by decide +kernel
theorem d10_18 : decode jdk_43_method_13_code 18 = .ok (.aload_n 1, 1) := by decide +kernel
theorem d10_19 : decode jdk_43_method_13_code 19 = .ok (.iload_n 2, 1) := by decide +kernel
theorem d10_20 : decode jdk_43_method_13_code 20 = .ok (.baload, 1) := by decide +kernel
theorem d10_21 : decode jdk_43_method_13_code 21 = .ok (.if_icmp .eq 5, 3) := by decide +kernel
theorem d10_26 : decode jdk_43_method_13_code 26 = .ok (.iinc 2 1, 3) := by decide +kernel
theorem d10_29 : decode jdk_43_method_13_code 29 = .ok (.goto (-20), 3) := by decide +kernel
theorem d10_32 : decode jdk_43_method_13_code 32 = .ok (.iconst 1, 1) := by decide +kernel
theorem d10_33 : decode jdk_43_method_13_code 33 = .ok (.ireturn, 1) := by decide +kernel
theorem d10_24 : decode jdk_43_method_13_code 24 = .ok (.iconst 0, 1) := by decide +kernel
theorem d10_25 : decode jdk_43_method_13_code 25 = .ok (.ireturn, 1) := by decide +kernel
def flq13 (y0 : Int32) (y1 : Int32) (y2 : Int32) (y3 : Int32) (y4 : Int32) (y5 : Int32) (y6 : Int32) (y7 : Int32) (y8 : Int32) (y9 : Int32) (y10 : Int32) (y11 : Int32) (y12 : Int32) : Int32 := (if y0 = (109 : Int32) then (if y1 = (111 : Int32) then (if y2 = (100 : Int32) then (if y3 = (117 : Int32) then (if y4 = (108 : Int32) then (if y5 = (101 : Int32) then (if y6 = (67 : Int32) then (if y7 = (111 : Int32) then (if y8 = (110 : Int32) then (if y9 = (116 : Int32) then (if y10 = (101 : Int32) then (if y11 = (120 : Int32) then (if y12 = (116 : Int32) then (1 : Int32) else (0 : Int32)) else (0 : Int32)) else (0 : Int32)) else (0 : Int32)) else (0 : Int32)) else (0 : Int32)) else (0 : Int32)) else (0 : Int32)) else (0 : Int32)) else (0 : Int32)) else (0 : Int32)) else (0 : Int32)) else (0 : Int32))
theorem eflq13 (m : MethodId) (a0 : Addr) (a1 : Addr) : entryFrame m #[(.ref a0), (.ref a1)] 3 = mkF m 0 #[rv a0, rv a1, .unset] [] := by first | (simp [entryFrame, mkF, argsToLocals, Value.category]; done) | rfl
set_option maxRecDepth 65536 in
set_option maxHeartbeats 40000000 in
theorem rmlq13 (l : Launch) (Z : State) (aZ : Array Value) (hw : ∀ d ∈ tables_1, d.before aZ Z = true) (ws : List Jvm.Cond) (a0 : Addr) (a1 : Addr) (k_a0 : ClassId) (y0 : Int32) (y1 : Int32) (y2 : Int32) (y3 : Int32) (y4 : Int32) (y5 : Int32) (y6 : Int32) (y7 : Int32) (y8 : Int32) (y9 : Int32) (y10 : Int32) (y11 : Int32) (y12 : Int32) (k_a1 : ClassId) (h0 : Heap) (n0 : Nat) (Z0 : n0 ≤ h0.size) (V_a0 : Arv Z h0 a0 k_a0 .byte (13 : Int32) [(.int y0), (.int y1), (.int y2), (.int y3), (.int y4), (.int y5), (.int y6), (.int y7), (.int y8), (.int y9), (.int y10), (.int y11), (.int y12)] (.int 0)) (V_a1 : Arv Z h0 a1 k_a1 .byte (13 : Int32) [(.int 109), (.int 111), (.int 100), (.int 117), (.int 108), (.int 101), (.int 67), (.int 111), (.int 110), (.int 116), (.int 101), (.int 120), (.int 116)] (.int 0)) :
    MFn l (⟨"java/lang/StringLatin1", "equals", "([B[B)Z"⟩ : MethodName) jdk_43_method_13_code 3 (some .boolean) ws (Rm 0 0 0 0) #[(.ref a0), (.ref a1)] Z h0 (QP n0 h0 (some (.int (flq13 y0 y1 y2 y3 y4 y5 y6 y7 y8 y9 y10 y11 y12)))) := by
  refine own_mf (C := "java/lang/StringLatin1") rfl (plainFor_of_name pn_560) (fun m => eflq13 m a0 a1) ?_
  intro p e s m below meth cd0 s₁ En hx hby hml hown hnm hZ X0 e0 hlk hrt go0
  have N0 := Fr.nil n0
  have K0 : Keep h0 h0 [] := Keep.refl _ _
  obtain ⟨cl1, Ar1, q1, S1, N1, H1, G1⟩ := id V_a0
  obtain ⟨cl2, Ar2, q2, S2, N2, H2, G2⟩ := id V_a1
  have go3 : Go p.tables e below s₁ (mkF m 21 #[rv a0, rv a1, iv 0] [(.int 109), (.int y0)]) En := by
    intro t k
    refine go0 _ ?_
    refine XS.aloadN X0.here hx rfl (hb hby d10_0) rfl rfl ?_
    refine X0.arraylength hx (by rw [e0]; exact Ar1.1) (State.isArrayOf_alike hZ.alike Ar1.2.1) (g := (mkF m 1 #[rv a0, rv a1, .unset] [(.ref a0)])) rfl rfl (hb hby d10_1) _ ?_
    rw [len_of S1 N1]
    show Steps _ _ _ (s₁.setTop (mkF m 2 #[rv a0, rv a1, .unset] [(.int 13)])) _
    refine XS.aloadN X0.here hx rfl (hb hby d10_2) rfl rfl ?_
    refine X0.arraylength hx (by rw [e0]; exact Ar2.1) (State.isArrayOf_alike hZ.alike Ar2.2.1) (g := (mkF m 3 #[rv a0, rv a1, .unset] [(.ref a1), (.int 13)])) rfl rfl (hb hby d10_3) _ ?_
    rw [len_of S2 N2]
    show Steps _ _ _ (s₁.setTop (mkF m 4 #[rv a0, rv a1, .unset] [(.int 13), (.int 13)])) _
    refine XS.icmpNo X0.here hx rfl (hb hby d10_4) rfl (XT.ii_ne_f (by decide : ((13 : Int32) = (13 : Int32)))) ?_
    refine XS.iconst X0.here hx rfl (hb hby d10_7) ?_
    refine XS.istoreN X0.here hx rfl (hb hby d10_8) rfl (l' := #[rv a0, rv a1, iv 0]) rfl ?_
    show Steps _ _ _ (s₁.setTop (mkF m 9 #[rv a0, rv a1, iv 0] [])) _
    refine XS.iloadN X0.here hx rfl (hb hby d10_9) rfl ?_
    refine XS.aloadN X0.here hx rfl (hb hby d10_10) rfl rfl ?_
    refine X0.arraylength hx (by rw [e0]; exact Ar1.1) (State.isArrayOf_alike hZ.alike Ar1.2.1) (g := (mkF m 11 #[rv a0, rv a1, iv 0] [(.ref a0), (.int 0)])) rfl rfl (hb hby d10_11) _ ?_
    rw [len_of S1 N1]
    show Steps _ _ _ (s₁.setTop (mkF m 12 #[rv a0, rv a1, iv 0] [(.int 13), (.int 0)])) _
    refine XS.icmpNo X0.here hx rfl (hb hby d10_12) rfl (XT.ii_ge_f (by decide : ((0 : Int32) < (13 : Int32)))) ?_
    refine XS.aloadN X0.here hx rfl (hb hby d10_15) rfl rfl ?_
    refine XS.iloadN X0.here hx rfl (hb hby d10_16) rfl ?_
    show Steps _ _ _ (s₁.setTop (mkF m 17 #[rv a0, rv a1, iv 0] [(.int 0), (.ref a0)])) _
    refine X0.baloadBytes hx (j := (0 : Int32)) (v := (.int y0)) (by rw [e0]; exact Ar1.1) (State.isArrayOf_alike hZ.alike Ar1.2.1) Ar1.2.2 (inb_of S1 ⟨by decide, by decide⟩) (Has.at H1 (inb_of S1 ⟨by decide, by decide⟩) rfl) (g := (mkF m 17 #[rv a0, rv a1, iv 0] [(.int 0), (.ref a0)])) rfl rfl (hb hby d10_17) _ ?_
    refine XS.aloadN X0.here hx rfl (hb hby d10_18) rfl rfl ?_
    refine XS.iloadN X0.here hx rfl (hb hby d10_19) rfl ?_
    show Steps _ _ _ (s₁.setTop (mkF m 20 #[rv a0, rv a1, iv 0] [(.int 0), (.ref a1), (.int y0)])) _
    refine X0.baloadBytes hx (j := (0 : Int32)) (v := (.int 109)) (by rw [e0]; exact Ar2.1) (State.isArrayOf_alike hZ.alike Ar2.2.1) Ar2.2.2 (inb_of S2 ⟨by decide, by decide⟩) (Has.at H2 (inb_of S2 ⟨by decide, by decide⟩) rfl) (g := (mkF m 20 #[rv a0, rv a1, iv 0] [(.int 0), (.ref a1), (.int y0)])) rfl rfl (hb hby d10_20) _ ?_
    exact k
  by_cases hs4 : y0 = (109 : Int32)
  · have go5 : Go p.tables e below s₁ (mkF m 21 #[rv a0, rv a1, iv 1] [(.int 111), (.int y1)]) En := by
      intro t k
      refine go3 _ ?_
      refine XS.icmpYes X0.here hx rfl (pc0 := 21) (pc' := 26) rfl (hb hby d10_21) rfl (XT.ii_eq_t hs4) (by decide) (by decide) ?_
      refine XS.iinc X0.here hx rfl (hb hby d10_26) rfl (l' := #[rv a0, rv a1, iv 1]) rfl ?_
      refine XS.goto X0.here hx rfl (pc0 := 29) (pc' := 9) rfl (hb hby d10_29) (by decide) (by decide) ?_
      show Steps _ _ _ (s₁.setTop (mkF m 9 #[rv a0, rv a1, iv 1] [])) _
      refine XS.iloadN X0.here hx rfl (hb hby d10_9) rfl ?_
      refine XS.aloadN X0.here hx rfl (hb hby d10_10) rfl rfl ?_
      refine X0.arraylength hx (by rw [e0]; exact Ar1.1) (State.isArrayOf_alike hZ.alike Ar1.2.1) (g := (mkF m 11 #[rv a0, rv a1, iv 1] [(.ref a0), (.int 1)])) rfl rfl (hb hby d10_11) _ ?_
      rw [len_of S1 N1]
      show Steps _ _ _ (s₁.setTop (mkF m 12 #[rv a0, rv a1, iv 1] [(.int 13), (.int 1)])) _
      refine XS.icmpNo X0.here hx rfl (hb hby d10_12) rfl (XT.ii_ge_f (by decide : ((1 : Int32) < (13 : Int32)))) ?_
      refine XS.aloadN X0.here hx rfl (hb hby d10_15) rfl rfl ?_
      refine XS.iloadN X0.here hx rfl (hb hby d10_16) rfl ?_
      show Steps _ _ _ (s₁.setTop (mkF m 17 #[rv a0, rv a1, iv 1] [(.int 1), (.ref a0)])) _
      refine X0.baloadBytes hx (j := (1 : Int32)) (v := (.int y1)) (by rw [e0]; exact Ar1.1) (State.isArrayOf_alike hZ.alike Ar1.2.1) Ar1.2.2 (inb_of S1 ⟨by decide, by decide⟩) (Has.at H1 (inb_of S1 ⟨by decide, by decide⟩) rfl) (g := (mkF m 17 #[rv a0, rv a1, iv 1] [(.int 1), (.ref a0)])) rfl rfl (hb hby d10_17) _ ?_
      refine XS.aloadN X0.here hx rfl (hb hby d10_18) rfl rfl ?_
      refine XS.iloadN X0.here hx rfl (hb hby d10_19) rfl ?_
      show Steps _ _ _ (s₁.setTop (mkF m 20 #[rv a0, rv a1, iv 1] [(.int 1), (.ref a1), (.int y1)])) _
      refine X0.baloadBytes hx (j := (1 : Int32)) (v := (.int 111)) (by rw [e0]; exact Ar2.1) (State.isArrayOf_alike hZ.alike Ar2.2.1) Ar2.2.2 (inb_of S2 ⟨by decide, by decide⟩) (Has.at H2 (inb_of S2 ⟨by decide, by decide⟩) rfl) (g := (mkF m 20 #[rv a0, rv a1, iv 1] [(.int 1), (.ref a1), (.int y1)])) rfl rfl (hb hby d10_20) _ ?_
      exact k
    by_cases hs6 : y1 = (111 : Int32)
    · have go7 : Go p.tables e below s₁ (mkF m 21 #[rv a0, rv a1, iv 2] [(.int 100), (.int y2)]) En := by
        intro t k
        refine go5 _ ?_
        refine XS.icmpYes X0.here hx rfl (pc0 := 21) (pc' := 26) rfl (hb hby d10_21) rfl (XT.ii_eq_t hs6) (by decide) (by decide) ?_
        refine XS.iinc X0.here hx rfl (hb hby d10_26) rfl (l' := #[rv a0, rv a1, iv 2]) rfl ?_
        refine XS.goto X0.here hx rfl (pc0 := 29) (pc' := 9) rfl (hb hby d10_29) (by decide) (by decide) ?_
        show Steps _ _ _ (s₁.setTop (mkF m 9 #[rv a0, rv a1, iv 2] [])) _
        refine XS.iloadN X0.here hx rfl (hb hby d10_9) rfl ?_
        refine XS.aloadN X0.here hx rfl (hb hby d10_10) rfl rfl ?_
        refine X0.arraylength hx (by rw [e0]; exact Ar1.1) (State.isArrayOf_alike hZ.alike Ar1.2.1) (g := (mkF m 11 #[rv a0, rv a1, iv 2] [(.ref a0), (.int 2)])) rfl rfl (hb hby d10_11) _ ?_
        rw [len_of S1 N1]
        show Steps _ _ _ (s₁.setTop (mkF m 12 #[rv a0, rv a1, iv 2] [(.int 13), (.int 2)])) _
        refine XS.icmpNo X0.here hx rfl (hb hby d10_12) rfl (XT.ii_ge_f (by decide : ((2 : Int32) < (13 : Int32)))) ?_
        refine XS.aloadN X0.here hx rfl (hb hby d10_15) rfl rfl ?_
        refine XS.iloadN X0.here hx rfl (hb hby d10_16) rfl ?_
        show Steps _ _ _ (s₁.setTop (mkF m 17 #[rv a0, rv a1, iv 2] [(.int 2), (.ref a0)])) _
        refine X0.baloadBytes hx (j := (2 : Int32)) (v := (.int y2)) (by rw [e0]; exact Ar1.1) (State.isArrayOf_alike hZ.alike Ar1.2.1) Ar1.2.2 (inb_of S1 ⟨by decide, by decide⟩) (Has.at H1 (inb_of S1 ⟨by decide, by decide⟩) rfl) (g := (mkF m 17 #[rv a0, rv a1, iv 2] [(.int 2), (.ref a0)])) rfl rfl (hb hby d10_17) _ ?_
        refine XS.aloadN X0.here hx rfl (hb hby d10_18) rfl rfl ?_
        refine XS.iloadN X0.here hx rfl (hb hby d10_19) rfl ?_
        show Steps _ _ _ (s₁.setTop (mkF m 20 #[rv a0, rv a1, iv 2] [(.int 2), (.ref a1), (.int y2)])) _
        refine X0.baloadBytes hx (j := (2 : Int32)) (v := (.int 100)) (by rw [e0]; exact Ar2.1) (State.isArrayOf_alike hZ.alike Ar2.2.1) Ar2.2.2 (inb_of S2 ⟨by decide, by decide⟩) (Has.at H2 (inb_of S2 ⟨by decide, by decide⟩) rfl) (g := (mkF m 20 #[rv a0, rv a1, iv 2] [(.int 2), (.ref a1), (.int y2)])) rfl rfl (hb hby d10_20) _ ?_
        exact k
      by_cases hs8 : y2 = (100 : Int32)
      · have go9 : Go p.tables e below s₁ (mkF m 21 #[rv a0, rv a1, iv 3] [(.int 117), (.int y3)]) En := by
          intro t k
          refine go7 _ ?_
          refine XS.icmpYes X0.here hx rfl (pc0 := 21) (pc' := 26) rfl (hb hby d10_21) rfl (XT.ii_eq_t hs8) (by decide) (by decide) ?_
          refine XS.iinc X0.here hx rfl (hb hby d10_26) rfl (l' := #[rv a0, rv a1, iv 3]) rfl ?_
          refine XS.goto X0.here hx rfl (pc0 := 29) (pc' := 9) rfl (hb hby d10_29) (by decide) (by decide) ?_
          show Steps _ _ _ (s₁.setTop (mkF m 9 #[rv a0, rv a1, iv 3] [])) _
          refine XS.iloadN X0.here hx rfl (hb hby d10_9) rfl ?_
          refine XS.aloadN X0.here hx rfl (hb hby d10_10) rfl rfl ?_
          refine X0.arraylength hx (by rw [e0]; exact Ar1.1) (State.isArrayOf_alike hZ.alike Ar1.2.1) (g := (mkF m 11 #[rv a0, rv a1, iv 3] [(.ref a0), (.int 3)])) rfl rfl (hb hby d10_11) _ ?_
          rw [len_of S1 N1]
          show Steps _ _ _ (s₁.setTop (mkF m 12 #[rv a0, rv a1, iv 3] [(.int 13), (.int 3)])) _
          refine XS.icmpNo X0.here hx rfl (hb hby d10_12) rfl (XT.ii_ge_f (by decide : ((3 : Int32) < (13 : Int32)))) ?_
          refine XS.aloadN X0.here hx rfl (hb hby d10_15) rfl rfl ?_
          refine XS.iloadN X0.here hx rfl (hb hby d10_16) rfl ?_
          show Steps _ _ _ (s₁.setTop (mkF m 17 #[rv a0, rv a1, iv 3] [(.int 3), (.ref a0)])) _
          refine X0.baloadBytes hx (j := (3 : Int32)) (v := (.int y3)) (by rw [e0]; exact Ar1.1) (State.isArrayOf_alike hZ.alike Ar1.2.1) Ar1.2.2 (inb_of S1 ⟨by decide, by decide⟩) (Has.at H1 (inb_of S1 ⟨by decide, by decide⟩) rfl) (g := (mkF m 17 #[rv a0, rv a1, iv 3] [(.int 3), (.ref a0)])) rfl rfl (hb hby d10_17) _ ?_
          refine XS.aloadN X0.here hx rfl (hb hby d10_18) rfl rfl ?_
          refine XS.iloadN X0.here hx rfl (hb hby d10_19) rfl ?_
          show Steps _ _ _ (s₁.setTop (mkF m 20 #[rv a0, rv a1, iv 3] [(.int 3), (.ref a1), (.int y3)])) _
          refine X0.baloadBytes hx (j := (3 : Int32)) (v := (.int 117)) (by rw [e0]; exact Ar2.1) (State.isArrayOf_alike hZ.alike Ar2.2.1) Ar2.2.2 (inb_of S2 ⟨by decide, by decide⟩) (Has.at H2 (inb_of S2 ⟨by decide, by decide⟩) rfl) (g := (mkF m 20 #[rv a0, rv a1, iv 3] [(.int 3), (.ref a1), (.int y3)])) rfl rfl (hb hby d10_20) _ ?_
          exact k
        by_cases hs10 : y3 = (117 : Int32)
        · have go11 : Go p.tables e below s₁ (mkF m 21 #[rv a0, rv a1, iv 4] [(.int 108), (.int y4)]) En := by
            intro t k
            refine go9 _ ?_
            refine XS.icmpYes X0.here hx rfl (pc0 := 21) (pc' := 26) rfl (hb hby d10_21) rfl (XT.ii_eq_t hs10) (by decide) (by decide) ?_
            refine XS.iinc X0.here hx rfl (hb hby d10_26) rfl (l' := #[rv a0, rv a1, iv 4]) rfl ?_
            refine XS.goto X0.here hx rfl (pc0 := 29) (pc' := 9) rfl (hb hby d10_29) (by decide) (by decide) ?_
            show Steps _ _ _ (s₁.setTop (mkF m 9 #[rv a0, rv a1, iv 4] [])) _
            refine XS.iloadN X0.here hx rfl (hb hby d10_9) rfl ?_
            refine XS.aloadN X0.here hx rfl (hb hby d10_10) rfl rfl ?_
            refine X0.arraylength hx (by rw [e0]; exact Ar1.1) (State.isArrayOf_alike hZ.alike Ar1.2.1) (g := (mkF m 11 #[rv a0, rv a1, iv 4] [(.ref a0), (.int 4)])) rfl rfl (hb hby d10_11) _ ?_
            rw [len_of S1 N1]
            show Steps _ _ _ (s₁.setTop (mkF m 12 #[rv a0, rv a1, iv 4] [(.int 13), (.int 4)])) _
            refine XS.icmpNo X0.here hx rfl (hb hby d10_12) rfl (XT.ii_ge_f (by decide : ((4 : Int32) < (13 : Int32)))) ?_
            refine XS.aloadN X0.here hx rfl (hb hby d10_15) rfl rfl ?_
            refine XS.iloadN X0.here hx rfl (hb hby d10_16) rfl ?_
            show Steps _ _ _ (s₁.setTop (mkF m 17 #[rv a0, rv a1, iv 4] [(.int 4), (.ref a0)])) _
            refine X0.baloadBytes hx (j := (4 : Int32)) (v := (.int y4)) (by rw [e0]; exact Ar1.1) (State.isArrayOf_alike hZ.alike Ar1.2.1) Ar1.2.2 (inb_of S1 ⟨by decide, by decide⟩) (Has.at H1 (inb_of S1 ⟨by decide, by decide⟩) rfl) (g := (mkF m 17 #[rv a0, rv a1, iv 4] [(.int 4), (.ref a0)])) rfl rfl (hb hby d10_17) _ ?_
            refine XS.aloadN X0.here hx rfl (hb hby d10_18) rfl rfl ?_
            refine XS.iloadN X0.here hx rfl (hb hby d10_19) rfl ?_
            show Steps _ _ _ (s₁.setTop (mkF m 20 #[rv a0, rv a1, iv 4] [(.int 4), (.ref a1), (.int y4)])) _
            refine X0.baloadBytes hx (j := (4 : Int32)) (v := (.int 108)) (by rw [e0]; exact Ar2.1) (State.isArrayOf_alike hZ.alike Ar2.2.1) Ar2.2.2 (inb_of S2 ⟨by decide, by decide⟩) (Has.at H2 (inb_of S2 ⟨by decide, by decide⟩) rfl) (g := (mkF m 20 #[rv a0, rv a1, iv 4] [(.int 4), (.ref a1), (.int y4)])) rfl rfl (hb hby d10_20) _ ?_
            exact k
          by_cases hs12 : y4 = (108 : Int32)
          · have go13 : Go p.tables e below s₁ (mkF m 21 #[rv a0, rv a1, iv 5] [(.int 101), (.int y5)]) En := by
              intro t k
              refine go11 _ ?_
              refine XS.icmpYes X0.here hx rfl (pc0 := 21) (pc' := 26) rfl (hb hby d10_21) rfl (XT.ii_eq_t hs12) (by decide) (by decide) ?_
              refine XS.iinc X0.here hx rfl (hb hby d10_26) rfl (l' := #[rv a0, rv a1, iv 5]) rfl ?_
              refine XS.goto X0.here hx rfl (pc0 := 29) (pc' := 9) rfl (hb hby d10_29) (by decide) (by decide) ?_
              show Steps _ _ _ (s₁.setTop (mkF m 9 #[rv a0, rv a1, iv 5] [])) _
              refine XS.iloadN X0.here hx rfl (hb hby d10_9) rfl ?_
              refine XS.aloadN X0.here hx rfl (hb hby d10_10) rfl rfl ?_
              refine X0.arraylength hx (by rw [e0]; exact Ar1.1) (State.isArrayOf_alike hZ.alike Ar1.2.1) (g := (mkF m 11 #[rv a0, rv a1, iv 5] [(.ref a0), (.int 5)])) rfl rfl (hb hby d10_11) _ ?_
              rw [len_of S1 N1]
              show Steps _ _ _ (s₁.setTop (mkF m 12 #[rv a0, rv a1, iv 5] [(.int 13), (.int 5)])) _
              refine XS.icmpNo X0.here hx rfl (hb hby d10_12) rfl (XT.ii_ge_f (by decide : ((5 : Int32) < (13 : Int32)))) ?_
              refine XS.aloadN X0.here hx rfl (hb hby d10_15) rfl rfl ?_
              refine XS.iloadN X0.here hx rfl (hb hby d10_16) rfl ?_
              show Steps _ _ _ (s₁.setTop (mkF m 17 #[rv a0, rv a1, iv 5] [(.int 5), (.ref a0)])) _
              refine X0.baloadBytes hx (j := (5 : Int32)) (v := (.int y5)) (by rw [e0]; exact Ar1.1) (State.isArrayOf_alike hZ.alike Ar1.2.1) Ar1.2.2 (inb_of S1 ⟨by decide, by decide⟩) (Has.at H1 (inb_of S1 ⟨by decide, by decide⟩) rfl) (g := (mkF m 17 #[rv a0, rv a1, iv 5] [(.int 5), (.ref a0)])) rfl rfl (hb hby d10_17) _ ?_
              refine XS.aloadN X0.here hx rfl (hb hby d10_18) rfl rfl ?_
              refine XS.iloadN X0.here hx rfl (hb hby d10_19) rfl ?_
              show Steps _ _ _ (s₁.setTop (mkF m 20 #[rv a0, rv a1, iv 5] [(.int 5), (.ref a1), (.int y5)])) _
              refine X0.baloadBytes hx (j := (5 : Int32)) (v := (.int 101)) (by rw [e0]; exact Ar2.1) (State.isArrayOf_alike hZ.alike Ar2.2.1) Ar2.2.2 (inb_of S2 ⟨by decide, by decide⟩) (Has.at H2 (inb_of S2 ⟨by decide, by decide⟩) rfl) (g := (mkF m 20 #[rv a0, rv a1, iv 5] [(.int 5), (.ref a1), (.int y5)])) rfl rfl (hb hby d10_20) _ ?_
              exact k
            by_cases hs14 : y5 = (101 : Int32)
            · have go15 : Go p.tables e below s₁ (mkF m 21 #[rv a0, rv a1, iv 6] [(.int 67), (.int y6)]) En := by
                intro t k
                refine go13 _ ?_
                refine XS.icmpYes X0.here hx rfl (pc0 := 21) (pc' := 26) rfl (hb hby d10_21) rfl (XT.ii_eq_t hs14) (by decide) (by decide) ?_
                refine XS.iinc X0.here hx rfl (hb hby d10_26) rfl (l' := #[rv a0, rv a1, iv 6]) rfl ?_
                refine XS.goto X0.here hx rfl (pc0 := 29) (pc' := 9) rfl (hb hby d10_29) (by decide) (by decide) ?_
                show Steps _ _ _ (s₁.setTop (mkF m 9 #[rv a0, rv a1, iv 6] [])) _
                refine XS.iloadN X0.here hx rfl (hb hby d10_9) rfl ?_
                refine XS.aloadN X0.here hx rfl (hb hby d10_10) rfl rfl ?_
                refine X0.arraylength hx (by rw [e0]; exact Ar1.1) (State.isArrayOf_alike hZ.alike Ar1.2.1) (g := (mkF m 11 #[rv a0, rv a1, iv 6] [(.ref a0), (.int 6)])) rfl rfl (hb hby d10_11) _ ?_
                rw [len_of S1 N1]
                show Steps _ _ _ (s₁.setTop (mkF m 12 #[rv a0, rv a1, iv 6] [(.int 13), (.int 6)])) _
                refine XS.icmpNo X0.here hx rfl (hb hby d10_12) rfl (XT.ii_ge_f (by decide : ((6 : Int32) < (13 : Int32)))) ?_
                refine XS.aloadN X0.here hx rfl (hb hby d10_15) rfl rfl ?_
                refine XS.iloadN X0.here hx rfl (hb hby d10_16) rfl ?_
                show Steps _ _ _ (s₁.setTop (mkF m 17 #[rv a0, rv a1, iv 6] [(.int 6), (.ref a0)])) _
                refine X0.baloadBytes hx (j := (6 : Int32)) (v := (.int y6)) (by rw [e0]; exact Ar1.1) (State.isArrayOf_alike hZ.alike Ar1.2.1) Ar1.2.2 (inb_of S1 ⟨by decide, by decide⟩) (Has.at H1 (inb_of S1 ⟨by decide, by decide⟩) rfl) (g := (mkF m 17 #[rv a0, rv a1, iv 6] [(.int 6), (.ref a0)])) rfl rfl (hb hby d10_17) _ ?_
                refine XS.aloadN X0.here hx rfl (hb hby d10_18) rfl rfl ?_
                refine XS.iloadN X0.here hx rfl (hb hby d10_19) rfl ?_
                show Steps _ _ _ (s₁.setTop (mkF m 20 #[rv a0, rv a1, iv 6] [(.int 6), (.ref a1), (.int y6)])) _
                refine X0.baloadBytes hx (j := (6 : Int32)) (v := (.int 67)) (by rw [e0]; exact Ar2.1) (State.isArrayOf_alike hZ.alike Ar2.2.1) Ar2.2.2 (inb_of S2 ⟨by decide, by decide⟩) (Has.at H2 (inb_of S2 ⟨by decide, by decide⟩) rfl) (g := (mkF m 20 #[rv a0, rv a1, iv 6] [(.int 6), (.ref a1), (.int y6)])) rfl rfl (hb hby d10_20) _ ?_
                exact k
              by_cases hs16 : y6 = (67 : Int32)
              · have go17 : Go p.tables e below s₁ (mkF m 21 #[rv a0, rv a1, iv 7] [(.int 111), (.int y7)]) En := by
                  intro t k
                  refine go15 _ ?_
                  refine XS.icmpYes X0.here hx rfl (pc0 := 21) (pc' := 26) rfl (hb hby d10_21) rfl (XT.ii_eq_t hs16) (by decide) (by decide) ?_
                  refine XS.iinc X0.here hx rfl (hb hby d10_26) rfl (l' := #[rv a0, rv a1, iv 7]) rfl ?_
                  refine XS.goto X0.here hx rfl (pc0 := 29) (pc' := 9) rfl (hb hby d10_29) (by decide) (by decide) ?_
                  show Steps _ _ _ (s₁.setTop (mkF m 9 #[rv a0, rv a1, iv 7] [])) _
                  refine XS.iloadN X0.here hx rfl (hb hby d10_9) rfl ?_
                  refine XS.aloadN X0.here hx rfl (hb hby d10_10) rfl rfl ?_
                  refine X0.arraylength hx (by rw [e0]; exact Ar1.1) (State.isArrayOf_alike hZ.alike Ar1.2.1) (g := (mkF m 11 #[rv a0, rv a1, iv 7] [(.ref a0), (.int 7)])) rfl rfl (hb hby d10_11) _ ?_
                  rw [len_of S1 N1]
                  show Steps _ _ _ (s₁.setTop (mkF m 12 #[rv a0, rv a1, iv 7] [(.int 13), (.int 7)])) _
                  refine XS.icmpNo X0.here hx rfl (hb hby d10_12) rfl (XT.ii_ge_f (by decide : ((7 : Int32) < (13 : Int32)))) ?_
                  refine XS.aloadN X0.here hx rfl (hb hby d10_15) rfl rfl ?_
                  refine XS.iloadN X0.here hx rfl (hb hby d10_16) rfl ?_
                  show Steps _ _ _ (s₁.setTop (mkF m 17 #[rv a0, rv a1, iv 7] [(.int 7), (.ref a0)])) _
                  refine X0.baloadBytes hx (j := (7 : Int32)) (v := (.int y7)) (by rw [e0]; exact Ar1.1) (State.isArrayOf_alike hZ.alike Ar1.2.1) Ar1.2.2 (inb_of S1 ⟨by decide, by decide⟩) (Has.at H1 (inb_of S1 ⟨by decide, by decide⟩) rfl) (g := (mkF m 17 #[rv a0, rv a1, iv 7] [(.int 7), (.ref a0)])) rfl rfl (hb hby d10_17) _ ?_
                  refine XS.aloadN X0.here hx rfl (hb hby d10_18) rfl rfl ?_
                  refine XS.iloadN X0.here hx rfl (hb hby d10_19) rfl ?_
                  show Steps _ _ _ (s₁.setTop (mkF m 20 #[rv a0, rv a1, iv 7] [(.int 7), (.ref a1), (.int y7)])) _
                  refine X0.baloadBytes hx (j := (7 : Int32)) (v := (.int 111)) (by rw [e0]; exact Ar2.1) (State.isArrayOf_alike hZ.alike Ar2.2.1) Ar2.2.2 (inb_of S2 ⟨by decide, by decide⟩) (Has.at H2 (inb_of S2 ⟨by decide, by decide⟩) rfl) (g := (mkF m 20 #[rv a0, rv a1, iv 7] [(.int 7), (.ref a1), (.int y7)])) rfl rfl (hb hby d10_20) _ ?_
                  exact k
                by_cases hs18 : y7 = (111 : Int32)
                · have go19 : Go p.tables e below s₁ (mkF m 21 #[rv a0, rv a1, iv 8] [(.int 110), (.int y8)]) En := by
                    intro t k
                    refine go17 _ ?_
                    refine XS.icmpYes X0.here hx rfl (pc0 := 21) (pc' := 26) rfl (hb hby d10_21) rfl (XT.ii_eq_t hs18) (by decide) (by decide) ?_
                    refine XS.iinc X0.here hx rfl (hb hby d10_26) rfl (l' := #[rv a0, rv a1, iv 8]) rfl ?_
                    refine XS.goto X0.here hx rfl (pc0 := 29) (pc' := 9) rfl (hb hby d10_29) (by decide) (by decide) ?_
                    show Steps _ _ _ (s₁.setTop (mkF m 9 #[rv a0, rv a1, iv 8] [])) _
                    refine XS.iloadN X0.here hx rfl (hb hby d10_9) rfl ?_
                    refine XS.aloadN X0.here hx rfl (hb hby d10_10) rfl rfl ?_
                    refine X0.arraylength hx (by rw [e0]; exact Ar1.1) (State.isArrayOf_alike hZ.alike Ar1.2.1) (g := (mkF m 11 #[rv a0, rv a1, iv 8] [(.ref a0), (.int 8)])) rfl rfl (hb hby d10_11) _ ?_
                    rw [len_of S1 N1]
                    show Steps _ _ _ (s₁.setTop (mkF m 12 #[rv a0, rv a1, iv 8] [(.int 13), (.int 8)])) _
                    refine XS.icmpNo X0.here hx rfl (hb hby d10_12) rfl (XT.ii_ge_f (by decide : ((8 : Int32) < (13 : Int32)))) ?_
                    refine XS.aloadN X0.here hx rfl (hb hby d10_15) rfl rfl ?_
                    refine XS.iloadN X0.here hx rfl (hb hby d10_16) rfl ?_
                    show Steps _ _ _ (s₁.setTop (mkF m 17 #[rv a0, rv a1, iv 8] [(.int 8), (.ref a0)])) _
                    refine X0.baloadBytes hx (j := (8 : Int32)) (v := (.int y8)) (by rw [e0]; exact Ar1.1) (State.isArrayOf_alike hZ.alike Ar1.2.1) Ar1.2.2 (inb_of S1 ⟨by decide, by decide⟩) (Has.at H1 (inb_of S1 ⟨by decide, by decide⟩) rfl) (g := (mkF m 17 #[rv a0, rv a1, iv 8] [(.int 8), (.ref a0)])) rfl rfl (hb hby d10_17) _ ?_
                    refine XS.aloadN X0.here hx rfl (hb hby d10_18) rfl rfl ?_
                    refine XS.iloadN X0.here hx rfl (hb hby d10_19) rfl ?_
                    show Steps _ _ _ (s₁.setTop (mkF m 20 #[rv a0, rv a1, iv 8] [(.int 8), (.ref a1), (.int y8)])) _
                    refine X0.baloadBytes hx (j := (8 : Int32)) (v := (.int 110)) (by rw [e0]; exact Ar2.1) (State.isArrayOf_alike hZ.alike Ar2.2.1) Ar2.2.2 (inb_of S2 ⟨by decide, by decide⟩) (Has.at H2 (inb_of S2 ⟨by decide, by decide⟩) rfl) (g := (mkF m 20 #[rv a0, rv a1, iv 8] [(.int 8), (.ref a1), (.int y8)])) rfl rfl (hb hby d10_20) _ ?_
                    exact k
                  by_cases hs20 : y8 = (110 : Int32)
                  · have go21 : Go p.tables e below s₁ (mkF m 21 #[rv a0, rv a1, iv 9] [(.int 116), (.int y9)]) En := by
                      intro t k
                      refine go19 _ ?_
                      refine XS.icmpYes X0.here hx rfl (pc0 := 21) (pc' := 26) rfl (hb hby d10_21) rfl (XT.ii_eq_t hs20) (by decide) (by decide) ?_
                      refine XS.iinc X0.here hx rfl (hb hby d10_26) rfl (l' := #[rv a0, rv a1, iv 9]) rfl ?_
                      refine XS.goto X0.here hx rfl (pc0 := 29) (pc' := 9) rfl (hb hby d10_29) (by decide) (by decide) ?_
                      show Steps _ _ _ (s₁.setTop (mkF m 9 #[rv a0, rv a1, iv 9] [])) _
                      refine XS.iloadN X0.here hx rfl (hb hby d10_9) rfl ?_
                      refine XS.aloadN X0.here hx rfl (hb hby d10_10) rfl rfl ?_
                      refine X0.arraylength hx (by rw [e0]; exact Ar1.1) (State.isArrayOf_alike hZ.alike Ar1.2.1) (g := (mkF m 11 #[rv a0, rv a1, iv 9] [(.ref a0), (.int 9)])) rfl rfl (hb hby d10_11) _ ?_
                      rw [len_of S1 N1]
                      show Steps _ _ _ (s₁.setTop (mkF m 12 #[rv a0, rv a1, iv 9] [(.int 13), (.int 9)])) _
                      refine XS.icmpNo X0.here hx rfl (hb hby d10_12) rfl (XT.ii_ge_f (by decide : ((9 : Int32) < (13 : Int32)))) ?_
                      refine XS.aloadN X0.here hx rfl (hb hby d10_15) rfl rfl ?_
                      refine XS.iloadN X0.here hx rfl (hb hby d10_16) rfl ?_
                      show Steps _ _ _ (s₁.setTop (mkF m 17 #[rv a0, rv a1, iv 9] [(.int 9), (.ref a0)])) _
                      refine X0.baloadBytes hx (j := (9 : Int32)) (v := (.int y9)) (by rw [e0]; exact Ar1.1) (State.isArrayOf_alike hZ.alike Ar1.2.1) Ar1.2.2 (inb_of S1 ⟨by decide, by decide⟩) (Has.at H1 (inb_of S1 ⟨by decide, by decide⟩) rfl) (g := (mkF m 17 #[rv a0, rv a1, iv 9] [(.int 9), (.ref a0)])) rfl rfl (hb hby d10_17) _ ?_
                      refine XS.aloadN X0.here hx rfl (hb hby d10_18) rfl rfl ?_
                      refine XS.iloadN X0.here hx rfl (hb hby d10_19) rfl ?_
                      show Steps _ _ _ (s₁.setTop (mkF m 20 #[rv a0, rv a1, iv 9] [(.int 9), (.ref a1), (.int y9)])) _
                      refine X0.baloadBytes hx (j := (9 : Int32)) (v := (.int 116)) (by rw [e0]; exact Ar2.1) (State.isArrayOf_alike hZ.alike Ar2.2.1) Ar2.2.2 (inb_of S2 ⟨by decide, by decide⟩) (Has.at H2 (inb_of S2 ⟨by decide, by decide⟩) rfl) (g := (mkF m 20 #[rv a0, rv a1, iv 9] [(.int 9), (.ref a1), (.int y9)])) rfl rfl (hb hby d10_20) _ ?_
                      exact k
                    by_cases hs22 : y9 = (116 : Int32)
                    · have go23 : Go p.tables e below s₁ (mkF m 21 #[rv a0, rv a1, iv 10] [(.int 101), (.int y10)]) En := by
                        intro t k
                        refine go21 _ ?_
                        refine XS.icmpYes X0.here hx rfl (pc0 := 21) (pc' := 26) rfl (hb hby d10_21) rfl (XT.ii_eq_t hs22) (by decide) (by decide) ?_
                        refine XS.iinc X0.here hx rfl (hb hby d10_26) rfl (l' := #[rv a0, rv a1, iv 10]) rfl ?_
                        refine XS.goto X0.here hx rfl (pc0 := 29) (pc' := 9) rfl (hb hby d10_29) (by decide) (by decide) ?_
                        show Steps _ _ _ (s₁.setTop (mkF m 9 #[rv a0, rv a1, iv 10] [])) _
                        refine XS.iloadN X0.here hx rfl (hb hby d10_9) rfl ?_
                        refine XS.aloadN X0.here hx rfl (hb hby d10_10) rfl rfl ?_
                        refine X0.arraylength hx (by rw [e0]; exact Ar1.1) (State.isArrayOf_alike hZ.alike Ar1.2.1) (g := (mkF m 11 #[rv a0, rv a1, iv 10] [(.ref a0), (.int 10)])) rfl rfl (hb hby d10_11) _ ?_
                        rw [len_of S1 N1]
                        show Steps _ _ _ (s₁.setTop (mkF m 12 #[rv a0, rv a1, iv 10] [(.int 13), (.int 10)])) _
                        refine XS.icmpNo X0.here hx rfl (hb hby d10_12) rfl (XT.ii_ge_f (by decide : ((10 : Int32) < (13 : Int32)))) ?_
                        refine XS.aloadN X0.here hx rfl (hb hby d10_15) rfl rfl ?_
                        refine XS.iloadN X0.here hx rfl (hb hby d10_16) rfl ?_
                        show Steps _ _ _ (s₁.setTop (mkF m 17 #[rv a0, rv a1, iv 10] [(.int 10), (.ref a0)])) _
                        refine X0.baloadBytes hx (j := (10 : Int32)) (v := (.int y10)) (by rw [e0]; exact Ar1.1) (State.isArrayOf_alike hZ.alike Ar1.2.1) Ar1.2.2 (inb_of S1 ⟨by decide, by decide⟩) (Has.at H1 (inb_of S1 ⟨by decide, by decide⟩) rfl) (g := (mkF m 17 #[rv a0, rv a1, iv 10] [(.int 10), (.ref a0)])) rfl rfl (hb hby d10_17) _ ?_
                        refine XS.aloadN X0.here hx rfl (hb hby d10_18) rfl rfl ?_
                        refine XS.iloadN X0.here hx rfl (hb hby d10_19) rfl ?_
                        show Steps _ _ _ (s₁.setTop (mkF m 20 #[rv a0, rv a1, iv 10] [(.int 10), (.ref a1), (.int y10)])) _
                        refine X0.baloadBytes hx (j := (10 : Int32)) (v := (.int 101)) (by rw [e0]; exact Ar2.1) (State.isArrayOf_alike hZ.alike Ar2.2.1) Ar2.2.2 (inb_of S2 ⟨by decide, by decide⟩) (Has.at H2 (inb_of S2 ⟨by decide, by decide⟩) rfl) (g := (mkF m 20 #[rv a0, rv a1, iv 10] [(.int 10), (.ref a1), (.int y10)])) rfl rfl (hb hby d10_20) _ ?_
                        exact k
                      by_cases hs24 : y10 = (101 : Int32)
                      · have go25 : Go p.tables e below s₁ (mkF m 21 #[rv a0, rv a1, iv 11] [(.int 120), (.int y11)]) En := by
                          intro t k
                          refine go23 _ ?_
                          refine XS.icmpYes X0.here hx rfl (pc0 := 21) (pc' := 26) rfl (hb hby d10_21) rfl (XT.ii_eq_t hs24) (by decide) (by decide) ?_
                          refine XS.iinc X0.here hx rfl (hb hby d10_26) rfl (l' := #[rv a0, rv a1, iv 11]) rfl ?_
                          refine XS.goto X0.here hx rfl (pc0 := 29) (pc' := 9) rfl (hb hby d10_29) (by decide) (by decide) ?_
                          show Steps _ _ _ (s₁.setTop (mkF m 9 #[rv a0, rv a1, iv 11] [])) _
                          refine XS.iloadN X0.here hx rfl (hb hby d10_9) rfl ?_
                          refine XS.aloadN X0.here hx rfl (hb hby d10_10) rfl rfl ?_
                          refine X0.arraylength hx (by rw [e0]; exact Ar1.1) (State.isArrayOf_alike hZ.alike Ar1.2.1) (g := (mkF m 11 #[rv a0, rv a1, iv 11] [(.ref a0), (.int 11)])) rfl rfl (hb hby d10_11) _ ?_
                          rw [len_of S1 N1]
                          show Steps _ _ _ (s₁.setTop (mkF m 12 #[rv a0, rv a1, iv 11] [(.int 13), (.int 11)])) _
                          refine XS.icmpNo X0.here hx rfl (hb hby d10_12) rfl (XT.ii_ge_f (by decide : ((11 : Int32) < (13 : Int32)))) ?_
                          refine XS.aloadN X0.here hx rfl (hb hby d10_15) rfl rfl ?_
                          refine XS.iloadN X0.here hx rfl (hb hby d10_16) rfl ?_
                          show Steps _ _ _ (s₁.setTop (mkF m 17 #[rv a0, rv a1, iv 11] [(.int 11), (.ref a0)])) _
                          refine X0.baloadBytes hx (j := (11 : Int32)) (v := (.int y11)) (by rw [e0]; exact Ar1.1) (State.isArrayOf_alike hZ.alike Ar1.2.1) Ar1.2.2 (inb_of S1 ⟨by decide, by decide⟩) (Has.at H1 (inb_of S1 ⟨by decide, by decide⟩) rfl) (g := (mkF m 17 #[rv a0, rv a1, iv 11] [(.int 11), (.ref a0)])) rfl rfl (hb hby d10_17) _ ?_
                          refine XS.aloadN X0.here hx rfl (hb hby d10_18) rfl rfl ?_
                          refine XS.iloadN X0.here hx rfl (hb hby d10_19) rfl ?_
                          show Steps _ _ _ (s₁.setTop (mkF m 20 #[rv a0, rv a1, iv 11] [(.int 11), (.ref a1), (.int y11)])) _
                          refine X0.baloadBytes hx (j := (11 : Int32)) (v := (.int 120)) (by rw [e0]; exact Ar2.1) (State.isArrayOf_alike hZ.alike Ar2.2.1) Ar2.2.2 (inb_of S2 ⟨by decide, by decide⟩) (Has.at H2 (inb_of S2 ⟨by decide, by decide⟩) rfl) (g := (mkF m 20 #[rv a0, rv a1, iv 11] [(.int 11), (.ref a1), (.int y11)])) rfl rfl (hb hby d10_20) _ ?_
                          exact k
                        by_cases hs26 : y11 = (120 : Int32)
                        · have go27 : Go p.tables e below s₁ (mkF m 21 #[rv a0, rv a1, iv 12] [(.int 116), (.int y12)]) En := by
                            intro t k
                            refine go25 _ ?_
                            refine XS.icmpYes X0.here hx rfl (pc0 := 21) (pc' := 26) rfl (hb hby d10_21) rfl (XT.ii_eq_t hs26) (by decide) (by decide) ?_
                            refine XS.iinc X0.here hx rfl (hb hby d10_26) rfl (l' := #[rv a0, rv a1, iv 12]) rfl ?_
                            refine XS.goto X0.here hx rfl (pc0 := 29) (pc' := 9) rfl (hb hby d10_29) (by decide) (by decide) ?_
                            show Steps _ _ _ (s₁.setTop (mkF m 9 #[rv a0, rv a1, iv 12] [])) _
                            refine XS.iloadN X0.here hx rfl (hb hby d10_9) rfl ?_
                            refine XS.aloadN X0.here hx rfl (hb hby d10_10) rfl rfl ?_
                            refine X0.arraylength hx (by rw [e0]; exact Ar1.1) (State.isArrayOf_alike hZ.alike Ar1.2.1) (g := (mkF m 11 #[rv a0, rv a1, iv 12] [(.ref a0), (.int 12)])) rfl rfl (hb hby d10_11) _ ?_
                            rw [len_of S1 N1]
                            show Steps _ _ _ (s₁.setTop (mkF m 12 #[rv a0, rv a1, iv 12] [(.int 13), (.int 12)])) _
                            refine XS.icmpNo X0.here hx rfl (hb hby d10_12) rfl (XT.ii_ge_f (by decide : ((12 : Int32) < (13 : Int32)))) ?_
                            refine XS.aloadN X0.here hx rfl (hb hby d10_15) rfl rfl ?_
                            refine XS.iloadN X0.here hx rfl (hb hby d10_16) rfl ?_
                            show Steps _ _ _ (s₁.setTop (mkF m 17 #[rv a0, rv a1, iv 12] [(.int 12), (.ref a0)])) _
                            refine X0.baloadBytes hx (j := (12 : Int32)) (v := (.int y12)) (by rw [e0]; exact Ar1.1) (State.isArrayOf_alike hZ.alike Ar1.2.1) Ar1.2.2 (inb_of S1 ⟨by decide, by decide⟩) (Has.at H1 (inb_of S1 ⟨by decide, by decide⟩) rfl) (g := (mkF m 17 #[rv a0, rv a1, iv 12] [(.int 12), (.ref a0)])) rfl rfl (hb hby d10_17) _ ?_
                            refine XS.aloadN X0.here hx rfl (hb hby d10_18) rfl rfl ?_
                            refine XS.iloadN X0.here hx rfl (hb hby d10_19) rfl ?_
                            show Steps _ _ _ (s₁.setTop (mkF m 20 #[rv a0, rv a1, iv 12] [(.int 12), (.ref a1), (.int y12)])) _
                            refine X0.baloadBytes hx (j := (12 : Int32)) (v := (.int 116)) (by rw [e0]; exact Ar2.1) (State.isArrayOf_alike hZ.alike Ar2.2.1) Ar2.2.2 (inb_of S2 ⟨by decide, by decide⟩) (Has.at H2 (inb_of S2 ⟨by decide, by decide⟩) rfl) (g := (mkF m 20 #[rv a0, rv a1, iv 12] [(.int 12), (.ref a1), (.int y12)])) rfl rfl (hb hby d10_20) _ ?_
                            exact k
                          by_cases hs28 : y12 = (116 : Int32)
                          · have go29 : Go p.tables e below s₁ (mkF m 33 #[rv a0, rv a1, iv 13] [(.int 1)]) En := by
                              intro t k
                              refine go27 _ ?_
                              refine XS.icmpYes X0.here hx rfl (pc0 := 21) (pc' := 26) rfl (hb hby d10_21) rfl (XT.ii_eq_t hs28) (by decide) (by decide) ?_
                              refine XS.iinc X0.here hx rfl (hb hby d10_26) rfl (l' := #[rv a0, rv a1, iv 13]) rfl ?_
                              refine XS.goto X0.here hx rfl (pc0 := 29) (pc' := 9) rfl (hb hby d10_29) (by decide) (by decide) ?_
                              show Steps _ _ _ (s₁.setTop (mkF m 9 #[rv a0, rv a1, iv 13] [])) _
                              refine XS.iloadN X0.here hx rfl (hb hby d10_9) rfl ?_
                              refine XS.aloadN X0.here hx rfl (hb hby d10_10) rfl rfl ?_
                              refine X0.arraylength hx (by rw [e0]; exact Ar1.1) (State.isArrayOf_alike hZ.alike Ar1.2.1) (g := (mkF m 11 #[rv a0, rv a1, iv 13] [(.ref a0), (.int 13)])) rfl rfl (hb hby d10_11) _ ?_
                              rw [len_of S1 N1]
                              show Steps _ _ _ (s₁.setTop (mkF m 12 #[rv a0, rv a1, iv 13] [(.int 13), (.int 13)])) _
                              refine XS.icmpYes X0.here hx rfl (pc0 := 12) (pc' := 32) rfl (hb hby d10_12) rfl (XT.ii_ge_t (by decide : ¬ ((13 : Int32) < (13 : Int32)))) (by decide) (by decide) ?_
                              refine XS.iconst X0.here hx rfl (hb hby d10_32) ?_
                              exact k
                            refine own_out (w := (.int 1)) X0 hx hlk go29 hrt rfl (Or.inl ⟨rfl, Or.inr (Or.inl rfl), _, rfl⟩) (hb hby d10_33) e0 (by decide) (by decide) ?_
                            exact ⟨by rw [flq13, if_pos hs4, if_pos hs6, if_pos hs8, if_pos hs10, if_pos hs12, if_pos hs14, if_pos hs16, if_pos hs18, if_pos hs20, if_pos hs22, if_pos hs24, if_pos hs26, if_pos hs28], N0, rfl⟩
                          have go30 : Go p.tables e below s₁ (mkF m 25 #[rv a0, rv a1, iv 12] [(.int 0)]) En := by
                            intro t k
                            refine go27 _ ?_
                            refine XS.icmpNo X0.here hx rfl (hb hby d10_21) rfl (XT.ii_eq_f hs28) ?_
                            refine XS.iconst X0.here hx rfl (hb hby d10_24) ?_
                            exact k
                          refine own_out (w := (.int 0)) X0 hx hlk go30 hrt rfl (Or.inl ⟨rfl, Or.inr (Or.inl rfl), _, rfl⟩) (hb hby d10_25) e0 (by decide) (by decide) ?_
                          exact ⟨by rw [flq13, if_pos hs4, if_pos hs6, if_pos hs8, if_pos hs10, if_pos hs12, if_pos hs14, if_pos hs16, if_pos hs18, if_pos hs20, if_pos hs22, if_pos hs24, if_pos hs26, if_neg hs28], N0, rfl⟩
                        have go31 : Go p.tables e below s₁ (mkF m 25 #[rv a0, rv a1, iv 11] [(.int 0)]) En := by
                          intro t k
                          refine go25 _ ?_
                          refine XS.icmpNo X0.here hx rfl (hb hby d10_21) rfl (XT.ii_eq_f hs26) ?_
                          refine XS.iconst X0.here hx rfl (hb hby d10_24) ?_
                          exact k
                        refine own_out (w := (.int 0)) X0 hx hlk go31 hrt rfl (Or.inl ⟨rfl, Or.inr (Or.inl rfl), _, rfl⟩) (hb hby d10_25) e0 (by decide) (by decide) ?_
                        exact ⟨by rw [flq13, if_pos hs4, if_pos hs6, if_pos hs8, if_pos hs10, if_pos hs12, if_pos hs14, if_pos hs16, if_pos hs18, if_pos hs20, if_pos hs22, if_pos hs24, if_neg hs26], N0, rfl⟩
                      have go32 : Go p.tables e below s₁ (mkF m 25 #[rv a0, rv a1, iv 10] [(.int 0)]) En := by
                        intro t k
                        refine go23 _ ?_
                        refine XS.icmpNo X0.here hx rfl (hb hby d10_21) rfl (XT.ii_eq_f hs24) ?_
                        refine XS.iconst X0.here hx rfl (hb hby d10_24) ?_
                        exact k
                      refine own_out (w := (.int 0)) X0 hx hlk go32 hrt rfl (Or.inl ⟨rfl, Or.inr (Or.inl rfl), _, rfl⟩) (hb hby d10_25) e0 (by decide) (by decide) ?_
                      exact ⟨by rw [flq13, if_pos hs4, if_pos hs6, if_pos hs8, if_pos hs10, if_pos hs12, if_pos hs14, if_pos hs16, if_pos hs18, if_pos hs20, if_pos hs22, if_neg hs24], N0, rfl⟩
                    have go33 : Go p.tables e below s₁ (mkF m 25 #[rv a0, rv a1, iv 9] [(.int 0)]) En := by
                      intro t k
                      refine go21 _ ?_
                      refine XS.icmpNo X0.here hx rfl (hb hby d10_21) rfl (XT.ii_eq_f hs22) ?_
                      refine XS.iconst X0.here hx rfl (hb hby d10_24) ?_
                      exact k
                    refine own_out (w := (.int 0)) X0 hx hlk go33 hrt rfl (Or.inl ⟨rfl, Or.inr (Or.inl rfl), _, rfl⟩) (hb hby d10_25) e0 (by decide) (by decide) ?_
                    exact ⟨by rw [flq13, if_pos hs4, if_pos hs6, if_pos hs8, if_pos hs10, if_pos hs12, if_pos hs14, if_pos hs16, if_pos hs18, if_pos hs20, if_neg hs22], N0, rfl⟩
                  have go34 : Go p.tables e below s₁ (mkF m 25 #[rv a0, rv a1, iv 8] [(.int 0)]) En := by
                    intro t k
                    refine go19 _ ?_
                    refine XS.icmpNo X0.here hx rfl (hb hby d10_21) rfl (XT.ii_eq_f hs20) ?_
                    refine XS.iconst X0.here hx rfl (hb hby d10_24) ?_
                    exact k
                  refine own_out (w := (.int 0)) X0 hx hlk go34 hrt rfl (Or.inl ⟨rfl, Or.inr (Or.inl rfl), _, rfl⟩) (hb hby d10_25) e0 (by decide) (by decide) ?_
                  exact ⟨by rw [flq13, if_pos hs4, if_pos hs6, if_pos hs8, if_pos hs10, if_pos hs12, if_pos hs14, if_pos hs16, if_pos hs18, if_neg hs20], N0, rfl⟩
                have go35 : Go p.tables e below s₁ (mkF m 25 #[rv a0, rv a1, iv 7] [(.int 0)]) En := by
                  intro t k
                  refine go17 _ ?_
                  refine XS.icmpNo X0.here hx rfl (hb hby d10_21) rfl (XT.ii_eq_f hs18) ?_
                  refine XS.iconst X0.here hx rfl (hb hby d10_24) ?_
                  exact k
                refine own_out (w := (.int 0)) X0 hx hlk go35 hrt rfl (Or.inl ⟨rfl, Or.inr (Or.inl rfl), _, rfl⟩) (hb hby d10_25) e0 (by decide) (by decide) ?_
                exact ⟨by rw [flq13, if_pos hs4, if_pos hs6, if_pos hs8, if_pos hs10, if_pos hs12, if_pos hs14, if_pos hs16, if_neg hs18], N0, rfl⟩
              have go36 : Go p.tables e below s₁ (mkF m 25 #[rv a0, rv a1, iv 6] [(.int 0)]) En := by
                intro t k
                refine go15 _ ?_
                refine XS.icmpNo X0.here hx rfl (hb hby d10_21) rfl (XT.ii_eq_f hs16) ?_
                refine XS.iconst X0.here hx rfl (hb hby d10_24) ?_
                exact k
              refine own_out (w := (.int 0)) X0 hx hlk go36 hrt rfl (Or.inl ⟨rfl, Or.inr (Or.inl rfl), _, rfl⟩) (hb hby d10_25) e0 (by decide) (by decide) ?_
              exact ⟨by rw [flq13, if_pos hs4, if_pos hs6, if_pos hs8, if_pos hs10, if_pos hs12, if_pos hs14, if_neg hs16], N0, rfl⟩
            have go37 : Go p.tables e below s₁ (mkF m 25 #[rv a0, rv a1, iv 5] [(.int 0)]) En := by
              intro t k
              refine go13 _ ?_
              refine XS.icmpNo X0.here hx rfl (hb hby d10_21) rfl (XT.ii_eq_f hs14) ?_
              refine XS.iconst X0.here hx rfl (hb hby d10_24) ?_
              exact k
            refine own_out (w := (.int 0)) X0 hx hlk go37 hrt rfl (Or.inl ⟨rfl, Or.inr (Or.inl rfl), _, rfl⟩) (hb hby d10_25) e0 (by decide) (by decide) ?_
            exact ⟨by rw [flq13, if_pos hs4, if_pos hs6, if_pos hs8, if_pos hs10, if_pos hs12, if_neg hs14], N0, rfl⟩
          have go38 : Go p.tables e below s₁ (mkF m 25 #[rv a0, rv a1, iv 4] [(.int 0)]) En := by
            intro t k
            refine go11 _ ?_
            refine XS.icmpNo X0.here hx rfl (hb hby d10_21) rfl (XT.ii_eq_f hs12) ?_
            refine XS.iconst X0.here hx rfl (hb hby d10_24) ?_
            exact k
          refine own_out (w := (.int 0)) X0 hx hlk go38 hrt rfl (Or.inl ⟨rfl, Or.inr (Or.inl rfl), _, rfl⟩) (hb hby d10_25) e0 (by decide) (by decide) ?_
          exact ⟨by rw [flq13, if_pos hs4, if_pos hs6, if_pos hs8, if_pos hs10, if_neg hs12], N0, rfl⟩
        have go39 : Go p.tables e below s₁ (mkF m 25 #[rv a0, rv a1, iv 3] [(.int 0)]) En := by
          intro t k
          refine go9 _ ?_
          refine XS.icmpNo X0.here hx rfl (hb hby d10_21) rfl (XT.ii_eq_f hs10) ?_
          refine XS.iconst X0.here hx rfl (hb hby d10_24) ?_
          exact k
        refine own_out (w := (.int 0)) X0 hx hlk go39 hrt rfl (Or.inl ⟨rfl, Or.inr (Or.inl rfl), _, rfl⟩) (hb hby d10_25) e0 (by decide) (by decide) ?_
        exact ⟨by rw [flq13, if_pos hs4, if_pos hs6, if_pos hs8, if_neg hs10], N0, rfl⟩
      have go40 : Go p.tables e below s₁ (mkF m 25 #[rv a0, rv a1, iv 2] [(.int 0)]) En := by
        intro t k
        refine go7 _ ?_
        refine XS.icmpNo X0.here hx rfl (hb hby d10_21) rfl (XT.ii_eq_f hs8) ?_
        refine XS.iconst X0.here hx rfl (hb hby d10_24) ?_
        exact k
      refine own_out (w := (.int 0)) X0 hx hlk go40 hrt rfl (Or.inl ⟨rfl, Or.inr (Or.inl rfl), _, rfl⟩) (hb hby d10_25) e0 (by decide) (by decide) ?_
      exact ⟨by rw [flq13, if_pos hs4, if_pos hs6, if_neg hs8], N0, rfl⟩
    have go41 : Go p.tables e below s₁ (mkF m 25 #[rv a0, rv a1, iv 1] [(.int 0)]) En := by
      intro t k
      refine go5 _ ?_
      refine XS.icmpNo X0.here hx rfl (hb hby d10_21) rfl (XT.ii_eq_f hs6) ?_
      refine XS.iconst X0.here hx rfl (hb hby d10_24) ?_
      exact k
    refine own_out (w := (.int 0)) X0 hx hlk go41 hrt rfl (Or.inl ⟨rfl, Or.inr (Or.inl rfl), _, rfl⟩) (hb hby d10_25) e0 (by decide) (by decide) ?_
    exact ⟨by rw [flq13, if_pos hs4, if_neg hs6], N0, rfl⟩
  have go42 : Go p.tables e below s₁ (mkF m 25 #[rv a0, rv a1, iv 0] [(.int 0)]) En := by
    intro t k
    refine go3 _ ?_
    refine XS.icmpNo X0.here hx rfl (hb hby d10_21) rfl (XT.ii_eq_f hs4) ?_
    refine XS.iconst X0.here hx rfl (hb hby d10_24) ?_
    exact k
  refine own_out (w := (.int 0)) X0 hx hlk go42 hrt rfl (Or.inl ⟨rfl, Or.inr (Or.inl rfl), _, rfl⟩) (hb hby d10_25) e0 (by decide) (by decide) ?_
  exact ⟨by rw [flq13, if_neg hs4], N0, rfl⟩
def flq11 (y0 : Int32) (y1 : Int32) (y2 : Int32) (y3 : Int32) (y4 : Int32) (y5 : Int32) (y6 : Int32) (y7 : Int32) (y8 : Int32) (y9 : Int32) (y10 : Int32) : Int32 := (if y0 = (109 : Int32) then (if y1 = (111 : Int32) then (if y2 = (100 : Int32) then (if y3 = (117 : Int32) then (if y4 = (108 : Int32) then (if y5 = (101 : Int32) then (if y6 = (83 : Int32) then (if y7 = (99 : Int32) then (if y8 = (111 : Int32) then (if y9 = (112 : Int32) then (if y10 = (101 : Int32) then (1 : Int32) else (0 : Int32)) else (0 : Int32)) else (0 : Int32)) else (0 : Int32)) else (0 : Int32)) else (0 : Int32)) else (0 : Int32)) else (0 : Int32)) else (0 : Int32)) else (0 : Int32)) else (0 : Int32))
theorem eflq11 (m : MethodId) (a0 : Addr) (a1 : Addr) : entryFrame m #[(.ref a0), (.ref a1)] 3 = mkF m 0 #[rv a0, rv a1, .unset] [] := by first | (simp [entryFrame, mkF, argsToLocals, Value.category]; done) | rfl
set_option maxRecDepth 65536 in
set_option maxHeartbeats 40000000 in
theorem rmlq11 (l : Launch) (Z : State) (aZ : Array Value) (hw : ∀ d ∈ tables_1, d.before aZ Z = true) (ws : List Jvm.Cond) (a0 : Addr) (a1 : Addr) (k_a0 : ClassId) (y0 : Int32) (y1 : Int32) (y2 : Int32) (y3 : Int32) (y4 : Int32) (y5 : Int32) (y6 : Int32) (y7 : Int32) (y8 : Int32) (y9 : Int32) (y10 : Int32) (k_a1 : ClassId) (h0 : Heap) (n0 : Nat) (Z0 : n0 ≤ h0.size) (V_a0 : Arv Z h0 a0 k_a0 .byte (11 : Int32) [(.int y0), (.int y1), (.int y2), (.int y3), (.int y4), (.int y5), (.int y6), (.int y7), (.int y8), (.int y9), (.int y10)] (.int 0)) (V_a1 : Arv Z h0 a1 k_a1 .byte (11 : Int32) [(.int 109), (.int 111), (.int 100), (.int 117), (.int 108), (.int 101), (.int 83), (.int 99), (.int 111), (.int 112), (.int 101)] (.int 0)) :
    MFn l (⟨"java/lang/StringLatin1", "equals", "([B[B)Z"⟩ : MethodName) jdk_43_method_13_code 3 (some .boolean) ws (Rm 0 0 0 0) #[(.ref a0), (.ref a1)] Z h0 (QP n0 h0 (some (.int (flq11 y0 y1 y2 y3 y4 y5 y6 y7 y8 y9 y10)))) := by
  refine own_mf (C := "java/lang/StringLatin1") rfl (plainFor_of_name pn_560) (fun m => eflq11 m a0 a1) ?_
  intro p e s m below meth cd0 s₁ En hx hby hml hown hnm hZ X0 e0 hlk hrt go0
  have N0 := Fr.nil n0
  have K0 : Keep h0 h0 [] := Keep.refl _ _
  obtain ⟨cl1, Ar1, q1, S1, N1, H1, G1⟩ := id V_a0
  obtain ⟨cl2, Ar2, q2, S2, N2, H2, G2⟩ := id V_a1
  have go3 : Go p.tables e below s₁ (mkF m 21 #[rv a0, rv a1, iv 0] [(.int 109), (.int y0)]) En := by
    intro t k
    refine go0 _ ?_
    refine XS.aloadN X0.here hx rfl (hb hby d10_0) rfl rfl ?_
    refine X0.arraylength hx (by rw [e0]; exact Ar1.1) (State.isArrayOf_alike hZ.alike Ar1.2.1) (g := (mkF m 1 #[rv a0, rv a1, .unset] [(.ref a0)])) rfl rfl (hb hby d10_1) _ ?_
    rw [len_of S1 N1]
    show Steps _ _ _ (s₁.setTop (mkF m 2 #[rv a0, rv a1, .unset] [(.int 11)])) _
    refine XS.aloadN X0.here hx rfl (hb hby d10_2) rfl rfl ?_
    refine X0.arraylength hx (by rw [e0]; exact Ar2.1) (State.isArrayOf_alike hZ.alike Ar2.2.1) (g := (mkF m 3 #[rv a0, rv a1, .unset] [(.ref a1), (.int 11)])) rfl rfl (hb hby d10_3) _ ?_
    rw [len_of S2 N2]
    show Steps _ _ _ (s₁.setTop (mkF m 4 #[rv a0, rv a1, .unset] [(.int 11), (.int 11)])) _
    refine XS.icmpNo X0.here hx rfl (hb hby d10_4) rfl (XT.ii_ne_f (by decide : ((11 : Int32) = (11 : Int32)))) ?_
    refine XS.iconst X0.here hx rfl (hb hby d10_7) ?_
    refine XS.istoreN X0.here hx rfl (hb hby d10_8) rfl (l' := #[rv a0, rv a1, iv 0]) rfl ?_
    show Steps _ _ _ (s₁.setTop (mkF m 9 #[rv a0, rv a1, iv 0] [])) _
    refine XS.iloadN X0.here hx rfl (hb hby d10_9) rfl ?_
    refine XS.aloadN X0.here hx rfl (hb hby d10_10) rfl rfl ?_
    refine X0.arraylength hx (by rw [e0]; exact Ar1.1) (State.isArrayOf_alike hZ.alike Ar1.2.1) (g := (mkF m 11 #[rv a0, rv a1, iv 0] [(.ref a0), (.int 0)])) rfl rfl (hb hby d10_11) _ ?_
    rw [len_of S1 N1]
    show Steps _ _ _ (s₁.setTop (mkF m 12 #[rv a0, rv a1, iv 0] [(.int 11), (.int 0)])) _
    refine XS.icmpNo X0.here hx rfl (hb hby d10_12) rfl (XT.ii_ge_f (by decide : ((0 : Int32) < (11 : Int32)))) ?_
    refine XS.aloadN X0.here hx rfl (hb hby d10_15) rfl rfl ?_
    refine XS.iloadN X0.here hx rfl (hb hby d10_16) rfl ?_
    show Steps _ _ _ (s₁.setTop (mkF m 17 #[rv a0, rv a1, iv 0] [(.int 0), (.ref a0)])) _
    refine X0.baloadBytes hx (j := (0 : Int32)) (v := (.int y0)) (by rw [e0]; exact Ar1.1) (State.isArrayOf_alike hZ.alike Ar1.2.1) Ar1.2.2 (inb_of S1 ⟨by decide, by decide⟩) (Has.at H1 (inb_of S1 ⟨by decide, by decide⟩) rfl) (g := (mkF m 17 #[rv a0, rv a1, iv 0] [(.int 0), (.ref a0)])) rfl rfl (hb hby d10_17) _ ?_
    refine XS.aloadN X0.here hx rfl (hb hby d10_18) rfl rfl ?_
    refine XS.iloadN X0.here hx rfl (hb hby d10_19) rfl ?_
    show Steps _ _ _ (s₁.setTop (mkF m 20 #[rv a0, rv a1, iv 0] [(.int 0), (.ref a1), (.int y0)])) _
    refine X0.baloadBytes hx (j := (0 : Int32)) (v := (.int 109)) (by rw [e0]; exact Ar2.1) (State.isArrayOf_alike hZ.alike Ar2.2.1) Ar2.2.2 (inb_of S2 ⟨by decide, by decide⟩) (Has.at H2 (inb_of S2 ⟨by decide, by decide⟩) rfl) (g := (mkF m 20 #[rv a0, rv a1, iv 0] [(.int 0), (.ref a1), (.int y0)])) rfl rfl (hb hby d10_20) _ ?_
    exact k
  by_cases hs4 : y0 = (109 : Int32)
  · have go5 : Go p.tables e below s₁ (mkF m 21 #[rv a0, rv a1, iv 1] [(.int 111), (.int y1)]) En := by
      intro t k
      refine go3 _ ?_
      refine XS.icmpYes X0.here hx rfl (pc0 := 21) (pc' := 26) rfl (hb hby d10_21) rfl (XT.ii_eq_t hs4) (by decide) (by decide) ?_
      refine XS.iinc X0.here hx rfl (hb hby d10_26) rfl (l' := #[rv a0, rv a1, iv 1]) rfl ?_
      refine XS.goto X0.here hx rfl (pc0 := 29) (pc' := 9) rfl (hb hby d10_29) (by decide) (by decide) ?_
      show Steps _ _ _ (s₁.setTop (mkF m 9 #[rv a0, rv a1, iv 1] [])) _
      refine XS.iloadN X0.here hx rfl (hb hby d10_9) rfl ?_
      refine XS.aloadN X0.here hx rfl (hb hby d10_10) rfl rfl ?_
      refine X0.arraylength hx (by rw [e0]; exact Ar1.1) (State.isArrayOf_alike hZ.alike Ar1.2.1) (g := (mkF m 11 #[rv a0, rv a1, iv 1] [(.ref a0), (.int 1)])) rfl rfl (hb hby d10_11) _ ?_
      rw [len_of S1 N1]
      show Steps _ _ _ (s₁.setTop (mkF m 12 #[rv a0, rv a1, iv 1] [(.int 11), (.int 1)])) _
      refine XS.icmpNo X0.here hx rfl (hb hby d10_12) rfl (XT.ii_ge_f (by decide : ((1 : Int32) < (11 : Int32)))) ?_
      refine XS.aloadN X0.here hx rfl (hb hby d10_15) rfl rfl ?_
      refine XS.iloadN X0.here hx rfl (hb hby d10_16) rfl ?_
      show Steps _ _ _ (s₁.setTop (mkF m 17 #[rv a0, rv a1, iv 1] [(.int 1), (.ref a0)])) _
      refine X0.baloadBytes hx (j := (1 : Int32)) (v := (.int y1)) (by rw [e0]; exact Ar1.1) (State.isArrayOf_alike hZ.alike Ar1.2.1) Ar1.2.2 (inb_of S1 ⟨by decide, by decide⟩) (Has.at H1 (inb_of S1 ⟨by decide, by decide⟩) rfl) (g := (mkF m 17 #[rv a0, rv a1, iv 1] [(.int 1), (.ref a0)])) rfl rfl (hb hby d10_17) _ ?_
      refine XS.aloadN X0.here hx rfl (hb hby d10_18) rfl rfl ?_
      refine XS.iloadN X0.here hx rfl (hb hby d10_19) rfl ?_
      show Steps _ _ _ (s₁.setTop (mkF m 20 #[rv a0, rv a1, iv 1] [(.int 1), (.ref a1), (.int y1)])) _
      refine X0.baloadBytes hx (j := (1 : Int32)) (v := (.int 111)) (by rw [e0]; exact Ar2.1) (State.isArrayOf_alike hZ.alike Ar2.2.1) Ar2.2.2 (inb_of S2 ⟨by decide, by decide⟩) (Has.at H2 (inb_of S2 ⟨by decide, by decide⟩) rfl) (g := (mkF m 20 #[rv a0, rv a1, iv 1] [(.int 1), (.ref a1), (.int y1)])) rfl rfl (hb hby d10_20) _ ?_
      exact k
    by_cases hs6 : y1 = (111 : Int32)
    · have go7 : Go p.tables e below s₁ (mkF m 21 #[rv a0, rv a1, iv 2] [(.int 100), (.int y2)]) En := by
        intro t k
        refine go5 _ ?_
        refine XS.icmpYes X0.here hx rfl (pc0 := 21) (pc' := 26) rfl (hb hby d10_21) rfl (XT.ii_eq_t hs6) (by decide) (by decide) ?_
        refine XS.iinc X0.here hx rfl (hb hby d10_26) rfl (l' := #[rv a0, rv a1, iv 2]) rfl ?_
        refine XS.goto X0.here hx rfl (pc0 := 29) (pc' := 9) rfl (hb hby d10_29) (by decide) (by decide) ?_
        show Steps _ _ _ (s₁.setTop (mkF m 9 #[rv a0, rv a1, iv 2] [])) _
        refine XS.iloadN X0.here hx rfl (hb hby d10_9) rfl ?_
        refine XS.aloadN X0.here hx rfl (hb hby d10_10) rfl rfl ?_
        refine X0.arraylength hx (by rw [e0]; exact Ar1.1) (State.isArrayOf_alike hZ.alike Ar1.2.1) (g := (mkF m 11 #[rv a0, rv a1, iv 2] [(.ref a0), (.int 2)])) rfl rfl (hb hby d10_11) _ ?_
        rw [len_of S1 N1]
        show Steps _ _ _ (s₁.setTop (mkF m 12 #[rv a0, rv a1, iv 2] [(.int 11), (.int 2)])) _
        refine XS.icmpNo X0.here hx rfl (hb hby d10_12) rfl (XT.ii_ge_f (by decide : ((2 : Int32) < (11 : Int32)))) ?_
        refine XS.aloadN X0.here hx rfl (hb hby d10_15) rfl rfl ?_
        refine XS.iloadN X0.here hx rfl (hb hby d10_16) rfl ?_
        show Steps _ _ _ (s₁.setTop (mkF m 17 #[rv a0, rv a1, iv 2] [(.int 2), (.ref a0)])) _
        refine X0.baloadBytes hx (j := (2 : Int32)) (v := (.int y2)) (by rw [e0]; exact Ar1.1) (State.isArrayOf_alike hZ.alike Ar1.2.1) Ar1.2.2 (inb_of S1 ⟨by decide, by decide⟩) (Has.at H1 (inb_of S1 ⟨by decide, by decide⟩) rfl) (g := (mkF m 17 #[rv a0, rv a1, iv 2] [(.int 2), (.ref a0)])) rfl rfl (hb hby d10_17) _ ?_
        refine XS.aloadN X0.here hx rfl (hb hby d10_18) rfl rfl ?_
        refine XS.iloadN X0.here hx rfl (hb hby d10_19) rfl ?_
        show Steps _ _ _ (s₁.setTop (mkF m 20 #[rv a0, rv a1, iv 2] [(.int 2), (.ref a1), (.int y2)])) _
        refine X0.baloadBytes hx (j := (2 : Int32)) (v := (.int 100)) (by rw [e0]; exact Ar2.1) (State.isArrayOf_alike hZ.alike Ar2.2.1) Ar2.2.2 (inb_of S2 ⟨by decide, by decide⟩) (Has.at H2 (inb_of S2 ⟨by decide, by decide⟩) rfl) (g := (mkF m 20 #[rv a0, rv a1, iv 2] [(.int 2), (.ref a1), (.int y2)])) rfl rfl (hb hby d10_20) _ ?_
        exact k
      by_cases hs8 : y2 = (100 : Int32)
      · have go9 : Go p.tables e below s₁ (mkF m 21 #[rv a0, rv a1, iv 3] [(.int 117), (.int y3)]) En := by
          intro t k
          refine go7 _ ?_
          refine XS.icmpYes X0.here hx rfl (pc0 := 21) (pc' := 26) rfl (hb hby d10_21) rfl (XT.ii_eq_t hs8) (by decide) (by decide) ?_
          refine XS.iinc X0.here hx rfl (hb hby d10_26) rfl (l' := #[rv a0, rv a1, iv 3]) rfl ?_
          refine XS.goto X0.here hx rfl (pc0 := 29) (pc' := 9) rfl (hb hby d10_29) (by decide) (by decide) ?_
          show Steps _ _ _ (s₁.setTop (mkF m 9 #[rv a0, rv a1, iv 3] [])) _
          refine XS.iloadN X0.here hx rfl (hb hby d10_9) rfl ?_
          refine XS.aloadN X0.here hx rfl (hb hby d10_10) rfl rfl ?_
          refine X0.arraylength hx (by rw [e0]; exact Ar1.1) (State.isArrayOf_alike hZ.alike Ar1.2.1) (g := (mkF m 11 #[rv a0, rv a1, iv 3] [(.ref a0), (.int 3)])) rfl rfl (hb hby d10_11) _ ?_
          rw [len_of S1 N1]
          show Steps _ _ _ (s₁.setTop (mkF m 12 #[rv a0, rv a1, iv 3] [(.int 11), (.int 3)])) _
          refine XS.icmpNo X0.here hx rfl (hb hby d10_12) rfl (XT.ii_ge_f (by decide : ((3 : Int32) < (11 : Int32)))) ?_
          refine XS.aloadN X0.here hx rfl (hb hby d10_15) rfl rfl ?_
          refine XS.iloadN X0.here hx rfl (hb hby d10_16) rfl ?_
          show Steps _ _ _ (s₁.setTop (mkF m 17 #[rv a0, rv a1, iv 3] [(.int 3), (.ref a0)])) _
          refine X0.baloadBytes hx (j := (3 : Int32)) (v := (.int y3)) (by rw [e0]; exact Ar1.1) (State.isArrayOf_alike hZ.alike Ar1.2.1) Ar1.2.2 (inb_of S1 ⟨by decide, by decide⟩) (Has.at H1 (inb_of S1 ⟨by decide, by decide⟩) rfl) (g := (mkF m 17 #[rv a0, rv a1, iv 3] [(.int 3), (.ref a0)])) rfl rfl (hb hby d10_17) _ ?_
          refine XS.aloadN X0.here hx rfl (hb hby d10_18) rfl rfl ?_
          refine XS.iloadN X0.here hx rfl (hb hby d10_19) rfl ?_
          show Steps _ _ _ (s₁.setTop (mkF m 20 #[rv a0, rv a1, iv 3] [(.int 3), (.ref a1), (.int y3)])) _
          refine X0.baloadBytes hx (j := (3 : Int32)) (v := (.int 117)) (by rw [e0]; exact Ar2.1) (State.isArrayOf_alike hZ.alike Ar2.2.1) Ar2.2.2 (inb_of S2 ⟨by decide, by decide⟩) (Has.at H2 (inb_of S2 ⟨by decide, by decide⟩) rfl) (g := (mkF m 20 #[rv a0, rv a1, iv 3] [(.int 3), (.ref a1), (.int y3)])) rfl rfl (hb hby d10_20) _ ?_
          exact k
        by_cases hs10 : y3 = (117 : Int32)
        · have go11 : Go p.tables e below s₁ (mkF m 21 #[rv a0, rv a1, iv 4] [(.int 108), (.int y4)]) En := by
            intro t k
            refine go9 _ ?_
            refine XS.icmpYes X0.here hx rfl (pc0 := 21) (pc' := 26) rfl (hb hby d10_21) rfl (XT.ii_eq_t hs10) (by decide) (by decide) ?_
            refine XS.iinc X0.here hx rfl (hb hby d10_26) rfl (l' := #[rv a0, rv a1, iv 4]) rfl ?_
            refine XS.goto X0.here hx rfl (pc0 := 29) (pc' := 9) rfl (hb hby d10_29) (by decide) (by decide) ?_
            show Steps _ _ _ (s₁.setTop (mkF m 9 #[rv a0, rv a1, iv 4] [])) _
            refine XS.iloadN X0.here hx rfl (hb hby d10_9) rfl ?_
            refine XS.aloadN X0.here hx rfl (hb hby d10_10) rfl rfl ?_
            refine X0.arraylength hx (by rw [e0]; exact Ar1.1) (State.isArrayOf_alike hZ.alike Ar1.2.1) (g := (mkF m 11 #[rv a0, rv a1, iv 4] [(.ref a0), (.int 4)])) rfl rfl (hb hby d10_11) _ ?_
            rw [len_of S1 N1]
            show Steps _ _ _ (s₁.setTop (mkF m 12 #[rv a0, rv a1, iv 4] [(.int 11), (.int 4)])) _
            refine XS.icmpNo X0.here hx rfl (hb hby d10_12) rfl (XT.ii_ge_f (by decide : ((4 : Int32) < (11 : Int32)))) ?_
            refine XS.aloadN X0.here hx rfl (hb hby d10_15) rfl rfl ?_
            refine XS.iloadN X0.here hx rfl (hb hby d10_16) rfl ?_
            show Steps _ _ _ (s₁.setTop (mkF m 17 #[rv a0, rv a1, iv 4] [(.int 4), (.ref a0)])) _
            refine X0.baloadBytes hx (j := (4 : Int32)) (v := (.int y4)) (by rw [e0]; exact Ar1.1) (State.isArrayOf_alike hZ.alike Ar1.2.1) Ar1.2.2 (inb_of S1 ⟨by decide, by decide⟩) (Has.at H1 (inb_of S1 ⟨by decide, by decide⟩) rfl) (g := (mkF m 17 #[rv a0, rv a1, iv 4] [(.int 4), (.ref a0)])) rfl rfl (hb hby d10_17) _ ?_
            refine XS.aloadN X0.here hx rfl (hb hby d10_18) rfl rfl ?_
            refine XS.iloadN X0.here hx rfl (hb hby d10_19) rfl ?_
            show Steps _ _ _ (s₁.setTop (mkF m 20 #[rv a0, rv a1, iv 4] [(.int 4), (.ref a1), (.int y4)])) _
            refine X0.baloadBytes hx (j := (4 : Int32)) (v := (.int 108)) (by rw [e0]; exact Ar2.1) (State.isArrayOf_alike hZ.alike Ar2.2.1) Ar2.2.2 (inb_of S2 ⟨by decide, by decide⟩) (Has.at H2 (inb_of S2 ⟨by decide, by decide⟩) rfl) (g := (mkF m 20 #[rv a0, rv a1, iv 4] [(.int 4), (.ref a1), (.int y4)])) rfl rfl (hb hby d10_20) _ ?_
            exact k
          by_cases hs12 : y4 = (108 : Int32)
          · have go13 : Go p.tables e below s₁ (mkF m 21 #[rv a0, rv a1, iv 5] [(.int 101), (.int y5)]) En := by
              intro t k
              refine go11 _ ?_
              refine XS.icmpYes X0.here hx rfl (pc0 := 21) (pc' := 26) rfl (hb hby d10_21) rfl (XT.ii_eq_t hs12) (by decide) (by decide) ?_
              refine XS.iinc X0.here hx rfl (hb hby d10_26) rfl (l' := #[rv a0, rv a1, iv 5]) rfl ?_
              refine XS.goto X0.here hx rfl (pc0 := 29) (pc' := 9) rfl (hb hby d10_29) (by decide) (by decide) ?_
              show Steps _ _ _ (s₁.setTop (mkF m 9 #[rv a0, rv a1, iv 5] [])) _
              refine XS.iloadN X0.here hx rfl (hb hby d10_9) rfl ?_
              refine XS.aloadN X0.here hx rfl (hb hby d10_10) rfl rfl ?_
              refine X0.arraylength hx (by rw [e0]; exact Ar1.1) (State.isArrayOf_alike hZ.alike Ar1.2.1) (g := (mkF m 11 #[rv a0, rv a1, iv 5] [(.ref a0), (.int 5)])) rfl rfl (hb hby d10_11) _ ?_
              rw [len_of S1 N1]
              show Steps _ _ _ (s₁.setTop (mkF m 12 #[rv a0, rv a1, iv 5] [(.int 11), (.int 5)])) _
              refine XS.icmpNo X0.here hx rfl (hb hby d10_12) rfl (XT.ii_ge_f (by decide : ((5 : Int32) < (11 : Int32)))) ?_
              refine XS.aloadN X0.here hx rfl (hb hby d10_15) rfl rfl ?_
              refine XS.iloadN X0.here hx rfl (hb hby d10_16) rfl ?_
              show Steps _ _ _ (s₁.setTop (mkF m 17 #[rv a0, rv a1, iv 5] [(.int 5), (.ref a0)])) _
              refine X0.baloadBytes hx (j := (5 : Int32)) (v := (.int y5)) (by rw [e0]; exact Ar1.1) (State.isArrayOf_alike hZ.alike Ar1.2.1) Ar1.2.2 (inb_of S1 ⟨by decide, by decide⟩) (Has.at H1 (inb_of S1 ⟨by decide, by decide⟩) rfl) (g := (mkF m 17 #[rv a0, rv a1, iv 5] [(.int 5), (.ref a0)])) rfl rfl (hb hby d10_17) _ ?_
              refine XS.aloadN X0.here hx rfl (hb hby d10_18) rfl rfl ?_
              refine XS.iloadN X0.here hx rfl (hb hby d10_19) rfl ?_
              show Steps _ _ _ (s₁.setTop (mkF m 20 #[rv a0, rv a1, iv 5] [(.int 5), (.ref a1), (.int y5)])) _
              refine X0.baloadBytes hx (j := (5 : Int32)) (v := (.int 101)) (by rw [e0]; exact Ar2.1) (State.isArrayOf_alike hZ.alike Ar2.2.1) Ar2.2.2 (inb_of S2 ⟨by decide, by decide⟩) (Has.at H2 (inb_of S2 ⟨by decide, by decide⟩) rfl) (g := (mkF m 20 #[rv a0, rv a1, iv 5] [(.int 5), (.ref a1), (.int y5)])) rfl rfl (hb hby d10_20) _ ?_
              exact k
            by_cases hs14 : y5 = (101 : Int32)
            · have go15 : Go p.tables e below s₁ (mkF m 21 #[rv a0, rv a1, iv 6] [(.int 83), (.int y6)]) En := by
                intro t k
                refine go13 _ ?_
                refine XS.icmpYes X0.here hx rfl (pc0 := 21) (pc' := 26) rfl (hb hby d10_21) rfl (XT.ii_eq_t hs14) (by decide) (by decide) ?_
                refine XS.iinc X0.here hx rfl (hb hby d10_26) rfl (l' := #[rv a0, rv a1, iv 6]) rfl ?_
                refine XS.goto X0.here hx rfl (pc0 := 29) (pc' := 9) rfl (hb hby d10_29) (by decide) (by decide) ?_
                show Steps _ _ _ (s₁.setTop (mkF m 9 #[rv a0, rv a1, iv 6] [])) _
                refine XS.iloadN X0.here hx rfl (hb hby d10_9) rfl ?_
                refine XS.aloadN X0.here hx rfl (hb hby d10_10) rfl rfl ?_
                refine X0.arraylength hx (by rw [e0]; exact Ar1.1) (State.isArrayOf_alike hZ.alike Ar1.2.1) (g := (mkF m 11 #[rv a0, rv a1, iv 6] [(.ref a0), (.int 6)])) rfl rfl (hb hby d10_11) _ ?_
                rw [len_of S1 N1]
                show Steps _ _ _ (s₁.setTop (mkF m 12 #[rv a0, rv a1, iv 6] [(.int 11), (.int 6)])) _
                refine XS.icmpNo X0.here hx rfl (hb hby d10_12) rfl (XT.ii_ge_f (by decide : ((6 : Int32) < (11 : Int32)))) ?_
                refine XS.aloadN X0.here hx rfl (hb hby d10_15) rfl rfl ?_
                refine XS.iloadN X0.here hx rfl (hb hby d10_16) rfl ?_
                show Steps _ _ _ (s₁.setTop (mkF m 17 #[rv a0, rv a1, iv 6] [(.int 6), (.ref a0)])) _
                refine X0.baloadBytes hx (j := (6 : Int32)) (v := (.int y6)) (by rw [e0]; exact Ar1.1) (State.isArrayOf_alike hZ.alike Ar1.2.1) Ar1.2.2 (inb_of S1 ⟨by decide, by decide⟩) (Has.at H1 (inb_of S1 ⟨by decide, by decide⟩) rfl) (g := (mkF m 17 #[rv a0, rv a1, iv 6] [(.int 6), (.ref a0)])) rfl rfl (hb hby d10_17) _ ?_
                refine XS.aloadN X0.here hx rfl (hb hby d10_18) rfl rfl ?_
                refine XS.iloadN X0.here hx rfl (hb hby d10_19) rfl ?_
                show Steps _ _ _ (s₁.setTop (mkF m 20 #[rv a0, rv a1, iv 6] [(.int 6), (.ref a1), (.int y6)])) _
                refine X0.baloadBytes hx (j := (6 : Int32)) (v := (.int 83)) (by rw [e0]; exact Ar2.1) (State.isArrayOf_alike hZ.alike Ar2.2.1) Ar2.2.2 (inb_of S2 ⟨by decide, by decide⟩) (Has.at H2 (inb_of S2 ⟨by decide, by decide⟩) rfl) (g := (mkF m 20 #[rv a0, rv a1, iv 6] [(.int 6), (.ref a1), (.int y6)])) rfl rfl (hb hby d10_20) _ ?_
                exact k
              by_cases hs16 : y6 = (83 : Int32)
              · have go17 : Go p.tables e below s₁ (mkF m 21 #[rv a0, rv a1, iv 7] [(.int 99), (.int y7)]) En := by
                  intro t k
                  refine go15 _ ?_
                  refine XS.icmpYes X0.here hx rfl (pc0 := 21) (pc' := 26) rfl (hb hby d10_21) rfl (XT.ii_eq_t hs16) (by decide) (by decide) ?_
                  refine XS.iinc X0.here hx rfl (hb hby d10_26) rfl (l' := #[rv a0, rv a1, iv 7]) rfl ?_
                  refine XS.goto X0.here hx rfl (pc0 := 29) (pc' := 9) rfl (hb hby d10_29) (by decide) (by decide) ?_
                  show Steps _ _ _ (s₁.setTop (mkF m 9 #[rv a0, rv a1, iv 7] [])) _
                  refine XS.iloadN X0.here hx rfl (hb hby d10_9) rfl ?_
                  refine XS.aloadN X0.here hx rfl (hb hby d10_10) rfl rfl ?_
                  refine X0.arraylength hx (by rw [e0]; exact Ar1.1) (State.isArrayOf_alike hZ.alike Ar1.2.1) (g := (mkF m 11 #[rv a0, rv a1, iv 7] [(.ref a0), (.int 7)])) rfl rfl (hb hby d10_11) _ ?_
                  rw [len_of S1 N1]
                  show Steps _ _ _ (s₁.setTop (mkF m 12 #[rv a0, rv a1, iv 7] [(.int 11), (.int 7)])) _
                  refine XS.icmpNo X0.here hx rfl (hb hby d10_12) rfl (XT.ii_ge_f (by decide : ((7 : Int32) < (11 : Int32)))) ?_
                  refine XS.aloadN X0.here hx rfl (hb hby d10_15) rfl rfl ?_
                  refine XS.iloadN X0.here hx rfl (hb hby d10_16) rfl ?_
                  show Steps _ _ _ (s₁.setTop (mkF m 17 #[rv a0, rv a1, iv 7] [(.int 7), (.ref a0)])) _
                  refine X0.baloadBytes hx (j := (7 : Int32)) (v := (.int y7)) (by rw [e0]; exact Ar1.1) (State.isArrayOf_alike hZ.alike Ar1.2.1) Ar1.2.2 (inb_of S1 ⟨by decide, by decide⟩) (Has.at H1 (inb_of S1 ⟨by decide, by decide⟩) rfl) (g := (mkF m 17 #[rv a0, rv a1, iv 7] [(.int 7), (.ref a0)])) rfl rfl (hb hby d10_17) _ ?_
                  refine XS.aloadN X0.here hx rfl (hb hby d10_18) rfl rfl ?_
                  refine XS.iloadN X0.here hx rfl (hb hby d10_19) rfl ?_
                  show Steps _ _ _ (s₁.setTop (mkF m 20 #[rv a0, rv a1, iv 7] [(.int 7), (.ref a1), (.int y7)])) _
                  refine X0.baloadBytes hx (j := (7 : Int32)) (v := (.int 99)) (by rw [e0]; exact Ar2.1) (State.isArrayOf_alike hZ.alike Ar2.2.1) Ar2.2.2 (inb_of S2 ⟨by decide, by decide⟩) (Has.at H2 (inb_of S2 ⟨by decide, by decide⟩) rfl) (g := (mkF m 20 #[rv a0, rv a1, iv 7] [(.int 7), (.ref a1), (.int y7)])) rfl rfl (hb hby d10_20) _ ?_
                  exact k
                by_cases hs18 : y7 = (99 : Int32)
                · have go19 : Go p.tables e below s₁ (mkF m 21 #[rv a0, rv a1, iv 8] [(.int 111), (.int y8)]) En := by
                    intro t k
                    refine go17 _ ?_
                    refine XS.icmpYes X0.here hx rfl (pc0 := 21) (pc' := 26) rfl (hb hby d10_21) rfl (XT.ii_eq_t hs18) (by decide) (by decide) ?_
                    refine XS.iinc X0.here hx rfl (hb hby d10_26) rfl (l' := #[rv a0, rv a1, iv 8]) rfl ?_
                    refine XS.goto X0.here hx rfl (pc0 := 29) (pc' := 9) rfl (hb hby d10_29) (by decide) (by decide) ?_
                    show Steps _ _ _ (s₁.setTop (mkF m 9 #[rv a0, rv a1, iv 8] [])) _
                    refine XS.iloadN X0.here hx rfl (hb hby d10_9) rfl ?_
                    refine XS.aloadN X0.here hx rfl (hb hby d10_10) rfl rfl ?_
                    refine X0.arraylength hx (by rw [e0]; exact Ar1.1) (State.isArrayOf_alike hZ.alike Ar1.2.1) (g := (mkF m 11 #[rv a0, rv a1, iv 8] [(.ref a0), (.int 8)])) rfl rfl (hb hby d10_11) _ ?_
                    rw [len_of S1 N1]
                    show Steps _ _ _ (s₁.setTop (mkF m 12 #[rv a0, rv a1, iv 8] [(.int 11), (.int 8)])) _
                    refine XS.icmpNo X0.here hx rfl (hb hby d10_12) rfl (XT.ii_ge_f (by decide : ((8 : Int32) < (11 : Int32)))) ?_
                    refine XS.aloadN X0.here hx rfl (hb hby d10_15) rfl rfl ?_
                    refine XS.iloadN X0.here hx rfl (hb hby d10_16) rfl ?_
                    show Steps _ _ _ (s₁.setTop (mkF m 17 #[rv a0, rv a1, iv 8] [(.int 8), (.ref a0)])) _
                    refine X0.baloadBytes hx (j := (8 : Int32)) (v := (.int y8)) (by rw [e0]; exact Ar1.1) (State.isArrayOf_alike hZ.alike Ar1.2.1) Ar1.2.2 (inb_of S1 ⟨by decide, by decide⟩) (Has.at H1 (inb_of S1 ⟨by decide, by decide⟩) rfl) (g := (mkF m 17 #[rv a0, rv a1, iv 8] [(.int 8), (.ref a0)])) rfl rfl (hb hby d10_17) _ ?_
                    refine XS.aloadN X0.here hx rfl (hb hby d10_18) rfl rfl ?_
                    refine XS.iloadN X0.here hx rfl (hb hby d10_19) rfl ?_
                    show Steps _ _ _ (s₁.setTop (mkF m 20 #[rv a0, rv a1, iv 8] [(.int 8), (.ref a1), (.int y8)])) _
                    refine X0.baloadBytes hx (j := (8 : Int32)) (v := (.int 111)) (by rw [e0]; exact Ar2.1) (State.isArrayOf_alike hZ.alike Ar2.2.1) Ar2.2.2 (inb_of S2 ⟨by decide, by decide⟩) (Has.at H2 (inb_of S2 ⟨by decide, by decide⟩) rfl) (g := (mkF m 20 #[rv a0, rv a1, iv 8] [(.int 8), (.ref a1), (.int y8)])) rfl rfl (hb hby d10_20) _ ?_
                    exact k
                  by_cases hs20 : y8 = (111 : Int32)
                  · have go21 : Go p.tables e below s₁ (mkF m 21 #[rv a0, rv a1, iv 9] [(.int 112), (.int y9)]) En := by
                      intro t k
                      refine go19 _ ?_
                      refine XS.icmpYes X0.here hx rfl (pc0 := 21) (pc' := 26) rfl (hb hby d10_21) rfl (XT.ii_eq_t hs20) (by decide) (by decide) ?_
                      refine XS.iinc X0.here hx rfl (hb hby d10_26) rfl (l' := #[rv a0, rv a1, iv 9]) rfl ?_
                      refine XS.goto X0.here hx rfl (pc0 := 29) (pc' := 9) rfl (hb hby d10_29) (by decide) (by decide) ?_
                      show Steps _ _ _ (s₁.setTop (mkF m 9 #[rv a0, rv a1, iv 9] [])) _
                      refine XS.iloadN X0.here hx rfl (hb hby d10_9) rfl ?_
                      refine XS.aloadN X0.here hx rfl (hb hby d10_10) rfl rfl ?_
                      refine X0.arraylength hx (by rw [e0]; exact Ar1.1) (State.isArrayOf_alike hZ.alike Ar1.2.1) (g := (mkF m 11 #[rv a0, rv a1, iv 9] [(.ref a0), (.int 9)])) rfl rfl (hb hby d10_11) _ ?_
                      rw [len_of S1 N1]
                      show Steps _ _ _ (s₁.setTop (mkF m 12 #[rv a0, rv a1, iv 9] [(.int 11), (.int 9)])) _
                      refine XS.icmpNo X0.here hx rfl (hb hby d10_12) rfl (XT.ii_ge_f (by decide : ((9 : Int32) < (11 : Int32)))) ?_
                      refine XS.aloadN X0.here hx rfl (hb hby d10_15) rfl rfl ?_
                      refine XS.iloadN X0.here hx rfl (hb hby d10_16) rfl ?_
                      show Steps _ _ _ (s₁.setTop (mkF m 17 #[rv a0, rv a1, iv 9] [(.int 9), (.ref a0)])) _
                      refine X0.baloadBytes hx (j := (9 : Int32)) (v := (.int y9)) (by rw [e0]; exact Ar1.1) (State.isArrayOf_alike hZ.alike Ar1.2.1) Ar1.2.2 (inb_of S1 ⟨by decide, by decide⟩) (Has.at H1 (inb_of S1 ⟨by decide, by decide⟩) rfl) (g := (mkF m 17 #[rv a0, rv a1, iv 9] [(.int 9), (.ref a0)])) rfl rfl (hb hby d10_17) _ ?_
                      refine XS.aloadN X0.here hx rfl (hb hby d10_18) rfl rfl ?_
                      refine XS.iloadN X0.here hx rfl (hb hby d10_19) rfl ?_
                      show Steps _ _ _ (s₁.setTop (mkF m 20 #[rv a0, rv a1, iv 9] [(.int 9), (.ref a1), (.int y9)])) _
                      refine X0.baloadBytes hx (j := (9 : Int32)) (v := (.int 112)) (by rw [e0]; exact Ar2.1) (State.isArrayOf_alike hZ.alike Ar2.2.1) Ar2.2.2 (inb_of S2 ⟨by decide, by decide⟩) (Has.at H2 (inb_of S2 ⟨by decide, by decide⟩) rfl) (g := (mkF m 20 #[rv a0, rv a1, iv 9] [(.int 9), (.ref a1), (.int y9)])) rfl rfl (hb hby d10_20) _ ?_
                      exact k
                    by_cases hs22 : y9 = (112 : Int32)
                    · have go23 : Go p.tables e below s₁ (mkF m 21 #[rv a0, rv a1, iv 10] [(.int 101), (.int y10)]) En := by
                        intro t k
                        refine go21 _ ?_
                        refine XS.icmpYes X0.here hx rfl (pc0 := 21) (pc' := 26) rfl (hb hby d10_21) rfl (XT.ii_eq_t hs22) (by decide) (by decide) ?_
                        refine XS.iinc X0.here hx rfl (hb hby d10_26) rfl (l' := #[rv a0, rv a1, iv 10]) rfl ?_
                        refine XS.goto X0.here hx rfl (pc0 := 29) (pc' := 9) rfl (hb hby d10_29) (by decide) (by decide) ?_
                        show Steps _ _ _ (s₁.setTop (mkF m 9 #[rv a0, rv a1, iv 10] [])) _
                        refine XS.iloadN X0.here hx rfl (hb hby d10_9) rfl ?_
                        refine XS.aloadN X0.here hx rfl (hb hby d10_10) rfl rfl ?_
                        refine X0.arraylength hx (by rw [e0]; exact Ar1.1) (State.isArrayOf_alike hZ.alike Ar1.2.1) (g := (mkF m 11 #[rv a0, rv a1, iv 10] [(.ref a0), (.int 10)])) rfl rfl (hb hby d10_11) _ ?_
                        rw [len_of S1 N1]
                        show Steps _ _ _ (s₁.setTop (mkF m 12 #[rv a0, rv a1, iv 10] [(.int 11), (.int 10)])) _
                        refine XS.icmpNo X0.here hx rfl (hb hby d10_12) rfl (XT.ii_ge_f (by decide : ((10 : Int32) < (11 : Int32)))) ?_
                        refine XS.aloadN X0.here hx rfl (hb hby d10_15) rfl rfl ?_
                        refine XS.iloadN X0.here hx rfl (hb hby d10_16) rfl ?_
                        show Steps _ _ _ (s₁.setTop (mkF m 17 #[rv a0, rv a1, iv 10] [(.int 10), (.ref a0)])) _
                        refine X0.baloadBytes hx (j := (10 : Int32)) (v := (.int y10)) (by rw [e0]; exact Ar1.1) (State.isArrayOf_alike hZ.alike Ar1.2.1) Ar1.2.2 (inb_of S1 ⟨by decide, by decide⟩) (Has.at H1 (inb_of S1 ⟨by decide, by decide⟩) rfl) (g := (mkF m 17 #[rv a0, rv a1, iv 10] [(.int 10), (.ref a0)])) rfl rfl (hb hby d10_17) _ ?_
                        refine XS.aloadN X0.here hx rfl (hb hby d10_18) rfl rfl ?_
                        refine XS.iloadN X0.here hx rfl (hb hby d10_19) rfl ?_
                        show Steps _ _ _ (s₁.setTop (mkF m 20 #[rv a0, rv a1, iv 10] [(.int 10), (.ref a1), (.int y10)])) _
                        refine X0.baloadBytes hx (j := (10 : Int32)) (v := (.int 101)) (by rw [e0]; exact Ar2.1) (State.isArrayOf_alike hZ.alike Ar2.2.1) Ar2.2.2 (inb_of S2 ⟨by decide, by decide⟩) (Has.at H2 (inb_of S2 ⟨by decide, by decide⟩) rfl) (g := (mkF m 20 #[rv a0, rv a1, iv 10] [(.int 10), (.ref a1), (.int y10)])) rfl rfl (hb hby d10_20) _ ?_
                        exact k
                      by_cases hs24 : y10 = (101 : Int32)
                      · have go25 : Go p.tables e below s₁ (mkF m 33 #[rv a0, rv a1, iv 11] [(.int 1)]) En := by
                          intro t k
                          refine go23 _ ?_
                          refine XS.icmpYes X0.here hx rfl (pc0 := 21) (pc' := 26) rfl (hb hby d10_21) rfl (XT.ii_eq_t hs24) (by decide) (by decide) ?_
                          refine XS.iinc X0.here hx rfl (hb hby d10_26) rfl (l' := #[rv a0, rv a1, iv 11]) rfl ?_
                          refine XS.goto X0.here hx rfl (pc0 := 29) (pc' := 9) rfl (hb hby d10_29) (by decide) (by decide) ?_
                          show Steps _ _ _ (s₁.setTop (mkF m 9 #[rv a0, rv a1, iv 11] [])) _
                          refine XS.iloadN X0.here hx rfl (hb hby d10_9) rfl ?_
                          refine XS.aloadN X0.here hx rfl (hb hby d10_10) rfl rfl ?_
                          refine X0.arraylength hx (by rw [e0]; exact Ar1.1) (State.isArrayOf_alike hZ.alike Ar1.2.1) (g := (mkF m 11 #[rv a0, rv a1, iv 11] [(.ref a0), (.int 11)])) rfl rfl (hb hby d10_11) _ ?_
                          rw [len_of S1 N1]
                          show Steps _ _ _ (s₁.setTop (mkF m 12 #[rv a0, rv a1, iv 11] [(.int 11), (.int 11)])) _
                          refine XS.icmpYes X0.here hx rfl (pc0 := 12) (pc' := 32) rfl (hb hby d10_12) rfl (XT.ii_ge_t (by decide : ¬ ((11 : Int32) < (11 : Int32)))) (by decide) (by decide) ?_
                          refine XS.iconst X0.here hx rfl (hb hby d10_32) ?_
                          exact k
                        refine own_out (w := (.int 1)) X0 hx hlk go25 hrt rfl (Or.inl ⟨rfl, Or.inr (Or.inl rfl), _, rfl⟩) (hb hby d10_33) e0 (by decide) (by decide) ?_
                        exact ⟨by rw [flq11, if_pos hs4, if_pos hs6, if_pos hs8, if_pos hs10, if_pos hs12, if_pos hs14, if_pos hs16, if_pos hs18, if_pos hs20, if_pos hs22, if_pos hs24], N0, rfl⟩
                      have go26 : Go p.tables e below s₁ (mkF m 25 #[rv a0, rv a1, iv 10] [(.int 0)]) En := by
                        intro t k
                        refine go23 _ ?_
                        refine XS.icmpNo X0.here hx rfl (hb hby d10_21) rfl (XT.ii_eq_f hs24) ?_
                        refine XS.iconst X0.here hx rfl (hb hby d10_24) ?_
                        exact k
                      refine own_out (w := (.int 0)) X0 hx hlk go26 hrt rfl (Or.inl ⟨rfl, Or.inr (Or.inl rfl), _, rfl⟩) (hb hby d10_25) e0 (by decide) (by decide) ?_
                      exact ⟨by rw [flq11, if_pos hs4, if_pos hs6, if_pos hs8, if_pos hs10, if_pos hs12, if_pos hs14, if_pos hs16, if_pos hs18, if_pos hs20, if_pos hs22, if_neg hs24], N0, rfl⟩
                    have go27 : Go p.tables e below s₁ (mkF m 25 #[rv a0, rv a1, iv 9] [(.int 0)]) En := by
                      intro t k
                      refine go21 _ ?_
                      refine XS.icmpNo X0.here hx rfl (hb hby d10_21) rfl (XT.ii_eq_f hs22) ?_
                      refine XS.iconst X0.here hx rfl (hb hby d10_24) ?_
                      exact k
                    refine own_out (w := (.int 0)) X0 hx hlk go27 hrt rfl (Or.inl ⟨rfl, Or.inr (Or.inl rfl), _, rfl⟩) (hb hby d10_25) e0 (by decide) (by decide) ?_
                    exact ⟨by rw [flq11, if_pos hs4, if_pos hs6, if_pos hs8, if_pos hs10, if_pos hs12, if_pos hs14, if_pos hs16, if_pos hs18, if_pos hs20, if_neg hs22], N0, rfl⟩
                  have go28 : Go p.tables e below s₁ (mkF m 25 #[rv a0, rv a1, iv 8] [(.int 0)]) En := by
                    intro t k
                    refine go19 _ ?_
                    refine XS.icmpNo X0.here hx rfl (hb hby d10_21) rfl (XT.ii_eq_f hs20) ?_
                    refine XS.iconst X0.here hx rfl (hb hby d10_24) ?_
                    exact k
                  refine own_out (w := (.int 0)) X0 hx hlk go28 hrt rfl (Or.inl ⟨rfl, Or.inr (Or.inl rfl), _, rfl⟩) (hb hby d10_25) e0 (by decide) (by decide) ?_
                  exact ⟨by rw [flq11, if_pos hs4, if_pos hs6, if_pos hs8, if_pos hs10, if_pos hs12, if_pos hs14, if_pos hs16, if_pos hs18, if_neg hs20], N0, rfl⟩
                have go29 : Go p.tables e below s₁ (mkF m 25 #[rv a0, rv a1, iv 7] [(.int 0)]) En := by
                  intro t k
                  refine go17 _ ?_
                  refine XS.icmpNo X0.here hx rfl (hb hby d10_21) rfl (XT.ii_eq_f hs18) ?_
                  refine XS.iconst X0.here hx rfl (hb hby d10_24) ?_
                  exact k
                refine own_out (w := (.int 0)) X0 hx hlk go29 hrt rfl (Or.inl ⟨rfl, Or.inr (Or.inl rfl), _, rfl⟩) (hb hby d10_25) e0 (by decide) (by decide) ?_
                exact ⟨by rw [flq11, if_pos hs4, if_pos hs6, if_pos hs8, if_pos hs10, if_pos hs12, if_pos hs14, if_pos hs16, if_neg hs18], N0, rfl⟩
              have go30 : Go p.tables e below s₁ (mkF m 25 #[rv a0, rv a1, iv 6] [(.int 0)]) En := by
                intro t k
                refine go15 _ ?_
                refine XS.icmpNo X0.here hx rfl (hb hby d10_21) rfl (XT.ii_eq_f hs16) ?_
                refine XS.iconst X0.here hx rfl (hb hby d10_24) ?_
                exact k
              refine own_out (w := (.int 0)) X0 hx hlk go30 hrt rfl (Or.inl ⟨rfl, Or.inr (Or.inl rfl), _, rfl⟩) (hb hby d10_25) e0 (by decide) (by decide) ?_
              exact ⟨by rw [flq11, if_pos hs4, if_pos hs6, if_pos hs8, if_pos hs10, if_pos hs12, if_pos hs14, if_neg hs16], N0, rfl⟩
            have go31 : Go p.tables e below s₁ (mkF m 25 #[rv a0, rv a1, iv 5] [(.int 0)]) En := by
              intro t k
              refine go13 _ ?_
              refine XS.icmpNo X0.here hx rfl (hb hby d10_21) rfl (XT.ii_eq_f hs14) ?_
              refine XS.iconst X0.here hx rfl (hb hby d10_24) ?_
              exact k
            refine own_out (w := (.int 0)) X0 hx hlk go31 hrt rfl (Or.inl ⟨rfl, Or.inr (Or.inl rfl), _, rfl⟩) (hb hby d10_25) e0 (by decide) (by decide) ?_
            exact ⟨by rw [flq11, if_pos hs4, if_pos hs6, if_pos hs8, if_pos hs10, if_pos hs12, if_neg hs14], N0, rfl⟩
          have go32 : Go p.tables e below s₁ (mkF m 25 #[rv a0, rv a1, iv 4] [(.int 0)]) En := by
            intro t k
            refine go11 _ ?_
            refine XS.icmpNo X0.here hx rfl (hb hby d10_21) rfl (XT.ii_eq_f hs12) ?_
            refine XS.iconst X0.here hx rfl (hb hby d10_24) ?_
            exact k
          refine own_out (w := (.int 0)) X0 hx hlk go32 hrt rfl (Or.inl ⟨rfl, Or.inr (Or.inl rfl), _, rfl⟩) (hb hby d10_25) e0 (by decide) (by decide) ?_
          exact ⟨by rw [flq11, if_pos hs4, if_pos hs6, if_pos hs8, if_pos hs10, if_neg hs12], N0, rfl⟩
        have go33 : Go p.tables e below s₁ (mkF m 25 #[rv a0, rv a1, iv 3] [(.int 0)]) En := by
          intro t k
          refine go9 _ ?_
          refine XS.icmpNo X0.here hx rfl (hb hby d10_21) rfl (XT.ii_eq_f hs10) ?_
          refine XS.iconst X0.here hx rfl (hb hby d10_24) ?_
          exact k
        refine own_out (w := (.int 0)) X0 hx hlk go33 hrt rfl (Or.inl ⟨rfl, Or.inr (Or.inl rfl), _, rfl⟩) (hb hby d10_25) e0 (by decide) (by decide) ?_
        exact ⟨by rw [flq11, if_pos hs4, if_pos hs6, if_pos hs8, if_neg hs10], N0, rfl⟩
      have go34 : Go p.tables e below s₁ (mkF m 25 #[rv a0, rv a1, iv 2] [(.int 0)]) En := by
        intro t k
        refine go7 _ ?_
        refine XS.icmpNo X0.here hx rfl (hb hby d10_21) rfl (XT.ii_eq_f hs8) ?_
        refine XS.iconst X0.here hx rfl (hb hby d10_24) ?_
        exact k
      refine own_out (w := (.int 0)) X0 hx hlk go34 hrt rfl (Or.inl ⟨rfl, Or.inr (Or.inl rfl), _, rfl⟩) (hb hby d10_25) e0 (by decide) (by decide) ?_
      exact ⟨by rw [flq11, if_pos hs4, if_pos hs6, if_neg hs8], N0, rfl⟩
    have go35 : Go p.tables e below s₁ (mkF m 25 #[rv a0, rv a1, iv 1] [(.int 0)]) En := by
      intro t k
      refine go5 _ ?_
      refine XS.icmpNo X0.here hx rfl (hb hby d10_21) rfl (XT.ii_eq_f hs6) ?_
      refine XS.iconst X0.here hx rfl (hb hby d10_24) ?_
      exact k
    refine own_out (w := (.int 0)) X0 hx hlk go35 hrt rfl (Or.inl ⟨rfl, Or.inr (Or.inl rfl), _, rfl⟩) (hb hby d10_25) e0 (by decide) (by decide) ?_
    exact ⟨by rw [flq11, if_pos hs4, if_neg hs6], N0, rfl⟩
  have go36 : Go p.tables e below s₁ (mkF m 25 #[rv a0, rv a1, iv 0] [(.int 0)]) En := by
    intro t k
    refine go3 _ ?_
    refine XS.icmpNo X0.here hx rfl (hb hby d10_21) rfl (XT.ii_eq_f hs4) ?_
    refine XS.iconst X0.here hx rfl (hb hby d10_24) ?_
    exact k
  refine own_out (w := (.int 0)) X0 hx hlk go36 hrt rfl (Or.inl ⟨rfl, Or.inr (Or.inl rfl), _, rfl⟩) (hb hby d10_25) e0 (by decide) (by decide) ?_
  exact ⟨by rw [flq11, if_neg hs4], N0, rfl⟩
def flq16 (y0 : Int32) (y1 : Int32) (y2 : Int32) (y3 : Int32) (y4 : Int32) (y5 : Int32) (y6 : Int32) (y7 : Int32) (y8 : Int32) (y9 : Int32) (y10 : Int32) (y11 : Int32) (y12 : Int32) (y13 : Int32) (y14 : Int32) (y15 : Int32) : Int32 := (if y0 = (97 : Int32) then (if y1 = (112 : Int32) then (if y2 = (112 : Int32) then (if y3 = (108 : Int32) then (if y4 = (105 : Int32) then (if y5 = (99 : Int32) then (if y6 = (97 : Int32) then (if y7 = (116 : Int32) then (if y8 = (105 : Int32) then (if y9 = (111 : Int32) then (if y10 = (110 : Int32) then (if y11 = (83 : Int32) then (if y12 = (99 : Int32) then (if y13 = (111 : Int32) then (if y14 = (112 : Int32) then (if y15 = (101 : Int32) then (1 : Int32) else (0 : Int32)) else (0 : Int32)) else (0 : Int32)) else (0 : Int32)) else (0 : Int32)) else (0 : Int32)) else (0 : Int32)) else (0 : Int32)) else (0 : Int32)) else (0 : Int32)) else (0 : Int32)) else (0 : Int32)) else (0 : Int32)) else (0 : Int32)) else (0 : Int32)) else (0 : Int32))
theorem eflq16 (m : MethodId) (a0 : Addr) (a1 : Addr) : entryFrame m #[(.ref a0), (.ref a1)] 3 = mkF m 0 #[rv a0, rv a1, .unset] [] := by first | (simp [entryFrame, mkF, argsToLocals, Value.category]; done) | rfl
set_option maxRecDepth 65536 in
set_option maxHeartbeats 40000000 in
theorem rmlq16 (l : Launch) (Z : State) (aZ : Array Value) (hw : ∀ d ∈ tables_1, d.before aZ Z = true) (ws : List Jvm.Cond) (a0 : Addr) (a1 : Addr) (k_a0 : ClassId) (y0 : Int32) (y1 : Int32) (y2 : Int32) (y3 : Int32) (y4 : Int32) (y5 : Int32) (y6 : Int32) (y7 : Int32) (y8 : Int32) (y9 : Int32) (y10 : Int32) (y11 : Int32) (y12 : Int32) (y13 : Int32) (y14 : Int32) (y15 : Int32) (k_a1 : ClassId) (h0 : Heap) (n0 : Nat) (Z0 : n0 ≤ h0.size) (V_a0 : Arv Z h0 a0 k_a0 .byte (16 : Int32) [(.int y0), (.int y1), (.int y2), (.int y3), (.int y4), (.int y5), (.int y6), (.int y7), (.int y8), (.int y9), (.int y10), (.int y11), (.int y12), (.int y13), (.int y14), (.int y15)] (.int 0)) (V_a1 : Arv Z h0 a1 k_a1 .byte (16 : Int32) [(.int 97), (.int 112), (.int 112), (.int 108), (.int 105), (.int 99), (.int 97), (.int 116), (.int 105), (.int 111), (.int 110), (.int 83), (.int 99), (.int 111), (.int 112), (.int 101)] (.int 0)) :
    MFn l (⟨"java/lang/StringLatin1", "equals", "([B[B)Z"⟩ : MethodName) jdk_43_method_13_code 3 (some .boolean) ws (Rm 0 0 0 0) #[(.ref a0), (.ref a1)] Z h0 (QP n0 h0 (some (.int (flq16 y0 y1 y2 y3 y4 y5 y6 y7 y8 y9 y10 y11 y12 y13 y14 y15)))) := by
  refine own_mf (C := "java/lang/StringLatin1") rfl (plainFor_of_name pn_560) (fun m => eflq16 m a0 a1) ?_
  intro p e s m below meth cd0 s₁ En hx hby hml hown hnm hZ X0 e0 hlk hrt go0
  have N0 := Fr.nil n0
  have K0 : Keep h0 h0 [] := Keep.refl _ _
  obtain ⟨cl1, Ar1, q1, S1, N1, H1, G1⟩ := id V_a0
  obtain ⟨cl2, Ar2, q2, S2, N2, H2, G2⟩ := id V_a1
  have go3 : Go p.tables e below s₁ (mkF m 21 #[rv a0, rv a1, iv 0] [(.int 97), (.int y0)]) En := by
    intro t k
    refine go0 _ ?_
    refine XS.aloadN X0.here hx rfl (hb hby d10_0) rfl rfl ?_
    refine X0.arraylength hx (by rw [e0]; exact Ar1.1) (State.isArrayOf_alike hZ.alike Ar1.2.1) (g := (mkF m 1 #[rv a0, rv a1, .unset] [(.ref a0)])) rfl rfl (hb hby d10_1) _ ?_
    rw [len_of S1 N1]
    show Steps _ _ _ (s₁.setTop (mkF m 2 #[rv a0, rv a1, .unset] [(.int 16)])) _
    refine XS.aloadN X0.here hx rfl (hb hby d10_2) rfl rfl ?_
    refine X0.arraylength hx (by rw [e0]; exact Ar2.1) (State.isArrayOf_alike hZ.alike Ar2.2.1) (g := (mkF m 3 #[rv a0, rv a1, .unset] [(.ref a1), (.int 16)])) rfl rfl (hb hby d10_3) _ ?_
    rw [len_of S2 N2]
    show Steps _ _ _ (s₁.setTop (mkF m 4 #[rv a0, rv a1, .unset] [(.int 16), (.int 16)])) _
    refine XS.icmpNo X0.here hx rfl (hb hby d10_4) rfl (XT.ii_ne_f (by decide : ((16 : Int32) = (16 : Int32)))) ?_
    refine XS.iconst X0.here hx rfl (hb hby d10_7) ?_
    refine XS.istoreN X0.here hx rfl (hb hby d10_8) rfl (l' := #[rv a0, rv a1, iv 0]) rfl ?_
    show Steps _ _ _ (s₁.setTop (mkF m 9 #[rv a0, rv a1, iv 0] [])) _
    refine XS.iloadN X0.here hx rfl (hb hby d10_9) rfl ?_
    refine XS.aloadN X0.here hx rfl (hb hby d10_10) rfl rfl ?_
    refine X0.arraylength hx (by rw [e0]; exact Ar1.1) (State.isArrayOf_alike hZ.alike Ar1.2.1) (g := (mkF m 11 #[rv a0, rv a1, iv 0] [(.ref a0), (.int 0)])) rfl rfl (hb hby d10_11) _ ?_
    rw [len_of S1 N1]
    show Steps _ _ _ (s₁.setTop (mkF m 12 #[rv a0, rv a1, iv 0] [(.int 16), (.int 0)])) _
    refine XS.icmpNo X0.here hx rfl (hb hby d10_12) rfl (XT.ii_ge_f (by decide : ((0 : Int32) < (16 : Int32)))) ?_
    refine XS.aloadN X0.here hx rfl (hb hby d10_15) rfl rfl ?_
    refine XS.iloadN X0.here hx rfl (hb hby d10_16) rfl ?_
    show Steps _ _ _ (s₁.setTop (mkF m 17 #[rv a0, rv a1, iv 0] [(.int 0), (.ref a0)])) _
    refine X0.baloadBytes hx (j := (0 : Int32)) (v := (.int y0)) (by rw [e0]; exact Ar1.1) (State.isArrayOf_alike hZ.alike Ar1.2.1) Ar1.2.2 (inb_of S1 ⟨by decide, by decide⟩) (Has.at H1 (inb_of S1 ⟨by decide, by decide⟩) rfl) (g := (mkF m 17 #[rv a0, rv a1, iv 0] [(.int 0), (.ref a0)])) rfl rfl (hb hby d10_17) _ ?_
    refine XS.aloadN X0.here hx rfl (hb hby d10_18) rfl rfl ?_
    refine XS.iloadN X0.here hx rfl (hb hby d10_19) rfl ?_
    show Steps _ _ _ (s₁.setTop (mkF m 20 #[rv a0, rv a1, iv 0] [(.int 0), (.ref a1), (.int y0)])) _
    refine X0.baloadBytes hx (j := (0 : Int32)) (v := (.int 97)) (by rw [e0]; exact Ar2.1) (State.isArrayOf_alike hZ.alike Ar2.2.1) Ar2.2.2 (inb_of S2 ⟨by decide, by decide⟩) (Has.at H2 (inb_of S2 ⟨by decide, by decide⟩) rfl) (g := (mkF m 20 #[rv a0, rv a1, iv 0] [(.int 0), (.ref a1), (.int y0)])) rfl rfl (hb hby d10_20) _ ?_
    exact k
  by_cases hs4 : y0 = (97 : Int32)
  · have go5 : Go p.tables e below s₁ (mkF m 21 #[rv a0, rv a1, iv 1] [(.int 112), (.int y1)]) En := by
      intro t k
      refine go3 _ ?_
      refine XS.icmpYes X0.here hx rfl (pc0 := 21) (pc' := 26) rfl (hb hby d10_21) rfl (XT.ii_eq_t hs4) (by decide) (by decide) ?_
      refine XS.iinc X0.here hx rfl (hb hby d10_26) rfl (l' := #[rv a0, rv a1, iv 1]) rfl ?_
      refine XS.goto X0.here hx rfl (pc0 := 29) (pc' := 9) rfl (hb hby d10_29) (by decide) (by decide) ?_
      show Steps _ _ _ (s₁.setTop (mkF m 9 #[rv a0, rv a1, iv 1] [])) _
      refine XS.iloadN X0.here hx rfl (hb hby d10_9) rfl ?_
      refine XS.aloadN X0.here hx rfl (hb hby d10_10) rfl rfl ?_
      refine X0.arraylength hx (by rw [e0]; exact Ar1.1) (State.isArrayOf_alike hZ.alike Ar1.2.1) (g := (mkF m 11 #[rv a0, rv a1, iv 1] [(.ref a0), (.int 1)])) rfl rfl (hb hby d10_11) _ ?_
      rw [len_of S1 N1]
      show Steps _ _ _ (s₁.setTop (mkF m 12 #[rv a0, rv a1, iv 1] [(.int 16), (.int 1)])) _
      refine XS.icmpNo X0.here hx rfl (hb hby d10_12) rfl (XT.ii_ge_f (by decide : ((1 : Int32) < (16 : Int32)))) ?_
      refine XS.aloadN X0.here hx rfl (hb hby d10_15) rfl rfl ?_
      refine XS.iloadN X0.here hx rfl (hb hby d10_16) rfl ?_
      show Steps _ _ _ (s₁.setTop (mkF m 17 #[rv a0, rv a1, iv 1] [(.int 1), (.ref a0)])) _
      refine X0.baloadBytes hx (j := (1 : Int32)) (v := (.int y1)) (by rw [e0]; exact Ar1.1) (State.isArrayOf_alike hZ.alike Ar1.2.1) Ar1.2.2 (inb_of S1 ⟨by decide, by decide⟩) (Has.at H1 (inb_of S1 ⟨by decide, by decide⟩) rfl) (g := (mkF m 17 #[rv a0, rv a1, iv 1] [(.int 1), (.ref a0)])) rfl rfl (hb hby d10_17) _ ?_
      refine XS.aloadN X0.here hx rfl (hb hby d10_18) rfl rfl ?_
      refine XS.iloadN X0.here hx rfl (hb hby d10_19) rfl ?_
      show Steps _ _ _ (s₁.setTop (mkF m 20 #[rv a0, rv a1, iv 1] [(.int 1), (.ref a1), (.int y1)])) _
      refine X0.baloadBytes hx (j := (1 : Int32)) (v := (.int 112)) (by rw [e0]; exact Ar2.1) (State.isArrayOf_alike hZ.alike Ar2.2.1) Ar2.2.2 (inb_of S2 ⟨by decide, by decide⟩) (Has.at H2 (inb_of S2 ⟨by decide, by decide⟩) rfl) (g := (mkF m 20 #[rv a0, rv a1, iv 1] [(.int 1), (.ref a1), (.int y1)])) rfl rfl (hb hby d10_20) _ ?_
      exact k
    by_cases hs6 : y1 = (112 : Int32)
    · have go7 : Go p.tables e below s₁ (mkF m 21 #[rv a0, rv a1, iv 2] [(.int 112), (.int y2)]) En := by
        intro t k
        refine go5 _ ?_
        refine XS.icmpYes X0.here hx rfl (pc0 := 21) (pc' := 26) rfl (hb hby d10_21) rfl (XT.ii_eq_t hs6) (by decide) (by decide) ?_
        refine XS.iinc X0.here hx rfl (hb hby d10_26) rfl (l' := #[rv a0, rv a1, iv 2]) rfl ?_
        refine XS.goto X0.here hx rfl (pc0 := 29) (pc' := 9) rfl (hb hby d10_29) (by decide) (by decide) ?_
        show Steps _ _ _ (s₁.setTop (mkF m 9 #[rv a0, rv a1, iv 2] [])) _
        refine XS.iloadN X0.here hx rfl (hb hby d10_9) rfl ?_
        refine XS.aloadN X0.here hx rfl (hb hby d10_10) rfl rfl ?_
        refine X0.arraylength hx (by rw [e0]; exact Ar1.1) (State.isArrayOf_alike hZ.alike Ar1.2.1) (g := (mkF m 11 #[rv a0, rv a1, iv 2] [(.ref a0), (.int 2)])) rfl rfl (hb hby d10_11) _ ?_
        rw [len_of S1 N1]
        show Steps _ _ _ (s₁.setTop (mkF m 12 #[rv a0, rv a1, iv 2] [(.int 16), (.int 2)])) _
        refine XS.icmpNo X0.here hx rfl (hb hby d10_12) rfl (XT.ii_ge_f (by decide : ((2 : Int32) < (16 : Int32)))) ?_
        refine XS.aloadN X0.here hx rfl (hb hby d10_15) rfl rfl ?_
        refine XS.iloadN X0.here hx rfl (hb hby d10_16) rfl ?_
        show Steps _ _ _ (s₁.setTop (mkF m 17 #[rv a0, rv a1, iv 2] [(.int 2), (.ref a0)])) _
        refine X0.baloadBytes hx (j := (2 : Int32)) (v := (.int y2)) (by rw [e0]; exact Ar1.1) (State.isArrayOf_alike hZ.alike Ar1.2.1) Ar1.2.2 (inb_of S1 ⟨by decide, by decide⟩) (Has.at H1 (inb_of S1 ⟨by decide, by decide⟩) rfl) (g := (mkF m 17 #[rv a0, rv a1, iv 2] [(.int 2), (.ref a0)])) rfl rfl (hb hby d10_17) _ ?_
        refine XS.aloadN X0.here hx rfl (hb hby d10_18) rfl rfl ?_
        refine XS.iloadN X0.here hx rfl (hb hby d10_19) rfl ?_
        show Steps _ _ _ (s₁.setTop (mkF m 20 #[rv a0, rv a1, iv 2] [(.int 2), (.ref a1), (.int y2)])) _
        refine X0.baloadBytes hx (j := (2 : Int32)) (v := (.int 112)) (by rw [e0]; exact Ar2.1) (State.isArrayOf_alike hZ.alike Ar2.2.1) Ar2.2.2 (inb_of S2 ⟨by decide, by decide⟩) (Has.at H2 (inb_of S2 ⟨by decide, by decide⟩) rfl) (g := (mkF m 20 #[rv a0, rv a1, iv 2] [(.int 2), (.ref a1), (.int y2)])) rfl rfl (hb hby d10_20) _ ?_
        exact k
      by_cases hs8 : y2 = (112 : Int32)
      · have go9 : Go p.tables e below s₁ (mkF m 21 #[rv a0, rv a1, iv 3] [(.int 108), (.int y3)]) En := by
          intro t k
          refine go7 _ ?_
          refine XS.icmpYes X0.here hx rfl (pc0 := 21) (pc' := 26) rfl (hb hby d10_21) rfl (XT.ii_eq_t hs8) (by decide) (by decide) ?_
          refine XS.iinc X0.here hx rfl (hb hby d10_26) rfl (l' := #[rv a0, rv a1, iv 3]) rfl ?_
          refine XS.goto X0.here hx rfl (pc0 := 29) (pc' := 9) rfl (hb hby d10_29) (by decide) (by decide) ?_
          show Steps _ _ _ (s₁.setTop (mkF m 9 #[rv a0, rv a1, iv 3] [])) _
          refine XS.iloadN X0.here hx rfl (hb hby d10_9) rfl ?_
          refine XS.aloadN X0.here hx rfl (hb hby d10_10) rfl rfl ?_
          refine X0.arraylength hx (by rw [e0]; exact Ar1.1) (State.isArrayOf_alike hZ.alike Ar1.2.1) (g := (mkF m 11 #[rv a0, rv a1, iv 3] [(.ref a0), (.int 3)])) rfl rfl (hb hby d10_11) _ ?_
          rw [len_of S1 N1]
          show Steps _ _ _ (s₁.setTop (mkF m 12 #[rv a0, rv a1, iv 3] [(.int 16), (.int 3)])) _
          refine XS.icmpNo X0.here hx rfl (hb hby d10_12) rfl (XT.ii_ge_f (by decide : ((3 : Int32) < (16 : Int32)))) ?_
          refine XS.aloadN X0.here hx rfl (hb hby d10_15) rfl rfl ?_
          refine XS.iloadN X0.here hx rfl (hb hby d10_16) rfl ?_
          show Steps _ _ _ (s₁.setTop (mkF m 17 #[rv a0, rv a1, iv 3] [(.int 3), (.ref a0)])) _
          refine X0.baloadBytes hx (j := (3 : Int32)) (v := (.int y3)) (by rw [e0]; exact Ar1.1) (State.isArrayOf_alike hZ.alike Ar1.2.1) Ar1.2.2 (inb_of S1 ⟨by decide, by decide⟩) (Has.at H1 (inb_of S1 ⟨by decide, by decide⟩) rfl) (g := (mkF m 17 #[rv a0, rv a1, iv 3] [(.int 3), (.ref a0)])) rfl rfl (hb hby d10_17) _ ?_
          refine XS.aloadN X0.here hx rfl (hb hby d10_18) rfl rfl ?_
          refine XS.iloadN X0.here hx rfl (hb hby d10_19) rfl ?_
          show Steps _ _ _ (s₁.setTop (mkF m 20 #[rv a0, rv a1, iv 3] [(.int 3), (.ref a1), (.int y3)])) _
          refine X0.baloadBytes hx (j := (3 : Int32)) (v := (.int 108)) (by rw [e0]; exact Ar2.1) (State.isArrayOf_alike hZ.alike Ar2.2.1) Ar2.2.2 (inb_of S2 ⟨by decide, by decide⟩) (Has.at H2 (inb_of S2 ⟨by decide, by decide⟩) rfl) (g := (mkF m 20 #[rv a0, rv a1, iv 3] [(.int 3), (.ref a1), (.int y3)])) rfl rfl (hb hby d10_20) _ ?_
          exact k
        by_cases hs10 : y3 = (108 : Int32)
        · have go11 : Go p.tables e below s₁ (mkF m 21 #[rv a0, rv a1, iv 4] [(.int 105), (.int y4)]) En := by
            intro t k
            refine go9 _ ?_
            refine XS.icmpYes X0.here hx rfl (pc0 := 21) (pc' := 26) rfl (hb hby d10_21) rfl (XT.ii_eq_t hs10) (by decide) (by decide) ?_
            refine XS.iinc X0.here hx rfl (hb hby d10_26) rfl (l' := #[rv a0, rv a1, iv 4]) rfl ?_
            refine XS.goto X0.here hx rfl (pc0 := 29) (pc' := 9) rfl (hb hby d10_29) (by decide) (by decide) ?_
            show Steps _ _ _ (s₁.setTop (mkF m 9 #[rv a0, rv a1, iv 4] [])) _
            refine XS.iloadN X0.here hx rfl (hb hby d10_9) rfl ?_
            refine XS.aloadN X0.here hx rfl (hb hby d10_10) rfl rfl ?_
            refine X0.arraylength hx (by rw [e0]; exact Ar1.1) (State.isArrayOf_alike hZ.alike Ar1.2.1) (g := (mkF m 11 #[rv a0, rv a1, iv 4] [(.ref a0), (.int 4)])) rfl rfl (hb hby d10_11) _ ?_
            rw [len_of S1 N1]
            show Steps _ _ _ (s₁.setTop (mkF m 12 #[rv a0, rv a1, iv 4] [(.int 16), (.int 4)])) _
            refine XS.icmpNo X0.here hx rfl (hb hby d10_12) rfl (XT.ii_ge_f (by decide : ((4 : Int32) < (16 : Int32)))) ?_
            refine XS.aloadN X0.here hx rfl (hb hby d10_15) rfl rfl ?_
            refine XS.iloadN X0.here hx rfl (hb hby d10_16) rfl ?_
            show Steps _ _ _ (s₁.setTop (mkF m 17 #[rv a0, rv a1, iv 4] [(.int 4), (.ref a0)])) _
            refine X0.baloadBytes hx (j := (4 : Int32)) (v := (.int y4)) (by rw [e0]; exact Ar1.1) (State.isArrayOf_alike hZ.alike Ar1.2.1) Ar1.2.2 (inb_of S1 ⟨by decide, by decide⟩) (Has.at H1 (inb_of S1 ⟨by decide, by decide⟩) rfl) (g := (mkF m 17 #[rv a0, rv a1, iv 4] [(.int 4), (.ref a0)])) rfl rfl (hb hby d10_17) _ ?_
            refine XS.aloadN X0.here hx rfl (hb hby d10_18) rfl rfl ?_
            refine XS.iloadN X0.here hx rfl (hb hby d10_19) rfl ?_
            show Steps _ _ _ (s₁.setTop (mkF m 20 #[rv a0, rv a1, iv 4] [(.int 4), (.ref a1), (.int y4)])) _
            refine X0.baloadBytes hx (j := (4 : Int32)) (v := (.int 105)) (by rw [e0]; exact Ar2.1) (State.isArrayOf_alike hZ.alike Ar2.2.1) Ar2.2.2 (inb_of S2 ⟨by decide, by decide⟩) (Has.at H2 (inb_of S2 ⟨by decide, by decide⟩) rfl) (g := (mkF m 20 #[rv a0, rv a1, iv 4] [(.int 4), (.ref a1), (.int y4)])) rfl rfl (hb hby d10_20) _ ?_
            exact k
          by_cases hs12 : y4 = (105 : Int32)
          · have go13 : Go p.tables e below s₁ (mkF m 21 #[rv a0, rv a1, iv 5] [(.int 99), (.int y5)]) En := by
              intro t k
              refine go11 _ ?_
              refine XS.icmpYes X0.here hx rfl (pc0 := 21) (pc' := 26) rfl (hb hby d10_21) rfl (XT.ii_eq_t hs12) (by decide) (by decide) ?_
              refine XS.iinc X0.here hx rfl (hb hby d10_26) rfl (l' := #[rv a0, rv a1, iv 5]) rfl ?_
              refine XS.goto X0.here hx rfl (pc0 := 29) (pc' := 9) rfl (hb hby d10_29) (by decide) (by decide) ?_
              show Steps _ _ _ (s₁.setTop (mkF m 9 #[rv a0, rv a1, iv 5] [])) _
              refine XS.iloadN X0.here hx rfl (hb hby d10_9) rfl ?_
              refine XS.aloadN X0.here hx rfl (hb hby d10_10) rfl rfl ?_
              refine X0.arraylength hx (by rw [e0]; exact Ar1.1) (State.isArrayOf_alike hZ.alike Ar1.2.1) (g := (mkF m 11 #[rv a0, rv a1, iv 5] [(.ref a0), (.int 5)])) rfl rfl (hb hby d10_11) _ ?_
              rw [len_of S1 N1]
              show Steps _ _ _ (s₁.setTop (mkF m 12 #[rv a0, rv a1, iv 5] [(.int 16), (.int 5)])) _
              refine XS.icmpNo X0.here hx rfl (hb hby d10_12) rfl (XT.ii_ge_f (by decide : ((5 : Int32) < (16 : Int32)))) ?_
              refine XS.aloadN X0.here hx rfl (hb hby d10_15) rfl rfl ?_
              refine XS.iloadN X0.here hx rfl (hb hby d10_16) rfl ?_
              show Steps _ _ _ (s₁.setTop (mkF m 17 #[rv a0, rv a1, iv 5] [(.int 5), (.ref a0)])) _
              refine X0.baloadBytes hx (j := (5 : Int32)) (v := (.int y5)) (by rw [e0]; exact Ar1.1) (State.isArrayOf_alike hZ.alike Ar1.2.1) Ar1.2.2 (inb_of S1 ⟨by decide, by decide⟩) (Has.at H1 (inb_of S1 ⟨by decide, by decide⟩) rfl) (g := (mkF m 17 #[rv a0, rv a1, iv 5] [(.int 5), (.ref a0)])) rfl rfl (hb hby d10_17) _ ?_
              refine XS.aloadN X0.here hx rfl (hb hby d10_18) rfl rfl ?_
              refine XS.iloadN X0.here hx rfl (hb hby d10_19) rfl ?_
              show Steps _ _ _ (s₁.setTop (mkF m 20 #[rv a0, rv a1, iv 5] [(.int 5), (.ref a1), (.int y5)])) _
              refine X0.baloadBytes hx (j := (5 : Int32)) (v := (.int 99)) (by rw [e0]; exact Ar2.1) (State.isArrayOf_alike hZ.alike Ar2.2.1) Ar2.2.2 (inb_of S2 ⟨by decide, by decide⟩) (Has.at H2 (inb_of S2 ⟨by decide, by decide⟩) rfl) (g := (mkF m 20 #[rv a0, rv a1, iv 5] [(.int 5), (.ref a1), (.int y5)])) rfl rfl (hb hby d10_20) _ ?_
              exact k
            by_cases hs14 : y5 = (99 : Int32)
            · have go15 : Go p.tables e below s₁ (mkF m 21 #[rv a0, rv a1, iv 6] [(.int 97), (.int y6)]) En := by
                intro t k
                refine go13 _ ?_
                refine XS.icmpYes X0.here hx rfl (pc0 := 21) (pc' := 26) rfl (hb hby d10_21) rfl (XT.ii_eq_t hs14) (by decide) (by decide) ?_
                refine XS.iinc X0.here hx rfl (hb hby d10_26) rfl (l' := #[rv a0, rv a1, iv 6]) rfl ?_
                refine XS.goto X0.here hx rfl (pc0 := 29) (pc' := 9) rfl (hb hby d10_29) (by decide) (by decide) ?_
                show Steps _ _ _ (s₁.setTop (mkF m 9 #[rv a0, rv a1, iv 6] [])) _
                refine XS.iloadN X0.here hx rfl (hb hby d10_9) rfl ?_
                refine XS.aloadN X0.here hx rfl (hb hby d10_10) rfl rfl ?_
                refine X0.arraylength hx (by rw [e0]; exact Ar1.1) (State.isArrayOf_alike hZ.alike Ar1.2.1) (g := (mkF m 11 #[rv a0, rv a1, iv 6] [(.ref a0), (.int 6)])) rfl rfl (hb hby d10_11) _ ?_
                rw [len_of S1 N1]
                show Steps _ _ _ (s₁.setTop (mkF m 12 #[rv a0, rv a1, iv 6] [(.int 16), (.int 6)])) _
                refine XS.icmpNo X0.here hx rfl (hb hby d10_12) rfl (XT.ii_ge_f (by decide : ((6 : Int32) < (16 : Int32)))) ?_
                refine XS.aloadN X0.here hx rfl (hb hby d10_15) rfl rfl ?_
                refine XS.iloadN X0.here hx rfl (hb hby d10_16) rfl ?_
                show Steps _ _ _ (s₁.setTop (mkF m 17 #[rv a0, rv a1, iv 6] [(.int 6), (.ref a0)])) _
                refine X0.baloadBytes hx (j := (6 : Int32)) (v := (.int y6)) (by rw [e0]; exact Ar1.1) (State.isArrayOf_alike hZ.alike Ar1.2.1) Ar1.2.2 (inb_of S1 ⟨by decide, by decide⟩) (Has.at H1 (inb_of S1 ⟨by decide, by decide⟩) rfl) (g := (mkF m 17 #[rv a0, rv a1, iv 6] [(.int 6), (.ref a0)])) rfl rfl (hb hby d10_17) _ ?_
                refine XS.aloadN X0.here hx rfl (hb hby d10_18) rfl rfl ?_
                refine XS.iloadN X0.here hx rfl (hb hby d10_19) rfl ?_
                show Steps _ _ _ (s₁.setTop (mkF m 20 #[rv a0, rv a1, iv 6] [(.int 6), (.ref a1), (.int y6)])) _
                refine X0.baloadBytes hx (j := (6 : Int32)) (v := (.int 97)) (by rw [e0]; exact Ar2.1) (State.isArrayOf_alike hZ.alike Ar2.2.1) Ar2.2.2 (inb_of S2 ⟨by decide, by decide⟩) (Has.at H2 (inb_of S2 ⟨by decide, by decide⟩) rfl) (g := (mkF m 20 #[rv a0, rv a1, iv 6] [(.int 6), (.ref a1), (.int y6)])) rfl rfl (hb hby d10_20) _ ?_
                exact k
              by_cases hs16 : y6 = (97 : Int32)
              · have go17 : Go p.tables e below s₁ (mkF m 21 #[rv a0, rv a1, iv 7] [(.int 116), (.int y7)]) En := by
                  intro t k
                  refine go15 _ ?_
                  refine XS.icmpYes X0.here hx rfl (pc0 := 21) (pc' := 26) rfl (hb hby d10_21) rfl (XT.ii_eq_t hs16) (by decide) (by decide) ?_
                  refine XS.iinc X0.here hx rfl (hb hby d10_26) rfl (l' := #[rv a0, rv a1, iv 7]) rfl ?_
                  refine XS.goto X0.here hx rfl (pc0 := 29) (pc' := 9) rfl (hb hby d10_29) (by decide) (by decide) ?_
                  show Steps _ _ _ (s₁.setTop (mkF m 9 #[rv a0, rv a1, iv 7] [])) _
                  refine XS.iloadN X0.here hx rfl (hb hby d10_9) rfl ?_
                  refine XS.aloadN X0.here hx rfl (hb hby d10_10) rfl rfl ?_
                  refine X0.arraylength hx (by rw [e0]; exact Ar1.1) (State.isArrayOf_alike hZ.alike Ar1.2.1) (g := (mkF m 11 #[rv a0, rv a1, iv 7] [(.ref a0), (.int 7)])) rfl rfl (hb hby d10_11) _ ?_
                  rw [len_of S1 N1]
                  show Steps _ _ _ (s₁.setTop (mkF m 12 #[rv a0, rv a1, iv 7] [(.int 16), (.int 7)])) _
                  refine XS.icmpNo X0.here hx rfl (hb hby d10_12) rfl (XT.ii_ge_f (by decide : ((7 : Int32) < (16 : Int32)))) ?_
                  refine XS.aloadN X0.here hx rfl (hb hby d10_15) rfl rfl ?_
                  refine XS.iloadN X0.here hx rfl (hb hby d10_16) rfl ?_
                  show Steps _ _ _ (s₁.setTop (mkF m 17 #[rv a0, rv a1, iv 7] [(.int 7), (.ref a0)])) _
                  refine X0.baloadBytes hx (j := (7 : Int32)) (v := (.int y7)) (by rw [e0]; exact Ar1.1) (State.isArrayOf_alike hZ.alike Ar1.2.1) Ar1.2.2 (inb_of S1 ⟨by decide, by decide⟩) (Has.at H1 (inb_of S1 ⟨by decide, by decide⟩) rfl) (g := (mkF m 17 #[rv a0, rv a1, iv 7] [(.int 7), (.ref a0)])) rfl rfl (hb hby d10_17) _ ?_
                  refine XS.aloadN X0.here hx rfl (hb hby d10_18) rfl rfl ?_
                  refine XS.iloadN X0.here hx rfl (hb hby d10_19) rfl ?_
                  show Steps _ _ _ (s₁.setTop (mkF m 20 #[rv a0, rv a1, iv 7] [(.int 7), (.ref a1), (.int y7)])) _
                  refine X0.baloadBytes hx (j := (7 : Int32)) (v := (.int 116)) (by rw [e0]; exact Ar2.1) (State.isArrayOf_alike hZ.alike Ar2.2.1) Ar2.2.2 (inb_of S2 ⟨by decide, by decide⟩) (Has.at H2 (inb_of S2 ⟨by decide, by decide⟩) rfl) (g := (mkF m 20 #[rv a0, rv a1, iv 7] [(.int 7), (.ref a1), (.int y7)])) rfl rfl (hb hby d10_20) _ ?_
                  exact k
                by_cases hs18 : y7 = (116 : Int32)
                · have go19 : Go p.tables e below s₁ (mkF m 21 #[rv a0, rv a1, iv 8] [(.int 105), (.int y8)]) En := by
                    intro t k
                    refine go17 _ ?_
                    refine XS.icmpYes X0.here hx rfl (pc0 := 21) (pc' := 26) rfl (hb hby d10_21) rfl (XT.ii_eq_t hs18) (by decide) (by decide) ?_
                    refine XS.iinc X0.here hx rfl (hb hby d10_26) rfl (l' := #[rv a0, rv a1, iv 8]) rfl ?_
                    refine XS.goto X0.here hx rfl (pc0 := 29) (pc' := 9) rfl (hb hby d10_29) (by decide) (by decide) ?_
                    show Steps _ _ _ (s₁.setTop (mkF m 9 #[rv a0, rv a1, iv 8] [])) _
                    refine XS.iloadN X0.here hx rfl (hb hby d10_9) rfl ?_
                    refine XS.aloadN X0.here hx rfl (hb hby d10_10) rfl rfl ?_
                    refine X0.arraylength hx (by rw [e0]; exact Ar1.1) (State.isArrayOf_alike hZ.alike Ar1.2.1) (g := (mkF m 11 #[rv a0, rv a1, iv 8] [(.ref a0), (.int 8)])) rfl rfl (hb hby d10_11) _ ?_
                    rw [len_of S1 N1]
                    show Steps _ _ _ (s₁.setTop (mkF m 12 #[rv a0, rv a1, iv 8] [(.int 16), (.int 8)])) _
                    refine XS.icmpNo X0.here hx rfl (hb hby d10_12) rfl (XT.ii_ge_f (by decide : ((8 : Int32) < (16 : Int32)))) ?_
                    refine XS.aloadN X0.here hx rfl (hb hby d10_15) rfl rfl ?_
                    refine XS.iloadN X0.here hx rfl (hb hby d10_16) rfl ?_
                    show Steps _ _ _ (s₁.setTop (mkF m 17 #[rv a0, rv a1, iv 8] [(.int 8), (.ref a0)])) _
                    refine X0.baloadBytes hx (j := (8 : Int32)) (v := (.int y8)) (by rw [e0]; exact Ar1.1) (State.isArrayOf_alike hZ.alike Ar1.2.1) Ar1.2.2 (inb_of S1 ⟨by decide, by decide⟩) (Has.at H1 (inb_of S1 ⟨by decide, by decide⟩) rfl) (g := (mkF m 17 #[rv a0, rv a1, iv 8] [(.int 8), (.ref a0)])) rfl rfl (hb hby d10_17) _ ?_
                    refine XS.aloadN X0.here hx rfl (hb hby d10_18) rfl rfl ?_
                    refine XS.iloadN X0.here hx rfl (hb hby d10_19) rfl ?_
                    show Steps _ _ _ (s₁.setTop (mkF m 20 #[rv a0, rv a1, iv 8] [(.int 8), (.ref a1), (.int y8)])) _
                    refine X0.baloadBytes hx (j := (8 : Int32)) (v := (.int 105)) (by rw [e0]; exact Ar2.1) (State.isArrayOf_alike hZ.alike Ar2.2.1) Ar2.2.2 (inb_of S2 ⟨by decide, by decide⟩) (Has.at H2 (inb_of S2 ⟨by decide, by decide⟩) rfl) (g := (mkF m 20 #[rv a0, rv a1, iv 8] [(.int 8), (.ref a1), (.int y8)])) rfl rfl (hb hby d10_20) _ ?_
                    exact k
                  by_cases hs20 : y8 = (105 : Int32)
                  · have go21 : Go p.tables e below s₁ (mkF m 21 #[rv a0, rv a1, iv 9] [(.int 111), (.int y9)]) En := by
                      intro t k
                      refine go19 _ ?_
                      refine XS.icmpYes X0.here hx rfl (pc0 := 21) (pc' := 26) rfl (hb hby d10_21) rfl (XT.ii_eq_t hs20) (by decide) (by decide) ?_
                      refine XS.iinc X0.here hx rfl (hb hby d10_26) rfl (l' := #[rv a0, rv a1, iv 9]) rfl ?_
                      refine XS.goto X0.here hx rfl (pc0 := 29) (pc' := 9) rfl (hb hby d10_29) (by decide) (by decide) ?_
                      show Steps _ _ _ (s₁.setTop (mkF m 9 #[rv a0, rv a1, iv 9] [])) _
                      refine XS.iloadN X0.here hx rfl (hb hby d10_9) rfl ?_
                      refine XS.aloadN X0.here hx rfl (hb hby d10_10) rfl rfl ?_
                      refine X0.arraylength hx (by rw [e0]; exact Ar1.1) (State.isArrayOf_alike hZ.alike Ar1.2.1) (g := (mkF m 11 #[rv a0, rv a1, iv 9] [(.ref a0), (.int 9)])) rfl rfl (hb hby d10_11) _ ?_
                      rw [len_of S1 N1]
                      show Steps _ _ _ (s₁.setTop (mkF m 12 #[rv a0, rv a1, iv 9] [(.int 16), (.int 9)])) _
                      refine XS.icmpNo X0.here hx rfl (hb hby d10_12) rfl (XT.ii_ge_f (by decide : ((9 : Int32) < (16 : Int32)))) ?_
                      refine XS.aloadN X0.here hx rfl (hb hby d10_15) rfl rfl ?_
                      refine XS.iloadN X0.here hx rfl (hb hby d10_16) rfl ?_
                      show Steps _ _ _ (s₁.setTop (mkF m 17 #[rv a0, rv a1, iv 9] [(.int 9), (.ref a0)])) _
                      refine X0.baloadBytes hx (j := (9 : Int32)) (v := (.int y9)) (by rw [e0]; exact Ar1.1) (State.isArrayOf_alike hZ.alike Ar1.2.1) Ar1.2.2 (inb_of S1 ⟨by decide, by decide⟩) (Has.at H1 (inb_of S1 ⟨by decide, by decide⟩) rfl) (g := (mkF m 17 #[rv a0, rv a1, iv 9] [(.int 9), (.ref a0)])) rfl rfl (hb hby d10_17) _ ?_
                      refine XS.aloadN X0.here hx rfl (hb hby d10_18) rfl rfl ?_
                      refine XS.iloadN X0.here hx rfl (hb hby d10_19) rfl ?_
                      show Steps _ _ _ (s₁.setTop (mkF m 20 #[rv a0, rv a1, iv 9] [(.int 9), (.ref a1), (.int y9)])) _
                      refine X0.baloadBytes hx (j := (9 : Int32)) (v := (.int 111)) (by rw [e0]; exact Ar2.1) (State.isArrayOf_alike hZ.alike Ar2.2.1) Ar2.2.2 (inb_of S2 ⟨by decide, by decide⟩) (Has.at H2 (inb_of S2 ⟨by decide, by decide⟩) rfl) (g := (mkF m 20 #[rv a0, rv a1, iv 9] [(.int 9), (.ref a1), (.int y9)])) rfl rfl (hb hby d10_20) _ ?_
                      exact k
                    by_cases hs22 : y9 = (111 : Int32)
                    · have go23 : Go p.tables e below s₁ (mkF m 21 #[rv a0, rv a1, iv 10] [(.int 110), (.int y10)]) En := by
                        intro t k
                        refine go21 _ ?_
                        refine XS.icmpYes X0.here hx rfl (pc0 := 21) (pc' := 26) rfl (hb hby d10_21) rfl (XT.ii_eq_t hs22) (by decide) (by decide) ?_
                        refine XS.iinc X0.here hx rfl (hb hby d10_26) rfl (l' := #[rv a0, rv a1, iv 10]) rfl ?_
                        refine XS.goto X0.here hx rfl (pc0 := 29) (pc' := 9) rfl (hb hby d10_29) (by decide) (by decide) ?_
                        show Steps _ _ _ (s₁.setTop (mkF m 9 #[rv a0, rv a1, iv 10] [])) _
                        refine XS.iloadN X0.here hx rfl (hb hby d10_9) rfl ?_
                        refine XS.aloadN X0.here hx rfl (hb hby d10_10) rfl rfl ?_
                        refine X0.arraylength hx (by rw [e0]; exact Ar1.1) (State.isArrayOf_alike hZ.alike Ar1.2.1) (g := (mkF m 11 #[rv a0, rv a1, iv 10] [(.ref a0), (.int 10)])) rfl rfl (hb hby d10_11) _ ?_
                        rw [len_of S1 N1]
                        show Steps _ _ _ (s₁.setTop (mkF m 12 #[rv a0, rv a1, iv 10] [(.int 16), (.int 10)])) _
                        refine XS.icmpNo X0.here hx rfl (hb hby d10_12) rfl (XT.ii_ge_f (by decide : ((10 : Int32) < (16 : Int32)))) ?_
                        refine XS.aloadN X0.here hx rfl (hb hby d10_15) rfl rfl ?_
                        refine XS.iloadN X0.here hx rfl (hb hby d10_16) rfl ?_
                        show Steps _ _ _ (s₁.setTop (mkF m 17 #[rv a0, rv a1, iv 10] [(.int 10), (.ref a0)])) _
                        refine X0.baloadBytes hx (j := (10 : Int32)) (v := (.int y10)) (by rw [e0]; exact Ar1.1) (State.isArrayOf_alike hZ.alike Ar1.2.1) Ar1.2.2 (inb_of S1 ⟨by decide, by decide⟩) (Has.at H1 (inb_of S1 ⟨by decide, by decide⟩) rfl) (g := (mkF m 17 #[rv a0, rv a1, iv 10] [(.int 10), (.ref a0)])) rfl rfl (hb hby d10_17) _ ?_
                        refine XS.aloadN X0.here hx rfl (hb hby d10_18) rfl rfl ?_
                        refine XS.iloadN X0.here hx rfl (hb hby d10_19) rfl ?_
                        show Steps _ _ _ (s₁.setTop (mkF m 20 #[rv a0, rv a1, iv 10] [(.int 10), (.ref a1), (.int y10)])) _
                        refine X0.baloadBytes hx (j := (10 : Int32)) (v := (.int 110)) (by rw [e0]; exact Ar2.1) (State.isArrayOf_alike hZ.alike Ar2.2.1) Ar2.2.2 (inb_of S2 ⟨by decide, by decide⟩) (Has.at H2 (inb_of S2 ⟨by decide, by decide⟩) rfl) (g := (mkF m 20 #[rv a0, rv a1, iv 10] [(.int 10), (.ref a1), (.int y10)])) rfl rfl (hb hby d10_20) _ ?_
                        exact k
                      by_cases hs24 : y10 = (110 : Int32)
                      · have go25 : Go p.tables e below s₁ (mkF m 21 #[rv a0, rv a1, iv 11] [(.int 83), (.int y11)]) En := by
                          intro t k
                          refine go23 _ ?_
                          refine XS.icmpYes X0.here hx rfl (pc0 := 21) (pc' := 26) rfl (hb hby d10_21) rfl (XT.ii_eq_t hs24) (by decide) (by decide) ?_
                          refine XS.iinc X0.here hx rfl (hb hby d10_26) rfl (l' := #[rv a0, rv a1, iv 11]) rfl ?_
                          refine XS.goto X0.here hx rfl (pc0 := 29) (pc' := 9) rfl (hb hby d10_29) (by decide) (by decide) ?_
                          show Steps _ _ _ (s₁.setTop (mkF m 9 #[rv a0, rv a1, iv 11] [])) _
                          refine XS.iloadN X0.here hx rfl (hb hby d10_9) rfl ?_
                          refine XS.aloadN X0.here hx rfl (hb hby d10_10) rfl rfl ?_
                          refine X0.arraylength hx (by rw [e0]; exact Ar1.1) (State.isArrayOf_alike hZ.alike Ar1.2.1) (g := (mkF m 11 #[rv a0, rv a1, iv 11] [(.ref a0), (.int 11)])) rfl rfl (hb hby d10_11) _ ?_
                          rw [len_of S1 N1]
                          show Steps _ _ _ (s₁.setTop (mkF m 12 #[rv a0, rv a1, iv 11] [(.int 16), (.int 11)])) _
                          refine XS.icmpNo X0.here hx rfl (hb hby d10_12) rfl (XT.ii_ge_f (by decide : ((11 : Int32) < (16 : Int32)))) ?_
                          refine XS.aloadN X0.here hx rfl (hb hby d10_15) rfl rfl ?_
                          refine XS.iloadN X0.here hx rfl (hb hby d10_16) rfl ?_
                          show Steps _ _ _ (s₁.setTop (mkF m 17 #[rv a0, rv a1, iv 11] [(.int 11), (.ref a0)])) _
                          refine X0.baloadBytes hx (j := (11 : Int32)) (v := (.int y11)) (by rw [e0]; exact Ar1.1) (State.isArrayOf_alike hZ.alike Ar1.2.1) Ar1.2.2 (inb_of S1 ⟨by decide, by decide⟩) (Has.at H1 (inb_of S1 ⟨by decide, by decide⟩) rfl) (g := (mkF m 17 #[rv a0, rv a1, iv 11] [(.int 11), (.ref a0)])) rfl rfl (hb hby d10_17) _ ?_
                          refine XS.aloadN X0.here hx rfl (hb hby d10_18) rfl rfl ?_
                          refine XS.iloadN X0.here hx rfl (hb hby d10_19) rfl ?_
                          show Steps _ _ _ (s₁.setTop (mkF m 20 #[rv a0, rv a1, iv 11] [(.int 11), (.ref a1), (.int y11)])) _
                          refine X0.baloadBytes hx (j := (11 : Int32)) (v := (.int 83)) (by rw [e0]; exact Ar2.1) (State.isArrayOf_alike hZ.alike Ar2.2.1) Ar2.2.2 (inb_of S2 ⟨by decide, by decide⟩) (Has.at H2 (inb_of S2 ⟨by decide, by decide⟩) rfl) (g := (mkF m 20 #[rv a0, rv a1, iv 11] [(.int 11), (.ref a1), (.int y11)])) rfl rfl (hb hby d10_20) _ ?_
                          exact k
                        by_cases hs26 : y11 = (83 : Int32)
                        · have go27 : Go p.tables e below s₁ (mkF m 21 #[rv a0, rv a1, iv 12] [(.int 99), (.int y12)]) En := by
                            intro t k
                            refine go25 _ ?_
                            refine XS.icmpYes X0.here hx rfl (pc0 := 21) (pc' := 26) rfl (hb hby d10_21) rfl (XT.ii_eq_t hs26) (by decide) (by decide) ?_
                            refine XS.iinc X0.here hx rfl (hb hby d10_26) rfl (l' := #[rv a0, rv a1, iv 12]) rfl ?_
                            refine XS.goto X0.here hx rfl (pc0 := 29) (pc' := 9) rfl (hb hby d10_29) (by decide) (by decide) ?_
                            show Steps _ _ _ (s₁.setTop (mkF m 9 #[rv a0, rv a1, iv 12] [])) _
                            refine XS.iloadN X0.here hx rfl (hb hby d10_9) rfl ?_
                            refine XS.aloadN X0.here hx rfl (hb hby d10_10) rfl rfl ?_
                            refine X0.arraylength hx (by rw [e0]; exact Ar1.1) (State.isArrayOf_alike hZ.alike Ar1.2.1) (g := (mkF m 11 #[rv a0, rv a1, iv 12] [(.ref a0), (.int 12)])) rfl rfl (hb hby d10_11) _ ?_
                            rw [len_of S1 N1]
                            show Steps _ _ _ (s₁.setTop (mkF m 12 #[rv a0, rv a1, iv 12] [(.int 16), (.int 12)])) _
                            refine XS.icmpNo X0.here hx rfl (hb hby d10_12) rfl (XT.ii_ge_f (by decide : ((12 : Int32) < (16 : Int32)))) ?_
                            refine XS.aloadN X0.here hx rfl (hb hby d10_15) rfl rfl ?_
                            refine XS.iloadN X0.here hx rfl (hb hby d10_16) rfl ?_
                            show Steps _ _ _ (s₁.setTop (mkF m 17 #[rv a0, rv a1, iv 12] [(.int 12), (.ref a0)])) _
                            refine X0.baloadBytes hx (j := (12 : Int32)) (v := (.int y12)) (by rw [e0]; exact Ar1.1) (State.isArrayOf_alike hZ.alike Ar1.2.1) Ar1.2.2 (inb_of S1 ⟨by decide, by decide⟩) (Has.at H1 (inb_of S1 ⟨by decide, by decide⟩) rfl) (g := (mkF m 17 #[rv a0, rv a1, iv 12] [(.int 12), (.ref a0)])) rfl rfl (hb hby d10_17) _ ?_
                            refine XS.aloadN X0.here hx rfl (hb hby d10_18) rfl rfl ?_
                            refine XS.iloadN X0.here hx rfl (hb hby d10_19) rfl ?_
                            show Steps _ _ _ (s₁.setTop (mkF m 20 #[rv a0, rv a1, iv 12] [(.int 12), (.ref a1), (.int y12)])) _
                            refine X0.baloadBytes hx (j := (12 : Int32)) (v := (.int 99)) (by rw [e0]; exact Ar2.1) (State.isArrayOf_alike hZ.alike Ar2.2.1) Ar2.2.2 (inb_of S2 ⟨by decide, by decide⟩) (Has.at H2 (inb_of S2 ⟨by decide, by decide⟩) rfl) (g := (mkF m 20 #[rv a0, rv a1, iv 12] [(.int 12), (.ref a1), (.int y12)])) rfl rfl (hb hby d10_20) _ ?_
                            exact k
                          by_cases hs28 : y12 = (99 : Int32)
                          · have go29 : Go p.tables e below s₁ (mkF m 21 #[rv a0, rv a1, iv 13] [(.int 111), (.int y13)]) En := by
                              intro t k
                              refine go27 _ ?_
                              refine XS.icmpYes X0.here hx rfl (pc0 := 21) (pc' := 26) rfl (hb hby d10_21) rfl (XT.ii_eq_t hs28) (by decide) (by decide) ?_
                              refine XS.iinc X0.here hx rfl (hb hby d10_26) rfl (l' := #[rv a0, rv a1, iv 13]) rfl ?_
                              refine XS.goto X0.here hx rfl (pc0 := 29) (pc' := 9) rfl (hb hby d10_29) (by decide) (by decide) ?_
                              show Steps _ _ _ (s₁.setTop (mkF m 9 #[rv a0, rv a1, iv 13] [])) _
                              refine XS.iloadN X0.here hx rfl (hb hby d10_9) rfl ?_
                              refine XS.aloadN X0.here hx rfl (hb hby d10_10) rfl rfl ?_
                              refine X0.arraylength hx (by rw [e0]; exact Ar1.1) (State.isArrayOf_alike hZ.alike Ar1.2.1) (g := (mkF m 11 #[rv a0, rv a1, iv 13] [(.ref a0), (.int 13)])) rfl rfl (hb hby d10_11) _ ?_
                              rw [len_of S1 N1]
                              show Steps _ _ _ (s₁.setTop (mkF m 12 #[rv a0, rv a1, iv 13] [(.int 16), (.int 13)])) _
                              refine XS.icmpNo X0.here hx rfl (hb hby d10_12) rfl (XT.ii_ge_f (by decide : ((13 : Int32) < (16 : Int32)))) ?_
                              refine XS.aloadN X0.here hx rfl (hb hby d10_15) rfl rfl ?_
                              refine XS.iloadN X0.here hx rfl (hb hby d10_16) rfl ?_
                              show Steps _ _ _ (s₁.setTop (mkF m 17 #[rv a0, rv a1, iv 13] [(.int 13), (.ref a0)])) _
                              refine X0.baloadBytes hx (j := (13 : Int32)) (v := (.int y13)) (by rw [e0]; exact Ar1.1) (State.isArrayOf_alike hZ.alike Ar1.2.1) Ar1.2.2 (inb_of S1 ⟨by decide, by decide⟩) (Has.at H1 (inb_of S1 ⟨by decide, by decide⟩) rfl) (g := (mkF m 17 #[rv a0, rv a1, iv 13] [(.int 13), (.ref a0)])) rfl rfl (hb hby d10_17) _ ?_
                              refine XS.aloadN X0.here hx rfl (hb hby d10_18) rfl rfl ?_
                              refine XS.iloadN X0.here hx rfl (hb hby d10_19) rfl ?_
                              show Steps _ _ _ (s₁.setTop (mkF m 20 #[rv a0, rv a1, iv 13] [(.int 13), (.ref a1), (.int y13)])) _
                              refine X0.baloadBytes hx (j := (13 : Int32)) (v := (.int 111)) (by rw [e0]; exact Ar2.1) (State.isArrayOf_alike hZ.alike Ar2.2.1) Ar2.2.2 (inb_of S2 ⟨by decide, by decide⟩) (Has.at H2 (inb_of S2 ⟨by decide, by decide⟩) rfl) (g := (mkF m 20 #[rv a0, rv a1, iv 13] [(.int 13), (.ref a1), (.int y13)])) rfl rfl (hb hby d10_20) _ ?_
                              exact k
                            by_cases hs30 : y13 = (111 : Int32)
                            · have go31 : Go p.tables e below s₁ (mkF m 21 #[rv a0, rv a1, iv 14] [(.int 112), (.int y14)]) En := by
                                intro t k
                                refine go29 _ ?_
                                refine XS.icmpYes X0.here hx rfl (pc0 := 21) (pc' := 26) rfl (hb hby d10_21) rfl (XT.ii_eq_t hs30) (by decide) (by decide) ?_
                                refine XS.iinc X0.here hx rfl (hb hby d10_26) rfl (l' := #[rv a0, rv a1, iv 14]) rfl ?_
                                refine XS.goto X0.here hx rfl (pc0 := 29) (pc' := 9) rfl (hb hby d10_29) (by decide) (by decide) ?_
                                show Steps _ _ _ (s₁.setTop (mkF m 9 #[rv a0, rv a1, iv 14] [])) _
                                refine XS.iloadN X0.here hx rfl (hb hby d10_9) rfl ?_
                                refine XS.aloadN X0.here hx rfl (hb hby d10_10) rfl rfl ?_
                                refine X0.arraylength hx (by rw [e0]; exact Ar1.1) (State.isArrayOf_alike hZ.alike Ar1.2.1) (g := (mkF m 11 #[rv a0, rv a1, iv 14] [(.ref a0), (.int 14)])) rfl rfl (hb hby d10_11) _ ?_
                                rw [len_of S1 N1]
                                show Steps _ _ _ (s₁.setTop (mkF m 12 #[rv a0, rv a1, iv 14] [(.int 16), (.int 14)])) _
                                refine XS.icmpNo X0.here hx rfl (hb hby d10_12) rfl (XT.ii_ge_f (by decide : ((14 : Int32) < (16 : Int32)))) ?_
                                refine XS.aloadN X0.here hx rfl (hb hby d10_15) rfl rfl ?_
                                refine XS.iloadN X0.here hx rfl (hb hby d10_16) rfl ?_
                                show Steps _ _ _ (s₁.setTop (mkF m 17 #[rv a0, rv a1, iv 14] [(.int 14), (.ref a0)])) _
                                refine X0.baloadBytes hx (j := (14 : Int32)) (v := (.int y14)) (by rw [e0]; exact Ar1.1) (State.isArrayOf_alike hZ.alike Ar1.2.1) Ar1.2.2 (inb_of S1 ⟨by decide, by decide⟩) (Has.at H1 (inb_of S1 ⟨by decide, by decide⟩) rfl) (g := (mkF m 17 #[rv a0, rv a1, iv 14] [(.int 14), (.ref a0)])) rfl rfl (hb hby d10_17) _ ?_
                                refine XS.aloadN X0.here hx rfl (hb hby d10_18) rfl rfl ?_
                                refine XS.iloadN X0.here hx rfl (hb hby d10_19) rfl ?_
                                show Steps _ _ _ (s₁.setTop (mkF m 20 #[rv a0, rv a1, iv 14] [(.int 14), (.ref a1), (.int y14)])) _
                                refine X0.baloadBytes hx (j := (14 : Int32)) (v := (.int 112)) (by rw [e0]; exact Ar2.1) (State.isArrayOf_alike hZ.alike Ar2.2.1) Ar2.2.2 (inb_of S2 ⟨by decide, by decide⟩) (Has.at H2 (inb_of S2 ⟨by decide, by decide⟩) rfl) (g := (mkF m 20 #[rv a0, rv a1, iv 14] [(.int 14), (.ref a1), (.int y14)])) rfl rfl (hb hby d10_20) _ ?_
                                exact k
                              by_cases hs32 : y14 = (112 : Int32)
                              · have go33 : Go p.tables e below s₁ (mkF m 21 #[rv a0, rv a1, iv 15] [(.int 101), (.int y15)]) En := by
                                  intro t k
                                  refine go31 _ ?_
                                  refine XS.icmpYes X0.here hx rfl (pc0 := 21) (pc' := 26) rfl (hb hby d10_21) rfl (XT.ii_eq_t hs32) (by decide) (by decide) ?_
                                  refine XS.iinc X0.here hx rfl (hb hby d10_26) rfl (l' := #[rv a0, rv a1, iv 15]) rfl ?_
                                  refine XS.goto X0.here hx rfl (pc0 := 29) (pc' := 9) rfl (hb hby d10_29) (by decide) (by decide) ?_
                                  show Steps _ _ _ (s₁.setTop (mkF m 9 #[rv a0, rv a1, iv 15] [])) _
                                  refine XS.iloadN X0.here hx rfl (hb hby d10_9) rfl ?_
                                  refine XS.aloadN X0.here hx rfl (hb hby d10_10) rfl rfl ?_
                                  refine X0.arraylength hx (by rw [e0]; exact Ar1.1) (State.isArrayOf_alike hZ.alike Ar1.2.1) (g := (mkF m 11 #[rv a0, rv a1, iv 15] [(.ref a0), (.int 15)])) rfl rfl (hb hby d10_11) _ ?_
                                  rw [len_of S1 N1]
                                  show Steps _ _ _ (s₁.setTop (mkF m 12 #[rv a0, rv a1, iv 15] [(.int 16), (.int 15)])) _
                                  refine XS.icmpNo X0.here hx rfl (hb hby d10_12) rfl (XT.ii_ge_f (by decide : ((15 : Int32) < (16 : Int32)))) ?_
                                  refine XS.aloadN X0.here hx rfl (hb hby d10_15) rfl rfl ?_
                                  refine XS.iloadN X0.here hx rfl (hb hby d10_16) rfl ?_
                                  show Steps _ _ _ (s₁.setTop (mkF m 17 #[rv a0, rv a1, iv 15] [(.int 15), (.ref a0)])) _
                                  refine X0.baloadBytes hx (j := (15 : Int32)) (v := (.int y15)) (by rw [e0]; exact Ar1.1) (State.isArrayOf_alike hZ.alike Ar1.2.1) Ar1.2.2 (inb_of S1 ⟨by decide, by decide⟩) (Has.at H1 (inb_of S1 ⟨by decide, by decide⟩) rfl) (g := (mkF m 17 #[rv a0, rv a1, iv 15] [(.int 15), (.ref a0)])) rfl rfl (hb hby d10_17) _ ?_
                                  refine XS.aloadN X0.here hx rfl (hb hby d10_18) rfl rfl ?_
                                  refine XS.iloadN X0.here hx rfl (hb hby d10_19) rfl ?_
                                  show Steps _ _ _ (s₁.setTop (mkF m 20 #[rv a0, rv a1, iv 15] [(.int 15), (.ref a1), (.int y15)])) _
                                  refine X0.baloadBytes hx (j := (15 : Int32)) (v := (.int 101)) (by rw [e0]; exact Ar2.1) (State.isArrayOf_alike hZ.alike Ar2.2.1) Ar2.2.2 (inb_of S2 ⟨by decide, by decide⟩) (Has.at H2 (inb_of S2 ⟨by decide, by decide⟩) rfl) (g := (mkF m 20 #[rv a0, rv a1, iv 15] [(.int 15), (.ref a1), (.int y15)])) rfl rfl (hb hby d10_20) _ ?_
                                  exact k
                                by_cases hs34 : y15 = (101 : Int32)
                                · have go35 : Go p.tables e below s₁ (mkF m 33 #[rv a0, rv a1, iv 16] [(.int 1)]) En := by
                                    intro t k
                                    refine go33 _ ?_
                                    refine XS.icmpYes X0.here hx rfl (pc0 := 21) (pc' := 26) rfl (hb hby d10_21) rfl (XT.ii_eq_t hs34) (by decide) (by decide) ?_
                                    refine XS.iinc X0.here hx rfl (hb hby d10_26) rfl (l' := #[rv a0, rv a1, iv 16]) rfl ?_
                                    refine XS.goto X0.here hx rfl (pc0 := 29) (pc' := 9) rfl (hb hby d10_29) (by decide) (by decide) ?_
                                    show Steps _ _ _ (s₁.setTop (mkF m 9 #[rv a0, rv a1, iv 16] [])) _
                                    refine XS.iloadN X0.here hx rfl (hb hby d10_9) rfl ?_
                                    refine XS.aloadN X0.here hx rfl (hb hby d10_10) rfl rfl ?_
                                    refine X0.arraylength hx (by rw [e0]; exact Ar1.1) (State.isArrayOf_alike hZ.alike Ar1.2.1) (g := (mkF m 11 #[rv a0, rv a1, iv 16] [(.ref a0), (.int 16)])) rfl rfl (hb hby d10_11) _ ?_
                                    rw [len_of S1 N1]
                                    show Steps _ _ _ (s₁.setTop (mkF m 12 #[rv a0, rv a1, iv 16] [(.int 16), (.int 16)])) _
                                    refine XS.icmpYes X0.here hx rfl (pc0 := 12) (pc' := 32) rfl (hb hby d10_12) rfl (XT.ii_ge_t (by decide : ¬ ((16 : Int32) < (16 : Int32)))) (by decide) (by decide) ?_
                                    refine XS.iconst X0.here hx rfl (hb hby d10_32) ?_
                                    exact k
                                  refine own_out (w := (.int 1)) X0 hx hlk go35 hrt rfl (Or.inl ⟨rfl, Or.inr (Or.inl rfl), _, rfl⟩) (hb hby d10_33) e0 (by decide) (by decide) ?_
                                  exact ⟨by rw [flq16, if_pos hs4, if_pos hs6, if_pos hs8, if_pos hs10, if_pos hs12, if_pos hs14, if_pos hs16, if_pos hs18, if_pos hs20, if_pos hs22, if_pos hs24, if_pos hs26, if_pos hs28, if_pos hs30, if_pos hs32, if_pos hs34], N0, rfl⟩
                                have go36 : Go p.tables e below s₁ (mkF m 25 #[rv a0, rv a1, iv 15] [(.int 0)]) En := by
                                  intro t k
                                  refine go33 _ ?_
                                  refine XS.icmpNo X0.here hx rfl (hb hby d10_21) rfl (XT.ii_eq_f hs34) ?_
                                  refine XS.iconst X0.here hx rfl (hb hby d10_24) ?_
                                  exact k
                                refine own_out (w := (.int 0)) X0 hx hlk go36 hrt rfl (Or.inl ⟨rfl, Or.inr (Or.inl rfl), _, rfl⟩) (hb hby d10_25) e0 (by decide) (by decide) ?_
                                exact ⟨by rw [flq16, if_pos hs4, if_pos hs6, if_pos hs8, if_pos hs10, if_pos hs12, if_pos hs14, if_pos hs16, if_pos hs18, if_pos hs20, if_pos hs22, if_pos hs24, if_pos hs26, if_pos hs28, if_pos hs30, if_pos hs32, if_neg hs34], N0, rfl⟩
                              have go37 : Go p.tables e below s₁ (mkF m 25 #[rv a0, rv a1, iv 14] [(.int 0)]) En := by
                                intro t k
                                refine go31 _ ?_
                                refine XS.icmpNo X0.here hx rfl (hb hby d10_21) rfl (XT.ii_eq_f hs32) ?_
                                refine XS.iconst X0.here hx rfl (hb hby d10_24) ?_
                                exact k
                              refine own_out (w := (.int 0)) X0 hx hlk go37 hrt rfl (Or.inl ⟨rfl, Or.inr (Or.inl rfl), _, rfl⟩) (hb hby d10_25) e0 (by decide) (by decide) ?_
                              exact ⟨by rw [flq16, if_pos hs4, if_pos hs6, if_pos hs8, if_pos hs10, if_pos hs12, if_pos hs14, if_pos hs16, if_pos hs18, if_pos hs20, if_pos hs22, if_pos hs24, if_pos hs26, if_pos hs28, if_pos hs30, if_neg hs32], N0, rfl⟩
                            have go38 : Go p.tables e below s₁ (mkF m 25 #[rv a0, rv a1, iv 13] [(.int 0)]) En := by
                              intro t k
                              refine go29 _ ?_
                              refine XS.icmpNo X0.here hx rfl (hb hby d10_21) rfl (XT.ii_eq_f hs30) ?_
                              refine XS.iconst X0.here hx rfl (hb hby d10_24) ?_
                              exact k
                            refine own_out (w := (.int 0)) X0 hx hlk go38 hrt rfl (Or.inl ⟨rfl, Or.inr (Or.inl rfl), _, rfl⟩) (hb hby d10_25) e0 (by decide) (by decide) ?_
                            exact ⟨by rw [flq16, if_pos hs4, if_pos hs6, if_pos hs8, if_pos hs10, if_pos hs12, if_pos hs14, if_pos hs16, if_pos hs18, if_pos hs20, if_pos hs22, if_pos hs24, if_pos hs26, if_pos hs28, if_neg hs30], N0, rfl⟩
                          have go39 : Go p.tables e below s₁ (mkF m 25 #[rv a0, rv a1, iv 12] [(.int 0)]) En := by
                            intro t k
                            refine go27 _ ?_
                            refine XS.icmpNo X0.here hx rfl (hb hby d10_21) rfl (XT.ii_eq_f hs28) ?_
                            refine XS.iconst X0.here hx rfl (hb hby d10_24) ?_
                            exact k
                          refine own_out (w := (.int 0)) X0 hx hlk go39 hrt rfl (Or.inl ⟨rfl, Or.inr (Or.inl rfl), _, rfl⟩) (hb hby d10_25) e0 (by decide) (by decide) ?_
                          exact ⟨by rw [flq16, if_pos hs4, if_pos hs6, if_pos hs8, if_pos hs10, if_pos hs12, if_pos hs14, if_pos hs16, if_pos hs18, if_pos hs20, if_pos hs22, if_pos hs24, if_pos hs26, if_neg hs28], N0, rfl⟩
                        have go40 : Go p.tables e below s₁ (mkF m 25 #[rv a0, rv a1, iv 11] [(.int 0)]) En := by
                          intro t k
                          refine go25 _ ?_
                          refine XS.icmpNo X0.here hx rfl (hb hby d10_21) rfl (XT.ii_eq_f hs26) ?_
                          refine XS.iconst X0.here hx rfl (hb hby d10_24) ?_
                          exact k
                        refine own_out (w := (.int 0)) X0 hx hlk go40 hrt rfl (Or.inl ⟨rfl, Or.inr (Or.inl rfl), _, rfl⟩) (hb hby d10_25) e0 (by decide) (by decide) ?_
                        exact ⟨by rw [flq16, if_pos hs4, if_pos hs6, if_pos hs8, if_pos hs10, if_pos hs12, if_pos hs14, if_pos hs16, if_pos hs18, if_pos hs20, if_pos hs22, if_pos hs24, if_neg hs26], N0, rfl⟩
                      have go41 : Go p.tables e below s₁ (mkF m 25 #[rv a0, rv a1, iv 10] [(.int 0)]) En := by
                        intro t k
                        refine go23 _ ?_
                        refine XS.icmpNo X0.here hx rfl (hb hby d10_21) rfl (XT.ii_eq_f hs24) ?_
                        refine XS.iconst X0.here hx rfl (hb hby d10_24) ?_
                        exact k
                      refine own_out (w := (.int 0)) X0 hx hlk go41 hrt rfl (Or.inl ⟨rfl, Or.inr (Or.inl rfl), _, rfl⟩) (hb hby d10_25) e0 (by decide) (by decide) ?_
                      exact ⟨by rw [flq16, if_pos hs4, if_pos hs6, if_pos hs8, if_pos hs10, if_pos hs12, if_pos hs14, if_pos hs16, if_pos hs18, if_pos hs20, if_pos hs22, if_neg hs24], N0, rfl⟩
                    have go42 : Go p.tables e below s₁ (mkF m 25 #[rv a0, rv a1, iv 9] [(.int 0)]) En := by
                      intro t k
                      refine go21 _ ?_
                      refine XS.icmpNo X0.here hx rfl (hb hby d10_21) rfl (XT.ii_eq_f hs22) ?_
                      refine XS.iconst X0.here hx rfl (hb hby d10_24) ?_
                      exact k
                    refine own_out (w := (.int 0)) X0 hx hlk go42 hrt rfl (Or.inl ⟨rfl, Or.inr (Or.inl rfl), _, rfl⟩) (hb hby d10_25) e0 (by decide) (by decide) ?_
                    exact ⟨by rw [flq16, if_pos hs4, if_pos hs6, if_pos hs8, if_pos hs10, if_pos hs12, if_pos hs14, if_pos hs16, if_pos hs18, if_pos hs20, if_neg hs22], N0, rfl⟩
                  have go43 : Go p.tables e below s₁ (mkF m 25 #[rv a0, rv a1, iv 8] [(.int 0)]) En := by
                    intro t k
                    refine go19 _ ?_
                    refine XS.icmpNo X0.here hx rfl (hb hby d10_21) rfl (XT.ii_eq_f hs20) ?_
                    refine XS.iconst X0.here hx rfl (hb hby d10_24) ?_
                    exact k
                  refine own_out (w := (.int 0)) X0 hx hlk go43 hrt rfl (Or.inl ⟨rfl, Or.inr (Or.inl rfl), _, rfl⟩) (hb hby d10_25) e0 (by decide) (by decide) ?_
                  exact ⟨by rw [flq16, if_pos hs4, if_pos hs6, if_pos hs8, if_pos hs10, if_pos hs12, if_pos hs14, if_pos hs16, if_pos hs18, if_neg hs20], N0, rfl⟩
                have go44 : Go p.tables e below s₁ (mkF m 25 #[rv a0, rv a1, iv 7] [(.int 0)]) En := by
                  intro t k
                  refine go17 _ ?_
                  refine XS.icmpNo X0.here hx rfl (hb hby d10_21) rfl (XT.ii_eq_f hs18) ?_
                  refine XS.iconst X0.here hx rfl (hb hby d10_24) ?_
                  exact k
                refine own_out (w := (.int 0)) X0 hx hlk go44 hrt rfl (Or.inl ⟨rfl, Or.inr (Or.inl rfl), _, rfl⟩) (hb hby d10_25) e0 (by decide) (by decide) ?_
                exact ⟨by rw [flq16, if_pos hs4, if_pos hs6, if_pos hs8, if_pos hs10, if_pos hs12, if_pos hs14, if_pos hs16, if_neg hs18], N0, rfl⟩
              have go45 : Go p.tables e below s₁ (mkF m 25 #[rv a0, rv a1, iv 6] [(.int 0)]) En := by
                intro t k
                refine go15 _ ?_
                refine XS.icmpNo X0.here hx rfl (hb hby d10_21) rfl (XT.ii_eq_f hs16) ?_
                refine XS.iconst X0.here hx rfl (hb hby d10_24) ?_
                exact k
              refine own_out (w := (.int 0)) X0 hx hlk go45 hrt rfl (Or.inl ⟨rfl, Or.inr (Or.inl rfl), _, rfl⟩) (hb hby d10_25) e0 (by decide) (by decide) ?_
              exact ⟨by rw [flq16, if_pos hs4, if_pos hs6, if_pos hs8, if_pos hs10, if_pos hs12, if_pos hs14, if_neg hs16], N0, rfl⟩
            have go46 : Go p.tables e below s₁ (mkF m 25 #[rv a0, rv a1, iv 5] [(.int 0)]) En := by
              intro t k
              refine go13 _ ?_
              refine XS.icmpNo X0.here hx rfl (hb hby d10_21) rfl (XT.ii_eq_f hs14) ?_
              refine XS.iconst X0.here hx rfl (hb hby d10_24) ?_
              exact k
            refine own_out (w := (.int 0)) X0 hx hlk go46 hrt rfl (Or.inl ⟨rfl, Or.inr (Or.inl rfl), _, rfl⟩) (hb hby d10_25) e0 (by decide) (by decide) ?_
            exact ⟨by rw [flq16, if_pos hs4, if_pos hs6, if_pos hs8, if_pos hs10, if_pos hs12, if_neg hs14], N0, rfl⟩
          have go47 : Go p.tables e below s₁ (mkF m 25 #[rv a0, rv a1, iv 4] [(.int 0)]) En := by
            intro t k
            refine go11 _ ?_
            refine XS.icmpNo X0.here hx rfl (hb hby d10_21) rfl (XT.ii_eq_f hs12) ?_
            refine XS.iconst X0.here hx rfl (hb hby d10_24) ?_
            exact k
          refine own_out (w := (.int 0)) X0 hx hlk go47 hrt rfl (Or.inl ⟨rfl, Or.inr (Or.inl rfl), _, rfl⟩) (hb hby d10_25) e0 (by decide) (by decide) ?_
          exact ⟨by rw [flq16, if_pos hs4, if_pos hs6, if_pos hs8, if_pos hs10, if_neg hs12], N0, rfl⟩
        have go48 : Go p.tables e below s₁ (mkF m 25 #[rv a0, rv a1, iv 3] [(.int 0)]) En := by
          intro t k
          refine go9 _ ?_
          refine XS.icmpNo X0.here hx rfl (hb hby d10_21) rfl (XT.ii_eq_f hs10) ?_
          refine XS.iconst X0.here hx rfl (hb hby d10_24) ?_
          exact k
        refine own_out (w := (.int 0)) X0 hx hlk go48 hrt rfl (Or.inl ⟨rfl, Or.inr (Or.inl rfl), _, rfl⟩) (hb hby d10_25) e0 (by decide) (by decide) ?_
        exact ⟨by rw [flq16, if_pos hs4, if_pos hs6, if_pos hs8, if_neg hs10], N0, rfl⟩
      have go49 : Go p.tables e below s₁ (mkF m 25 #[rv a0, rv a1, iv 2] [(.int 0)]) En := by
        intro t k
        refine go7 _ ?_
        refine XS.icmpNo X0.here hx rfl (hb hby d10_21) rfl (XT.ii_eq_f hs8) ?_
        refine XS.iconst X0.here hx rfl (hb hby d10_24) ?_
        exact k
      refine own_out (w := (.int 0)) X0 hx hlk go49 hrt rfl (Or.inl ⟨rfl, Or.inr (Or.inl rfl), _, rfl⟩) (hb hby d10_25) e0 (by decide) (by decide) ?_
      exact ⟨by rw [flq16, if_pos hs4, if_pos hs6, if_neg hs8], N0, rfl⟩
    have go50 : Go p.tables e below s₁ (mkF m 25 #[rv a0, rv a1, iv 1] [(.int 0)]) En := by
      intro t k
      refine go5 _ ?_
      refine XS.icmpNo X0.here hx rfl (hb hby d10_21) rfl (XT.ii_eq_f hs6) ?_
      refine XS.iconst X0.here hx rfl (hb hby d10_24) ?_
      exact k
    refine own_out (w := (.int 0)) X0 hx hlk go50 hrt rfl (Or.inl ⟨rfl, Or.inr (Or.inl rfl), _, rfl⟩) (hb hby d10_25) e0 (by decide) (by decide) ?_
    exact ⟨by rw [flq16, if_pos hs4, if_neg hs6], N0, rfl⟩
  have go51 : Go p.tables e below s₁ (mkF m 25 #[rv a0, rv a1, iv 0] [(.int 0)]) En := by
    intro t k
    refine go3 _ ?_
    refine XS.icmpNo X0.here hx rfl (hb hby d10_21) rfl (XT.ii_eq_f hs4) ?_
    refine XS.iconst X0.here hx rfl (hb hby d10_24) ?_
    exact k
  refine own_out (w := (.int 0)) X0 hx hlk go51 hrt rfl (Or.inl ⟨rfl, Or.inr (Or.inl rfl), _, rfl⟩) (hb hby d10_25) e0 (by decide) (by decide) ?_
  exact ⟨by rw [flq16, if_neg hs4], N0, rfl⟩
theorem d9_0 : decode jdk_42_method_66_code 0 = .ok (.aload_n 0, 1) := by decide +kernel
theorem d9_1 : decode jdk_42_method_66_code 1 = .ok (.aload_n 1, 1) := by decide +kernel
theorem d9_2 : decode jdk_42_method_66_code 2 = .ok (.if_acmp .ne 5, 3) := by decide +kernel
theorem d9_7 : decode jdk_42_method_66_code 7 = .ok (.aload_n 1, 1) := by decide +kernel
theorem d9_8 : decode jdk_42_method_66_code 8 = .ok (.instanceof 10, 3) := by decide +kernel
theorem d9_11 : decode jdk_42_method_66_code 11 = .ok (.ifCond .eq 43, 3) := by decide +kernel
theorem d9_14 : decode jdk_42_method_66_code 14 = .ok (.aload_n 1, 1) := by decide +kernel
theorem d9_15 : decode jdk_42_method_66_code 15 = .ok (.checkcast 10, 3) := by decide +kernel
theorem d9_18 : decode jdk_42_method_66_code 18 = .ok (.astore_n 2, 1) := by decide +kernel
theorem d9_19 : decode jdk_42_method_66_code 19 = .ok (.getstatic 38, 3) := by decide +kernel
theorem d9_22 : decode jdk_42_method_66_code 22 = .ok (.ifCond .eq 14, 3) := by decide +kernel
theorem d9_25 : decode jdk_42_method_66_code 25 = .ok (.aload_n 0, 1) := by decide +kernel
theorem d9_26 : decode jdk_42_method_66_code 26 = .ok (.getfield 15, 3) := by decide +kernel
theorem d9_29 : decode jdk_42_method_66_code 29 = .ok (.aload_n 2, 1) := by decide +kernel
theorem d9_30 : decode jdk_42_method_66_code 30 = .ok (.getfield 15, 3) := by decide +kernel
theorem d9_33 : decode jdk_42_method_66_code 33 = .ok (.if_icmp .ne 21, 3) := by decide +kernel
theorem d9_36 : decode jdk_42_method_66_code 36 = .ok (.aload_n 0, 1) := by decide +kernel
theorem d9_37 : decode jdk_42_method_66_code 37 = .ok (.getfield 9, 3) := by decide +kernel
theorem d9_40 : decode jdk_42_method_66_code 40 = .ok (.aload_n 2, 1) := by decide +kernel
theorem d9_41 : decode jdk_42_method_66_code 41 = .ok (.getfield 9, 3) := by decide +kernel
theorem d9_44 : decode jdk_42_method_66_code 44 = .ok (.invokestatic 541, 3) := by decide +kernel
theorem own_site601 {Z : State} {aZ : Array Value} (hw : ∀ d ∈ tables_1, d.before aZ Z = true) : SSt aZ Z (⟨"java/lang/StringLatin1", "equals", "([B[B)Z"⟩ : MethodName) jdk_43_method_13_code 3 (some .boolean) := ⟨⟨(hw _ (mi 49 rfl)), (hw _ (mi 50 rfl))⟩, (hw _ (mi 51 rfl))⟩
theorem pd_602 : parseMethodDescriptor "([B[B)Z" = some ⟨[(.array .byte), (.array .byte)], some .boolean⟩ := by decide +kernel
theorem d9_47 : decode jdk_42_method_66_code 47 = .ok (.ifCond .eq 7, 3) := by decide +kernel
theorem d9_54 : decode jdk_42_method_66_code 54 = .ok (.iconst 0, 1) := by decide +kernel
theorem d9_55 : decode jdk_42_method_66_code 55 = .ok (.ireturn, 1) := by decide +kernel
theorem efed (m : MethodId) (a0 : Addr) (a1 : Addr) : entryFrame m #[(.ref a0), (.ref a1)] 3 = mkF m 0 #[rv a0, rv a1, .unset] [] := by first | (simp [entryFrame, mkF, argsToLocals, Value.category]; done) | rfl
abbrev Led_0 (a0 : Addr) (a1 : Addr) : Array Slot := #[rv a0, rv a1, rv a1]
set_option maxRecDepth 65536 in
set_option maxHeartbeats 40000000 in
theorem rmed (l : Launch) (Z : State) (aZ : Array Value) (hw : ∀ d ∈ tables_1, d.before aZ Z = true) (ws : List Jvm.Cond) (a0 : Addr) (a1 : Addr) (w_a0_value : Addr) (w_a1_value : Addr) (s_COMPACT_STRINGS : Int32) (k_w_a0_value : ClassId) (n_w_a0_value : Int32) (vs_w_a0_value : List Value) (k_w_a1_value : ClassId) (n_w_a1_value : Int32) (vs_w_a1_value : List Value) (h0 : Heap) (n0 : Nat) (Z0 : n0 ≤ h0.size) (E_a0 : Exa Z h0 a0 "java/lang/String") (F_a0_coder : Fld Z h0 a0 "java/lang/String" "coder" "B" (.int 0)) (F_a0_value : Fld Z h0 a0 "java/lang/String" "value" "[B" (.ref w_a0_value)) (E_a1 : Exa Z h0 a1 "java/lang/String") (F_a1_coder : Fld Z h0 a1 "java/lang/String" "coder" "B" (.int 0)) (F_a1_value : Fld Z h0 a1 "java/lang/String" "value" "[B" (.ref w_a1_value)) (S_COMPACT_STRINGS : Sta Z h0 "java/lang/String" "COMPACT_STRINGS" "Z" (.int s_COMPACT_STRINGS)) (hcs : ¬ s_COMPACT_STRINGS = (0 : Int32)) (V_w_a0_value : Arv Z h0 w_a0_value k_w_a0_value .byte n_w_a0_value vs_w_a0_value (.int 0)) (V_w_a1_value : Arv Z h0 w_a1_value k_w_a1_value .byte n_w_a1_value vs_w_a1_value (.int 0)) (hne : ¬ n_w_a0_value = n_w_a1_value) :
    MFn l (⟨"java/lang/String", "equals", "(Ljava/lang/Object;)Z"⟩ : MethodName) jdk_42_method_66_code 3 (some .boolean) ws (Rm 1 0 0 14) #[(.ref a0), (.ref a1)] Z h0 (QP n0 h0 (some (.int 0))) := by
  refine own_mf (C := "java/lang/String") rfl (plainFor_of_name pn_15) (fun m => efed m a0 a1) ?_
  intro p e s m below meth cd0 s₁ En hx hby hml hown hnm hZ X0 e0 hlk hrt go0
  have hne01 := own_str_ne F_a0_value F_a1_value V_w_a0_value V_w_a1_value hne
  have N0 := Fr.nil n0
  have K0 : Keep h0 h0 [] := Keep.refl _ _
  have go1 : Go p.tables e below s₁ (mkF m 8 #[rv a0, rv a1, .unset] [(.ref a1)]) En := by
    intro t k
    refine go0 _ ?_
    refine XS.aloadN X0.here hx rfl (hb hby d9_0) rfl rfl ?_
    refine XS.aloadN X0.here hx rfl (hb hby d9_1) rfl rfl ?_
    refine Jvm.RoadKit.acmp (g := (mkF m 2 #[rv a0, rv a1, .unset] [(.ref a1), (.ref a0)])) X0 hx rfl rfl rfl (pc0 := 2) (pc' := 7) (same := false) rfl (hb hby d9_2) rfl (decide_eq_false fun q => hne01 (Value.ref.inj q)) (by decide) (by decide) ?_
    show Steps _ _ _ (s₁.setTop (mkF m 7 #[rv a0, rv a1, .unset] [])) _
    refine XS.aloadN X0.here hx rfl (hb hby d9_7) rfl rfl ?_
    exact k
  obtain ⟨T2, X2, e2, st2⟩ := instY X0 hx hZ hown (hw _ (mi 47 rfl)) e0 (Ins.self E_a1) (g := (mkF m 8 #[rv a0, rv a1, .unset] [(.ref a1)])) rfl rfl (hb hby d9_8)
  have go3 := gap go1 st2
  have go4 : Go p.tables e below T2 (mkF m 15 #[rv a0, rv a1, .unset] [(.ref a1)]) En := by
    intro t k
    refine go3 _ ?_
    refine XS.ifNo X2.here hx rfl (hb hby d9_11) rfl (XT.i0_eq_f (by decide : ¬ ((1 : Int32) = (0 : Int32)))) ?_
    refine XS.aloadN X2.here hx rfl (hb hby d9_14) rfl rfl ?_
    exact k
  obtain ⟨T5, X5, e5, st5⟩ := castY X2 hx hZ hown (hw _ (mi 47 rfl)) e2 (Ins.self E_a1) (g := (mkF m 15 #[rv a0, rv a1, .unset] [(.ref a1)])) rfl rfl (hb hby d9_15)
  have go6 := gap go4 st5
  have go7 : Go p.tables e below T5 (mkF m 19 (Led_0 a0 a1) []) En := by
    intro t k
    refine go6 _ ?_
    refine XS.astoreN X5.here hx rfl (hb hby d9_18) rfl rfl (l' := (Led_0 a0 a1)) rfl ?_
    exact k
  obtain ⟨T8, X8, e8, st8⟩ := getS2 X5 hx hZ hown (host := "") (Or.inl (hw _ (mi 19 rfl))) Via.refl e5 S_COMPACT_STRINGS (g := (mkF m 19 (Led_0 a0 a1) [])) rfl (hb hby d9_19)
  have go9 := gap go7 st8
  have go10 : Go p.tables e below T8 (mkF m 26 (Led_0 a0 a1) [(.ref a0)]) En := by
    intro t k
    refine go9 _ ?_
    refine XS.ifNo X8.here hx rfl (hb hby d9_22) rfl (XT.i0_eq_f hcs) ?_
    refine XS.aloadN X8.here hx rfl (hb hby d9_25) rfl rfl ?_
    exact k
  obtain ⟨T11, X11, e11, st11⟩ := getF X8 hx hZ hown (host := "") (Or.inl (hw _ (mi 31 rfl))) Via.refl e8 F_a0_coder (g := (mkF m 26 (Led_0 a0 a1) [(.ref a0)])) rfl rfl (hb hby d9_26)
  have go12 := gap go10 st11
  have go13 : Go p.tables e below T11 (mkF m 30 (Led_0 a0 a1) [(.ref a1), (.int 0)]) En := by
    intro t k
    refine go12 _ ?_
    refine XS.aloadN X11.here hx rfl (hb hby d9_29) rfl rfl ?_
    exact k
  obtain ⟨T14, X14, e14, st14⟩ := getF X11 hx hZ hown (host := "") (Or.inl (hw _ (mi 31 rfl))) Via.refl e11 F_a1_coder (g := (mkF m 30 (Led_0 a0 a1) [(.ref a1), (.int 0)])) rfl rfl (hb hby d9_30)
  have go15 := gap go13 st14
  have go16 : Go p.tables e below T14 (mkF m 37 (Led_0 a0 a1) [(.ref a0)]) En := by
    intro t k
    refine go15 _ ?_
    refine XS.icmpNo X14.here hx rfl (hb hby d9_33) rfl (XT.ii_ne_f (by decide : ((0 : Int32) = (0 : Int32)))) ?_
    refine XS.aloadN X14.here hx rfl (hb hby d9_36) rfl rfl ?_
    exact k
  obtain ⟨T17, X17, e17, st17⟩ := getF X14 hx hZ hown (host := "") (Or.inl (hw _ (mi 33 rfl))) Via.refl e14 F_a0_value (g := (mkF m 37 (Led_0 a0 a1) [(.ref a0)])) rfl rfl (hb hby d9_37)
  have go18 := gap go16 st17
  have go19 : Go p.tables e below T17 (mkF m 41 (Led_0 a0 a1) [(.ref a1), (.ref w_a0_value)]) En := by
    intro t k
    refine go18 _ ?_
    refine XS.aloadN X17.here hx rfl (hb hby d9_40) rfl rfl ?_
    exact k
  obtain ⟨T20, X20, e20, st20⟩ := getF X17 hx hZ hown (host := "") (Or.inl (hw _ (mi 33 rfl))) Via.refl e17 F_a1_value (g := (mkF m 41 (Led_0 a0 a1) [(.ref a1), (.ref w_a0_value)])) rfl rfl (hb hby d9_41)
  have go21 := gap go19 st20
  obtain ⟨_, T22, Lc22, X22, hQ22, st22⟩ := own_cs X20 hx hZ hown hml go21 (hb hby d9_44) e20 (hw _ (mi 48 rfl)) (own_site601 hw) (rmld l Z aZ hw [] _ _ _ _ _ _ _ _ h0 n0 Z0 V_w_a0_value V_w_a1_value hne) (by decide) (argsL := [(.ref w_a0_value), (.ref w_a1_value)]) (rest := []) rfl rfl rfl (lenOf pd_602 rfl) (W := 0) rfl (by decide) (by decide) (by decide : 0 + 0 ≤ _) (by decide : 0 + 0 ≤ _)
  obtain ⟨rfl, N22q, e22⟩ := hQ22
  have N22 := Fr.app N0 N22q
  have go23 : Go p.tables e below T22 (mkF m 55 (Led_0 a0 a1) [(.int 0)]) En := by
    intro t k
    refine st22 _ ?_
    refine XS.ifYes X22.here hx rfl (pc0 := 47) (pc' := 54) rfl (hb hby d9_47) rfl (XT.i0_eq_t (by decide : ((0 : Int32) = (0 : Int32)))) (by decide) (by decide) ?_
    refine XS.iconst X22.here hx rfl (hb hby d9_54) ?_
    exact k
  refine own_out (w := (.int 0)) X22 hx hlk go23 hrt rfl (Or.inl ⟨rfl, Or.inr (Or.inl rfl), _, rfl⟩) (hb hby d9_55) e22 (by decide) (by decide) ?_
  exact ⟨rfl, N22, rfl⟩
theorem d9_5 : decode jdk_42_method_66_code 5 = .ok (.iconst 1, 1) := by decide +kernel
theorem d9_6 : decode jdk_42_method_66_code 6 = .ok (.ireturn, 1) := by decide +kernel
theorem d9_50 : decode jdk_42_method_66_code 50 = .ok (.iconst 1, 1) := by decide +kernel
theorem d9_51 : decode jdk_42_method_66_code 51 = .ok (.goto 4, 3) := by decide +kernel
def beq13_28 (y0 : Int32) (y1 : Int32) (y2 : Int32) (y3 : Int32) (y4 : Int32) (y5 : Int32) (y6 : Int32) (y7 : Int32) (y8 : Int32) (y9 : Int32) (y10 : Int32) (y11 : Int32) (y12 : Int32) : Int32 := (if (flq13 y0 y1 y2 y3 y4 y5 y6 y7 y8 y9 y10 y11 y12) = (0 : Int32) then (0 : Int32) else (1 : Int32))
def veq13_31 (y0 : Int32) (y1 : Int32) (y2 : Int32) (y3 : Int32) (y4 : Int32) (y5 : Int32) (y6 : Int32) (y7 : Int32) (y8 : Int32) (y9 : Int32) (y10 : Int32) (y11 : Int32) (y12 : Int32) : Int32 := (beq13_28 y0 y1 y2 y3 y4 y5 y6 y7 y8 y9 y10 y11 y12)
theorem efeq13 (m : MethodId) (a0 : Addr) (a1 : Addr) : entryFrame m #[(.ref a0), (.ref a1)] 3 = mkF m 0 #[rv a0, rv a1, .unset] [] := by first | (simp [entryFrame, mkF, argsToLocals, Value.category]; done) | rfl
set_option maxRecDepth 65536 in
set_option maxHeartbeats 40000000 in
theorem rmeq13 (l : Launch) (Z : State) (aZ : Array Value) (hw : ∀ d ∈ tables_1, d.before aZ Z = true) (ws : List Jvm.Cond) (a0 : Addr) (a1 : Addr) (w_a0_value : Addr) (w_a1_value : Addr) (s_COMPACT_STRINGS : Int32) (k_w_a0_value : ClassId) (y0 : Int32) (y1 : Int32) (y2 : Int32) (y3 : Int32) (y4 : Int32) (y5 : Int32) (y6 : Int32) (y7 : Int32) (y8 : Int32) (y9 : Int32) (y10 : Int32) (y11 : Int32) (y12 : Int32) (k_w_a1_value : ClassId) (h0 : Heap) (n0 : Nat) (Z0 : n0 ≤ h0.size) (E_a0 : Exa Z h0 a0 "java/lang/String") (F_a0_coder : Fld Z h0 a0 "java/lang/String" "coder" "B" (.int 0)) (F_a0_value : Fld Z h0 a0 "java/lang/String" "value" "[B" (.ref w_a0_value)) (E_a1 : Exa Z h0 a1 "java/lang/String") (F_a1_coder : Fld Z h0 a1 "java/lang/String" "coder" "B" (.int 0)) (F_a1_value : Fld Z h0 a1 "java/lang/String" "value" "[B" (.ref w_a1_value)) (S_COMPACT_STRINGS : Sta Z h0 "java/lang/String" "COMPACT_STRINGS" "Z" (.int s_COMPACT_STRINGS)) (hcs : ¬ s_COMPACT_STRINGS = (0 : Int32)) (V_w_a0_value : Arv Z h0 w_a0_value k_w_a0_value .byte (13 : Int32) [(.int y0), (.int y1), (.int y2), (.int y3), (.int y4), (.int y5), (.int y6), (.int y7), (.int y8), (.int y9), (.int y10), (.int y11), (.int y12)] (.int 0)) (V_w_a1_value : Arv Z h0 w_a1_value k_w_a1_value .byte (13 : Int32) [(.int 109), (.int 111), (.int 100), (.int 117), (.int 108), (.int 101), (.int 67), (.int 111), (.int 110), (.int 116), (.int 101), (.int 120), (.int 116)] (.int 0)) :
    MFn l (⟨"java/lang/String", "equals", "(Ljava/lang/Object;)Z"⟩ : MethodName) jdk_42_method_66_code 3 (some .boolean) ws (Rm 1 0 0 14) #[(.ref a0), (.ref a1)] Z h0 (QP n0 h0 (some (.int (veq13_31 y0 y1 y2 y3 y4 y5 y6 y7 y8 y9 y10 y11 y12)))) := by
  refine own_mf (C := "java/lang/String") rfl (plainFor_of_name pn_15) (fun m => efeq13 m a0 a1) ?_
  intro p e s m below meth cd0 s₁ En hx hby hml hown hnm hZ X0 e0 hlk hrt go0
  have N0 := Fr.nil n0
  have K0 : Keep h0 h0 [] := Keep.refl _ _
  have go1 : Go p.tables e below s₁ (mkF m 2 #[rv a0, rv a1, .unset] [(.ref a1), (.ref a0)]) En := by
    intro t k
    refine go0 _ ?_
    refine XS.aloadN X0.here hx rfl (hb hby d9_0) rfl rfl ?_
    refine XS.aloadN X0.here hx rfl (hb hby d9_1) rfl rfl ?_
    exact k
  by_cases hs2 : a0 = a1
  · have go3 : Go p.tables e below s₁ (mkF m 6 #[rv a0, rv a1, .unset] [(.int 1)]) En := by
      intro t k
      refine go1 _ ?_
      refine Jvm.RoadKit.acmp (g := (mkF m 2 #[rv a0, rv a1, .unset] [(.ref a1), (.ref a0)])) X0 hx rfl rfl rfl (pc0 := 2) (pc' := 5) (same := true) rfl (hb hby d9_2) rfl (decide_eq_true (congrArg Value.ref hs2)) (by decide) (by decide) ?_
      refine XS.iconst X0.here hx rfl (hb hby d9_5) ?_
      exact k
    refine own_out (w := (.int 1)) X0 hx hlk go3 hrt rfl (Or.inl ⟨rfl, Or.inr (Or.inl rfl), _, rfl⟩) (hb hby d9_6) e0 (by decide) (by decide) ?_
    have hv := own_fld_eq F_a0_value F_a1_value hs2
    subst hv
    have e0 : y0 = (109 : Int32) := Value.int.inj (own_arv_get V_w_a0_value V_w_a1_value 0 (by decide))
    have e1 : y1 = (111 : Int32) := Value.int.inj (own_arv_get V_w_a0_value V_w_a1_value 1 (by decide))
    have e2 : y2 = (100 : Int32) := Value.int.inj (own_arv_get V_w_a0_value V_w_a1_value 2 (by decide))
    have e3 : y3 = (117 : Int32) := Value.int.inj (own_arv_get V_w_a0_value V_w_a1_value 3 (by decide))
    have e4 : y4 = (108 : Int32) := Value.int.inj (own_arv_get V_w_a0_value V_w_a1_value 4 (by decide))
    have e5 : y5 = (101 : Int32) := Value.int.inj (own_arv_get V_w_a0_value V_w_a1_value 5 (by decide))
    have e6 : y6 = (67 : Int32) := Value.int.inj (own_arv_get V_w_a0_value V_w_a1_value 6 (by decide))
    have e7 : y7 = (111 : Int32) := Value.int.inj (own_arv_get V_w_a0_value V_w_a1_value 7 (by decide))
    have e8 : y8 = (110 : Int32) := Value.int.inj (own_arv_get V_w_a0_value V_w_a1_value 8 (by decide))
    have e9 : y9 = (116 : Int32) := Value.int.inj (own_arv_get V_w_a0_value V_w_a1_value 9 (by decide))
    have e10 : y10 = (101 : Int32) := Value.int.inj (own_arv_get V_w_a0_value V_w_a1_value 10 (by decide))
    have e11 : y11 = (120 : Int32) := Value.int.inj (own_arv_get V_w_a0_value V_w_a1_value 11 (by decide))
    have e12 : y12 = (116 : Int32) := Value.int.inj (own_arv_get V_w_a0_value V_w_a1_value 12 (by decide))
    have hG : (1 : Int32) = (veq13_31 y0 y1 y2 y3 y4 y5 y6 y7 y8 y9 y10 y11 y12) := by rw [e0, e1, e2, e3, e4, e5, e6, e7, e8, e9, e10, e11, e12]; decide
    exact ⟨congrArg (fun z => some (Value.int z)) hG, N0, rfl⟩
  have go4 : Go p.tables e below s₁ (mkF m 8 #[rv a0, rv a1, .unset] [(.ref a1)]) En := by
    intro t k
    refine go1 _ ?_
    refine Jvm.RoadKit.acmp (g := (mkF m 2 #[rv a0, rv a1, .unset] [(.ref a1), (.ref a0)])) X0 hx rfl rfl rfl (pc0 := 2) (pc' := 7) (same := false) rfl (hb hby d9_2) rfl (decide_eq_false fun q => hs2 (Value.ref.inj q)) (by decide) (by decide) ?_
    refine XS.aloadN X0.here hx rfl (hb hby d9_7) rfl rfl ?_
    exact k
  obtain ⟨T5, X5, e5, st5⟩ := instY X0 hx hZ hown (hw _ (mi 47 rfl)) e0 (Ins.self E_a1) (g := (mkF m 8 #[rv a0, rv a1, .unset] [(.ref a1)])) rfl rfl (hb hby d9_8)
  have go6 := gap go4 st5
  have go7 : Go p.tables e below T5 (mkF m 15 #[rv a0, rv a1, .unset] [(.ref a1)]) En := by
    intro t k
    refine go6 _ ?_
    refine XS.ifNo X5.here hx rfl (hb hby d9_11) rfl (XT.i0_eq_f (by decide : ¬ ((1 : Int32) = (0 : Int32)))) ?_
    refine XS.aloadN X5.here hx rfl (hb hby d9_14) rfl rfl ?_
    exact k
  obtain ⟨T8, X8, e8, st8⟩ := castY X5 hx hZ hown (hw _ (mi 47 rfl)) e5 (Ins.self E_a1) (g := (mkF m 15 #[rv a0, rv a1, .unset] [(.ref a1)])) rfl rfl (hb hby d9_15)
  have go9 := gap go7 st8
  have go10 : Go p.tables e below T8 (mkF m 19 #[rv a0, rv a1, rv a1] []) En := by
    intro t k
    refine go9 _ ?_
    refine XS.astoreN X8.here hx rfl (hb hby d9_18) rfl rfl (l' := #[rv a0, rv a1, rv a1]) rfl ?_
    exact k
  obtain ⟨T11, X11, e11, st11⟩ := getS2 X8 hx hZ hown (host := "") (Or.inl (hw _ (mi 19 rfl))) Via.refl e8 S_COMPACT_STRINGS (g := (mkF m 19 #[rv a0, rv a1, rv a1] [])) rfl (hb hby d9_19)
  have go12 := gap go10 st11
  have go13 : Go p.tables e below T11 (mkF m 26 #[rv a0, rv a1, rv a1] [(.ref a0)]) En := by
    intro t k
    refine go12 _ ?_
    refine XS.ifNo X11.here hx rfl (hb hby d9_22) rfl (XT.i0_eq_f hcs) ?_
    refine XS.aloadN X11.here hx rfl (hb hby d9_25) rfl rfl ?_
    exact k
  obtain ⟨T14, X14, e14, st14⟩ := getF X11 hx hZ hown (host := "") (Or.inl (hw _ (mi 31 rfl))) Via.refl e11 F_a0_coder (g := (mkF m 26 #[rv a0, rv a1, rv a1] [(.ref a0)])) rfl rfl (hb hby d9_26)
  have go15 := gap go13 st14
  have go16 : Go p.tables e below T14 (mkF m 30 #[rv a0, rv a1, rv a1] [(.ref a1), (.int 0)]) En := by
    intro t k
    refine go15 _ ?_
    refine XS.aloadN X14.here hx rfl (hb hby d9_29) rfl rfl ?_
    exact k
  obtain ⟨T17, X17, e17, st17⟩ := getF X14 hx hZ hown (host := "") (Or.inl (hw _ (mi 31 rfl))) Via.refl e14 F_a1_coder (g := (mkF m 30 #[rv a0, rv a1, rv a1] [(.ref a1), (.int 0)])) rfl rfl (hb hby d9_30)
  have go18 := gap go16 st17
  have go19 : Go p.tables e below T17 (mkF m 37 #[rv a0, rv a1, rv a1] [(.ref a0)]) En := by
    intro t k
    refine go18 _ ?_
    refine XS.icmpNo X17.here hx rfl (hb hby d9_33) rfl (XT.ii_ne_f (by decide : ((0 : Int32) = (0 : Int32)))) ?_
    refine XS.aloadN X17.here hx rfl (hb hby d9_36) rfl rfl ?_
    exact k
  obtain ⟨T20, X20, e20, st20⟩ := getF X17 hx hZ hown (host := "") (Or.inl (hw _ (mi 33 rfl))) Via.refl e17 F_a0_value (g := (mkF m 37 #[rv a0, rv a1, rv a1] [(.ref a0)])) rfl rfl (hb hby d9_37)
  have go21 := gap go19 st20
  have go22 : Go p.tables e below T20 (mkF m 41 #[rv a0, rv a1, rv a1] [(.ref a1), (.ref w_a0_value)]) En := by
    intro t k
    refine go21 _ ?_
    refine XS.aloadN X20.here hx rfl (hb hby d9_40) rfl rfl ?_
    exact k
  obtain ⟨T23, X23, e23, st23⟩ := getF X20 hx hZ hown (host := "") (Or.inl (hw _ (mi 33 rfl))) Via.refl e20 F_a1_value (g := (mkF m 41 #[rv a0, rv a1, rv a1] [(.ref a1), (.ref w_a0_value)])) rfl rfl (hb hby d9_41)
  have go24 := gap go22 st23
  obtain ⟨_, T25, Lc25, X25, hQ25, st25⟩ := own_cs X23 hx hZ hown hml go24 (hb hby d9_44) e23 (hw _ (mi 48 rfl)) (own_site601 hw) (rmlq13 l Z aZ hw [] _ _ _ y0 y1 y2 y3 y4 y5 y6 y7 y8 y9 y10 y11 y12 _ h0 n0 Z0 V_w_a0_value V_w_a1_value) (by decide) (argsL := [(.ref w_a0_value), (.ref w_a1_value)]) (rest := []) rfl rfl rfl (lenOf pd_602 rfl) (W := 0) rfl (by decide) (by decide) (by decide : 0 + 0 ≤ _) (by decide : 0 + 0 ≤ _)
  obtain ⟨rfl, N25q, e25⟩ := hQ25
  have N25 := Fr.app N0 N25q
  have go27 : Go p.tables e below T25 (mkF m 55 #[rv a0, rv a1, rv a1] [(.int (beq13_28 y0 y1 y2 y3 y4 y5 y6 y7 y8 y9 y10 y11 y12))]) En := by
    intro t k
    have k : Steps p.tables e below (T25.setTop (mkF m  55 #[rv a0, rv a1, rv a1] [(.int (beq13_28 y0 y1 y2 y3 y4 y5 y6 y7 y8 y9 y10 y11 y12))])) t := k
    refine st25 _ ?_
    by_cases hc26 : (flq13 y0 y1 y2 y3 y4 y5 y6 y7 y8 y9 y10 y11 y12) = (0 : Int32)
    · refine XS.ifYes X25.here hx rfl (pc0 := 47) (pc' := 54) rfl (hb hby d9_47) rfl (XT.i0_eq_t hc26) (by decide) (by decide) ?_
      refine XS.iconst X25.here hx rfl (hb hby d9_54) ?_
      have hq29 : (beq13_28 y0 y1 y2 y3 y4 y5 y6 y7 y8 y9 y10 y11 y12) = (0 : Int32) := by rw [beq13_28, if_pos hc26]
      rw [hq29] at k
      exact k
    · refine XS.ifNo X25.here hx rfl (hb hby d9_47) rfl (XT.i0_eq_f hc26) ?_
      refine XS.iconst X25.here hx rfl (hb hby d9_50) ?_
      refine XS.goto X25.here hx rfl (pc0 := 51) (pc' := 55) rfl (hb hby d9_51) (by decide) (by decide) ?_
      have hq30 : (beq13_28 y0 y1 y2 y3 y4 y5 y6 y7 y8 y9 y10 y11 y12) = (1 : Int32) := by rw [beq13_28, if_neg hc26]
      rw [hq30] at k
      exact k
  have go32 : Go p.tables e below T25 (mkF m 55 #[rv a0, rv a1, rv a1] [(.int (veq13_31 y0 y1 y2 y3 y4 y5 y6 y7 y8 y9 y10 y11 y12))]) En := by
    intro t k
    refine go27 _ ?_
    exact k
  refine own_out (w := (.int (veq13_31 y0 y1 y2 y3 y4 y5 y6 y7 y8 y9 y10 y11 y12))) X25 hx hlk go32 hrt (own_nz (by simp only [veq13_31, beq13_28]; (repeat' split) <;> first | exact Or.inl rfl | exact Or.inr rfl)) (Or.inl ⟨rfl, Or.inr (Or.inl rfl), _, rfl⟩) (hb hby d9_55) e25 (by decide) (by decide) ?_
  exact ⟨rfl, N25, rfl⟩
def beq11_28 (y0 : Int32) (y1 : Int32) (y2 : Int32) (y3 : Int32) (y4 : Int32) (y5 : Int32) (y6 : Int32) (y7 : Int32) (y8 : Int32) (y9 : Int32) (y10 : Int32) : Int32 := (if (flq11 y0 y1 y2 y3 y4 y5 y6 y7 y8 y9 y10) = (0 : Int32) then (0 : Int32) else (1 : Int32))
def veq11_31 (y0 : Int32) (y1 : Int32) (y2 : Int32) (y3 : Int32) (y4 : Int32) (y5 : Int32) (y6 : Int32) (y7 : Int32) (y8 : Int32) (y9 : Int32) (y10 : Int32) : Int32 := (beq11_28 y0 y1 y2 y3 y4 y5 y6 y7 y8 y9 y10)
theorem efeq11 (m : MethodId) (a0 : Addr) (a1 : Addr) : entryFrame m #[(.ref a0), (.ref a1)] 3 = mkF m 0 #[rv a0, rv a1, .unset] [] := by first | (simp [entryFrame, mkF, argsToLocals, Value.category]; done) | rfl
set_option maxRecDepth 65536 in
set_option maxHeartbeats 40000000 in
theorem rmeq11 (l : Launch) (Z : State) (aZ : Array Value) (hw : ∀ d ∈ tables_1, d.before aZ Z = true) (ws : List Jvm.Cond) (a0 : Addr) (a1 : Addr) (w_a0_value : Addr) (w_a1_value : Addr) (s_COMPACT_STRINGS : Int32) (k_w_a0_value : ClassId) (y0 : Int32) (y1 : Int32) (y2 : Int32) (y3 : Int32) (y4 : Int32) (y5 : Int32) (y6 : Int32) (y7 : Int32) (y8 : Int32) (y9 : Int32) (y10 : Int32) (k_w_a1_value : ClassId) (h0 : Heap) (n0 : Nat) (Z0 : n0 ≤ h0.size) (E_a0 : Exa Z h0 a0 "java/lang/String") (F_a0_coder : Fld Z h0 a0 "java/lang/String" "coder" "B" (.int 0)) (F_a0_value : Fld Z h0 a0 "java/lang/String" "value" "[B" (.ref w_a0_value)) (E_a1 : Exa Z h0 a1 "java/lang/String") (F_a1_coder : Fld Z h0 a1 "java/lang/String" "coder" "B" (.int 0)) (F_a1_value : Fld Z h0 a1 "java/lang/String" "value" "[B" (.ref w_a1_value)) (S_COMPACT_STRINGS : Sta Z h0 "java/lang/String" "COMPACT_STRINGS" "Z" (.int s_COMPACT_STRINGS)) (hcs : ¬ s_COMPACT_STRINGS = (0 : Int32)) (V_w_a0_value : Arv Z h0 w_a0_value k_w_a0_value .byte (11 : Int32) [(.int y0), (.int y1), (.int y2), (.int y3), (.int y4), (.int y5), (.int y6), (.int y7), (.int y8), (.int y9), (.int y10)] (.int 0)) (V_w_a1_value : Arv Z h0 w_a1_value k_w_a1_value .byte (11 : Int32) [(.int 109), (.int 111), (.int 100), (.int 117), (.int 108), (.int 101), (.int 83), (.int 99), (.int 111), (.int 112), (.int 101)] (.int 0)) :
    MFn l (⟨"java/lang/String", "equals", "(Ljava/lang/Object;)Z"⟩ : MethodName) jdk_42_method_66_code 3 (some .boolean) ws (Rm 1 0 0 14) #[(.ref a0), (.ref a1)] Z h0 (QP n0 h0 (some (.int (veq11_31 y0 y1 y2 y3 y4 y5 y6 y7 y8 y9 y10)))) := by
  refine own_mf (C := "java/lang/String") rfl (plainFor_of_name pn_15) (fun m => efeq11 m a0 a1) ?_
  intro p e s m below meth cd0 s₁ En hx hby hml hown hnm hZ X0 e0 hlk hrt go0
  have N0 := Fr.nil n0
  have K0 : Keep h0 h0 [] := Keep.refl _ _
  have go1 : Go p.tables e below s₁ (mkF m 2 #[rv a0, rv a1, .unset] [(.ref a1), (.ref a0)]) En := by
    intro t k
    refine go0 _ ?_
    refine XS.aloadN X0.here hx rfl (hb hby d9_0) rfl rfl ?_
    refine XS.aloadN X0.here hx rfl (hb hby d9_1) rfl rfl ?_
    exact k
  by_cases hs2 : a0 = a1
  · have go3 : Go p.tables e below s₁ (mkF m 6 #[rv a0, rv a1, .unset] [(.int 1)]) En := by
      intro t k
      refine go1 _ ?_
      refine Jvm.RoadKit.acmp (g := (mkF m 2 #[rv a0, rv a1, .unset] [(.ref a1), (.ref a0)])) X0 hx rfl rfl rfl (pc0 := 2) (pc' := 5) (same := true) rfl (hb hby d9_2) rfl (decide_eq_true (congrArg Value.ref hs2)) (by decide) (by decide) ?_
      refine XS.iconst X0.here hx rfl (hb hby d9_5) ?_
      exact k
    refine own_out (w := (.int 1)) X0 hx hlk go3 hrt rfl (Or.inl ⟨rfl, Or.inr (Or.inl rfl), _, rfl⟩) (hb hby d9_6) e0 (by decide) (by decide) ?_
    have hv := own_fld_eq F_a0_value F_a1_value hs2
    subst hv
    have e0 : y0 = (109 : Int32) := Value.int.inj (own_arv_get V_w_a0_value V_w_a1_value 0 (by decide))
    have e1 : y1 = (111 : Int32) := Value.int.inj (own_arv_get V_w_a0_value V_w_a1_value 1 (by decide))
    have e2 : y2 = (100 : Int32) := Value.int.inj (own_arv_get V_w_a0_value V_w_a1_value 2 (by decide))
    have e3 : y3 = (117 : Int32) := Value.int.inj (own_arv_get V_w_a0_value V_w_a1_value 3 (by decide))
    have e4 : y4 = (108 : Int32) := Value.int.inj (own_arv_get V_w_a0_value V_w_a1_value 4 (by decide))
    have e5 : y5 = (101 : Int32) := Value.int.inj (own_arv_get V_w_a0_value V_w_a1_value 5 (by decide))
    have e6 : y6 = (83 : Int32) := Value.int.inj (own_arv_get V_w_a0_value V_w_a1_value 6 (by decide))
    have e7 : y7 = (99 : Int32) := Value.int.inj (own_arv_get V_w_a0_value V_w_a1_value 7 (by decide))
    have e8 : y8 = (111 : Int32) := Value.int.inj (own_arv_get V_w_a0_value V_w_a1_value 8 (by decide))
    have e9 : y9 = (112 : Int32) := Value.int.inj (own_arv_get V_w_a0_value V_w_a1_value 9 (by decide))
    have e10 : y10 = (101 : Int32) := Value.int.inj (own_arv_get V_w_a0_value V_w_a1_value 10 (by decide))
    have hG : (1 : Int32) = (veq11_31 y0 y1 y2 y3 y4 y5 y6 y7 y8 y9 y10) := by rw [e0, e1, e2, e3, e4, e5, e6, e7, e8, e9, e10]; decide
    exact ⟨congrArg (fun z => some (Value.int z)) hG, N0, rfl⟩
  have go4 : Go p.tables e below s₁ (mkF m 8 #[rv a0, rv a1, .unset] [(.ref a1)]) En := by
    intro t k
    refine go1 _ ?_
    refine Jvm.RoadKit.acmp (g := (mkF m 2 #[rv a0, rv a1, .unset] [(.ref a1), (.ref a0)])) X0 hx rfl rfl rfl (pc0 := 2) (pc' := 7) (same := false) rfl (hb hby d9_2) rfl (decide_eq_false fun q => hs2 (Value.ref.inj q)) (by decide) (by decide) ?_
    refine XS.aloadN X0.here hx rfl (hb hby d9_7) rfl rfl ?_
    exact k
  obtain ⟨T5, X5, e5, st5⟩ := instY X0 hx hZ hown (hw _ (mi 47 rfl)) e0 (Ins.self E_a1) (g := (mkF m 8 #[rv a0, rv a1, .unset] [(.ref a1)])) rfl rfl (hb hby d9_8)
  have go6 := gap go4 st5
  have go7 : Go p.tables e below T5 (mkF m 15 #[rv a0, rv a1, .unset] [(.ref a1)]) En := by
    intro t k
    refine go6 _ ?_
    refine XS.ifNo X5.here hx rfl (hb hby d9_11) rfl (XT.i0_eq_f (by decide : ¬ ((1 : Int32) = (0 : Int32)))) ?_
    refine XS.aloadN X5.here hx rfl (hb hby d9_14) rfl rfl ?_
    exact k
  obtain ⟨T8, X8, e8, st8⟩ := castY X5 hx hZ hown (hw _ (mi 47 rfl)) e5 (Ins.self E_a1) (g := (mkF m 15 #[rv a0, rv a1, .unset] [(.ref a1)])) rfl rfl (hb hby d9_15)
  have go9 := gap go7 st8
  have go10 : Go p.tables e below T8 (mkF m 19 #[rv a0, rv a1, rv a1] []) En := by
    intro t k
    refine go9 _ ?_
    refine XS.astoreN X8.here hx rfl (hb hby d9_18) rfl rfl (l' := #[rv a0, rv a1, rv a1]) rfl ?_
    exact k
  obtain ⟨T11, X11, e11, st11⟩ := getS2 X8 hx hZ hown (host := "") (Or.inl (hw _ (mi 19 rfl))) Via.refl e8 S_COMPACT_STRINGS (g := (mkF m 19 #[rv a0, rv a1, rv a1] [])) rfl (hb hby d9_19)
  have go12 := gap go10 st11
  have go13 : Go p.tables e below T11 (mkF m 26 #[rv a0, rv a1, rv a1] [(.ref a0)]) En := by
    intro t k
    refine go12 _ ?_
    refine XS.ifNo X11.here hx rfl (hb hby d9_22) rfl (XT.i0_eq_f hcs) ?_
    refine XS.aloadN X11.here hx rfl (hb hby d9_25) rfl rfl ?_
    exact k
  obtain ⟨T14, X14, e14, st14⟩ := getF X11 hx hZ hown (host := "") (Or.inl (hw _ (mi 31 rfl))) Via.refl e11 F_a0_coder (g := (mkF m 26 #[rv a0, rv a1, rv a1] [(.ref a0)])) rfl rfl (hb hby d9_26)
  have go15 := gap go13 st14
  have go16 : Go p.tables e below T14 (mkF m 30 #[rv a0, rv a1, rv a1] [(.ref a1), (.int 0)]) En := by
    intro t k
    refine go15 _ ?_
    refine XS.aloadN X14.here hx rfl (hb hby d9_29) rfl rfl ?_
    exact k
  obtain ⟨T17, X17, e17, st17⟩ := getF X14 hx hZ hown (host := "") (Or.inl (hw _ (mi 31 rfl))) Via.refl e14 F_a1_coder (g := (mkF m 30 #[rv a0, rv a1, rv a1] [(.ref a1), (.int 0)])) rfl rfl (hb hby d9_30)
  have go18 := gap go16 st17
  have go19 : Go p.tables e below T17 (mkF m 37 #[rv a0, rv a1, rv a1] [(.ref a0)]) En := by
    intro t k
    refine go18 _ ?_
    refine XS.icmpNo X17.here hx rfl (hb hby d9_33) rfl (XT.ii_ne_f (by decide : ((0 : Int32) = (0 : Int32)))) ?_
    refine XS.aloadN X17.here hx rfl (hb hby d9_36) rfl rfl ?_
    exact k
  obtain ⟨T20, X20, e20, st20⟩ := getF X17 hx hZ hown (host := "") (Or.inl (hw _ (mi 33 rfl))) Via.refl e17 F_a0_value (g := (mkF m 37 #[rv a0, rv a1, rv a1] [(.ref a0)])) rfl rfl (hb hby d9_37)
  have go21 := gap go19 st20
  have go22 : Go p.tables e below T20 (mkF m 41 #[rv a0, rv a1, rv a1] [(.ref a1), (.ref w_a0_value)]) En := by
    intro t k
    refine go21 _ ?_
    refine XS.aloadN X20.here hx rfl (hb hby d9_40) rfl rfl ?_
    exact k
  obtain ⟨T23, X23, e23, st23⟩ := getF X20 hx hZ hown (host := "") (Or.inl (hw _ (mi 33 rfl))) Via.refl e20 F_a1_value (g := (mkF m 41 #[rv a0, rv a1, rv a1] [(.ref a1), (.ref w_a0_value)])) rfl rfl (hb hby d9_41)
  have go24 := gap go22 st23
  obtain ⟨_, T25, Lc25, X25, hQ25, st25⟩ := own_cs X23 hx hZ hown hml go24 (hb hby d9_44) e23 (hw _ (mi 48 rfl)) (own_site601 hw) (rmlq11 l Z aZ hw [] _ _ _ y0 y1 y2 y3 y4 y5 y6 y7 y8 y9 y10 _ h0 n0 Z0 V_w_a0_value V_w_a1_value) (by decide) (argsL := [(.ref w_a0_value), (.ref w_a1_value)]) (rest := []) rfl rfl rfl (lenOf pd_602 rfl) (W := 0) rfl (by decide) (by decide) (by decide : 0 + 0 ≤ _) (by decide : 0 + 0 ≤ _)
  obtain ⟨rfl, N25q, e25⟩ := hQ25
  have N25 := Fr.app N0 N25q
  have go27 : Go p.tables e below T25 (mkF m 55 #[rv a0, rv a1, rv a1] [(.int (beq11_28 y0 y1 y2 y3 y4 y5 y6 y7 y8 y9 y10))]) En := by
    intro t k
    have k : Steps p.tables e below (T25.setTop (mkF m  55 #[rv a0, rv a1, rv a1] [(.int (beq11_28 y0 y1 y2 y3 y4 y5 y6 y7 y8 y9 y10))])) t := k
    refine st25 _ ?_
    by_cases hc26 : (flq11 y0 y1 y2 y3 y4 y5 y6 y7 y8 y9 y10) = (0 : Int32)
    · refine XS.ifYes X25.here hx rfl (pc0 := 47) (pc' := 54) rfl (hb hby d9_47) rfl (XT.i0_eq_t hc26) (by decide) (by decide) ?_
      refine XS.iconst X25.here hx rfl (hb hby d9_54) ?_
      have hq29 : (beq11_28 y0 y1 y2 y3 y4 y5 y6 y7 y8 y9 y10) = (0 : Int32) := by rw [beq11_28, if_pos hc26]
      rw [hq29] at k
      exact k
    · refine XS.ifNo X25.here hx rfl (hb hby d9_47) rfl (XT.i0_eq_f hc26) ?_
      refine XS.iconst X25.here hx rfl (hb hby d9_50) ?_
      refine XS.goto X25.here hx rfl (pc0 := 51) (pc' := 55) rfl (hb hby d9_51) (by decide) (by decide) ?_
      have hq30 : (beq11_28 y0 y1 y2 y3 y4 y5 y6 y7 y8 y9 y10) = (1 : Int32) := by rw [beq11_28, if_neg hc26]
      rw [hq30] at k
      exact k
  have go32 : Go p.tables e below T25 (mkF m 55 #[rv a0, rv a1, rv a1] [(.int (veq11_31 y0 y1 y2 y3 y4 y5 y6 y7 y8 y9 y10))]) En := by
    intro t k
    refine go27 _ ?_
    exact k
  refine own_out (w := (.int (veq11_31 y0 y1 y2 y3 y4 y5 y6 y7 y8 y9 y10))) X25 hx hlk go32 hrt (own_nz (by simp only [veq11_31, beq11_28]; (repeat' split) <;> first | exact Or.inl rfl | exact Or.inr rfl)) (Or.inl ⟨rfl, Or.inr (Or.inl rfl), _, rfl⟩) (hb hby d9_55) e25 (by decide) (by decide) ?_
  exact ⟨rfl, N25, rfl⟩
def beq16_28 (y0 : Int32) (y1 : Int32) (y2 : Int32) (y3 : Int32) (y4 : Int32) (y5 : Int32) (y6 : Int32) (y7 : Int32) (y8 : Int32) (y9 : Int32) (y10 : Int32) (y11 : Int32) (y12 : Int32) (y13 : Int32) (y14 : Int32) (y15 : Int32) : Int32 := (if (flq16 y0 y1 y2 y3 y4 y5 y6 y7 y8 y9 y10 y11 y12 y13 y14 y15) = (0 : Int32) then (0 : Int32) else (1 : Int32))
def veq16_31 (y0 : Int32) (y1 : Int32) (y2 : Int32) (y3 : Int32) (y4 : Int32) (y5 : Int32) (y6 : Int32) (y7 : Int32) (y8 : Int32) (y9 : Int32) (y10 : Int32) (y11 : Int32) (y12 : Int32) (y13 : Int32) (y14 : Int32) (y15 : Int32) : Int32 := (beq16_28 y0 y1 y2 y3 y4 y5 y6 y7 y8 y9 y10 y11 y12 y13 y14 y15)
theorem efeq16 (m : MethodId) (a0 : Addr) (a1 : Addr) : entryFrame m #[(.ref a0), (.ref a1)] 3 = mkF m 0 #[rv a0, rv a1, .unset] [] := by first | (simp [entryFrame, mkF, argsToLocals, Value.category]; done) | rfl
set_option maxRecDepth 65536 in
set_option maxHeartbeats 40000000 in
theorem rmeq16 (l : Launch) (Z : State) (aZ : Array Value) (hw : ∀ d ∈ tables_1, d.before aZ Z = true) (ws : List Jvm.Cond) (a0 : Addr) (a1 : Addr) (w_a0_value : Addr) (w_a1_value : Addr) (s_COMPACT_STRINGS : Int32) (k_w_a0_value : ClassId) (y0 : Int32) (y1 : Int32) (y2 : Int32) (y3 : Int32) (y4 : Int32) (y5 : Int32) (y6 : Int32) (y7 : Int32) (y8 : Int32) (y9 : Int32) (y10 : Int32) (y11 : Int32) (y12 : Int32) (y13 : Int32) (y14 : Int32) (y15 : Int32) (k_w_a1_value : ClassId) (h0 : Heap) (n0 : Nat) (Z0 : n0 ≤ h0.size) (E_a0 : Exa Z h0 a0 "java/lang/String") (F_a0_coder : Fld Z h0 a0 "java/lang/String" "coder" "B" (.int 0)) (F_a0_value : Fld Z h0 a0 "java/lang/String" "value" "[B" (.ref w_a0_value)) (E_a1 : Exa Z h0 a1 "java/lang/String") (F_a1_coder : Fld Z h0 a1 "java/lang/String" "coder" "B" (.int 0)) (F_a1_value : Fld Z h0 a1 "java/lang/String" "value" "[B" (.ref w_a1_value)) (S_COMPACT_STRINGS : Sta Z h0 "java/lang/String" "COMPACT_STRINGS" "Z" (.int s_COMPACT_STRINGS)) (hcs : ¬ s_COMPACT_STRINGS = (0 : Int32)) (V_w_a0_value : Arv Z h0 w_a0_value k_w_a0_value .byte (16 : Int32) [(.int y0), (.int y1), (.int y2), (.int y3), (.int y4), (.int y5), (.int y6), (.int y7), (.int y8), (.int y9), (.int y10), (.int y11), (.int y12), (.int y13), (.int y14), (.int y15)] (.int 0)) (V_w_a1_value : Arv Z h0 w_a1_value k_w_a1_value .byte (16 : Int32) [(.int 97), (.int 112), (.int 112), (.int 108), (.int 105), (.int 99), (.int 97), (.int 116), (.int 105), (.int 111), (.int 110), (.int 83), (.int 99), (.int 111), (.int 112), (.int 101)] (.int 0)) :
    MFn l (⟨"java/lang/String", "equals", "(Ljava/lang/Object;)Z"⟩ : MethodName) jdk_42_method_66_code 3 (some .boolean) ws (Rm 1 0 0 14) #[(.ref a0), (.ref a1)] Z h0 (QP n0 h0 (some (.int (veq16_31 y0 y1 y2 y3 y4 y5 y6 y7 y8 y9 y10 y11 y12 y13 y14 y15)))) := by
  refine own_mf (C := "java/lang/String") rfl (plainFor_of_name pn_15) (fun m => efeq16 m a0 a1) ?_
  intro p e s m below meth cd0 s₁ En hx hby hml hown hnm hZ X0 e0 hlk hrt go0
  have N0 := Fr.nil n0
  have K0 : Keep h0 h0 [] := Keep.refl _ _
  have go1 : Go p.tables e below s₁ (mkF m 2 #[rv a0, rv a1, .unset] [(.ref a1), (.ref a0)]) En := by
    intro t k
    refine go0 _ ?_
    refine XS.aloadN X0.here hx rfl (hb hby d9_0) rfl rfl ?_
    refine XS.aloadN X0.here hx rfl (hb hby d9_1) rfl rfl ?_
    exact k
  by_cases hs2 : a0 = a1
  · have go3 : Go p.tables e below s₁ (mkF m 6 #[rv a0, rv a1, .unset] [(.int 1)]) En := by
      intro t k
      refine go1 _ ?_
      refine Jvm.RoadKit.acmp (g := (mkF m 2 #[rv a0, rv a1, .unset] [(.ref a1), (.ref a0)])) X0 hx rfl rfl rfl (pc0 := 2) (pc' := 5) (same := true) rfl (hb hby d9_2) rfl (decide_eq_true (congrArg Value.ref hs2)) (by decide) (by decide) ?_
      refine XS.iconst X0.here hx rfl (hb hby d9_5) ?_
      exact k
    refine own_out (w := (.int 1)) X0 hx hlk go3 hrt rfl (Or.inl ⟨rfl, Or.inr (Or.inl rfl), _, rfl⟩) (hb hby d9_6) e0 (by decide) (by decide) ?_
    have hv := own_fld_eq F_a0_value F_a1_value hs2
    subst hv
    have e0 : y0 = (97 : Int32) := Value.int.inj (own_arv_get V_w_a0_value V_w_a1_value 0 (by decide))
    have e1 : y1 = (112 : Int32) := Value.int.inj (own_arv_get V_w_a0_value V_w_a1_value 1 (by decide))
    have e2 : y2 = (112 : Int32) := Value.int.inj (own_arv_get V_w_a0_value V_w_a1_value 2 (by decide))
    have e3 : y3 = (108 : Int32) := Value.int.inj (own_arv_get V_w_a0_value V_w_a1_value 3 (by decide))
    have e4 : y4 = (105 : Int32) := Value.int.inj (own_arv_get V_w_a0_value V_w_a1_value 4 (by decide))
    have e5 : y5 = (99 : Int32) := Value.int.inj (own_arv_get V_w_a0_value V_w_a1_value 5 (by decide))
    have e6 : y6 = (97 : Int32) := Value.int.inj (own_arv_get V_w_a0_value V_w_a1_value 6 (by decide))
    have e7 : y7 = (116 : Int32) := Value.int.inj (own_arv_get V_w_a0_value V_w_a1_value 7 (by decide))
    have e8 : y8 = (105 : Int32) := Value.int.inj (own_arv_get V_w_a0_value V_w_a1_value 8 (by decide))
    have e9 : y9 = (111 : Int32) := Value.int.inj (own_arv_get V_w_a0_value V_w_a1_value 9 (by decide))
    have e10 : y10 = (110 : Int32) := Value.int.inj (own_arv_get V_w_a0_value V_w_a1_value 10 (by decide))
    have e11 : y11 = (83 : Int32) := Value.int.inj (own_arv_get V_w_a0_value V_w_a1_value 11 (by decide))
    have e12 : y12 = (99 : Int32) := Value.int.inj (own_arv_get V_w_a0_value V_w_a1_value 12 (by decide))
    have e13 : y13 = (111 : Int32) := Value.int.inj (own_arv_get V_w_a0_value V_w_a1_value 13 (by decide))
    have e14 : y14 = (112 : Int32) := Value.int.inj (own_arv_get V_w_a0_value V_w_a1_value 14 (by decide))
    have e15 : y15 = (101 : Int32) := Value.int.inj (own_arv_get V_w_a0_value V_w_a1_value 15 (by decide))
    have hG : (1 : Int32) = (veq16_31 y0 y1 y2 y3 y4 y5 y6 y7 y8 y9 y10 y11 y12 y13 y14 y15) := by rw [e0, e1, e2, e3, e4, e5, e6, e7, e8, e9, e10, e11, e12, e13, e14, e15]; decide
    exact ⟨congrArg (fun z => some (Value.int z)) hG, N0, rfl⟩
  have go4 : Go p.tables e below s₁ (mkF m 8 #[rv a0, rv a1, .unset] [(.ref a1)]) En := by
    intro t k
    refine go1 _ ?_
    refine Jvm.RoadKit.acmp (g := (mkF m 2 #[rv a0, rv a1, .unset] [(.ref a1), (.ref a0)])) X0 hx rfl rfl rfl (pc0 := 2) (pc' := 7) (same := false) rfl (hb hby d9_2) rfl (decide_eq_false fun q => hs2 (Value.ref.inj q)) (by decide) (by decide) ?_
    refine XS.aloadN X0.here hx rfl (hb hby d9_7) rfl rfl ?_
    exact k
  obtain ⟨T5, X5, e5, st5⟩ := instY X0 hx hZ hown (hw _ (mi 47 rfl)) e0 (Ins.self E_a1) (g := (mkF m 8 #[rv a0, rv a1, .unset] [(.ref a1)])) rfl rfl (hb hby d9_8)
  have go6 := gap go4 st5
  have go7 : Go p.tables e below T5 (mkF m 15 #[rv a0, rv a1, .unset] [(.ref a1)]) En := by
    intro t k
    refine go6 _ ?_
    refine XS.ifNo X5.here hx rfl (hb hby d9_11) rfl (XT.i0_eq_f (by decide : ¬ ((1 : Int32) = (0 : Int32)))) ?_
    refine XS.aloadN X5.here hx rfl (hb hby d9_14) rfl rfl ?_
    exact k
  obtain ⟨T8, X8, e8, st8⟩ := castY X5 hx hZ hown (hw _ (mi 47 rfl)) e5 (Ins.self E_a1) (g := (mkF m 15 #[rv a0, rv a1, .unset] [(.ref a1)])) rfl rfl (hb hby d9_15)
  have go9 := gap go7 st8
  have go10 : Go p.tables e below T8 (mkF m 19 #[rv a0, rv a1, rv a1] []) En := by
    intro t k
    refine go9 _ ?_
    refine XS.astoreN X8.here hx rfl (hb hby d9_18) rfl rfl (l' := #[rv a0, rv a1, rv a1]) rfl ?_
    exact k
  obtain ⟨T11, X11, e11, st11⟩ := getS2 X8 hx hZ hown (host := "") (Or.inl (hw _ (mi 19 rfl))) Via.refl e8 S_COMPACT_STRINGS (g := (mkF m 19 #[rv a0, rv a1, rv a1] [])) rfl (hb hby d9_19)
  have go12 := gap go10 st11
  have go13 : Go p.tables e below T11 (mkF m 26 #[rv a0, rv a1, rv a1] [(.ref a0)]) En := by
    intro t k
    refine go12 _ ?_
    refine XS.ifNo X11.here hx rfl (hb hby d9_22) rfl (XT.i0_eq_f hcs) ?_
    refine XS.aloadN X11.here hx rfl (hb hby d9_25) rfl rfl ?_
    exact k
  obtain ⟨T14, X14, e14, st14⟩ := getF X11 hx hZ hown (host := "") (Or.inl (hw _ (mi 31 rfl))) Via.refl e11 F_a0_coder (g := (mkF m 26 #[rv a0, rv a1, rv a1] [(.ref a0)])) rfl rfl (hb hby d9_26)
  have go15 := gap go13 st14
  have go16 : Go p.tables e below T14 (mkF m 30 #[rv a0, rv a1, rv a1] [(.ref a1), (.int 0)]) En := by
    intro t k
    refine go15 _ ?_
    refine XS.aloadN X14.here hx rfl (hb hby d9_29) rfl rfl ?_
    exact k
  obtain ⟨T17, X17, e17, st17⟩ := getF X14 hx hZ hown (host := "") (Or.inl (hw _ (mi 31 rfl))) Via.refl e14 F_a1_coder (g := (mkF m 30 #[rv a0, rv a1, rv a1] [(.ref a1), (.int 0)])) rfl rfl (hb hby d9_30)
  have go18 := gap go16 st17
  have go19 : Go p.tables e below T17 (mkF m 37 #[rv a0, rv a1, rv a1] [(.ref a0)]) En := by
    intro t k
    refine go18 _ ?_
    refine XS.icmpNo X17.here hx rfl (hb hby d9_33) rfl (XT.ii_ne_f (by decide : ((0 : Int32) = (0 : Int32)))) ?_
    refine XS.aloadN X17.here hx rfl (hb hby d9_36) rfl rfl ?_
    exact k
  obtain ⟨T20, X20, e20, st20⟩ := getF X17 hx hZ hown (host := "") (Or.inl (hw _ (mi 33 rfl))) Via.refl e17 F_a0_value (g := (mkF m 37 #[rv a0, rv a1, rv a1] [(.ref a0)])) rfl rfl (hb hby d9_37)
  have go21 := gap go19 st20
  have go22 : Go p.tables e below T20 (mkF m 41 #[rv a0, rv a1, rv a1] [(.ref a1), (.ref w_a0_value)]) En := by
    intro t k
    refine go21 _ ?_
    refine XS.aloadN X20.here hx rfl (hb hby d9_40) rfl rfl ?_
    exact k
  obtain ⟨T23, X23, e23, st23⟩ := getF X20 hx hZ hown (host := "") (Or.inl (hw _ (mi 33 rfl))) Via.refl e20 F_a1_value (g := (mkF m 41 #[rv a0, rv a1, rv a1] [(.ref a1), (.ref w_a0_value)])) rfl rfl (hb hby d9_41)
  have go24 := gap go22 st23
  obtain ⟨_, T25, Lc25, X25, hQ25, st25⟩ := own_cs X23 hx hZ hown hml go24 (hb hby d9_44) e23 (hw _ (mi 48 rfl)) (own_site601 hw) (rmlq16 l Z aZ hw [] _ _ _ y0 y1 y2 y3 y4 y5 y6 y7 y8 y9 y10 y11 y12 y13 y14 y15 _ h0 n0 Z0 V_w_a0_value V_w_a1_value) (by decide) (argsL := [(.ref w_a0_value), (.ref w_a1_value)]) (rest := []) rfl rfl rfl (lenOf pd_602 rfl) (W := 0) rfl (by decide) (by decide) (by decide : 0 + 0 ≤ _) (by decide : 0 + 0 ≤ _)
  obtain ⟨rfl, N25q, e25⟩ := hQ25
  have N25 := Fr.app N0 N25q
  have go27 : Go p.tables e below T25 (mkF m 55 #[rv a0, rv a1, rv a1] [(.int (beq16_28 y0 y1 y2 y3 y4 y5 y6 y7 y8 y9 y10 y11 y12 y13 y14 y15))]) En := by
    intro t k
    have k : Steps p.tables e below (T25.setTop (mkF m  55 #[rv a0, rv a1, rv a1] [(.int (beq16_28 y0 y1 y2 y3 y4 y5 y6 y7 y8 y9 y10 y11 y12 y13 y14 y15))])) t := k
    refine st25 _ ?_
    by_cases hc26 : (flq16 y0 y1 y2 y3 y4 y5 y6 y7 y8 y9 y10 y11 y12 y13 y14 y15) = (0 : Int32)
    · refine XS.ifYes X25.here hx rfl (pc0 := 47) (pc' := 54) rfl (hb hby d9_47) rfl (XT.i0_eq_t hc26) (by decide) (by decide) ?_
      refine XS.iconst X25.here hx rfl (hb hby d9_54) ?_
      have hq29 : (beq16_28 y0 y1 y2 y3 y4 y5 y6 y7 y8 y9 y10 y11 y12 y13 y14 y15) = (0 : Int32) := by rw [beq16_28, if_pos hc26]
      rw [hq29] at k
      exact k
    · refine XS.ifNo X25.here hx rfl (hb hby d9_47) rfl (XT.i0_eq_f hc26) ?_
      refine XS.iconst X25.here hx rfl (hb hby d9_50) ?_
      refine XS.goto X25.here hx rfl (pc0 := 51) (pc' := 55) rfl (hb hby d9_51) (by decide) (by decide) ?_
      have hq30 : (beq16_28 y0 y1 y2 y3 y4 y5 y6 y7 y8 y9 y10 y11 y12 y13 y14 y15) = (1 : Int32) := by rw [beq16_28, if_neg hc26]
      rw [hq30] at k
      exact k
  have go32 : Go p.tables e below T25 (mkF m 55 #[rv a0, rv a1, rv a1] [(.int (veq16_31 y0 y1 y2 y3 y4 y5 y6 y7 y8 y9 y10 y11 y12 y13 y14 y15))]) En := by
    intro t k
    refine go27 _ ?_
    exact k
  refine own_out (w := (.int (veq16_31 y0 y1 y2 y3 y4 y5 y6 y7 y8 y9 y10 y11 y12 y13 y14 y15))) X25 hx hlk go32 hrt (own_nz (by simp only [veq16_31, beq16_28]; (repeat' split) <;> first | exact Or.inl rfl | exact Or.inr rfl)) (Or.inl ⟨rfl, Or.inr (Or.inl rfl), _, rfl⟩) (hb hby d9_55) e25 (by decide) (by decide) ?_
  exact ⟨rfl, N25, rfl⟩
theorem d8_0 : decode prog_17_method_8_code 0 = .ok (.aload_n 0, 1) := by decide +kernel
theorem d8_1 : decode prog_17_method_8_code 1 = .ok (.ldc 62, 2) := by decide +kernel
theorem own_txt_com_example_calycule_calycule_config_ModuleContext_62 : (∀ c ∈ ("moduleContext" : String).toList, c.toNat < 256) ∧ ("moduleContext" : String).toList.map (fun c => Value.int (Jvm.Lit.byteI c.toNat.toUInt16)) = [(.int (109 : Int32)), (.int (111 : Int32)), (.int (100 : Int32)), (.int (117 : Int32)), (.int (108 : Int32)), (.int (101 : Int32)), (.int (67 : Int32)), (.int (111 : Int32)), (.int (110 : Int32)), (.int (116 : Int32)), (.int (101 : Int32)), (.int (120 : Int32)), (.int (116 : Int32))] := ⟨by decide +kernel, by first | rfl | decide +kernel⟩
theorem d8_3 : decode prog_17_method_8_code 3 = .ok (.invokevirtual 64, 3) := by decide +kernel
theorem own_site620 {Z : State} {aZ : Array Value} (hw : ∀ d ∈ tables_1, d.before aZ Z = true) : SVt aZ Z "java/lang/String" (⟨"java/lang/String", "equals", "(Ljava/lang/Object;)Z"⟩ : MethodName) jdk_42_method_66_code 3 (some .boolean) := ⟨⟨⟨(hw _ (mi 43 rfl)), (hw _ (mi 45 rfl))⟩, (hw _ (mi 44 rfl)), (hw _ (mi 8 rfl))⟩, (hw _ (mi 46 rfl))⟩
theorem pd_621 : parseMethodDescriptor "(Ljava/lang/Object;)Z" = some ⟨[(.object "java/lang/Object")], some .boolean⟩ := by decide +kernel
theorem d8_6 : decode prog_17_method_8_code 6 = .ok (.ifCond .ne 21, 3) := by decide +kernel
theorem d8_9 : decode prog_17_method_8_code 9 = .ok (.aload_n 0, 1) := by decide +kernel
theorem d8_10 : decode prog_17_method_8_code 10 = .ok (.ldc 68, 2) := by decide +kernel
theorem own_txt_com_example_calycule_calycule_config_ModuleContext_68 : (∀ c ∈ ("moduleScope" : String).toList, c.toNat < 256) ∧ ("moduleScope" : String).toList.map (fun c => Value.int (Jvm.Lit.byteI c.toNat.toUInt16)) = [(.int (109 : Int32)), (.int (111 : Int32)), (.int (100 : Int32)), (.int (117 : Int32)), (.int (108 : Int32)), (.int (101 : Int32)), (.int (83 : Int32)), (.int (99 : Int32)), (.int (111 : Int32)), (.int (112 : Int32)), (.int (101 : Int32))] := ⟨by decide +kernel, by first | rfl | decide +kernel⟩
theorem d8_12 : decode prog_17_method_8_code 12 = .ok (.invokevirtual 64, 3) := by decide +kernel
theorem d8_15 : decode prog_17_method_8_code 15 = .ok (.ifCond .ne 12, 3) := by decide +kernel
theorem d8_18 : decode prog_17_method_8_code 18 = .ok (.aload_n 0, 1) := by decide +kernel
theorem d8_19 : decode prog_17_method_8_code 19 = .ok (.ldc 69, 2) := by decide +kernel
theorem own_txt_com_example_calycule_calycule_config_ModuleContext_69 : (∀ c ∈ ("applicationScope" : String).toList, c.toNat < 256) ∧ ("applicationScope" : String).toList.map (fun c => Value.int (Jvm.Lit.byteI c.toNat.toUInt16)) = [(.int (97 : Int32)), (.int (112 : Int32)), (.int (112 : Int32)), (.int (108 : Int32)), (.int (105 : Int32)), (.int (99 : Int32)), (.int (97 : Int32)), (.int (116 : Int32)), (.int (105 : Int32)), (.int (111 : Int32)), (.int (110 : Int32)), (.int (83 : Int32)), (.int (99 : Int32)), (.int (111 : Int32)), (.int (112 : Int32)), (.int (101 : Int32))] := ⟨by decide +kernel, by first | rfl | decide +kernel⟩
theorem d8_21 : decode prog_17_method_8_code 21 = .ok (.invokevirtual 64, 3) := by decide +kernel
theorem d8_24 : decode prog_17_method_8_code 24 = .ok (.ifCond .eq 7, 3) := by decide +kernel
theorem d8_31 : decode prog_17_method_8_code 31 = .ok (.iconst 0, 1) := by decide +kernel
theorem d8_32 : decode prog_17_method_8_code 32 = .ok (.ireturn, 1) := by decide +kernel
theorem pn_635 : plainName "com/example/calycule/calycule/config/ModuleContext" = true := by first | (simp [plainName, overriddenIn]; done) | decide +kernel
def Qia (Z : State) (n0 : Nat) (a0 : Addr) (w_a0_value : Addr) (k_w_a0_value : ClassId) (n_w_a0_value : Int32) (vs_w_a0_value : List Value) (s_COMPACT_STRINGS : Int32) (h0 : Heap) (v : Option Value) (h : Heap) (L : List Loc) : Prop := v = some (.int (0 : Int32)) ∧ Fr n0 L ∧ Keep h0 h []
theorem efia (m : MethodId) (a0 : Addr) : entryFrame m #[(.ref a0)] 1 = mkF m 0 #[rv a0] [] := by first | (simp [entryFrame, mkF, argsToLocals, Value.category]; done) | rfl
set_option maxRecDepth 65536 in
set_option maxHeartbeats 40000000 in
theorem rmia (l : Launch) (Z : State) (aZ : Array Value) (hw : ∀ d ∈ tables_1, d.before aZ Z = true) (ws : List Jvm.Cond) (a0 : Addr) (w_a0_value : Addr) (k_w_a0_value : ClassId) (n_w_a0_value : Int32) (vs_w_a0_value : List Value) (s_COMPACT_STRINGS : Int32) (h0 : Heap) (n0 : Nat) (Z0 : n0 ≤ h0.size) (E_a0 : Exa Z h0 a0 "java/lang/String") (F_a0_coder : Fld Z h0 a0 "java/lang/String" "coder" "B" (.int 0)) (F_a0_value : Fld Z h0 a0 "java/lang/String" "value" "[B" (.ref w_a0_value)) (V_w_a0_value : Arv Z h0 w_a0_value k_w_a0_value .byte n_w_a0_value vs_w_a0_value (.int 0)) (S_COMPACT_STRINGS : Sta Z h0 "java/lang/String" "COMPACT_STRINGS" "Z" (.int s_COMPACT_STRINGS)) (hcs : ¬ s_COMPACT_STRINGS = (0 : Int32)) (hkp : ∀ (b : Addr) (cl : Cell), Z.heap[b]? = some cl → h0[b]? = some cl) (hcn62 : Jvm.Lit.constHeld Z "com/example/calycule/calycule/config/ModuleContext" 62) (hcn68 : Jvm.Lit.constHeld Z "com/example/calycule/calycule/config/ModuleContext" 68) (hcn69 : Jvm.Lit.constHeld Z "com/example/calycule/calycule/config/ModuleContext" 69) (hcw : Jvm.Lit.compactW.before aZ Z = true) (hn0 : n0 = h0.size) (hL13 : ¬ n_w_a0_value = (13 : Int32)) (hL11 : ¬ n_w_a0_value = (11 : Int32)) (hL16 : ¬ n_w_a0_value = (16 : Int32)) :
    MetFree l (⟨"com/example/calycule/calycule/config/ModuleContext", "isImplicit", "(Ljava/lang/String;)Z"⟩ : MethodName) (head1 (Jvm.Cond.code (⟨"com/example/calycule/calycule/config/ModuleContext", "isImplicit", "(Ljava/lang/String;)Z"⟩ : MethodName) prog_17_method_8_code 1 (some .boolean) :: ws) ({ frames := 2, cells := 6, slots := 172, locals := 28 } : Room)) (fun a U => a = #[(.ref a0)] ∧ Z.Warmed39 U.vm ∧ U.heap = h0 ∧ IB Z U.vm []) (fun _ _ _ _ _ => True) (fun _ U o U' => ∃ v L, o = .returned v ∧ Qia Z n0 a0 w_a0_value k_w_a0_value n_w_a0_value vs_w_a0_value s_COMPACT_STRINGS h0 v U'.heap L ∧ ReturnedEndW U o U' L ({ frames := 2, cells := 6, slots := 172, locals := 28 } : Room).cells ({ frames := 2, cells := 6, slots := 172, locals := 28 } : Room).slots) := by
  refine MetFree.of_bodySF (plainFor_of_name pn_635) hisR ?_
  intro p e s m args below meth c s₁ Bd hml0 hP hK
  obtain ⟨rfl, hZ, hh, IB0⟩ := hP
  have hx := Bd.exec
  have hby := Bd.bytes
  have hml : c.maxLocals = 1 := hml0
  have hown : s.vm.findClass "com/example/calycule/calycule/config/ModuleContext" = some m.cls := findClass_of_methodNamed Bd.named
  have hnm := (name_of_methodNamed Bd.named Bd.method).1
  have X0 : Stand p l e ({ frames := 2, cells := 6, slots := 172, locals := 28 } : Room) (s.setVm s.vm) m #[(.ref a0)] below meth c s₁ [] 0 0 := Stand.of_body Bd
  have e0 : s₁.heap = h0 := by rw [← hh, Bd.state]; rfl
  have N0 := Fr.nil n0
  have K0 : Keep h0 h0 [] := Keep.refl _ _
  obtain ⟨En, hEn⟩ : ∃ z, z = (s₁.setTop (entryFrame m #[(.ref a0)] 1)) := ⟨_, rfl⟩
  have go0 : Go p.tables e below s₁ (mkF m 0 #[rv a0] []) En := fun t k => by subst hEn; exact castTop (efia m a0) k
  have hS0 : s.Since s.vm s.heap.size := (State.WarmedH.refl s).since _
  have hk0 : s.heap.size ≤ h0.size := by rw [← hh]; exact Nat.le_refl _
  have hkS : ∀ (b : Addr) (cl : Cell), Z.heap[b]? = some cl → s.heap[b]? = some cl := fun b cl q => by rw [hh]; exact hkp b cl q
  have go1 : Go p.tables e below s₁ (mkF m 1 #[rv a0] [(.ref a0)]) En := by
    intro t k
    refine go0 _ ?_
    refine XS.aloadN X0.here hx rfl (hb hby d8_0) rfl rfl ?_
    exact k
  obtain ⟨b2, T2, h2, k2, bv2, kv2, X2, e2, E2, hS2, hk2, hZ2, hown2, A2, FC2, FV2, AV2, -, -, I2, Lt2, wh2, st2⟩ := ldcSVd X0 hx hZ hown (hw _ (mi 39 rfl)) (fun a ha => hw a (own_sa a ha)) e0 hS0 hk0 (Fr.nil _) hkS IB0 (by decide) hcn62 hcw (vs := [(.int 109), (.int 111), (.int 100), (.int 117), (.int 108), (.int 101), (.int 67), (.int 111), (.int 110), (.int 116), (.int 101), (.int 120), (.int 116)]) (z := (13 : Int32)) own_txt_com_example_calycule_calycule_config_ModuleContext_62 (by decide) rfl (g := (mkF m 1 #[rv a0] [(.ref a0)])) rfl (hb hby d8_1) (n := 52) (by decide +kernel) (by decide) (by decide) (by decide)
  have go3 := gap go1 st2
  have K2 : Keep h0 h2 [] := K0.ext E2
  have Zs2 : n0 ≤ h2.size := Nat.le_trans Z0 E2.1
  obtain ⟨_, T4, Lc4, X4, hQ4, st4⟩ := own_cv X2 hx hZ2 hown2 hml go3 (hb hby d8_3) e2 (hw _ (mi 42 rfl)) (own_site620 hw) (E_a0.keep K2) (rmed l Z aZ hw [] a0 b2 _ bv2 _ _ _ _ kv2 _ _ h2 n0 Zs2 (E_a0.keep K2) (F_a0_coder.keep K2 nin0) (F_a0_value.keep K2 nin0) A2 FC2 FV2 (own_sta_keep S_COMPACT_STRINGS K2 all0) hcs (V_w_a0_value.keep K2 nin0) AV2 hL13) (by decide) (argsL := [(.ref b2)]) (rest := []) rfl rfl rfl (lenOf pd_621 rfl) (W := 0) rfl (by decide) (by decide) (by decide : 2 + 0 ≤ _) (by decide : 56 + 0 ≤ _)
  obtain ⟨rfl, N4q, e4⟩ := hQ4
  have N4 := Fr.app N0 N4q
  have go5 : Go p.tables e below T4 (mkF m 10 #[rv a0] [(.ref a0)]) En := by
    intro t k
    refine st4 _ ?_
    refine XS.ifNo X4.here hx rfl (hb hby d8_6) rfl (XT.i0_ne_f (by decide : ((0 : Int32) = (0 : Int32)))) ?_
    refine XS.aloadN X4.here hx rfl (hb hby d8_9) rfl rfl ?_
    exact k
  obtain ⟨b6, T6, h6, k6, bv6, kv6, X6, e6, E6, hS6, hk6, hZ6, hown6, A6, FC6, FV6, AV6, -, -, I6, Lt6, wh6, st6⟩ := ldcSVd X4 hx hZ2 hown2 (hw _ (mi 52 rfl)) (fun a ha => hw a (own_sa a ha)) e4 hS2 hk2 (own_frs hn0 hh N4) hkS I2 (by decide) hcn68 hcw (vs := [(.int 109), (.int 111), (.int 100), (.int 117), (.int 108), (.int 101), (.int 83), (.int 99), (.int 111), (.int 112), (.int 101)]) (z := (11 : Int32)) own_txt_com_example_calycule_calycule_config_ModuleContext_68 (by decide) rfl (g := (mkF m 10 #[rv a0] [(.ref a0)])) rfl (hb hby d8_10) (n := 44) (by decide +kernel) (by decide) (by decide) (by decide)
  have go7 := gap go5 st6
  have K6 : Keep h0 h6 [] := K2.ext E6
  have Zs6 : n0 ≤ h6.size := Nat.le_trans Zs2 E6.1
  have F8 := A2.ext E6
  have F9 := FC2.ext E6
  have F10 := FV2.ext E6
  have F11 := AV2.ext E6
  obtain ⟨_, T12, Lc12, X12, hQ12, st12⟩ := own_cv X6 hx hZ6 hown6 hml go7 (hb hby d8_12) e6 (hw _ (mi 42 rfl)) (own_site620 hw) (E_a0.keep K6) (rmed l Z aZ hw [] a0 b6 _ bv6 _ _ _ _ kv6 _ _ h6 n0 Zs6 (E_a0.keep K6) (F_a0_coder.keep K6 nin0) (F_a0_value.keep K6 nin0) A6 FC6 FV6 (own_sta_keep S_COMPACT_STRINGS K6 all0) hcs (V_w_a0_value.keep K6 nin0) AV6 hL11) (by decide) (argsL := [(.ref b6)]) (rest := []) rfl rfl rfl (lenOf pd_621 rfl) (W := 0) rfl (by decide) (by decide) (by decide : 4 + 0 ≤ _) (by decide : 104 + 0 ≤ _)
  obtain ⟨rfl, N12q, e12⟩ := hQ12
  have N12 := Fr.app N4 N12q
  have go13 : Go p.tables e below T12 (mkF m 19 #[rv a0] [(.ref a0)]) En := by
    intro t k
    refine st12 _ ?_
    refine XS.ifNo X12.here hx rfl (hb hby d8_15) rfl (XT.i0_ne_f (by decide : ((0 : Int32) = (0 : Int32)))) ?_
    refine XS.aloadN X12.here hx rfl (hb hby d8_18) rfl rfl ?_
    exact k
  obtain ⟨b14, T14, h14, k14, bv14, kv14, X14, e14, E14, hS14, hk14, hZ14, hown14, A14, FC14, FV14, AV14, -, -, I14, Lt14, wh14, st14⟩ := ldcSVd X12 hx hZ6 hown6 (hw _ (mi 53 rfl)) (fun a ha => hw a (own_sa a ha)) e12 hS6 hk6 (own_frs hn0 hh N12) hkS I6 (by decide) hcn69 hcw (vs := [(.int 97), (.int 112), (.int 112), (.int 108), (.int 105), (.int 99), (.int 97), (.int 116), (.int 105), (.int 111), (.int 110), (.int 83), (.int 99), (.int 111), (.int 112), (.int 101)]) (z := (16 : Int32)) own_txt_com_example_calycule_calycule_config_ModuleContext_69 (by decide) rfl (g := (mkF m 19 #[rv a0] [(.ref a0)])) rfl (hb hby d8_19) (n := 64) (by decide +kernel) (by decide) (by decide) (by decide)
  have go15 := gap go13 st14
  have K14 : Keep h0 h14 [] := K6.ext E14
  have Zs14 : n0 ≤ h14.size := Nat.le_trans Zs6 E14.1
  have F16 := F8.ext E14
  have F17 := F9.ext E14
  have F18 := F10.ext E14
  have F19 := F11.ext E14
  have F20 := A6.ext E14
  have F21 := FC6.ext E14
  have F22 := FV6.ext E14
  have F23 := AV6.ext E14
  obtain ⟨_, T24, Lc24, X24, hQ24, st24⟩ := own_cv X14 hx hZ14 hown14 hml go15 (hb hby d8_21) e14 (hw _ (mi 42 rfl)) (own_site620 hw) (E_a0.keep K14) (rmed l Z aZ hw [] a0 b14 _ _ _ _ _ _ _ _ _ h14 n0 Zs14 (E_a0.keep K14) (F_a0_coder.keep K14 nin0) (F_a0_value.keep K14 nin0) A14 FC14 FV14 (own_sta_keep S_COMPACT_STRINGS K14 all0) hcs (V_w_a0_value.keep K14 nin0) AV14 hL16) (by decide) (argsL := [(.ref b14)]) (rest := []) rfl rfl rfl (lenOf pd_621 rfl) (W := 0) rfl (by decide) (by decide) (by decide : 6 + 0 ≤ _) (by decide : 172 + 0 ≤ _)
  obtain ⟨rfl, N24q, e24⟩ := hQ24
  have N24 := Fr.app N12 N24q
  have go25 : Go p.tables e below T24 (mkF m 32 #[rv a0] [(.int 0)]) En := by
    intro t k
    refine st24 _ ?_
    refine XS.ifYes X24.here hx rfl (pc0 := 24) (pc' := 31) rfl (hb hby d8_24) rfl (XT.i0_eq_t (by decide : ((0 : Int32) = (0 : Int32)))) (by decide) (by decide) ?_
    refine XS.iconst X24.here hx rfl (hb hby d8_31) ?_
    exact k
  obtain ⟨fs, hr, hrun, hended, hRW⟩ := X24.leaveW hS14 (by rw [e24]; exact hk14) (v := some (.int 0)) (fun h => by rw [Bd.returns] at h; cases h) Bd.notSynchronized
  subst hEn
  refine ⟨_, _, go25 _ (Jvm.RoadKit.retOut X24 hx Bd.returns rfl (Or.inl ⟨rfl, Or.inr (Or.inl rfl), _, rfl⟩) (hb hby d8_32) hr), hrun, hended, _, _, rfl, ?_, hRW.1, hRW.2.1, hRW.2.2.1, hRW.2.2.2.mono (by decide) (by decide)⟩
  show Qia _ _ a0 w_a0_value k_w_a0_value n_w_a0_value vs_w_a0_value s_COMPACT_STRINGS h0 _ (T24.setFrames fs).heap _
  have hE : (T24.setFrames fs).heap = h14 := e24
  rw [hE]
  exact ⟨rfl, N24, K14⟩
def Qiz (Z : State) (n0 : Nat) (a0 : Addr) (w_a0_value : Addr) (k_w_a0_value : ClassId) (n_w_a0_value : Int32) (vs_w_a0_value : List Value) (s_COMPACT_STRINGS : Int32) (h0 : Heap) (v : Option Value) (h : Heap) (L : List Loc) : Prop := v = some (.int (0 : Int32)) ∧ Fr n0 L ∧ Keep h0 h []
theorem efiz (m : MethodId) (a0 : Addr) : entryFrame m #[(.ref a0)] 1 = mkF m 0 #[rv a0] [] := by first | (simp [entryFrame, mkF, argsToLocals, Value.category]; done) | rfl
set_option maxRecDepth 65536 in
set_option maxHeartbeats 40000000 in
theorem rmiz (l : Launch) (Z : State) (aZ : Array Value) (hw : ∀ d ∈ tables_1, d.before aZ Z = true) (ws : List Jvm.Cond) (a0 : Addr) (w_a0_value : Addr) (k_w_a0_value : ClassId) (n_w_a0_value : Int32) (vs_w_a0_value : List Value) (s_COMPACT_STRINGS : Int32) (h0 : Heap) (n0 : Nat) (Z0 : n0 ≤ h0.size) (E_a0 : Exa Z h0 a0 "java/lang/String") (F_a0_coder : Fld Z h0 a0 "java/lang/String" "coder" "B" (.int 0)) (F_a0_value : Fld Z h0 a0 "java/lang/String" "value" "[B" (.ref w_a0_value)) (V_w_a0_value : Arv Z h0 w_a0_value k_w_a0_value .byte n_w_a0_value vs_w_a0_value (.int 0)) (S_COMPACT_STRINGS : Sta Z h0 "java/lang/String" "COMPACT_STRINGS" "Z" (.int s_COMPACT_STRINGS)) (hcs : ¬ s_COMPACT_STRINGS = (0 : Int32)) (hkp : ∀ (b : Addr) (cl : Cell), Z.heap[b]? = some cl → h0[b]? = some cl) (hcn62 : Jvm.Lit.constHeld Z "com/example/calycule/calycule/config/ModuleContext" 62) (hcn68 : Jvm.Lit.constHeld Z "com/example/calycule/calycule/config/ModuleContext" 68) (hcn69 : Jvm.Lit.constHeld Z "com/example/calycule/calycule/config/ModuleContext" 69) (hcw : Jvm.Lit.compactW.before aZ Z = true) (hn0 : n0 = h0.size) (hL13 : ¬ n_w_a0_value = (13 : Int32)) (hL11 : ¬ n_w_a0_value = (11 : Int32)) (hL16 : ¬ n_w_a0_value = (16 : Int32)) :
    MetFree l (⟨"com/example/calycule/calycule/config/ModuleContext", "isImplicit", "(Ljava/lang/String;)Z"⟩ : MethodName) (head1 (Jvm.Cond.code (⟨"com/example/calycule/calycule/config/ModuleContext", "isImplicit", "(Ljava/lang/String;)Z"⟩ : MethodName) prog_17_method_8_code 1 (some .boolean) :: ws) ({ frames := 2, cells := 6, slots := 172, locals := 28 } : Room)) (fun a U => a = #[(.ref a0)] ∧ Z.Warmed39 U.vm ∧ U.heap = h0 ∧ IB Z U.vm [""]) (fun _ _ _ _ _ => True) (fun _ U o U' => ∃ v L, o = .returned v ∧ Qiz Z n0 a0 w_a0_value k_w_a0_value n_w_a0_value vs_w_a0_value s_COMPACT_STRINGS h0 v U'.heap L ∧ ReturnedEndW U o U' L ({ frames := 2, cells := 6, slots := 172, locals := 28 } : Room).cells ({ frames := 2, cells := 6, slots := 172, locals := 28 } : Room).slots) := by
  refine MetFree.of_bodySF (plainFor_of_name pn_635) hisR ?_
  intro p e s m args below meth c s₁ Bd hml0 hP hK
  obtain ⟨rfl, hZ, hh, IB0⟩ := hP
  have hx := Bd.exec
  have hby := Bd.bytes
  have hml : c.maxLocals = 1 := hml0
  have hown : s.vm.findClass "com/example/calycule/calycule/config/ModuleContext" = some m.cls := findClass_of_methodNamed Bd.named
  have hnm := (name_of_methodNamed Bd.named Bd.method).1
  have X0 : Stand p l e ({ frames := 2, cells := 6, slots := 172, locals := 28 } : Room) (s.setVm s.vm) m #[(.ref a0)] below meth c s₁ [] 0 0 := Stand.of_body Bd
  have e0 : s₁.heap = h0 := by rw [← hh, Bd.state]; rfl
  have N0 := Fr.nil n0
  have K0 : Keep h0 h0 [] := Keep.refl _ _
  obtain ⟨En, hEn⟩ : ∃ z, z = (s₁.setTop (entryFrame m #[(.ref a0)] 1)) := ⟨_, rfl⟩
  have go0 : Go p.tables e below s₁ (mkF m 0 #[rv a0] []) En := fun t k => by subst hEn; exact castTop (efiz m a0) k
  have hS0 : s.Since s.vm s.heap.size := (State.WarmedH.refl s).since _
  have hk0 : s.heap.size ≤ h0.size := by rw [← hh]; exact Nat.le_refl _
  have hkS : ∀ (b : Addr) (cl : Cell), Z.heap[b]? = some cl → s.heap[b]? = some cl := fun b cl q => by rw [hh]; exact hkp b cl q
  have go1 : Go p.tables e below s₁ (mkF m 1 #[rv a0] [(.ref a0)]) En := by
    intro t k
    refine go0 _ ?_
    refine XS.aloadN X0.here hx rfl (hb hby d8_0) rfl rfl ?_
    exact k
  obtain ⟨b2, T2, h2, k2, bv2, kv2, X2, e2, E2, hS2, hk2, hZ2, hown2, A2, FC2, FV2, AV2, -, -, I2, Lt2, wh2, st2⟩ := ldcSVd X0 hx hZ hown (hw _ (mi 39 rfl)) (fun a ha => hw a (own_sa a ha)) e0 hS0 hk0 (Fr.nil _) hkS IB0 (by decide) hcn62 hcw (vs := [(.int 109), (.int 111), (.int 100), (.int 117), (.int 108), (.int 101), (.int 67), (.int 111), (.int 110), (.int 116), (.int 101), (.int 120), (.int 116)]) (z := (13 : Int32)) own_txt_com_example_calycule_calycule_config_ModuleContext_62 (by decide) rfl (g := (mkF m 1 #[rv a0] [(.ref a0)])) rfl (hb hby d8_1) (n := 52) (by decide +kernel) (by decide) (by decide) (by decide)
  have go3 := gap go1 st2
  have K2 : Keep h0 h2 [] := K0.ext E2
  have Zs2 : n0 ≤ h2.size := Nat.le_trans Z0 E2.1
  obtain ⟨_, T4, Lc4, X4, hQ4, st4⟩ := own_cv X2 hx hZ2 hown2 hml go3 (hb hby d8_3) e2 (hw _ (mi 42 rfl)) (own_site620 hw) (E_a0.keep K2) (rmed l Z aZ hw [] a0 b2 _ bv2 _ _ _ _ kv2 _ _ h2 n0 Zs2 (E_a0.keep K2) (F_a0_coder.keep K2 nin0) (F_a0_value.keep K2 nin0) A2 FC2 FV2 (own_sta_keep S_COMPACT_STRINGS K2 all0) hcs (V_w_a0_value.keep K2 nin0) AV2 hL13) (by decide) (argsL := [(.ref b2)]) (rest := []) rfl rfl rfl (lenOf pd_621 rfl) (W := 0) rfl (by decide) (by decide) (by decide : 2 + 0 ≤ _) (by decide : 56 + 0 ≤ _)
  obtain ⟨rfl, N4q, e4⟩ := hQ4
  have N4 := Fr.app N0 N4q
  have go5 : Go p.tables e below T4 (mkF m 10 #[rv a0] [(.ref a0)]) En := by
    intro t k
    refine st4 _ ?_
    refine XS.ifNo X4.here hx rfl (hb hby d8_6) rfl (XT.i0_ne_f (by decide : ((0 : Int32) = (0 : Int32)))) ?_
    refine XS.aloadN X4.here hx rfl (hb hby d8_9) rfl rfl ?_
    exact k
  obtain ⟨b6, T6, h6, k6, bv6, kv6, X6, e6, E6, hS6, hk6, hZ6, hown6, A6, FC6, FV6, AV6, -, -, I6, Lt6, wh6, st6⟩ := ldcSVd X4 hx hZ2 hown2 (hw _ (mi 52 rfl)) (fun a ha => hw a (own_sa a ha)) e4 hS2 hk2 (own_frs hn0 hh N4) hkS I2 (by decide) hcn68 hcw (vs := [(.int 109), (.int 111), (.int 100), (.int 117), (.int 108), (.int 101), (.int 83), (.int 99), (.int 111), (.int 112), (.int 101)]) (z := (11 : Int32)) own_txt_com_example_calycule_calycule_config_ModuleContext_68 (by decide) rfl (g := (mkF m 10 #[rv a0] [(.ref a0)])) rfl (hb hby d8_10) (n := 44) (by decide +kernel) (by decide) (by decide) (by decide)
  have go7 := gap go5 st6
  have K6 : Keep h0 h6 [] := K2.ext E6
  have Zs6 : n0 ≤ h6.size := Nat.le_trans Zs2 E6.1
  have F8 := A2.ext E6
  have F9 := FC2.ext E6
  have F10 := FV2.ext E6
  have F11 := AV2.ext E6
  obtain ⟨_, T12, Lc12, X12, hQ12, st12⟩ := own_cv X6 hx hZ6 hown6 hml go7 (hb hby d8_12) e6 (hw _ (mi 42 rfl)) (own_site620 hw) (E_a0.keep K6) (rmed l Z aZ hw [] a0 b6 _ bv6 _ _ _ _ kv6 _ _ h6 n0 Zs6 (E_a0.keep K6) (F_a0_coder.keep K6 nin0) (F_a0_value.keep K6 nin0) A6 FC6 FV6 (own_sta_keep S_COMPACT_STRINGS K6 all0) hcs (V_w_a0_value.keep K6 nin0) AV6 hL11) (by decide) (argsL := [(.ref b6)]) (rest := []) rfl rfl rfl (lenOf pd_621 rfl) (W := 0) rfl (by decide) (by decide) (by decide : 4 + 0 ≤ _) (by decide : 104 + 0 ≤ _)
  obtain ⟨rfl, N12q, e12⟩ := hQ12
  have N12 := Fr.app N4 N12q
  have go13 : Go p.tables e below T12 (mkF m 19 #[rv a0] [(.ref a0)]) En := by
    intro t k
    refine st12 _ ?_
    refine XS.ifNo X12.here hx rfl (hb hby d8_15) rfl (XT.i0_ne_f (by decide : ((0 : Int32) = (0 : Int32)))) ?_
    refine XS.aloadN X12.here hx rfl (hb hby d8_18) rfl rfl ?_
    exact k
  obtain ⟨b14, T14, h14, k14, bv14, kv14, X14, e14, E14, hS14, hk14, hZ14, hown14, A14, FC14, FV14, AV14, -, -, I14, Lt14, wh14, st14⟩ := ldcSVd X12 hx hZ6 hown6 (hw _ (mi 53 rfl)) (fun a ha => hw a (own_sa a ha)) e12 hS6 hk6 (own_frs hn0 hh N12) hkS I6 (by decide) hcn69 hcw (vs := [(.int 97), (.int 112), (.int 112), (.int 108), (.int 105), (.int 99), (.int 97), (.int 116), (.int 105), (.int 111), (.int 110), (.int 83), (.int 99), (.int 111), (.int 112), (.int 101)]) (z := (16 : Int32)) own_txt_com_example_calycule_calycule_config_ModuleContext_69 (by decide) rfl (g := (mkF m 19 #[rv a0] [(.ref a0)])) rfl (hb hby d8_19) (n := 64) (by decide +kernel) (by decide) (by decide) (by decide)
  have go15 := gap go13 st14
  have K14 : Keep h0 h14 [] := K6.ext E14
  have Zs14 : n0 ≤ h14.size := Nat.le_trans Zs6 E14.1
  have F16 := F8.ext E14
  have F17 := F9.ext E14
  have F18 := F10.ext E14
  have F19 := F11.ext E14
  have F20 := A6.ext E14
  have F21 := FC6.ext E14
  have F22 := FV6.ext E14
  have F23 := AV6.ext E14
  obtain ⟨_, T24, Lc24, X24, hQ24, st24⟩ := own_cv X14 hx hZ14 hown14 hml go15 (hb hby d8_21) e14 (hw _ (mi 42 rfl)) (own_site620 hw) (E_a0.keep K14) (rmed l Z aZ hw [] a0 b14 _ _ _ _ _ _ _ _ _ h14 n0 Zs14 (E_a0.keep K14) (F_a0_coder.keep K14 nin0) (F_a0_value.keep K14 nin0) A14 FC14 FV14 (own_sta_keep S_COMPACT_STRINGS K14 all0) hcs (V_w_a0_value.keep K14 nin0) AV14 hL16) (by decide) (argsL := [(.ref b14)]) (rest := []) rfl rfl rfl (lenOf pd_621 rfl) (W := 0) rfl (by decide) (by decide) (by decide : 6 + 0 ≤ _) (by decide : 172 + 0 ≤ _)
  obtain ⟨rfl, N24q, e24⟩ := hQ24
  have N24 := Fr.app N12 N24q
  have go25 : Go p.tables e below T24 (mkF m 32 #[rv a0] [(.int 0)]) En := by
    intro t k
    refine st24 _ ?_
    refine XS.ifYes X24.here hx rfl (pc0 := 24) (pc' := 31) rfl (hb hby d8_24) rfl (XT.i0_eq_t (by decide : ((0 : Int32) = (0 : Int32)))) (by decide) (by decide) ?_
    refine XS.iconst X24.here hx rfl (hb hby d8_31) ?_
    exact k
  obtain ⟨fs, hr, hrun, hended, hRW⟩ := X24.leaveW hS14 (by rw [e24]; exact hk14) (v := some (.int 0)) (fun h => by rw [Bd.returns] at h; cases h) Bd.notSynchronized
  subst hEn
  refine ⟨_, _, go25 _ (Jvm.RoadKit.retOut X24 hx Bd.returns rfl (Or.inl ⟨rfl, Or.inr (Or.inl rfl), _, rfl⟩) (hb hby d8_32) hr), hrun, hended, _, _, rfl, ?_, hRW.1, hRW.2.1, hRW.2.2.1, hRW.2.2.2.mono (by decide) (by decide)⟩
  show Qiz _ _ a0 w_a0_value k_w_a0_value n_w_a0_value vs_w_a0_value s_COMPACT_STRINGS h0 _ (T24.setFrames fs).heap _
  have hE : (T24.setFrames fs).heap = h14 := e24
  rw [hE]
  exact ⟨rfl, N24, K14⟩
theorem d8_27 : decode prog_17_method_8_code 27 = .ok (.iconst 1, 1) := by decide +kernel
theorem d8_28 : decode prog_17_method_8_code 28 = .ok (.goto 4, 3) := by decide +kernel
def gib13_ret (y0 : Int32) (y1 : Int32) (y2 : Int32) (y3 : Int32) (y4 : Int32) (y5 : Int32) (y6 : Int32) (y7 : Int32) (y8 : Int32) (y9 : Int32) (y10 : Int32) (y11 : Int32) (y12 : Int32) : Int32 := (if (veq13_31 y0 y1 y2 y3 y4 y5 y6 y7 y8 y9 y10 y11 y12) = (0 : Int32) then (0 : Int32) else (1 : Int32))
def Qib13 (Z : State) (n0 : Nat) (a0 : Addr) (w_a0_value : Addr) (k_w_a0_value : ClassId) (y0 : Int32) (y1 : Int32) (y2 : Int32) (y3 : Int32) (y4 : Int32) (y5 : Int32) (y6 : Int32) (y7 : Int32) (y8 : Int32) (y9 : Int32) (y10 : Int32) (y11 : Int32) (y12 : Int32) (s_COMPACT_STRINGS : Int32) (h0 : Heap) (v : Option Value) (h : Heap) (L : List Loc) : Prop := v = some (.int (gib13_ret y0 y1 y2 y3 y4 y5 y6 y7 y8 y9 y10 y11 y12)) ∧ Fr n0 L ∧ Keep h0 h []
theorem efib13 (m : MethodId) (a0 : Addr) : entryFrame m #[(.ref a0)] 1 = mkF m 0 #[rv a0] [] := by first | (simp [entryFrame, mkF, argsToLocals, Value.category]; done) | rfl
set_option maxRecDepth 65536 in
set_option maxHeartbeats 40000000 in
theorem rmib13 (l : Launch) (Z : State) (aZ : Array Value) (hw : ∀ d ∈ tables_1, d.before aZ Z = true) (ws : List Jvm.Cond) (a0 : Addr) (w_a0_value : Addr) (k_w_a0_value : ClassId) (y0 : Int32) (y1 : Int32) (y2 : Int32) (y3 : Int32) (y4 : Int32) (y5 : Int32) (y6 : Int32) (y7 : Int32) (y8 : Int32) (y9 : Int32) (y10 : Int32) (y11 : Int32) (y12 : Int32) (s_COMPACT_STRINGS : Int32) (h0 : Heap) (n0 : Nat) (Z0 : n0 ≤ h0.size) (E_a0 : Exa Z h0 a0 "java/lang/String") (F_a0_coder : Fld Z h0 a0 "java/lang/String" "coder" "B" (.int 0)) (F_a0_value : Fld Z h0 a0 "java/lang/String" "value" "[B" (.ref w_a0_value)) (V_w_a0_value : Arv Z h0 w_a0_value k_w_a0_value .byte (13 : Int32) [(.int y0), (.int y1), (.int y2), (.int y3), (.int y4), (.int y5), (.int y6), (.int y7), (.int y8), (.int y9), (.int y10), (.int y11), (.int y12)] (.int 0)) (S_COMPACT_STRINGS : Sta Z h0 "java/lang/String" "COMPACT_STRINGS" "Z" (.int s_COMPACT_STRINGS)) (hcs : ¬ s_COMPACT_STRINGS = (0 : Int32)) (hkp : ∀ (b : Addr) (cl : Cell), Z.heap[b]? = some cl → h0[b]? = some cl) (hcn62 : Jvm.Lit.constHeld Z "com/example/calycule/calycule/config/ModuleContext" 62) (hcn68 : Jvm.Lit.constHeld Z "com/example/calycule/calycule/config/ModuleContext" 68) (hcn69 : Jvm.Lit.constHeld Z "com/example/calycule/calycule/config/ModuleContext" 69) (hcw : Jvm.Lit.compactW.before aZ Z = true) (hn0 : n0 = h0.size) :
    MetFree l (⟨"com/example/calycule/calycule/config/ModuleContext", "isImplicit", "(Ljava/lang/String;)Z"⟩ : MethodName) (head1 (Jvm.Cond.code (⟨"com/example/calycule/calycule/config/ModuleContext", "isImplicit", "(Ljava/lang/String;)Z"⟩ : MethodName) prog_17_method_8_code 1 (some .boolean) :: ws) ({ frames := 2, cells := 6, slots := 172, locals := 28 } : Room)) (fun a U => a = #[(.ref a0)] ∧ Z.Warmed39 U.vm ∧ U.heap = h0 ∧ IB Z U.vm []) (fun _ _ _ _ _ => True) (fun _ U o U' => ∃ v L, o = .returned v ∧ Qib13 Z n0 a0 w_a0_value k_w_a0_value y0 y1 y2 y3 y4 y5 y6 y7 y8 y9 y10 y11 y12 s_COMPACT_STRINGS h0 v U'.heap L ∧ ReturnedEndW U o U' L ({ frames := 2, cells := 6, slots := 172, locals := 28 } : Room).cells ({ frames := 2, cells := 6, slots := 172, locals := 28 } : Room).slots) := by
  refine MetFree.of_bodySF (plainFor_of_name pn_635) hisR ?_
  intro p e s m args below meth c s₁ Bd hml0 hP hK
  obtain ⟨rfl, hZ, hh, IB0⟩ := hP
  have hx := Bd.exec
  have hby := Bd.bytes
  have hml : c.maxLocals = 1 := hml0
  have hown : s.vm.findClass "com/example/calycule/calycule/config/ModuleContext" = some m.cls := findClass_of_methodNamed Bd.named
  have hnm := (name_of_methodNamed Bd.named Bd.method).1
  have X0 : Stand p l e ({ frames := 2, cells := 6, slots := 172, locals := 28 } : Room) (s.setVm s.vm) m #[(.ref a0)] below meth c s₁ [] 0 0 := Stand.of_body Bd
  have e0 : s₁.heap = h0 := by rw [← hh, Bd.state]; rfl
  have N0 := Fr.nil n0
  have K0 : Keep h0 h0 [] := Keep.refl _ _
  obtain ⟨En, hEn⟩ : ∃ z, z = (s₁.setTop (entryFrame m #[(.ref a0)] 1)) := ⟨_, rfl⟩
  have go0 : Go p.tables e below s₁ (mkF m 0 #[rv a0] []) En := fun t k => by subst hEn; exact castTop (efib13 m a0) k
  have hS0 : s.Since s.vm s.heap.size := (State.WarmedH.refl s).since _
  have hk0 : s.heap.size ≤ h0.size := by rw [← hh]; exact Nat.le_refl _
  have hkS : ∀ (b : Addr) (cl : Cell), Z.heap[b]? = some cl → s.heap[b]? = some cl := fun b cl q => by rw [hh]; exact hkp b cl q
  have go1 : Go p.tables e below s₁ (mkF m 1 #[rv a0] [(.ref a0)]) En := by
    intro t k
    refine go0 _ ?_
    refine XS.aloadN X0.here hx rfl (hb hby d8_0) rfl rfl ?_
    exact k
  obtain ⟨b2, T2, h2, k2, bv2, kv2, X2, e2, E2, hS2, hk2, hZ2, hown2, A2, FC2, FV2, AV2, -, -, I2, Lt2, wh2, st2⟩ := ldcSVd X0 hx hZ hown (hw _ (mi 39 rfl)) (fun a ha => hw a (own_sa a ha)) e0 hS0 hk0 (Fr.nil _) hkS IB0 (by decide) hcn62 hcw (vs := [(.int 109), (.int 111), (.int 100), (.int 117), (.int 108), (.int 101), (.int 67), (.int 111), (.int 110), (.int 116), (.int 101), (.int 120), (.int 116)]) (z := (13 : Int32)) own_txt_com_example_calycule_calycule_config_ModuleContext_62 (by decide) rfl (g := (mkF m 1 #[rv a0] [(.ref a0)])) rfl (hb hby d8_1) (n := 52) (by decide +kernel) (by decide) (by decide) (by decide)
  have go3 := gap go1 st2
  have K2 : Keep h0 h2 [] := K0.ext E2
  have Zs2 : n0 ≤ h2.size := Nat.le_trans Z0 E2.1
  obtain ⟨_, T4, Lc4, X4, hQ4, st4⟩ := own_cv X2 hx hZ2 hown2 hml go3 (hb hby d8_3) e2 (hw _ (mi 42 rfl)) (own_site620 hw) (E_a0.keep K2) (rmeq13 l Z aZ hw [] a0 b2 _ bv2 _ _ y0 y1 y2 y3 y4 y5 y6 y7 y8 y9 y10 y11 y12 kv2 h2 n0 Zs2 (E_a0.keep K2) (F_a0_coder.keep K2 nin0) (F_a0_value.keep K2 nin0) A2 FC2 FV2 (own_sta_keep S_COMPACT_STRINGS K2 all0) hcs (V_w_a0_value.keep K2 nin0) AV2) (by decide) (argsL := [(.ref b2)]) (rest := []) rfl rfl rfl (lenOf pd_621 rfl) (W := 0) rfl (by decide) (by decide) (by decide : 2 + 0 ≤ _) (by decide : 56 + 0 ≤ _)
  obtain ⟨rfl, N4q, e4⟩ := hQ4
  have N4 := Fr.app N0 N4q
  by_cases hs5 : (veq13_31 y0 y1 y2 y3 y4 y5 y6 y7 y8 y9 y10 y11 y12) = (0 : Int32)
  · have go6 : Go p.tables e below T4 (mkF m 10 #[rv a0] [(.ref a0)]) En := by
      intro t k
      refine st4 _ ?_
      refine XS.ifNo X4.here hx rfl (hb hby d8_6) rfl (XT.i0_ne_f hs5) ?_
      refine XS.aloadN X4.here hx rfl (hb hby d8_9) rfl rfl ?_
      exact k
    obtain ⟨b7, T7, h7, k7, bv7, kv7, X7, e7, E7, hS7, hk7, hZ7, hown7, A7, FC7, FV7, AV7, -, -, I7, Lt7, wh7, st7⟩ := ldcSVd X4 hx hZ2 hown2 (hw _ (mi 52 rfl)) (fun a ha => hw a (own_sa a ha)) e4 hS2 hk2 (own_frs hn0 hh N4) hkS I2 (by decide) hcn68 hcw (vs := [(.int 109), (.int 111), (.int 100), (.int 117), (.int 108), (.int 101), (.int 83), (.int 99), (.int 111), (.int 112), (.int 101)]) (z := (11 : Int32)) own_txt_com_example_calycule_calycule_config_ModuleContext_68 (by decide) rfl (g := (mkF m 10 #[rv a0] [(.ref a0)])) rfl (hb hby d8_10) (n := 44) (by decide +kernel) (by decide) (by decide) (by decide)
    have go8 := gap go6 st7
    have K7 : Keep h0 h7 [] := K2.ext E7
    have Zs7 : n0 ≤ h7.size := Nat.le_trans Zs2 E7.1
    have F9 := A2.ext E7
    have F10 := FC2.ext E7
    have F11 := FV2.ext E7
    have F12 := AV2.ext E7
    obtain ⟨_, T13, Lc13, X13, hQ13, st13⟩ := own_cv X7 hx hZ7 hown7 hml go8 (hb hby d8_12) e7 (hw _ (mi 42 rfl)) (own_site620 hw) (E_a0.keep K7) (rmed l Z aZ hw [] a0 b7 _ bv7 _ _ _ _ kv7 _ _ h7 n0 Zs7 (E_a0.keep K7) (F_a0_coder.keep K7 nin0) (F_a0_value.keep K7 nin0) A7 FC7 FV7 (own_sta_keep S_COMPACT_STRINGS K7 all0) hcs (V_w_a0_value.keep K7 nin0) AV7 (by decide)) (by decide) (argsL := [(.ref b7)]) (rest := []) rfl rfl rfl (lenOf pd_621 rfl) (W := 0) rfl (by decide) (by decide) (by decide : 4 + 0 ≤ _) (by decide : 104 + 0 ≤ _)
    obtain ⟨rfl, N13q, e13⟩ := hQ13
    have N13 := Fr.app N4 N13q
    have go14 : Go p.tables e below T13 (mkF m 19 #[rv a0] [(.ref a0)]) En := by
      intro t k
      refine st13 _ ?_
      refine XS.ifNo X13.here hx rfl (hb hby d8_15) rfl (XT.i0_ne_f (by decide : ((0 : Int32) = (0 : Int32)))) ?_
      refine XS.aloadN X13.here hx rfl (hb hby d8_18) rfl rfl ?_
      exact k
    obtain ⟨b15, T15, h15, k15, bv15, kv15, X15, e15, E15, hS15, hk15, hZ15, hown15, A15, FC15, FV15, AV15, -, -, I15, Lt15, wh15, st15⟩ := ldcSVd X13 hx hZ7 hown7 (hw _ (mi 53 rfl)) (fun a ha => hw a (own_sa a ha)) e13 hS7 hk7 (own_frs hn0 hh N13) hkS I7 (by decide) hcn69 hcw (vs := [(.int 97), (.int 112), (.int 112), (.int 108), (.int 105), (.int 99), (.int 97), (.int 116), (.int 105), (.int 111), (.int 110), (.int 83), (.int 99), (.int 111), (.int 112), (.int 101)]) (z := (16 : Int32)) own_txt_com_example_calycule_calycule_config_ModuleContext_69 (by decide) rfl (g := (mkF m 19 #[rv a0] [(.ref a0)])) rfl (hb hby d8_19) (n := 64) (by decide +kernel) (by decide) (by decide) (by decide)
    have go16 := gap go14 st15
    have K15 : Keep h0 h15 [] := K7.ext E15
    have Zs15 : n0 ≤ h15.size := Nat.le_trans Zs7 E15.1
    have F17 := F9.ext E15
    have F18 := F10.ext E15
    have F19 := F11.ext E15
    have F20 := F12.ext E15
    have F21 := A7.ext E15
    have F22 := FC7.ext E15
    have F23 := FV7.ext E15
    have F24 := AV7.ext E15
    obtain ⟨_, T25, Lc25, X25, hQ25, st25⟩ := own_cv X15 hx hZ15 hown15 hml go16 (hb hby d8_21) e15 (hw _ (mi 42 rfl)) (own_site620 hw) (E_a0.keep K15) (rmed l Z aZ hw [] a0 b15 _ _ _ _ _ _ _ _ _ h15 n0 Zs15 (E_a0.keep K15) (F_a0_coder.keep K15 nin0) (F_a0_value.keep K15 nin0) A15 FC15 FV15 (own_sta_keep S_COMPACT_STRINGS K15 all0) hcs (V_w_a0_value.keep K15 nin0) AV15 (by decide)) (by decide) (argsL := [(.ref b15)]) (rest := []) rfl rfl rfl (lenOf pd_621 rfl) (W := 0) rfl (by decide) (by decide) (by decide : 6 + 0 ≤ _) (by decide : 172 + 0 ≤ _)
    obtain ⟨rfl, N25q, e25⟩ := hQ25
    have N25 := Fr.app N13 N25q
    have go26 : Go p.tables e below T25 (mkF m 32 #[rv a0] [(.int 0)]) En := by
      intro t k
      refine st25 _ ?_
      refine XS.ifYes X25.here hx rfl (pc0 := 24) (pc' := 31) rfl (hb hby d8_24) rfl (XT.i0_eq_t (by decide : ((0 : Int32) = (0 : Int32)))) (by decide) (by decide) ?_
      refine XS.iconst X25.here hx rfl (hb hby d8_31) ?_
      exact k
    obtain ⟨fs, hr, hrun, hended, hRW⟩ := X25.leaveW hS15 (by rw [e25]; exact hk15) (v := some (.int 0)) (fun h => by rw [Bd.returns] at h; cases h) Bd.notSynchronized
    subst hEn
    refine ⟨_, _, go26 _ (Jvm.RoadKit.retOut X25 hx Bd.returns rfl (Or.inl ⟨rfl, Or.inr (Or.inl rfl), _, rfl⟩) (hb hby d8_32) hr), hrun, hended, _, _, rfl, ?_, hRW.1, hRW.2.1, hRW.2.2.1, hRW.2.2.2.mono (by decide) (by decide)⟩
    show Qib13 _ _ a0 w_a0_value k_w_a0_value y0 y1 y2 y3 y4 y5 y6 y7 y8 y9 y10 y11 y12 s_COMPACT_STRINGS h0 _ (T25.setFrames fs).heap _
    have hE : (T25.setFrames fs).heap = h15 := e25
    rw [hE]
    rw [Qib13]
    simp only [gib13_ret, if_pos hs5]
    exact ⟨(by first | rfl | trivial), N25, K15⟩
  have go27 : Go p.tables e below T4 (mkF m 32 #[rv a0] [(.int 1)]) En := by
    intro t k
    refine st4 _ ?_
    refine XS.ifYes X4.here hx rfl (pc0 := 6) (pc' := 27) rfl (hb hby d8_6) rfl (XT.i0_ne_t hs5) (by decide) (by decide) ?_
    refine XS.iconst X4.here hx rfl (hb hby d8_27) ?_
    refine XS.goto X4.here hx rfl (pc0 := 28) (pc' := 32) rfl (hb hby d8_28) (by decide) (by decide) ?_
    show Steps _ _ _ (T4.setTop (mkF m 32 #[rv a0] [(.int 1)])) _
    exact k
  obtain ⟨fs, hr, hrun, hended, hRW⟩ := X4.leaveW hS2 (by rw [e4]; exact hk2) (v := some (.int 1)) (fun h => by rw [Bd.returns] at h; cases h) Bd.notSynchronized
  subst hEn
  refine ⟨_, _, go27 _ (Jvm.RoadKit.retOut X4 hx Bd.returns rfl (Or.inl ⟨rfl, Or.inr (Or.inl rfl), _, rfl⟩) (hb hby d8_32) hr), hrun, hended, _, _, rfl, ?_, hRW.1, hRW.2.1, hRW.2.2.1, hRW.2.2.2.mono (by decide) (by decide)⟩
  show Qib13 _ _ a0 w_a0_value k_w_a0_value y0 y1 y2 y3 y4 y5 y6 y7 y8 y9 y10 y11 y12 s_COMPACT_STRINGS h0 _ (T4.setFrames fs).heap _
  have hE : (T4.setFrames fs).heap = h2 := e4
  rw [hE]
  rw [Qib13]
  simp only [gib13_ret, if_neg hs5]
  exact ⟨(by first | rfl | trivial), N4, K2⟩
def gib11_ret (y0 : Int32) (y1 : Int32) (y2 : Int32) (y3 : Int32) (y4 : Int32) (y5 : Int32) (y6 : Int32) (y7 : Int32) (y8 : Int32) (y9 : Int32) (y10 : Int32) : Int32 := (if (veq11_31 y0 y1 y2 y3 y4 y5 y6 y7 y8 y9 y10) = (0 : Int32) then (0 : Int32) else (1 : Int32))
def Qib11 (Z : State) (n0 : Nat) (a0 : Addr) (w_a0_value : Addr) (k_w_a0_value : ClassId) (y0 : Int32) (y1 : Int32) (y2 : Int32) (y3 : Int32) (y4 : Int32) (y5 : Int32) (y6 : Int32) (y7 : Int32) (y8 : Int32) (y9 : Int32) (y10 : Int32) (s_COMPACT_STRINGS : Int32) (h0 : Heap) (v : Option Value) (h : Heap) (L : List Loc) : Prop := v = some (.int (gib11_ret y0 y1 y2 y3 y4 y5 y6 y7 y8 y9 y10)) ∧ Fr n0 L ∧ Keep h0 h []
theorem efib11 (m : MethodId) (a0 : Addr) : entryFrame m #[(.ref a0)] 1 = mkF m 0 #[rv a0] [] := by first | (simp [entryFrame, mkF, argsToLocals, Value.category]; done) | rfl
set_option maxRecDepth 65536 in
set_option maxHeartbeats 40000000 in
theorem rmib11 (l : Launch) (Z : State) (aZ : Array Value) (hw : ∀ d ∈ tables_1, d.before aZ Z = true) (ws : List Jvm.Cond) (a0 : Addr) (w_a0_value : Addr) (k_w_a0_value : ClassId) (y0 : Int32) (y1 : Int32) (y2 : Int32) (y3 : Int32) (y4 : Int32) (y5 : Int32) (y6 : Int32) (y7 : Int32) (y8 : Int32) (y9 : Int32) (y10 : Int32) (s_COMPACT_STRINGS : Int32) (h0 : Heap) (n0 : Nat) (Z0 : n0 ≤ h0.size) (E_a0 : Exa Z h0 a0 "java/lang/String") (F_a0_coder : Fld Z h0 a0 "java/lang/String" "coder" "B" (.int 0)) (F_a0_value : Fld Z h0 a0 "java/lang/String" "value" "[B" (.ref w_a0_value)) (V_w_a0_value : Arv Z h0 w_a0_value k_w_a0_value .byte (11 : Int32) [(.int y0), (.int y1), (.int y2), (.int y3), (.int y4), (.int y5), (.int y6), (.int y7), (.int y8), (.int y9), (.int y10)] (.int 0)) (S_COMPACT_STRINGS : Sta Z h0 "java/lang/String" "COMPACT_STRINGS" "Z" (.int s_COMPACT_STRINGS)) (hcs : ¬ s_COMPACT_STRINGS = (0 : Int32)) (hkp : ∀ (b : Addr) (cl : Cell), Z.heap[b]? = some cl → h0[b]? = some cl) (hcn62 : Jvm.Lit.constHeld Z "com/example/calycule/calycule/config/ModuleContext" 62) (hcn68 : Jvm.Lit.constHeld Z "com/example/calycule/calycule/config/ModuleContext" 68) (hcn69 : Jvm.Lit.constHeld Z "com/example/calycule/calycule/config/ModuleContext" 69) (hcw : Jvm.Lit.compactW.before aZ Z = true) (hn0 : n0 = h0.size) :
    MetFree l (⟨"com/example/calycule/calycule/config/ModuleContext", "isImplicit", "(Ljava/lang/String;)Z"⟩ : MethodName) (head1 (Jvm.Cond.code (⟨"com/example/calycule/calycule/config/ModuleContext", "isImplicit", "(Ljava/lang/String;)Z"⟩ : MethodName) prog_17_method_8_code 1 (some .boolean) :: ws) ({ frames := 2, cells := 6, slots := 172, locals := 28 } : Room)) (fun a U => a = #[(.ref a0)] ∧ Z.Warmed39 U.vm ∧ U.heap = h0 ∧ IB Z U.vm []) (fun _ _ _ _ _ => True) (fun _ U o U' => ∃ v L, o = .returned v ∧ Qib11 Z n0 a0 w_a0_value k_w_a0_value y0 y1 y2 y3 y4 y5 y6 y7 y8 y9 y10 s_COMPACT_STRINGS h0 v U'.heap L ∧ ReturnedEndW U o U' L ({ frames := 2, cells := 6, slots := 172, locals := 28 } : Room).cells ({ frames := 2, cells := 6, slots := 172, locals := 28 } : Room).slots) := by
  refine MetFree.of_bodySF (plainFor_of_name pn_635) hisR ?_
  intro p e s m args below meth c s₁ Bd hml0 hP hK
  obtain ⟨rfl, hZ, hh, IB0⟩ := hP
  have hx := Bd.exec
  have hby := Bd.bytes
  have hml : c.maxLocals = 1 := hml0
  have hown : s.vm.findClass "com/example/calycule/calycule/config/ModuleContext" = some m.cls := findClass_of_methodNamed Bd.named
  have hnm := (name_of_methodNamed Bd.named Bd.method).1
  have X0 : Stand p l e ({ frames := 2, cells := 6, slots := 172, locals := 28 } : Room) (s.setVm s.vm) m #[(.ref a0)] below meth c s₁ [] 0 0 := Stand.of_body Bd
  have e0 : s₁.heap = h0 := by rw [← hh, Bd.state]; rfl
  have N0 := Fr.nil n0
  have K0 : Keep h0 h0 [] := Keep.refl _ _
  obtain ⟨En, hEn⟩ : ∃ z, z = (s₁.setTop (entryFrame m #[(.ref a0)] 1)) := ⟨_, rfl⟩
  have go0 : Go p.tables e below s₁ (mkF m 0 #[rv a0] []) En := fun t k => by subst hEn; exact castTop (efib11 m a0) k
  have hS0 : s.Since s.vm s.heap.size := (State.WarmedH.refl s).since _
  have hk0 : s.heap.size ≤ h0.size := by rw [← hh]; exact Nat.le_refl _
  have hkS : ∀ (b : Addr) (cl : Cell), Z.heap[b]? = some cl → s.heap[b]? = some cl := fun b cl q => by rw [hh]; exact hkp b cl q
  have go1 : Go p.tables e below s₁ (mkF m 1 #[rv a0] [(.ref a0)]) En := by
    intro t k
    refine go0 _ ?_
    refine XS.aloadN X0.here hx rfl (hb hby d8_0) rfl rfl ?_
    exact k
  obtain ⟨b2, T2, h2, k2, bv2, kv2, X2, e2, E2, hS2, hk2, hZ2, hown2, A2, FC2, FV2, AV2, -, -, I2, Lt2, wh2, st2⟩ := ldcSVd X0 hx hZ hown (hw _ (mi 39 rfl)) (fun a ha => hw a (own_sa a ha)) e0 hS0 hk0 (Fr.nil _) hkS IB0 (by decide) hcn62 hcw (vs := [(.int 109), (.int 111), (.int 100), (.int 117), (.int 108), (.int 101), (.int 67), (.int 111), (.int 110), (.int 116), (.int 101), (.int 120), (.int 116)]) (z := (13 : Int32)) own_txt_com_example_calycule_calycule_config_ModuleContext_62 (by decide) rfl (g := (mkF m 1 #[rv a0] [(.ref a0)])) rfl (hb hby d8_1) (n := 52) (by decide +kernel) (by decide) (by decide) (by decide)
  have go3 := gap go1 st2
  have K2 : Keep h0 h2 [] := K0.ext E2
  have Zs2 : n0 ≤ h2.size := Nat.le_trans Z0 E2.1
  obtain ⟨_, T4, Lc4, X4, hQ4, st4⟩ := own_cv X2 hx hZ2 hown2 hml go3 (hb hby d8_3) e2 (hw _ (mi 42 rfl)) (own_site620 hw) (E_a0.keep K2) (rmed l Z aZ hw [] a0 b2 _ bv2 _ _ _ _ kv2 _ _ h2 n0 Zs2 (E_a0.keep K2) (F_a0_coder.keep K2 nin0) (F_a0_value.keep K2 nin0) A2 FC2 FV2 (own_sta_keep S_COMPACT_STRINGS K2 all0) hcs (V_w_a0_value.keep K2 nin0) AV2 (by decide)) (by decide) (argsL := [(.ref b2)]) (rest := []) rfl rfl rfl (lenOf pd_621 rfl) (W := 0) rfl (by decide) (by decide) (by decide : 2 + 0 ≤ _) (by decide : 56 + 0 ≤ _)
  obtain ⟨rfl, N4q, e4⟩ := hQ4
  have N4 := Fr.app N0 N4q
  have go5 : Go p.tables e below T4 (mkF m 10 #[rv a0] [(.ref a0)]) En := by
    intro t k
    refine st4 _ ?_
    refine XS.ifNo X4.here hx rfl (hb hby d8_6) rfl (XT.i0_ne_f (by decide : ((0 : Int32) = (0 : Int32)))) ?_
    refine XS.aloadN X4.here hx rfl (hb hby d8_9) rfl rfl ?_
    exact k
  obtain ⟨b6, T6, h6, k6, bv6, kv6, X6, e6, E6, hS6, hk6, hZ6, hown6, A6, FC6, FV6, AV6, -, -, I6, Lt6, wh6, st6⟩ := ldcSVd X4 hx hZ2 hown2 (hw _ (mi 52 rfl)) (fun a ha => hw a (own_sa a ha)) e4 hS2 hk2 (own_frs hn0 hh N4) hkS I2 (by decide) hcn68 hcw (vs := [(.int 109), (.int 111), (.int 100), (.int 117), (.int 108), (.int 101), (.int 83), (.int 99), (.int 111), (.int 112), (.int 101)]) (z := (11 : Int32)) own_txt_com_example_calycule_calycule_config_ModuleContext_68 (by decide) rfl (g := (mkF m 10 #[rv a0] [(.ref a0)])) rfl (hb hby d8_10) (n := 44) (by decide +kernel) (by decide) (by decide) (by decide)
  have go7 := gap go5 st6
  have K6 : Keep h0 h6 [] := K2.ext E6
  have Zs6 : n0 ≤ h6.size := Nat.le_trans Zs2 E6.1
  have F8 := A2.ext E6
  have F9 := FC2.ext E6
  have F10 := FV2.ext E6
  have F11 := AV2.ext E6
  obtain ⟨_, T12, Lc12, X12, hQ12, st12⟩ := own_cv X6 hx hZ6 hown6 hml go7 (hb hby d8_12) e6 (hw _ (mi 42 rfl)) (own_site620 hw) (E_a0.keep K6) (rmeq11 l Z aZ hw [] a0 b6 _ bv6 _ _ y0 y1 y2 y3 y4 y5 y6 y7 y8 y9 y10 kv6 h6 n0 Zs6 (E_a0.keep K6) (F_a0_coder.keep K6 nin0) (F_a0_value.keep K6 nin0) A6 FC6 FV6 (own_sta_keep S_COMPACT_STRINGS K6 all0) hcs (V_w_a0_value.keep K6 nin0) AV6) (by decide) (argsL := [(.ref b6)]) (rest := []) rfl rfl rfl (lenOf pd_621 rfl) (W := 0) rfl (by decide) (by decide) (by decide : 4 + 0 ≤ _) (by decide : 104 + 0 ≤ _)
  obtain ⟨rfl, N12q, e12⟩ := hQ12
  have N12 := Fr.app N4 N12q
  by_cases hs13 : (veq11_31 y0 y1 y2 y3 y4 y5 y6 y7 y8 y9 y10) = (0 : Int32)
  · have go14 : Go p.tables e below T12 (mkF m 19 #[rv a0] [(.ref a0)]) En := by
      intro t k
      refine st12 _ ?_
      refine XS.ifNo X12.here hx rfl (hb hby d8_15) rfl (XT.i0_ne_f hs13) ?_
      refine XS.aloadN X12.here hx rfl (hb hby d8_18) rfl rfl ?_
      exact k
    obtain ⟨b15, T15, h15, k15, bv15, kv15, X15, e15, E15, hS15, hk15, hZ15, hown15, A15, FC15, FV15, AV15, -, -, I15, Lt15, wh15, st15⟩ := ldcSVd X12 hx hZ6 hown6 (hw _ (mi 53 rfl)) (fun a ha => hw a (own_sa a ha)) e12 hS6 hk6 (own_frs hn0 hh N12) hkS I6 (by decide) hcn69 hcw (vs := [(.int 97), (.int 112), (.int 112), (.int 108), (.int 105), (.int 99), (.int 97), (.int 116), (.int 105), (.int 111), (.int 110), (.int 83), (.int 99), (.int 111), (.int 112), (.int 101)]) (z := (16 : Int32)) own_txt_com_example_calycule_calycule_config_ModuleContext_69 (by decide) rfl (g := (mkF m 19 #[rv a0] [(.ref a0)])) rfl (hb hby d8_19) (n := 64) (by decide +kernel) (by decide) (by decide) (by decide)
    have go16 := gap go14 st15
    have K15 : Keep h0 h15 [] := K6.ext E15
    have Zs15 : n0 ≤ h15.size := Nat.le_trans Zs6 E15.1
    have F17 := F8.ext E15
    have F18 := F9.ext E15
    have F19 := F10.ext E15
    have F20 := F11.ext E15
    have F21 := A6.ext E15
    have F22 := FC6.ext E15
    have F23 := FV6.ext E15
    have F24 := AV6.ext E15
    obtain ⟨_, T25, Lc25, X25, hQ25, st25⟩ := own_cv X15 hx hZ15 hown15 hml go16 (hb hby d8_21) e15 (hw _ (mi 42 rfl)) (own_site620 hw) (E_a0.keep K15) (rmed l Z aZ hw [] a0 b15 _ _ _ _ _ _ _ _ _ h15 n0 Zs15 (E_a0.keep K15) (F_a0_coder.keep K15 nin0) (F_a0_value.keep K15 nin0) A15 FC15 FV15 (own_sta_keep S_COMPACT_STRINGS K15 all0) hcs (V_w_a0_value.keep K15 nin0) AV15 (by decide)) (by decide) (argsL := [(.ref b15)]) (rest := []) rfl rfl rfl (lenOf pd_621 rfl) (W := 0) rfl (by decide) (by decide) (by decide : 6 + 0 ≤ _) (by decide : 172 + 0 ≤ _)
    obtain ⟨rfl, N25q, e25⟩ := hQ25
    have N25 := Fr.app N12 N25q
    have go26 : Go p.tables e below T25 (mkF m 32 #[rv a0] [(.int 0)]) En := by
      intro t k
      refine st25 _ ?_
      refine XS.ifYes X25.here hx rfl (pc0 := 24) (pc' := 31) rfl (hb hby d8_24) rfl (XT.i0_eq_t (by decide : ((0 : Int32) = (0 : Int32)))) (by decide) (by decide) ?_
      refine XS.iconst X25.here hx rfl (hb hby d8_31) ?_
      exact k
    obtain ⟨fs, hr, hrun, hended, hRW⟩ := X25.leaveW hS15 (by rw [e25]; exact hk15) (v := some (.int 0)) (fun h => by rw [Bd.returns] at h; cases h) Bd.notSynchronized
    subst hEn
    refine ⟨_, _, go26 _ (Jvm.RoadKit.retOut X25 hx Bd.returns rfl (Or.inl ⟨rfl, Or.inr (Or.inl rfl), _, rfl⟩) (hb hby d8_32) hr), hrun, hended, _, _, rfl, ?_, hRW.1, hRW.2.1, hRW.2.2.1, hRW.2.2.2.mono (by decide) (by decide)⟩
    show Qib11 _ _ a0 w_a0_value k_w_a0_value y0 y1 y2 y3 y4 y5 y6 y7 y8 y9 y10 s_COMPACT_STRINGS h0 _ (T25.setFrames fs).heap _
    have hE : (T25.setFrames fs).heap = h15 := e25
    rw [hE]
    rw [Qib11]
    simp only [gib11_ret, if_pos hs13]
    exact ⟨(by first | rfl | trivial), N25, K15⟩
  have go27 : Go p.tables e below T12 (mkF m 32 #[rv a0] [(.int 1)]) En := by
    intro t k
    refine st12 _ ?_
    refine XS.ifYes X12.here hx rfl (pc0 := 15) (pc' := 27) rfl (hb hby d8_15) rfl (XT.i0_ne_t hs13) (by decide) (by decide) ?_
    refine XS.iconst X12.here hx rfl (hb hby d8_27) ?_
    refine XS.goto X12.here hx rfl (pc0 := 28) (pc' := 32) rfl (hb hby d8_28) (by decide) (by decide) ?_
    show Steps _ _ _ (T12.setTop (mkF m 32 #[rv a0] [(.int 1)])) _
    exact k
  obtain ⟨fs, hr, hrun, hended, hRW⟩ := X12.leaveW hS6 (by rw [e12]; exact hk6) (v := some (.int 1)) (fun h => by rw [Bd.returns] at h; cases h) Bd.notSynchronized
  subst hEn
  refine ⟨_, _, go27 _ (Jvm.RoadKit.retOut X12 hx Bd.returns rfl (Or.inl ⟨rfl, Or.inr (Or.inl rfl), _, rfl⟩) (hb hby d8_32) hr), hrun, hended, _, _, rfl, ?_, hRW.1, hRW.2.1, hRW.2.2.1, hRW.2.2.2.mono (by decide) (by decide)⟩
  show Qib11 _ _ a0 w_a0_value k_w_a0_value y0 y1 y2 y3 y4 y5 y6 y7 y8 y9 y10 s_COMPACT_STRINGS h0 _ (T12.setFrames fs).heap _
  have hE : (T12.setFrames fs).heap = h6 := e12
  rw [hE]
  rw [Qib11]
  simp only [gib11_ret, if_neg hs13]
  exact ⟨(by first | rfl | trivial), N12, K6⟩
def bib16_27 (y0 : Int32) (y1 : Int32) (y2 : Int32) (y3 : Int32) (y4 : Int32) (y5 : Int32) (y6 : Int32) (y7 : Int32) (y8 : Int32) (y9 : Int32) (y10 : Int32) (y11 : Int32) (y12 : Int32) (y13 : Int32) (y14 : Int32) (y15 : Int32) : Int32 := (if (veq16_31 y0 y1 y2 y3 y4 y5 y6 y7 y8 y9 y10 y11 y12 y13 y14 y15) = (0 : Int32) then (0 : Int32) else (1 : Int32))
def vib16_30 (y0 : Int32) (y1 : Int32) (y2 : Int32) (y3 : Int32) (y4 : Int32) (y5 : Int32) (y6 : Int32) (y7 : Int32) (y8 : Int32) (y9 : Int32) (y10 : Int32) (y11 : Int32) (y12 : Int32) (y13 : Int32) (y14 : Int32) (y15 : Int32) : Int32 := (bib16_27 y0 y1 y2 y3 y4 y5 y6 y7 y8 y9 y10 y11 y12 y13 y14 y15)
def Qib16 (Z : State) (n0 : Nat) (a0 : Addr) (w_a0_value : Addr) (k_w_a0_value : ClassId) (y0 : Int32) (y1 : Int32) (y2 : Int32) (y3 : Int32) (y4 : Int32) (y5 : Int32) (y6 : Int32) (y7 : Int32) (y8 : Int32) (y9 : Int32) (y10 : Int32) (y11 : Int32) (y12 : Int32) (y13 : Int32) (y14 : Int32) (y15 : Int32) (s_COMPACT_STRINGS : Int32) (h0 : Heap) (v : Option Value) (h : Heap) (L : List Loc) : Prop := v = some (.int (vib16_30 y0 y1 y2 y3 y4 y5 y6 y7 y8 y9 y10 y11 y12 y13 y14 y15)) ∧ Fr n0 L ∧ Keep h0 h []
theorem efib16 (m : MethodId) (a0 : Addr) : entryFrame m #[(.ref a0)] 1 = mkF m 0 #[rv a0] [] := by first | (simp [entryFrame, mkF, argsToLocals, Value.category]; done) | rfl
set_option maxRecDepth 65536 in
set_option maxHeartbeats 40000000 in
theorem rmib16 (l : Launch) (Z : State) (aZ : Array Value) (hw : ∀ d ∈ tables_1, d.before aZ Z = true) (ws : List Jvm.Cond) (a0 : Addr) (w_a0_value : Addr) (k_w_a0_value : ClassId) (y0 : Int32) (y1 : Int32) (y2 : Int32) (y3 : Int32) (y4 : Int32) (y5 : Int32) (y6 : Int32) (y7 : Int32) (y8 : Int32) (y9 : Int32) (y10 : Int32) (y11 : Int32) (y12 : Int32) (y13 : Int32) (y14 : Int32) (y15 : Int32) (s_COMPACT_STRINGS : Int32) (h0 : Heap) (n0 : Nat) (Z0 : n0 ≤ h0.size) (E_a0 : Exa Z h0 a0 "java/lang/String") (F_a0_coder : Fld Z h0 a0 "java/lang/String" "coder" "B" (.int 0)) (F_a0_value : Fld Z h0 a0 "java/lang/String" "value" "[B" (.ref w_a0_value)) (V_w_a0_value : Arv Z h0 w_a0_value k_w_a0_value .byte (16 : Int32) [(.int y0), (.int y1), (.int y2), (.int y3), (.int y4), (.int y5), (.int y6), (.int y7), (.int y8), (.int y9), (.int y10), (.int y11), (.int y12), (.int y13), (.int y14), (.int y15)] (.int 0)) (S_COMPACT_STRINGS : Sta Z h0 "java/lang/String" "COMPACT_STRINGS" "Z" (.int s_COMPACT_STRINGS)) (hcs : ¬ s_COMPACT_STRINGS = (0 : Int32)) (hkp : ∀ (b : Addr) (cl : Cell), Z.heap[b]? = some cl → h0[b]? = some cl) (hcn62 : Jvm.Lit.constHeld Z "com/example/calycule/calycule/config/ModuleContext" 62) (hcn68 : Jvm.Lit.constHeld Z "com/example/calycule/calycule/config/ModuleContext" 68) (hcn69 : Jvm.Lit.constHeld Z "com/example/calycule/calycule/config/ModuleContext" 69) (hcw : Jvm.Lit.compactW.before aZ Z = true) (hn0 : n0 = h0.size) :
    MetFree l (⟨"com/example/calycule/calycule/config/ModuleContext", "isImplicit", "(Ljava/lang/String;)Z"⟩ : MethodName) (head1 (Jvm.Cond.code (⟨"com/example/calycule/calycule/config/ModuleContext", "isImplicit", "(Ljava/lang/String;)Z"⟩ : MethodName) prog_17_method_8_code 1 (some .boolean) :: ws) ({ frames := 2, cells := 6, slots := 172, locals := 28 } : Room)) (fun a U => a = #[(.ref a0)] ∧ Z.Warmed39 U.vm ∧ U.heap = h0 ∧ IB Z U.vm []) (fun _ _ _ _ _ => True) (fun _ U o U' => ∃ v L, o = .returned v ∧ Qib16 Z n0 a0 w_a0_value k_w_a0_value y0 y1 y2 y3 y4 y5 y6 y7 y8 y9 y10 y11 y12 y13 y14 y15 s_COMPACT_STRINGS h0 v U'.heap L ∧ ReturnedEndW U o U' L ({ frames := 2, cells := 6, slots := 172, locals := 28 } : Room).cells ({ frames := 2, cells := 6, slots := 172, locals := 28 } : Room).slots) := by
  refine MetFree.of_bodySF (plainFor_of_name pn_635) hisR ?_
  intro p e s m args below meth c s₁ Bd hml0 hP hK
  obtain ⟨rfl, hZ, hh, IB0⟩ := hP
  have hx := Bd.exec
  have hby := Bd.bytes
  have hml : c.maxLocals = 1 := hml0
  have hown : s.vm.findClass "com/example/calycule/calycule/config/ModuleContext" = some m.cls := findClass_of_methodNamed Bd.named
  have hnm := (name_of_methodNamed Bd.named Bd.method).1
  have X0 : Stand p l e ({ frames := 2, cells := 6, slots := 172, locals := 28 } : Room) (s.setVm s.vm) m #[(.ref a0)] below meth c s₁ [] 0 0 := Stand.of_body Bd
  have e0 : s₁.heap = h0 := by rw [← hh, Bd.state]; rfl
  have N0 := Fr.nil n0
  have K0 : Keep h0 h0 [] := Keep.refl _ _
  obtain ⟨En, hEn⟩ : ∃ z, z = (s₁.setTop (entryFrame m #[(.ref a0)] 1)) := ⟨_, rfl⟩
  have go0 : Go p.tables e below s₁ (mkF m 0 #[rv a0] []) En := fun t k => by subst hEn; exact castTop (efib16 m a0) k
  have hS0 : s.Since s.vm s.heap.size := (State.WarmedH.refl s).since _
  have hk0 : s.heap.size ≤ h0.size := by rw [← hh]; exact Nat.le_refl _
  have hkS : ∀ (b : Addr) (cl : Cell), Z.heap[b]? = some cl → s.heap[b]? = some cl := fun b cl q => by rw [hh]; exact hkp b cl q
  have go1 : Go p.tables e below s₁ (mkF m 1 #[rv a0] [(.ref a0)]) En := by
    intro t k
    refine go0 _ ?_
    refine XS.aloadN X0.here hx rfl (hb hby d8_0) rfl rfl ?_
    exact k
  obtain ⟨b2, T2, h2, k2, bv2, kv2, X2, e2, E2, hS2, hk2, hZ2, hown2, A2, FC2, FV2, AV2, -, -, I2, Lt2, wh2, st2⟩ := ldcSVd X0 hx hZ hown (hw _ (mi 39 rfl)) (fun a ha => hw a (own_sa a ha)) e0 hS0 hk0 (Fr.nil _) hkS IB0 (by decide) hcn62 hcw (vs := [(.int 109), (.int 111), (.int 100), (.int 117), (.int 108), (.int 101), (.int 67), (.int 111), (.int 110), (.int 116), (.int 101), (.int 120), (.int 116)]) (z := (13 : Int32)) own_txt_com_example_calycule_calycule_config_ModuleContext_62 (by decide) rfl (g := (mkF m 1 #[rv a0] [(.ref a0)])) rfl (hb hby d8_1) (n := 52) (by decide +kernel) (by decide) (by decide) (by decide)
  have go3 := gap go1 st2
  have K2 : Keep h0 h2 [] := K0.ext E2
  have Zs2 : n0 ≤ h2.size := Nat.le_trans Z0 E2.1
  obtain ⟨_, T4, Lc4, X4, hQ4, st4⟩ := own_cv X2 hx hZ2 hown2 hml go3 (hb hby d8_3) e2 (hw _ (mi 42 rfl)) (own_site620 hw) (E_a0.keep K2) (rmed l Z aZ hw [] a0 b2 _ bv2 _ _ _ _ kv2 _ _ h2 n0 Zs2 (E_a0.keep K2) (F_a0_coder.keep K2 nin0) (F_a0_value.keep K2 nin0) A2 FC2 FV2 (own_sta_keep S_COMPACT_STRINGS K2 all0) hcs (V_w_a0_value.keep K2 nin0) AV2 (by decide)) (by decide) (argsL := [(.ref b2)]) (rest := []) rfl rfl rfl (lenOf pd_621 rfl) (W := 0) rfl (by decide) (by decide) (by decide : 2 + 0 ≤ _) (by decide : 56 + 0 ≤ _)
  obtain ⟨rfl, N4q, e4⟩ := hQ4
  have N4 := Fr.app N0 N4q
  have go5 : Go p.tables e below T4 (mkF m 10 #[rv a0] [(.ref a0)]) En := by
    intro t k
    refine st4 _ ?_
    refine XS.ifNo X4.here hx rfl (hb hby d8_6) rfl (XT.i0_ne_f (by decide : ((0 : Int32) = (0 : Int32)))) ?_
    refine XS.aloadN X4.here hx rfl (hb hby d8_9) rfl rfl ?_
    exact k
  obtain ⟨b6, T6, h6, k6, bv6, kv6, X6, e6, E6, hS6, hk6, hZ6, hown6, A6, FC6, FV6, AV6, -, -, I6, Lt6, wh6, st6⟩ := ldcSVd X4 hx hZ2 hown2 (hw _ (mi 52 rfl)) (fun a ha => hw a (own_sa a ha)) e4 hS2 hk2 (own_frs hn0 hh N4) hkS I2 (by decide) hcn68 hcw (vs := [(.int 109), (.int 111), (.int 100), (.int 117), (.int 108), (.int 101), (.int 83), (.int 99), (.int 111), (.int 112), (.int 101)]) (z := (11 : Int32)) own_txt_com_example_calycule_calycule_config_ModuleContext_68 (by decide) rfl (g := (mkF m 10 #[rv a0] [(.ref a0)])) rfl (hb hby d8_10) (n := 44) (by decide +kernel) (by decide) (by decide) (by decide)
  have go7 := gap go5 st6
  have K6 : Keep h0 h6 [] := K2.ext E6
  have Zs6 : n0 ≤ h6.size := Nat.le_trans Zs2 E6.1
  have F8 := A2.ext E6
  have F9 := FC2.ext E6
  have F10 := FV2.ext E6
  have F11 := AV2.ext E6
  obtain ⟨_, T12, Lc12, X12, hQ12, st12⟩ := own_cv X6 hx hZ6 hown6 hml go7 (hb hby d8_12) e6 (hw _ (mi 42 rfl)) (own_site620 hw) (E_a0.keep K6) (rmed l Z aZ hw [] a0 b6 _ bv6 _ _ _ _ kv6 _ _ h6 n0 Zs6 (E_a0.keep K6) (F_a0_coder.keep K6 nin0) (F_a0_value.keep K6 nin0) A6 FC6 FV6 (own_sta_keep S_COMPACT_STRINGS K6 all0) hcs (V_w_a0_value.keep K6 nin0) AV6 (by decide)) (by decide) (argsL := [(.ref b6)]) (rest := []) rfl rfl rfl (lenOf pd_621 rfl) (W := 0) rfl (by decide) (by decide) (by decide : 4 + 0 ≤ _) (by decide : 104 + 0 ≤ _)
  obtain ⟨rfl, N12q, e12⟩ := hQ12
  have N12 := Fr.app N4 N12q
  have go13 : Go p.tables e below T12 (mkF m 19 #[rv a0] [(.ref a0)]) En := by
    intro t k
    refine st12 _ ?_
    refine XS.ifNo X12.here hx rfl (hb hby d8_15) rfl (XT.i0_ne_f (by decide : ((0 : Int32) = (0 : Int32)))) ?_
    refine XS.aloadN X12.here hx rfl (hb hby d8_18) rfl rfl ?_
    exact k
  obtain ⟨b14, T14, h14, k14, bv14, kv14, X14, e14, E14, hS14, hk14, hZ14, hown14, A14, FC14, FV14, AV14, -, -, I14, Lt14, wh14, st14⟩ := ldcSVd X12 hx hZ6 hown6 (hw _ (mi 53 rfl)) (fun a ha => hw a (own_sa a ha)) e12 hS6 hk6 (own_frs hn0 hh N12) hkS I6 (by decide) hcn69 hcw (vs := [(.int 97), (.int 112), (.int 112), (.int 108), (.int 105), (.int 99), (.int 97), (.int 116), (.int 105), (.int 111), (.int 110), (.int 83), (.int 99), (.int 111), (.int 112), (.int 101)]) (z := (16 : Int32)) own_txt_com_example_calycule_calycule_config_ModuleContext_69 (by decide) rfl (g := (mkF m 19 #[rv a0] [(.ref a0)])) rfl (hb hby d8_19) (n := 64) (by decide +kernel) (by decide) (by decide) (by decide)
  have go15 := gap go13 st14
  have K14 : Keep h0 h14 [] := K6.ext E14
  have Zs14 : n0 ≤ h14.size := Nat.le_trans Zs6 E14.1
  have F16 := F8.ext E14
  have F17 := F9.ext E14
  have F18 := F10.ext E14
  have F19 := F11.ext E14
  have F20 := A6.ext E14
  have F21 := FC6.ext E14
  have F22 := FV6.ext E14
  have F23 := AV6.ext E14
  obtain ⟨_, T24, Lc24, X24, hQ24, st24⟩ := own_cv X14 hx hZ14 hown14 hml go15 (hb hby d8_21) e14 (hw _ (mi 42 rfl)) (own_site620 hw) (E_a0.keep K14) (rmeq16 l Z aZ hw [] a0 b14 _ _ _ _ y0 y1 y2 y3 y4 y5 y6 y7 y8 y9 y10 y11 y12 y13 y14 y15 _ h14 n0 Zs14 (E_a0.keep K14) (F_a0_coder.keep K14 nin0) (F_a0_value.keep K14 nin0) A14 FC14 FV14 (own_sta_keep S_COMPACT_STRINGS K14 all0) hcs (V_w_a0_value.keep K14 nin0) AV14) (by decide) (argsL := [(.ref b14)]) (rest := []) rfl rfl rfl (lenOf pd_621 rfl) (W := 0) rfl (by decide) (by decide) (by decide : 6 + 0 ≤ _) (by decide : 172 + 0 ≤ _)
  obtain ⟨rfl, N24q, e24⟩ := hQ24
  have N24 := Fr.app N12 N24q
  have go26 : Go p.tables e below T24 (mkF m 32 #[rv a0] [(.int (bib16_27 y0 y1 y2 y3 y4 y5 y6 y7 y8 y9 y10 y11 y12 y13 y14 y15))]) En := by
    intro t k
    have k : Steps p.tables e below (T24.setTop (mkF m  32 #[rv a0] [(.int (bib16_27 y0 y1 y2 y3 y4 y5 y6 y7 y8 y9 y10 y11 y12 y13 y14 y15))])) t := k
    refine st24 _ ?_
    by_cases hc25 : (veq16_31 y0 y1 y2 y3 y4 y5 y6 y7 y8 y9 y10 y11 y12 y13 y14 y15) = (0 : Int32)
    · refine XS.ifYes X24.here hx rfl (pc0 := 24) (pc' := 31) rfl (hb hby d8_24) rfl (XT.i0_eq_t hc25) (by decide) (by decide) ?_
      refine XS.iconst X24.here hx rfl (hb hby d8_31) ?_
      have hq28 : (bib16_27 y0 y1 y2 y3 y4 y5 y6 y7 y8 y9 y10 y11 y12 y13 y14 y15) = (0 : Int32) := by rw [bib16_27, if_pos hc25]
      rw [hq28] at k
      exact k
    · refine XS.ifNo X24.here hx rfl (hb hby d8_24) rfl (XT.i0_eq_f hc25) ?_
      refine XS.iconst X24.here hx rfl (hb hby d8_27) ?_
      refine XS.goto X24.here hx rfl (pc0 := 28) (pc' := 32) rfl (hb hby d8_28) (by decide) (by decide) ?_
      have hq29 : (bib16_27 y0 y1 y2 y3 y4 y5 y6 y7 y8 y9 y10 y11 y12 y13 y14 y15) = (1 : Int32) := by rw [bib16_27, if_neg hc25]
      rw [hq29] at k
      exact k
  have go31 : Go p.tables e below T24 (mkF m 32 #[rv a0] [(.int (vib16_30 y0 y1 y2 y3 y4 y5 y6 y7 y8 y9 y10 y11 y12 y13 y14 y15))]) En := by
    intro t k
    refine go26 _ ?_
    exact k
  obtain ⟨fs, hr, hrun, hended, hRW⟩ := X24.leaveW hS14 (by rw [e24]; exact hk14) (v := some (.int (vib16_30 y0 y1 y2 y3 y4 y5 y6 y7 y8 y9 y10 y11 y12 y13 y14 y15))) (fun h => by rw [Bd.returns] at h; cases h) Bd.notSynchronized
  subst hEn
  refine ⟨_, _, go31 _ (Jvm.RoadKit.retOut X24 hx Bd.returns (own_nz (by simp only [vib16_30, bib16_27]; (repeat' split) <;> first | exact Or.inl rfl | exact Or.inr rfl)) (Or.inl ⟨rfl, Or.inr (Or.inl rfl), _, rfl⟩) (hb hby d8_32) hr), hrun, hended, _, _, rfl, ?_, hRW.1, hRW.2.1, hRW.2.2.1, hRW.2.2.2.mono (by decide) (by decide)⟩
  show Qib16 _ _ a0 w_a0_value k_w_a0_value y0 y1 y2 y3 y4 y5 y6 y7 y8 y9 y10 y11 y12 y13 y14 y15 s_COMPACT_STRINGS h0 _ (T24.setFrames fs).heap _
  have hE : (T24.setFrames fs).heap = h14 := e24
  rw [hE]
  exact ⟨rfl, N24, K14⟩
theorem own_dead3m (x : Int32) (h0 : ¬ (x &&& 2147483647) % 3 = 0) (h1 : ¬ (x &&& 2147483647) % 3 = 1) (h2 : ¬ (x &&& 2147483647) % 3 = 2) : False := by
  have hm := c_mask x 2147483647 31 (by decide) (by decide)
  have hr := (c_irem (x &&& 2147483647) 3 3 (by decide)).1 (by omega)
  have g0 := own_ne 0 rfl h0
  have g1 := own_ne 1 rfl h1
  have g2 := own_ne 2 rfl h2
  omega
theorem own_dead4 (x : Int32) (h3 : ¬ (x &&& 3) = 3) (h0 : ¬ (x &&& 3) = 0) (h1 : ¬ (x &&& 3) = 1) (h2 : ¬ (x &&& 3) = 2) : False := by
  have hm := c_mask x 3 2 (by decide) (by decide)
  have g0 := own_ne 0 rfl h0
  have g1 := own_ne 1 rfl h1
  have g2 := own_ne 2 rfl h2
  have g3 := own_ne 3 rfl h3
  omega
theorem own_tn {x z : Int32} (h : ¬ x < 0 ∧ x < z) : x.toNatClampNeg < z.toNatClampNeg := by
  have a := nat_of h.1
  have l := Int32.lt_iff_toInt_lt.mp h.2
  have b : ¬ z < 0 := fun q => by
    rw [Int32.lt_iff_toInt_lt] at q; have e : (0 : Int32).toInt = 0 := rfl
    omega
  have d := nat_of b
  omega
theorem own_cr (x : Int32) (h0 : 0 ≤ x.toInt) (h1 : x.toInt ≤ 255) : ¬ x.toUInt32.toUInt16.toUInt32.toInt32 < 0 ∧ ¬ (255 : Int32) < x.toUInt32.toUInt16.toUInt32.toInt32 := by
  have a := c_i2c x
  have e : (255 : Int32).toInt = 255 := rfl
  have e0 : (0 : Int32).toInt = 0 := rfl
  simp only [Int32.lt_iff_toInt_lt]; omega
theorem own_p255 (x : Int32) : 0 ≤ (x &&& 255).toUInt32.toUInt16.toUInt32.toInt32.toInt ∧ (x &&& 255).toUInt32.toUInt16.toUInt32.toInt32.toInt ≤ 255 := by
  have h := c_mask x 255 8 (by decide) (by decide)
  have a := c_i2c (x &&& 255)
  omega
theorem own_sxr (p v i l : Int32) (hv : ¬ v < 0 ∧ ¬ (255 : Int32) < v) (hl : ¬ l < 0 ∧ ¬ (255 : Int32) < l) : ¬ sx p v i l < 0 ∧ ¬ (255 : Int32) < sx p v i l := by unfold sx; split <;> assumption
theorem own_bq (c l : Int32) (h0 : 0 ≤ c.toInt) (h1 : c.toInt ≤ 255) (l0 : 0 ≤ l.toInt) (l1 : l.toInt < 128) : (c.toUInt32.toUInt16.toUInt32.toInt32.toInt8.toInt32 = l) = (c = l) := by
  have a := c_i2c c
  have b := c_i2b c.toUInt32.toUInt16.toUInt32.toInt32
  rw [← Int32.toInt_inj, ← Int32.toInt_inj]
  exact propext ⟨fun q => by omega, fun q => by omega⟩
theorem own_in13 (x : Int32) : ((x &&& (2147483647 : Int32)) % (13 : Int32)) = (0 : Int32) ∨ ((x &&& (2147483647 : Int32)) % (13 : Int32)) = (1 : Int32) ∨ ((x &&& (2147483647 : Int32)) % (13 : Int32)) = (2 : Int32) ∨ ((x &&& (2147483647 : Int32)) % (13 : Int32)) = (3 : Int32) ∨ ((x &&& (2147483647 : Int32)) % (13 : Int32)) = (4 : Int32) ∨ ((x &&& (2147483647 : Int32)) % (13 : Int32)) = (5 : Int32) ∨ ((x &&& (2147483647 : Int32)) % (13 : Int32)) = (6 : Int32) ∨ ((x &&& (2147483647 : Int32)) % (13 : Int32)) = (7 : Int32) ∨ ((x &&& (2147483647 : Int32)) % (13 : Int32)) = (8 : Int32) ∨ ((x &&& (2147483647 : Int32)) % (13 : Int32)) = (9 : Int32) ∨ ((x &&& (2147483647 : Int32)) % (13 : Int32)) = (10 : Int32) ∨ ((x &&& (2147483647 : Int32)) % (13 : Int32)) = (11 : Int32) ∨ ((x &&& (2147483647 : Int32)) % (13 : Int32)) = (12 : Int32) := by
  have hm := c_mask x 2147483647 31 (by decide) (by decide)
  have hr := (c_irem (x &&& 2147483647) 13 13 rfl).1 (by omega)
  simp only [← Int32.toInt_inj]
  have e0 : (0 : Int32).toInt = 0 := rfl
  have e1 : (1 : Int32).toInt = 1 := rfl
  have e2 : (2 : Int32).toInt = 2 := rfl
  have e3 : (3 : Int32).toInt = 3 := rfl
  have e4 : (4 : Int32).toInt = 4 := rfl
  have e5 : (5 : Int32).toInt = 5 := rfl
  have e6 : (6 : Int32).toInt = 6 := rfl
  have e7 : (7 : Int32).toInt = 7 := rfl
  have e8 : (8 : Int32).toInt = 8 := rfl
  have e9 : (9 : Int32).toInt = 9 := rfl
  have e10 : (10 : Int32).toInt = 10 := rfl
  have e11 : (11 : Int32).toInt = 11 := rfl
  have e12 : (12 : Int32).toInt = 12 := rfl
  omega
theorem own_bb13 (x : Int32) : ¬ ((x &&& (2147483647 : Int32)) % (13 : Int32)) < 0 ∧ ((x &&& (2147483647 : Int32)) % (13 : Int32)) < (13 : Int32) := by
  have hm := c_mask x 2147483647 31 (by decide) (by decide)
  have hr := (c_irem (x &&& 2147483647) 13 13 rfl).1 (by omega)
  simp only [Int32.lt_iff_toInt_lt]
  have e0 : (0 : Int32).toInt = 0 := rfl
  have e1 : (13 : Int32).toInt = 13 := rfl
  omega
theorem own_set13 (p v : Int32) (h : p = (0 : Int32) ∨ p = (1 : Int32) ∨ p = (2 : Int32) ∨ p = (3 : Int32) ∨ p = (4 : Int32) ∨ p = (5 : Int32) ∨ p = (6 : Int32) ∨ p = (7 : Int32) ∨ p = (8 : Int32) ∨ p = (9 : Int32) ∨ p = (10 : Int32) ∨ p = (11 : Int32) ∨ p = (12 : Int32)) : ([(.int (109 : Int32)), (.int (111 : Int32)), (.int (100 : Int32)), (.int (117 : Int32)), (.int (108 : Int32)), (.int (101 : Int32)), (.int (67 : Int32)), (.int (111 : Int32)), (.int (110 : Int32)), (.int (116 : Int32)), (.int (101 : Int32)), (.int (120 : Int32)), (.int (116 : Int32))] : List Value).set p.toNatClampNeg (.int v) = [(.int (sx p v (0 : Int32) (109 : Int32))), (.int (sx p v (1 : Int32) (111 : Int32))), (.int (sx p v (2 : Int32) (100 : Int32))), (.int (sx p v (3 : Int32) (117 : Int32))), (.int (sx p v (4 : Int32) (108 : Int32))), (.int (sx p v (5 : Int32) (101 : Int32))), (.int (sx p v (6 : Int32) (67 : Int32))), (.int (sx p v (7 : Int32) (111 : Int32))), (.int (sx p v (8 : Int32) (110 : Int32))), (.int (sx p v (9 : Int32) (116 : Int32))), (.int (sx p v (10 : Int32) (101 : Int32))), (.int (sx p v (11 : Int32) (120 : Int32))), (.int (sx p v (12 : Int32) (116 : Int32)))] := by
  rcases h with rfl | rfl | rfl | rfl | rfl | rfl | rfl | rfl | rfl | rfl | rfl | rfl | rfl <;> first | rfl | simp [sx]
theorem own_in11 (x : Int32) : ((x &&& (2147483647 : Int32)) % (11 : Int32)) = (0 : Int32) ∨ ((x &&& (2147483647 : Int32)) % (11 : Int32)) = (1 : Int32) ∨ ((x &&& (2147483647 : Int32)) % (11 : Int32)) = (2 : Int32) ∨ ((x &&& (2147483647 : Int32)) % (11 : Int32)) = (3 : Int32) ∨ ((x &&& (2147483647 : Int32)) % (11 : Int32)) = (4 : Int32) ∨ ((x &&& (2147483647 : Int32)) % (11 : Int32)) = (5 : Int32) ∨ ((x &&& (2147483647 : Int32)) % (11 : Int32)) = (6 : Int32) ∨ ((x &&& (2147483647 : Int32)) % (11 : Int32)) = (7 : Int32) ∨ ((x &&& (2147483647 : Int32)) % (11 : Int32)) = (8 : Int32) ∨ ((x &&& (2147483647 : Int32)) % (11 : Int32)) = (9 : Int32) ∨ ((x &&& (2147483647 : Int32)) % (11 : Int32)) = (10 : Int32) := by
  have hm := c_mask x 2147483647 31 (by decide) (by decide)
  have hr := (c_irem (x &&& 2147483647) 11 11 rfl).1 (by omega)
  simp only [← Int32.toInt_inj]
  have e0 : (0 : Int32).toInt = 0 := rfl
  have e1 : (1 : Int32).toInt = 1 := rfl
  have e2 : (2 : Int32).toInt = 2 := rfl
  have e3 : (3 : Int32).toInt = 3 := rfl
  have e4 : (4 : Int32).toInt = 4 := rfl
  have e5 : (5 : Int32).toInt = 5 := rfl
  have e6 : (6 : Int32).toInt = 6 := rfl
  have e7 : (7 : Int32).toInt = 7 := rfl
  have e8 : (8 : Int32).toInt = 8 := rfl
  have e9 : (9 : Int32).toInt = 9 := rfl
  have e10 : (10 : Int32).toInt = 10 := rfl
  omega
theorem own_bb11 (x : Int32) : ¬ ((x &&& (2147483647 : Int32)) % (11 : Int32)) < 0 ∧ ((x &&& (2147483647 : Int32)) % (11 : Int32)) < (11 : Int32) := by
  have hm := c_mask x 2147483647 31 (by decide) (by decide)
  have hr := (c_irem (x &&& 2147483647) 11 11 rfl).1 (by omega)
  simp only [Int32.lt_iff_toInt_lt]
  have e0 : (0 : Int32).toInt = 0 := rfl
  have e1 : (11 : Int32).toInt = 11 := rfl
  omega
theorem own_set11 (p v : Int32) (h : p = (0 : Int32) ∨ p = (1 : Int32) ∨ p = (2 : Int32) ∨ p = (3 : Int32) ∨ p = (4 : Int32) ∨ p = (5 : Int32) ∨ p = (6 : Int32) ∨ p = (7 : Int32) ∨ p = (8 : Int32) ∨ p = (9 : Int32) ∨ p = (10 : Int32)) : ([(.int (109 : Int32)), (.int (111 : Int32)), (.int (100 : Int32)), (.int (117 : Int32)), (.int (108 : Int32)), (.int (101 : Int32)), (.int (83 : Int32)), (.int (99 : Int32)), (.int (111 : Int32)), (.int (112 : Int32)), (.int (101 : Int32))] : List Value).set p.toNatClampNeg (.int v) = [(.int (sx p v (0 : Int32) (109 : Int32))), (.int (sx p v (1 : Int32) (111 : Int32))), (.int (sx p v (2 : Int32) (100 : Int32))), (.int (sx p v (3 : Int32) (117 : Int32))), (.int (sx p v (4 : Int32) (108 : Int32))), (.int (sx p v (5 : Int32) (101 : Int32))), (.int (sx p v (6 : Int32) (83 : Int32))), (.int (sx p v (7 : Int32) (99 : Int32))), (.int (sx p v (8 : Int32) (111 : Int32))), (.int (sx p v (9 : Int32) (112 : Int32))), (.int (sx p v (10 : Int32) (101 : Int32)))] := by
  rcases h with rfl | rfl | rfl | rfl | rfl | rfl | rfl | rfl | rfl | rfl | rfl <;> first | rfl | simp [sx]
theorem own_in16 (x : Int32) : ((x &&& (2147483647 : Int32)) % (16 : Int32)) = (0 : Int32) ∨ ((x &&& (2147483647 : Int32)) % (16 : Int32)) = (1 : Int32) ∨ ((x &&& (2147483647 : Int32)) % (16 : Int32)) = (2 : Int32) ∨ ((x &&& (2147483647 : Int32)) % (16 : Int32)) = (3 : Int32) ∨ ((x &&& (2147483647 : Int32)) % (16 : Int32)) = (4 : Int32) ∨ ((x &&& (2147483647 : Int32)) % (16 : Int32)) = (5 : Int32) ∨ ((x &&& (2147483647 : Int32)) % (16 : Int32)) = (6 : Int32) ∨ ((x &&& (2147483647 : Int32)) % (16 : Int32)) = (7 : Int32) ∨ ((x &&& (2147483647 : Int32)) % (16 : Int32)) = (8 : Int32) ∨ ((x &&& (2147483647 : Int32)) % (16 : Int32)) = (9 : Int32) ∨ ((x &&& (2147483647 : Int32)) % (16 : Int32)) = (10 : Int32) ∨ ((x &&& (2147483647 : Int32)) % (16 : Int32)) = (11 : Int32) ∨ ((x &&& (2147483647 : Int32)) % (16 : Int32)) = (12 : Int32) ∨ ((x &&& (2147483647 : Int32)) % (16 : Int32)) = (13 : Int32) ∨ ((x &&& (2147483647 : Int32)) % (16 : Int32)) = (14 : Int32) ∨ ((x &&& (2147483647 : Int32)) % (16 : Int32)) = (15 : Int32) := by
  have hm := c_mask x 2147483647 31 (by decide) (by decide)
  have hr := (c_irem (x &&& 2147483647) 16 16 rfl).1 (by omega)
  simp only [← Int32.toInt_inj]
  have e0 : (0 : Int32).toInt = 0 := rfl
  have e1 : (1 : Int32).toInt = 1 := rfl
  have e2 : (2 : Int32).toInt = 2 := rfl
  have e3 : (3 : Int32).toInt = 3 := rfl
  have e4 : (4 : Int32).toInt = 4 := rfl
  have e5 : (5 : Int32).toInt = 5 := rfl
  have e6 : (6 : Int32).toInt = 6 := rfl
  have e7 : (7 : Int32).toInt = 7 := rfl
  have e8 : (8 : Int32).toInt = 8 := rfl
  have e9 : (9 : Int32).toInt = 9 := rfl
  have e10 : (10 : Int32).toInt = 10 := rfl
  have e11 : (11 : Int32).toInt = 11 := rfl
  have e12 : (12 : Int32).toInt = 12 := rfl
  have e13 : (13 : Int32).toInt = 13 := rfl
  have e14 : (14 : Int32).toInt = 14 := rfl
  have e15 : (15 : Int32).toInt = 15 := rfl
  omega
theorem own_bb16 (x : Int32) : ¬ ((x &&& (2147483647 : Int32)) % (16 : Int32)) < 0 ∧ ((x &&& (2147483647 : Int32)) % (16 : Int32)) < (16 : Int32) := by
  have hm := c_mask x 2147483647 31 (by decide) (by decide)
  have hr := (c_irem (x &&& 2147483647) 16 16 rfl).1 (by omega)
  simp only [Int32.lt_iff_toInt_lt]
  have e0 : (0 : Int32).toInt = 0 := rfl
  have e1 : (16 : Int32).toInt = 16 := rfl
  omega
theorem own_set16 (p v : Int32) (h : p = (0 : Int32) ∨ p = (1 : Int32) ∨ p = (2 : Int32) ∨ p = (3 : Int32) ∨ p = (4 : Int32) ∨ p = (5 : Int32) ∨ p = (6 : Int32) ∨ p = (7 : Int32) ∨ p = (8 : Int32) ∨ p = (9 : Int32) ∨ p = (10 : Int32) ∨ p = (11 : Int32) ∨ p = (12 : Int32) ∨ p = (13 : Int32) ∨ p = (14 : Int32) ∨ p = (15 : Int32)) : ([(.int (97 : Int32)), (.int (112 : Int32)), (.int (112 : Int32)), (.int (108 : Int32)), (.int (105 : Int32)), (.int (99 : Int32)), (.int (97 : Int32)), (.int (116 : Int32)), (.int (105 : Int32)), (.int (111 : Int32)), (.int (110 : Int32)), (.int (83 : Int32)), (.int (99 : Int32)), (.int (111 : Int32)), (.int (112 : Int32)), (.int (101 : Int32))] : List Value).set p.toNatClampNeg (.int v) = [(.int (sx p v (0 : Int32) (97 : Int32))), (.int (sx p v (1 : Int32) (112 : Int32))), (.int (sx p v (2 : Int32) (112 : Int32))), (.int (sx p v (3 : Int32) (108 : Int32))), (.int (sx p v (4 : Int32) (105 : Int32))), (.int (sx p v (5 : Int32) (99 : Int32))), (.int (sx p v (6 : Int32) (97 : Int32))), (.int (sx p v (7 : Int32) (116 : Int32))), (.int (sx p v (8 : Int32) (105 : Int32))), (.int (sx p v (9 : Int32) (111 : Int32))), (.int (sx p v (10 : Int32) (110 : Int32))), (.int (sx p v (11 : Int32) (83 : Int32))), (.int (sx p v (12 : Int32) (99 : Int32))), (.int (sx p v (13 : Int32) (111 : Int32))), (.int (sx p v (14 : Int32) (112 : Int32))), (.int (sx p v (15 : Int32) (101 : Int32)))] := by
  rcases h with rfl | rfl | rfl | rfl | rfl | rfl | rfl | rfl | rfl | rfl | rfl | rfl | rfl | rfl | rfl | rfl <;> first | rfl | simp [sx]
theorem pd_640 : parseMethodDescriptor "([C)V" = some ⟨[(.array .char)], none⟩ := by decide +kernel
theorem pd_641 : parseMethodDescriptor "(Ljava/lang/String;)Z" = some ⟨[(.object "java/lang/String")], some .boolean⟩ := by decide +kernel
theorem own_site642 {Z : State} {aZ : Array Value} (hw : ∀ d ∈ tables_1, d.before aZ Z = true) : SSt aZ Z (⟨"com/example/calycule/calycule/config/ModuleContextIsImplicitPinLaw", "name", "(II)[C"⟩ : MethodName) method_2_code 2 (some (.array .char)) := ⟨⟨(hw _ (mi 2 rfl)), (hw _ (mi 3 rfl))⟩, (hw _ (mi 4 rfl))⟩
theorem pd_643 : parseMethodDescriptor "(II)[C" = some ⟨[.int, .int], some (.array .char)⟩ := by decide +kernel
theorem own_ogr13 (p og : Int32) (ho : (p = (0 : Int32) ∧ og = (109 : Int32)) ∨ (p = (1 : Int32) ∧ og = (111 : Int32)) ∨ (p = (2 : Int32) ∧ og = (100 : Int32)) ∨ (p = (3 : Int32) ∧ og = (117 : Int32)) ∨ (p = (4 : Int32) ∧ og = (108 : Int32)) ∨ (p = (5 : Int32) ∧ og = (101 : Int32)) ∨ (p = (6 : Int32) ∧ og = (67 : Int32)) ∨ (p = (7 : Int32) ∧ og = (111 : Int32)) ∨ (p = (8 : Int32) ∧ og = (110 : Int32)) ∨ (p = (9 : Int32) ∧ og = (116 : Int32)) ∨ (p = (10 : Int32) ∧ og = (101 : Int32)) ∨ (p = (11 : Int32) ∧ og = (120 : Int32)) ∨ (p = (12 : Int32) ∧ og = (116 : Int32))) : 0 ≤ og.toInt ∧ og.toInt ≤ 255 := by
  rcases ho with ⟨-, rfl⟩ | ⟨-, rfl⟩ | ⟨-, rfl⟩ | ⟨-, rfl⟩ | ⟨-, rfl⟩ | ⟨-, rfl⟩ | ⟨-, rfl⟩ | ⟨-, rfl⟩ | ⟨-, rfl⟩ | ⟨-, rfl⟩ | ⟨-, rfl⟩ | ⟨-, rfl⟩ | ⟨-, rfl⟩ <;> exact ⟨by decide, by decide⟩
theorem own_site647 {Z : State} {aZ : Array Value} (hw : ∀ d ∈ tables_1, d.before aZ Z = true) : SIt aZ Z (⟨"java/lang/String", "<init>", "([C)V"⟩ : MethodName) jdk_42_method_3_code 2 := ⟨⟨(hw _ (mi 10 rfl)), (hw _ (mi 8 rfl))⟩, (hw _ (mi 11 rfl))⟩
theorem own_wds : ∀ d ∈ StrChars.Road.words, d ∈ tables_1 := by decide +kernel
def b0_39 (p2 : Int32) (og : Int32) : Int32 := (if (p2 &&& (256 : Int32)) = (0 : Int32) then (p2 &&& (255 : Int32)).toUInt32.toUInt16.toUInt32.toInt32 else og)
def b0_49 (p2 : Int32) (og : Int32) : Int32 := (if (b0_39 p2 og) = og then (1 : Int32) else (0 : Int32))
theorem own_ogr11 (p og : Int32) (ho : (p = (0 : Int32) ∧ og = (109 : Int32)) ∨ (p = (1 : Int32) ∧ og = (111 : Int32)) ∨ (p = (2 : Int32) ∧ og = (100 : Int32)) ∨ (p = (3 : Int32) ∧ og = (117 : Int32)) ∨ (p = (4 : Int32) ∧ og = (108 : Int32)) ∨ (p = (5 : Int32) ∧ og = (101 : Int32)) ∨ (p = (6 : Int32) ∧ og = (83 : Int32)) ∨ (p = (7 : Int32) ∧ og = (99 : Int32)) ∨ (p = (8 : Int32) ∧ og = (111 : Int32)) ∨ (p = (9 : Int32) ∧ og = (112 : Int32)) ∨ (p = (10 : Int32) ∧ og = (101 : Int32))) : 0 ≤ og.toInt ∧ og.toInt ≤ 255 := by
  rcases ho with ⟨-, rfl⟩ | ⟨-, rfl⟩ | ⟨-, rfl⟩ | ⟨-, rfl⟩ | ⟨-, rfl⟩ | ⟨-, rfl⟩ | ⟨-, rfl⟩ | ⟨-, rfl⟩ | ⟨-, rfl⟩ | ⟨-, rfl⟩ | ⟨-, rfl⟩ <;> exact ⟨by decide, by decide⟩
theorem own_fin13 (p c og : Int32) (hp : (p = (0 : Int32) ∧ og = (109 : Int32)) ∨ (p = (1 : Int32) ∧ og = (111 : Int32)) ∨ (p = (2 : Int32) ∧ og = (100 : Int32)) ∨ (p = (3 : Int32) ∧ og = (117 : Int32)) ∨ (p = (4 : Int32) ∧ og = (108 : Int32)) ∨ (p = (5 : Int32) ∧ og = (101 : Int32)) ∨ (p = (6 : Int32) ∧ og = (67 : Int32)) ∨ (p = (7 : Int32) ∧ og = (111 : Int32)) ∨ (p = (8 : Int32) ∧ og = (110 : Int32)) ∨ (p = (9 : Int32) ∧ og = (116 : Int32)) ∨ (p = (10 : Int32) ∧ og = (101 : Int32)) ∨ (p = (11 : Int32) ∧ og = (120 : Int32)) ∨ (p = (12 : Int32) ∧ og = (116 : Int32))) (h0 : 0 ≤ c.toInt) (h1 : c.toInt ≤ 255) : (gib13_ret (sx p c.toUInt32.toUInt16.toUInt32.toInt32 (0 : Int32) (109 : Int32)).toInt8.toInt32 (sx p c.toUInt32.toUInt16.toUInt32.toInt32 (1 : Int32) (111 : Int32)).toInt8.toInt32 (sx p c.toUInt32.toUInt16.toUInt32.toInt32 (2 : Int32) (100 : Int32)).toInt8.toInt32 (sx p c.toUInt32.toUInt16.toUInt32.toInt32 (3 : Int32) (117 : Int32)).toInt8.toInt32 (sx p c.toUInt32.toUInt16.toUInt32.toInt32 (4 : Int32) (108 : Int32)).toInt8.toInt32 (sx p c.toUInt32.toUInt16.toUInt32.toInt32 (5 : Int32) (101 : Int32)).toInt8.toInt32 (sx p c.toUInt32.toUInt16.toUInt32.toInt32 (6 : Int32) (67 : Int32)).toInt8.toInt32 (sx p c.toUInt32.toUInt16.toUInt32.toInt32 (7 : Int32) (111 : Int32)).toInt8.toInt32 (sx p c.toUInt32.toUInt16.toUInt32.toInt32 (8 : Int32) (110 : Int32)).toInt8.toInt32 (sx p c.toUInt32.toUInt16.toUInt32.toInt32 (9 : Int32) (116 : Int32)).toInt8.toInt32 (sx p c.toUInt32.toUInt16.toUInt32.toInt32 (10 : Int32) (101 : Int32)).toInt8.toInt32 (sx p c.toUInt32.toUInt16.toUInt32.toInt32 (11 : Int32) (120 : Int32)).toInt8.toInt32 (sx p c.toUInt32.toUInt16.toUInt32.toInt32 (12 : Int32) (116 : Int32)).toInt8.toInt32) = (if c = og then (1 : Int32) else (0 : Int32)) := by
  have q := fun l (l0 : 0 ≤ l.toInt) (l1 : l.toInt < 128) => own_bq c l h0 h1 l0 l1
  rcases hp with ⟨rfl, rfl⟩ | ⟨rfl, rfl⟩ | ⟨rfl, rfl⟩ | ⟨rfl, rfl⟩ | ⟨rfl, rfl⟩ | ⟨rfl, rfl⟩ | ⟨rfl, rfl⟩ | ⟨rfl, rfl⟩ | ⟨rfl, rfl⟩ | ⟨rfl, rfl⟩ | ⟨rfl, rfl⟩ | ⟨rfl, rfl⟩ | ⟨rfl, rfl⟩
  · have z := q (109 : Int32) (by decide) (by decide)
    by_cases w : c = (109 : Int32)
    · subst w; decide
    · have u : ¬ c.toUInt32.toUInt16.toUInt32.toInt32.toInt8.toInt32 = (109 : Int32) := fun x => w (z.mp x)
      rw [if_neg w]; simp +decide only [↓reduceIte, gib13_ret, veq13_31, beq13_28, flq13, sx, u]
  · have z := q (111 : Int32) (by decide) (by decide)
    by_cases w : c = (111 : Int32)
    · subst w; decide
    · have u : ¬ c.toUInt32.toUInt16.toUInt32.toInt32.toInt8.toInt32 = (111 : Int32) := fun x => w (z.mp x)
      rw [if_neg w]; simp +decide only [↓reduceIte, gib13_ret, veq13_31, beq13_28, flq13, sx, u]
  · have z := q (100 : Int32) (by decide) (by decide)
    by_cases w : c = (100 : Int32)
    · subst w; decide
    · have u : ¬ c.toUInt32.toUInt16.toUInt32.toInt32.toInt8.toInt32 = (100 : Int32) := fun x => w (z.mp x)
      rw [if_neg w]; simp +decide only [↓reduceIte, gib13_ret, veq13_31, beq13_28, flq13, sx, u]
  · have z := q (117 : Int32) (by decide) (by decide)
    by_cases w : c = (117 : Int32)
    · subst w; decide
    · have u : ¬ c.toUInt32.toUInt16.toUInt32.toInt32.toInt8.toInt32 = (117 : Int32) := fun x => w (z.mp x)
      rw [if_neg w]; simp +decide only [↓reduceIte, gib13_ret, veq13_31, beq13_28, flq13, sx, u]
  · have z := q (108 : Int32) (by decide) (by decide)
    by_cases w : c = (108 : Int32)
    · subst w; decide
    · have u : ¬ c.toUInt32.toUInt16.toUInt32.toInt32.toInt8.toInt32 = (108 : Int32) := fun x => w (z.mp x)
      rw [if_neg w]; simp +decide only [↓reduceIte, gib13_ret, veq13_31, beq13_28, flq13, sx, u]
  · have z := q (101 : Int32) (by decide) (by decide)
    by_cases w : c = (101 : Int32)
    · subst w; decide
    · have u : ¬ c.toUInt32.toUInt16.toUInt32.toInt32.toInt8.toInt32 = (101 : Int32) := fun x => w (z.mp x)
      rw [if_neg w]; simp +decide only [↓reduceIte, gib13_ret, veq13_31, beq13_28, flq13, sx, u]
  · have z := q (67 : Int32) (by decide) (by decide)
    by_cases w : c = (67 : Int32)
    · subst w; decide
    · have u : ¬ c.toUInt32.toUInt16.toUInt32.toInt32.toInt8.toInt32 = (67 : Int32) := fun x => w (z.mp x)
      rw [if_neg w]; simp +decide only [↓reduceIte, gib13_ret, veq13_31, beq13_28, flq13, sx, u]
  · have z := q (111 : Int32) (by decide) (by decide)
    by_cases w : c = (111 : Int32)
    · subst w; decide
    · have u : ¬ c.toUInt32.toUInt16.toUInt32.toInt32.toInt8.toInt32 = (111 : Int32) := fun x => w (z.mp x)
      rw [if_neg w]; simp +decide only [↓reduceIte, gib13_ret, veq13_31, beq13_28, flq13, sx, u]
  · have z := q (110 : Int32) (by decide) (by decide)
    by_cases w : c = (110 : Int32)
    · subst w; decide
    · have u : ¬ c.toUInt32.toUInt16.toUInt32.toInt32.toInt8.toInt32 = (110 : Int32) := fun x => w (z.mp x)
      rw [if_neg w]; simp +decide only [↓reduceIte, gib13_ret, veq13_31, beq13_28, flq13, sx, u]
  · have z := q (116 : Int32) (by decide) (by decide)
    by_cases w : c = (116 : Int32)
    · subst w; decide
    · have u : ¬ c.toUInt32.toUInt16.toUInt32.toInt32.toInt8.toInt32 = (116 : Int32) := fun x => w (z.mp x)
      rw [if_neg w]; simp +decide only [↓reduceIte, gib13_ret, veq13_31, beq13_28, flq13, sx, u]
  · have z := q (101 : Int32) (by decide) (by decide)
    by_cases w : c = (101 : Int32)
    · subst w; decide
    · have u : ¬ c.toUInt32.toUInt16.toUInt32.toInt32.toInt8.toInt32 = (101 : Int32) := fun x => w (z.mp x)
      rw [if_neg w]; simp +decide only [↓reduceIte, gib13_ret, veq13_31, beq13_28, flq13, sx, u]
  · have z := q (120 : Int32) (by decide) (by decide)
    by_cases w : c = (120 : Int32)
    · subst w; decide
    · have u : ¬ c.toUInt32.toUInt16.toUInt32.toInt32.toInt8.toInt32 = (120 : Int32) := fun x => w (z.mp x)
      rw [if_neg w]; simp +decide only [↓reduceIte, gib13_ret, veq13_31, beq13_28, flq13, sx, u]
  · have z := q (116 : Int32) (by decide) (by decide)
    by_cases w : c = (116 : Int32)
    · subst w; decide
    · have u : ¬ c.toUInt32.toUInt16.toUInt32.toInt32.toInt8.toInt32 = (116 : Int32) := fun x => w (z.mp x)
      rw [if_neg w]; simp +decide only [↓reduceIte, gib13_ret, veq13_31, beq13_28, flq13, sx, u]
theorem own_ogr16 (p og : Int32) (ho : (p = (0 : Int32) ∧ og = (97 : Int32)) ∨ (p = (1 : Int32) ∧ og = (112 : Int32)) ∨ (p = (2 : Int32) ∧ og = (112 : Int32)) ∨ (p = (3 : Int32) ∧ og = (108 : Int32)) ∨ (p = (4 : Int32) ∧ og = (105 : Int32)) ∨ (p = (5 : Int32) ∧ og = (99 : Int32)) ∨ (p = (6 : Int32) ∧ og = (97 : Int32)) ∨ (p = (7 : Int32) ∧ og = (116 : Int32)) ∨ (p = (8 : Int32) ∧ og = (105 : Int32)) ∨ (p = (9 : Int32) ∧ og = (111 : Int32)) ∨ (p = (10 : Int32) ∧ og = (110 : Int32)) ∨ (p = (11 : Int32) ∧ og = (83 : Int32)) ∨ (p = (12 : Int32) ∧ og = (99 : Int32)) ∨ (p = (13 : Int32) ∧ og = (111 : Int32)) ∨ (p = (14 : Int32) ∧ og = (112 : Int32)) ∨ (p = (15 : Int32) ∧ og = (101 : Int32))) : 0 ≤ og.toInt ∧ og.toInt ≤ 255 := by
  rcases ho with ⟨-, rfl⟩ | ⟨-, rfl⟩ | ⟨-, rfl⟩ | ⟨-, rfl⟩ | ⟨-, rfl⟩ | ⟨-, rfl⟩ | ⟨-, rfl⟩ | ⟨-, rfl⟩ | ⟨-, rfl⟩ | ⟨-, rfl⟩ | ⟨-, rfl⟩ | ⟨-, rfl⟩ | ⟨-, rfl⟩ | ⟨-, rfl⟩ | ⟨-, rfl⟩ | ⟨-, rfl⟩ <;> exact ⟨by decide, by decide⟩
theorem own_fin11 (p c og : Int32) (hp : (p = (0 : Int32) ∧ og = (109 : Int32)) ∨ (p = (1 : Int32) ∧ og = (111 : Int32)) ∨ (p = (2 : Int32) ∧ og = (100 : Int32)) ∨ (p = (3 : Int32) ∧ og = (117 : Int32)) ∨ (p = (4 : Int32) ∧ og = (108 : Int32)) ∨ (p = (5 : Int32) ∧ og = (101 : Int32)) ∨ (p = (6 : Int32) ∧ og = (83 : Int32)) ∨ (p = (7 : Int32) ∧ og = (99 : Int32)) ∨ (p = (8 : Int32) ∧ og = (111 : Int32)) ∨ (p = (9 : Int32) ∧ og = (112 : Int32)) ∨ (p = (10 : Int32) ∧ og = (101 : Int32))) (h0 : 0 ≤ c.toInt) (h1 : c.toInt ≤ 255) : (gib11_ret (sx p c.toUInt32.toUInt16.toUInt32.toInt32 (0 : Int32) (109 : Int32)).toInt8.toInt32 (sx p c.toUInt32.toUInt16.toUInt32.toInt32 (1 : Int32) (111 : Int32)).toInt8.toInt32 (sx p c.toUInt32.toUInt16.toUInt32.toInt32 (2 : Int32) (100 : Int32)).toInt8.toInt32 (sx p c.toUInt32.toUInt16.toUInt32.toInt32 (3 : Int32) (117 : Int32)).toInt8.toInt32 (sx p c.toUInt32.toUInt16.toUInt32.toInt32 (4 : Int32) (108 : Int32)).toInt8.toInt32 (sx p c.toUInt32.toUInt16.toUInt32.toInt32 (5 : Int32) (101 : Int32)).toInt8.toInt32 (sx p c.toUInt32.toUInt16.toUInt32.toInt32 (6 : Int32) (83 : Int32)).toInt8.toInt32 (sx p c.toUInt32.toUInt16.toUInt32.toInt32 (7 : Int32) (99 : Int32)).toInt8.toInt32 (sx p c.toUInt32.toUInt16.toUInt32.toInt32 (8 : Int32) (111 : Int32)).toInt8.toInt32 (sx p c.toUInt32.toUInt16.toUInt32.toInt32 (9 : Int32) (112 : Int32)).toInt8.toInt32 (sx p c.toUInt32.toUInt16.toUInt32.toInt32 (10 : Int32) (101 : Int32)).toInt8.toInt32) = (if c = og then (1 : Int32) else (0 : Int32)) := by
  have q := fun l (l0 : 0 ≤ l.toInt) (l1 : l.toInt < 128) => own_bq c l h0 h1 l0 l1
  rcases hp with ⟨rfl, rfl⟩ | ⟨rfl, rfl⟩ | ⟨rfl, rfl⟩ | ⟨rfl, rfl⟩ | ⟨rfl, rfl⟩ | ⟨rfl, rfl⟩ | ⟨rfl, rfl⟩ | ⟨rfl, rfl⟩ | ⟨rfl, rfl⟩ | ⟨rfl, rfl⟩ | ⟨rfl, rfl⟩
  · have z := q (109 : Int32) (by decide) (by decide)
    by_cases w : c = (109 : Int32)
    · subst w; decide
    · have u : ¬ c.toUInt32.toUInt16.toUInt32.toInt32.toInt8.toInt32 = (109 : Int32) := fun x => w (z.mp x)
      rw [if_neg w]; simp +decide only [↓reduceIte, gib11_ret, veq11_31, beq11_28, flq11, sx, u]
  · have z := q (111 : Int32) (by decide) (by decide)
    by_cases w : c = (111 : Int32)
    · subst w; decide
    · have u : ¬ c.toUInt32.toUInt16.toUInt32.toInt32.toInt8.toInt32 = (111 : Int32) := fun x => w (z.mp x)
      rw [if_neg w]; simp +decide only [↓reduceIte, gib11_ret, veq11_31, beq11_28, flq11, sx, u]
  · have z := q (100 : Int32) (by decide) (by decide)
    by_cases w : c = (100 : Int32)
    · subst w; decide
    · have u : ¬ c.toUInt32.toUInt16.toUInt32.toInt32.toInt8.toInt32 = (100 : Int32) := fun x => w (z.mp x)
      rw [if_neg w]; simp +decide only [↓reduceIte, gib11_ret, veq11_31, beq11_28, flq11, sx, u]
  · have z := q (117 : Int32) (by decide) (by decide)
    by_cases w : c = (117 : Int32)
    · subst w; decide
    · have u : ¬ c.toUInt32.toUInt16.toUInt32.toInt32.toInt8.toInt32 = (117 : Int32) := fun x => w (z.mp x)
      rw [if_neg w]; simp +decide only [↓reduceIte, gib11_ret, veq11_31, beq11_28, flq11, sx, u]
  · have z := q (108 : Int32) (by decide) (by decide)
    by_cases w : c = (108 : Int32)
    · subst w; decide
    · have u : ¬ c.toUInt32.toUInt16.toUInt32.toInt32.toInt8.toInt32 = (108 : Int32) := fun x => w (z.mp x)
      rw [if_neg w]; simp +decide only [↓reduceIte, gib11_ret, veq11_31, beq11_28, flq11, sx, u]
  · have z := q (101 : Int32) (by decide) (by decide)
    by_cases w : c = (101 : Int32)
    · subst w; decide
    · have u : ¬ c.toUInt32.toUInt16.toUInt32.toInt32.toInt8.toInt32 = (101 : Int32) := fun x => w (z.mp x)
      rw [if_neg w]; simp +decide only [↓reduceIte, gib11_ret, veq11_31, beq11_28, flq11, sx, u]
  · have z := q (83 : Int32) (by decide) (by decide)
    by_cases w : c = (83 : Int32)
    · subst w; decide
    · have u : ¬ c.toUInt32.toUInt16.toUInt32.toInt32.toInt8.toInt32 = (83 : Int32) := fun x => w (z.mp x)
      rw [if_neg w]; simp +decide only [↓reduceIte, gib11_ret, veq11_31, beq11_28, flq11, sx, u]
  · have z := q (99 : Int32) (by decide) (by decide)
    by_cases w : c = (99 : Int32)
    · subst w; decide
    · have u : ¬ c.toUInt32.toUInt16.toUInt32.toInt32.toInt8.toInt32 = (99 : Int32) := fun x => w (z.mp x)
      rw [if_neg w]; simp +decide only [↓reduceIte, gib11_ret, veq11_31, beq11_28, flq11, sx, u]
  · have z := q (111 : Int32) (by decide) (by decide)
    by_cases w : c = (111 : Int32)
    · subst w; decide
    · have u : ¬ c.toUInt32.toUInt16.toUInt32.toInt32.toInt8.toInt32 = (111 : Int32) := fun x => w (z.mp x)
      rw [if_neg w]; simp +decide only [↓reduceIte, gib11_ret, veq11_31, beq11_28, flq11, sx, u]
  · have z := q (112 : Int32) (by decide) (by decide)
    by_cases w : c = (112 : Int32)
    · subst w; decide
    · have u : ¬ c.toUInt32.toUInt16.toUInt32.toInt32.toInt8.toInt32 = (112 : Int32) := fun x => w (z.mp x)
      rw [if_neg w]; simp +decide only [↓reduceIte, gib11_ret, veq11_31, beq11_28, flq11, sx, u]
  · have z := q (101 : Int32) (by decide) (by decide)
    by_cases w : c = (101 : Int32)
    · subst w; decide
    · have u : ¬ c.toUInt32.toUInt16.toUInt32.toInt32.toInt8.toInt32 = (101 : Int32) := fun x => w (z.mp x)
      rw [if_neg w]; simp +decide only [↓reduceIte, gib11_ret, veq11_31, beq11_28, flq11, sx, u]
theorem own_fin16 (p c og : Int32) (hp : (p = (0 : Int32) ∧ og = (97 : Int32)) ∨ (p = (1 : Int32) ∧ og = (112 : Int32)) ∨ (p = (2 : Int32) ∧ og = (112 : Int32)) ∨ (p = (3 : Int32) ∧ og = (108 : Int32)) ∨ (p = (4 : Int32) ∧ og = (105 : Int32)) ∨ (p = (5 : Int32) ∧ og = (99 : Int32)) ∨ (p = (6 : Int32) ∧ og = (97 : Int32)) ∨ (p = (7 : Int32) ∧ og = (116 : Int32)) ∨ (p = (8 : Int32) ∧ og = (105 : Int32)) ∨ (p = (9 : Int32) ∧ og = (111 : Int32)) ∨ (p = (10 : Int32) ∧ og = (110 : Int32)) ∨ (p = (11 : Int32) ∧ og = (83 : Int32)) ∨ (p = (12 : Int32) ∧ og = (99 : Int32)) ∨ (p = (13 : Int32) ∧ og = (111 : Int32)) ∨ (p = (14 : Int32) ∧ og = (112 : Int32)) ∨ (p = (15 : Int32) ∧ og = (101 : Int32))) (h0 : 0 ≤ c.toInt) (h1 : c.toInt ≤ 255) : (vib16_30 (sx p c.toUInt32.toUInt16.toUInt32.toInt32 (0 : Int32) (97 : Int32)).toInt8.toInt32 (sx p c.toUInt32.toUInt16.toUInt32.toInt32 (1 : Int32) (112 : Int32)).toInt8.toInt32 (sx p c.toUInt32.toUInt16.toUInt32.toInt32 (2 : Int32) (112 : Int32)).toInt8.toInt32 (sx p c.toUInt32.toUInt16.toUInt32.toInt32 (3 : Int32) (108 : Int32)).toInt8.toInt32 (sx p c.toUInt32.toUInt16.toUInt32.toInt32 (4 : Int32) (105 : Int32)).toInt8.toInt32 (sx p c.toUInt32.toUInt16.toUInt32.toInt32 (5 : Int32) (99 : Int32)).toInt8.toInt32 (sx p c.toUInt32.toUInt16.toUInt32.toInt32 (6 : Int32) (97 : Int32)).toInt8.toInt32 (sx p c.toUInt32.toUInt16.toUInt32.toInt32 (7 : Int32) (116 : Int32)).toInt8.toInt32 (sx p c.toUInt32.toUInt16.toUInt32.toInt32 (8 : Int32) (105 : Int32)).toInt8.toInt32 (sx p c.toUInt32.toUInt16.toUInt32.toInt32 (9 : Int32) (111 : Int32)).toInt8.toInt32 (sx p c.toUInt32.toUInt16.toUInt32.toInt32 (10 : Int32) (110 : Int32)).toInt8.toInt32 (sx p c.toUInt32.toUInt16.toUInt32.toInt32 (11 : Int32) (83 : Int32)).toInt8.toInt32 (sx p c.toUInt32.toUInt16.toUInt32.toInt32 (12 : Int32) (99 : Int32)).toInt8.toInt32 (sx p c.toUInt32.toUInt16.toUInt32.toInt32 (13 : Int32) (111 : Int32)).toInt8.toInt32 (sx p c.toUInt32.toUInt16.toUInt32.toInt32 (14 : Int32) (112 : Int32)).toInt8.toInt32 (sx p c.toUInt32.toUInt16.toUInt32.toInt32 (15 : Int32) (101 : Int32)).toInt8.toInt32) = (if c = og then (1 : Int32) else (0 : Int32)) := by
  have q := fun l (l0 : 0 ≤ l.toInt) (l1 : l.toInt < 128) => own_bq c l h0 h1 l0 l1
  rcases hp with ⟨rfl, rfl⟩ | ⟨rfl, rfl⟩ | ⟨rfl, rfl⟩ | ⟨rfl, rfl⟩ | ⟨rfl, rfl⟩ | ⟨rfl, rfl⟩ | ⟨rfl, rfl⟩ | ⟨rfl, rfl⟩ | ⟨rfl, rfl⟩ | ⟨rfl, rfl⟩ | ⟨rfl, rfl⟩ | ⟨rfl, rfl⟩ | ⟨rfl, rfl⟩ | ⟨rfl, rfl⟩ | ⟨rfl, rfl⟩ | ⟨rfl, rfl⟩
  · have z := q (97 : Int32) (by decide) (by decide)
    by_cases w : c = (97 : Int32)
    · subst w; decide
    · have u : ¬ c.toUInt32.toUInt16.toUInt32.toInt32.toInt8.toInt32 = (97 : Int32) := fun x => w (z.mp x)
      rw [if_neg w]; simp +decide only [↓reduceIte, vib16_30, bib16_27, veq16_31, beq16_28, flq16, sx, u]
  · have z := q (112 : Int32) (by decide) (by decide)
    by_cases w : c = (112 : Int32)
    · subst w; decide
    · have u : ¬ c.toUInt32.toUInt16.toUInt32.toInt32.toInt8.toInt32 = (112 : Int32) := fun x => w (z.mp x)
      rw [if_neg w]; simp +decide only [↓reduceIte, vib16_30, bib16_27, veq16_31, beq16_28, flq16, sx, u]
  · have z := q (112 : Int32) (by decide) (by decide)
    by_cases w : c = (112 : Int32)
    · subst w; decide
    · have u : ¬ c.toUInt32.toUInt16.toUInt32.toInt32.toInt8.toInt32 = (112 : Int32) := fun x => w (z.mp x)
      rw [if_neg w]; simp +decide only [↓reduceIte, vib16_30, bib16_27, veq16_31, beq16_28, flq16, sx, u]
  · have z := q (108 : Int32) (by decide) (by decide)
    by_cases w : c = (108 : Int32)
    · subst w; decide
    · have u : ¬ c.toUInt32.toUInt16.toUInt32.toInt32.toInt8.toInt32 = (108 : Int32) := fun x => w (z.mp x)
      rw [if_neg w]; simp +decide only [↓reduceIte, vib16_30, bib16_27, veq16_31, beq16_28, flq16, sx, u]
  · have z := q (105 : Int32) (by decide) (by decide)
    by_cases w : c = (105 : Int32)
    · subst w; decide
    · have u : ¬ c.toUInt32.toUInt16.toUInt32.toInt32.toInt8.toInt32 = (105 : Int32) := fun x => w (z.mp x)
      rw [if_neg w]; simp +decide only [↓reduceIte, vib16_30, bib16_27, veq16_31, beq16_28, flq16, sx, u]
  · have z := q (99 : Int32) (by decide) (by decide)
    by_cases w : c = (99 : Int32)
    · subst w; decide
    · have u : ¬ c.toUInt32.toUInt16.toUInt32.toInt32.toInt8.toInt32 = (99 : Int32) := fun x => w (z.mp x)
      rw [if_neg w]; simp +decide only [↓reduceIte, vib16_30, bib16_27, veq16_31, beq16_28, flq16, sx, u]
  · have z := q (97 : Int32) (by decide) (by decide)
    by_cases w : c = (97 : Int32)
    · subst w; decide
    · have u : ¬ c.toUInt32.toUInt16.toUInt32.toInt32.toInt8.toInt32 = (97 : Int32) := fun x => w (z.mp x)
      rw [if_neg w]; simp +decide only [↓reduceIte, vib16_30, bib16_27, veq16_31, beq16_28, flq16, sx, u]
  · have z := q (116 : Int32) (by decide) (by decide)
    by_cases w : c = (116 : Int32)
    · subst w; decide
    · have u : ¬ c.toUInt32.toUInt16.toUInt32.toInt32.toInt8.toInt32 = (116 : Int32) := fun x => w (z.mp x)
      rw [if_neg w]; simp +decide only [↓reduceIte, vib16_30, bib16_27, veq16_31, beq16_28, flq16, sx, u]
  · have z := q (105 : Int32) (by decide) (by decide)
    by_cases w : c = (105 : Int32)
    · subst w; decide
    · have u : ¬ c.toUInt32.toUInt16.toUInt32.toInt32.toInt8.toInt32 = (105 : Int32) := fun x => w (z.mp x)
      rw [if_neg w]; simp +decide only [↓reduceIte, vib16_30, bib16_27, veq16_31, beq16_28, flq16, sx, u]
  · have z := q (111 : Int32) (by decide) (by decide)
    by_cases w : c = (111 : Int32)
    · subst w; decide
    · have u : ¬ c.toUInt32.toUInt16.toUInt32.toInt32.toInt8.toInt32 = (111 : Int32) := fun x => w (z.mp x)
      rw [if_neg w]; simp +decide only [↓reduceIte, vib16_30, bib16_27, veq16_31, beq16_28, flq16, sx, u]
  · have z := q (110 : Int32) (by decide) (by decide)
    by_cases w : c = (110 : Int32)
    · subst w; decide
    · have u : ¬ c.toUInt32.toUInt16.toUInt32.toInt32.toInt8.toInt32 = (110 : Int32) := fun x => w (z.mp x)
      rw [if_neg w]; simp +decide only [↓reduceIte, vib16_30, bib16_27, veq16_31, beq16_28, flq16, sx, u]
  · have z := q (83 : Int32) (by decide) (by decide)
    by_cases w : c = (83 : Int32)
    · subst w; decide
    · have u : ¬ c.toUInt32.toUInt16.toUInt32.toInt32.toInt8.toInt32 = (83 : Int32) := fun x => w (z.mp x)
      rw [if_neg w]; simp +decide only [↓reduceIte, vib16_30, bib16_27, veq16_31, beq16_28, flq16, sx, u]
  · have z := q (99 : Int32) (by decide) (by decide)
    by_cases w : c = (99 : Int32)
    · subst w; decide
    · have u : ¬ c.toUInt32.toUInt16.toUInt32.toInt32.toInt8.toInt32 = (99 : Int32) := fun x => w (z.mp x)
      rw [if_neg w]; simp +decide only [↓reduceIte, vib16_30, bib16_27, veq16_31, beq16_28, flq16, sx, u]
  · have z := q (111 : Int32) (by decide) (by decide)
    by_cases w : c = (111 : Int32)
    · subst w; decide
    · have u : ¬ c.toUInt32.toUInt16.toUInt32.toInt32.toInt8.toInt32 = (111 : Int32) := fun x => w (z.mp x)
      rw [if_neg w]; simp +decide only [↓reduceIte, vib16_30, bib16_27, veq16_31, beq16_28, flq16, sx, u]
  · have z := q (112 : Int32) (by decide) (by decide)
    by_cases w : c = (112 : Int32)
    · subst w; decide
    · have u : ¬ c.toUInt32.toUInt16.toUInt32.toInt32.toInt8.toInt32 = (112 : Int32) := fun x => w (z.mp x)
      rw [if_neg w]; simp +decide only [↓reduceIte, vib16_30, bib16_27, veq16_31, beq16_28, flq16, sx, u]
  · have z := q (101 : Int32) (by decide) (by decide)
    by_cases w : c = (101 : Int32)
    · subst w; decide
    · have u : ¬ c.toUInt32.toUInt16.toUInt32.toInt32.toInt8.toInt32 = (101 : Int32) := fun x => w (z.mp x)
      rw [if_neg w]; simp +decide only [↓reduceIte, vib16_30, bib16_27, veq16_31, beq16_28, flq16, sx, u]
def f0 (p0 : Int32) (p3 : Int32) : Int32 := (if (p3 &&& (3 : Int32)) = (3 : Int32) then (1 : Int32) else (if (p3 &&& (3 : Int32)) = (0 : Int32) then (if ((p0 &&& (2147483647 : Int32)) % (3 : Int32)) = (0 : Int32) then (1 : Int32) else (if ((p0 &&& (2147483647 : Int32)) % (3 : Int32)) = (1 : Int32) then (1 : Int32) else (if ((p0 &&& (2147483647 : Int32)) % (3 : Int32)) = (2 : Int32) then (1 : Int32) else (1 : Int32)))) else (if (p3 &&& (3 : Int32)) = (1 : Int32) then (if ((p0 &&& (2147483647 : Int32)) % (3 : Int32)) = (0 : Int32) then (1 : Int32) else (if ((p0 &&& (2147483647 : Int32)) % (3 : Int32)) = (1 : Int32) then (1 : Int32) else (if ((p0 &&& (2147483647 : Int32)) % (3 : Int32)) = (2 : Int32) then (1 : Int32) else (1 : Int32)))) else (if (p3 &&& (3 : Int32)) = (2 : Int32) then (if ((p0 &&& (2147483647 : Int32)) % (3 : Int32)) = (0 : Int32) then (1 : Int32) else (if ((p0 &&& (2147483647 : Int32)) % (3 : Int32)) = (1 : Int32) then (1 : Int32) else (if ((p0 &&& (2147483647 : Int32)) % (3 : Int32)) = (2 : Int32) then (1 : Int32) else (1 : Int32)))) else (1 : Int32)))))
theorem f0_one (p0 : Int32) (p3 : Int32) : f0 p0 p3 = 1 := by
  unfold f0; simp only [ite_self]
def Q0 (Z : State) (n0 : Nat) (p0 : Int32) (p1 : Int32) (p2 : Int32) (p3 : Int32) (s_COMPACT_STRINGS : Int32) (h0 : Heap) (v : Option Value) (h : Heap) (L : List Loc) : Prop := v = some (.int 1) ∧ Fr n0 L
theorem ef0 (m : MethodId) (p0 : Int32) (p1 : Int32) (p2 : Int32) (p3 : Int32) : entryFrame m #[(.int p0), (.int p1), (.int p2), (.int p3)] maxLocals = mkF m 0 #[iv p0, iv p1, iv p2, iv p3, .unset, .unset, .unset, .unset, .unset, .unset, .unset, .unset] [] := by first | (simp [entryFrame, mkF, argsToLocals, Value.category, maxLocals]; done) | rfl
abbrev L0_0 (p0 : Int32) (p1 : Int32) (p2 : Int32) (p3 : Int32) : Array Slot := #[iv p0, iv p1, iv p2, iv p3, .unset, .unset, .unset, .unset, .unset, .unset, .unset, .unset]
abbrev L0_1 (p0 : Int32) (p1 : Int32) (p2 : Int32) (p3 : Int32) : Array Slot := #[iv p0, iv p1, iv p2, iv p3, iv ((p0 &&& (2147483647 : Int32)) % (3 : Int32)), iv (p3 &&& (3 : Int32)), iv (p2 &&& (255 : Int32)).toUInt32.toUInt16.toUInt32.toInt32, .unset, .unset, .unset, .unset, .unset]
abbrev L0_2 (p0 : Int32) (p1 : Int32) (p2 : Int32) (p3 : Int32) : Array Slot := #[iv p0, iv p1, iv p2, iv p3, iv ((p0 &&& (2147483647 : Int32)) % (3 : Int32)), .unset, .unset, .unset, .unset, .unset, .unset, .unset]
abbrev L0_3 (p0 : Int32) (p1 : Int32) (p2 : Int32) (p3 : Int32) : Array Slot := #[iv p0, iv p1, iv p2, iv p3, iv ((p0 &&& (2147483647 : Int32)) % (3 : Int32)), iv (p3 &&& (3 : Int32)), .unset, .unset, .unset, .unset, .unset, .unset]
abbrev L0_4 (p0 : Int32) (p1 : Int32) (p2 : Int32) (p3 : Int32) : Array Slot := #[iv p0, iv p1, iv p2, iv p3, iv ((p0 &&& (2147483647 : Int32)) % (3 : Int32)), iv 3, iv (p2 &&& (255 : Int32)).toUInt32.toUInt16.toUInt32.toInt32, .unset, .unset, .unset, .unset, .unset]
abbrev L0_5 (p0 : Int32) (p1 : Int32) (p2 : Int32) (p3 : Int32) : Array Slot := #[iv p0, iv p1, iv p2, iv p3, iv ((p0 &&& (2147483647 : Int32)) % (3 : Int32)), iv 0, iv (p2 &&& (255 : Int32)).toUInt32.toUInt16.toUInt32.toInt32, .unset, .unset, .unset, .unset, .unset]
abbrev L0_6 (p0 : Int32) (p1 : Int32) (p2 : Int32) (p3 : Int32) : Array Slot := #[iv p0, iv p1, iv p2, iv p3, iv 0, iv 0, iv (p2 &&& (255 : Int32)).toUInt32.toUInt16.toUInt32.toInt32, .unset, .unset, .unset, .unset, .unset]
abbrev L0_7 (p0 : Int32) (p1 : Int32) (p2 : Int32) (p3 : Int32) (b35 : Addr) (og : Int32) : Array Slot := #[iv p0, iv p1, iv p2, iv p3, iv 0, iv 0, iv (b0_39 p2 og), rv b35, iv 13, iv ((p1 &&& (2147483647 : Int32)) % (13 : Int32)), iv og, .unset]
abbrev L0_8 (p0 : Int32) (p1 : Int32) (p2 : Int32) (p3 : Int32) (b35 : Addr) : Array Slot := #[iv p0, iv p1, iv p2, iv p3, iv 0, iv 0, iv (p2 &&& (255 : Int32)).toUInt32.toUInt16.toUInt32.toInt32, rv b35, .unset, .unset, .unset, .unset]
abbrev L0_9 (p0 : Int32) (p1 : Int32) (p2 : Int32) (p3 : Int32) (b35 : Addr) : Array Slot := #[iv p0, iv p1, iv p2, iv p3, iv 0, iv 0, iv (p2 &&& (255 : Int32)).toUInt32.toUInt16.toUInt32.toInt32, rv b35, iv 13, .unset, .unset, .unset]
abbrev L0_10 (p0 : Int32) (p1 : Int32) (p2 : Int32) (p3 : Int32) (b35 : Addr) : Array Slot := #[iv p0, iv p1, iv p2, iv p3, iv 0, iv 0, iv (p2 &&& (255 : Int32)).toUInt32.toUInt16.toUInt32.toInt32, rv b35, iv 13, iv ((p1 &&& (2147483647 : Int32)) % (13 : Int32)), .unset, .unset]
abbrev L0_11 (p0 : Int32) (p1 : Int32) (p2 : Int32) (p3 : Int32) (b35 : Addr) (og : Int32) : Array Slot := #[iv p0, iv p1, iv p2, iv p3, iv 0, iv 0, iv (p2 &&& (255 : Int32)).toUInt32.toUInt16.toUInt32.toInt32, rv b35, iv 13, iv ((p1 &&& (2147483647 : Int32)) % (13 : Int32)), iv og, .unset]
abbrev L0_12 (p0 : Int32) (p1 : Int32) (p2 : Int32) (p3 : Int32) (b35 : Addr) (og : Int32) : Array Slot := #[iv p0, iv p1, iv p2, iv p3, iv 0, iv 0, iv (b0_39 p2 og), rv b35, iv 13, iv ((p1 &&& (2147483647 : Int32)) % (13 : Int32)), iv og, iv (b0_49 p2 og)]
abbrev L0_13 (p0 : Int32) (p1 : Int32) (p2 : Int32) (p3 : Int32) : Array Slot := #[iv p0, iv p1, iv p2, iv p3, iv 1, iv 0, iv (p2 &&& (255 : Int32)).toUInt32.toUInt16.toUInt32.toInt32, .unset, .unset, .unset, .unset, .unset]
abbrev L0_14 (p0 : Int32) (p1 : Int32) (p2 : Int32) (p3 : Int32) (b74 : Addr) (og : Int32) : Array Slot := #[iv p0, iv p1, iv p2, iv p3, iv 1, iv 0, iv (b0_39 p2 og), rv b74, iv 11, iv ((p1 &&& (2147483647 : Int32)) % (11 : Int32)), iv og, .unset]
abbrev L0_15 (p0 : Int32) (p1 : Int32) (p2 : Int32) (p3 : Int32) (b74 : Addr) : Array Slot := #[iv p0, iv p1, iv p2, iv p3, iv 1, iv 0, iv (p2 &&& (255 : Int32)).toUInt32.toUInt16.toUInt32.toInt32, rv b74, .unset, .unset, .unset, .unset]
abbrev L0_16 (p0 : Int32) (p1 : Int32) (p2 : Int32) (p3 : Int32) (b74 : Addr) : Array Slot := #[iv p0, iv p1, iv p2, iv p3, iv 1, iv 0, iv (p2 &&& (255 : Int32)).toUInt32.toUInt16.toUInt32.toInt32, rv b74, iv 11, .unset, .unset, .unset]
abbrev L0_17 (p0 : Int32) (p1 : Int32) (p2 : Int32) (p3 : Int32) (b74 : Addr) : Array Slot := #[iv p0, iv p1, iv p2, iv p3, iv 1, iv 0, iv (p2 &&& (255 : Int32)).toUInt32.toUInt16.toUInt32.toInt32, rv b74, iv 11, iv ((p1 &&& (2147483647 : Int32)) % (11 : Int32)), .unset, .unset]
abbrev L0_18 (p0 : Int32) (p1 : Int32) (p2 : Int32) (p3 : Int32) (b74 : Addr) (og : Int32) : Array Slot := #[iv p0, iv p1, iv p2, iv p3, iv 1, iv 0, iv (p2 &&& (255 : Int32)).toUInt32.toUInt16.toUInt32.toInt32, rv b74, iv 11, iv ((p1 &&& (2147483647 : Int32)) % (11 : Int32)), iv og, .unset]
abbrev L0_19 (p0 : Int32) (p1 : Int32) (p2 : Int32) (p3 : Int32) (b74 : Addr) (og : Int32) : Array Slot := #[iv p0, iv p1, iv p2, iv p3, iv 1, iv 0, iv (b0_39 p2 og), rv b74, iv 11, iv ((p1 &&& (2147483647 : Int32)) % (11 : Int32)), iv og, iv (b0_49 p2 og)]
abbrev L0_20 (p0 : Int32) (p1 : Int32) (p2 : Int32) (p3 : Int32) : Array Slot := #[iv p0, iv p1, iv p2, iv p3, iv 2, iv 0, iv (p2 &&& (255 : Int32)).toUInt32.toUInt16.toUInt32.toInt32, .unset, .unset, .unset, .unset, .unset]
abbrev L0_21 (p0 : Int32) (p1 : Int32) (p2 : Int32) (p3 : Int32) (b111 : Addr) (og : Int32) : Array Slot := #[iv p0, iv p1, iv p2, iv p3, iv 2, iv 0, iv (b0_39 p2 og), rv b111, iv 16, iv ((p1 &&& (2147483647 : Int32)) % (16 : Int32)), iv og, .unset]
abbrev L0_22 (p0 : Int32) (p1 : Int32) (p2 : Int32) (p3 : Int32) (b111 : Addr) : Array Slot := #[iv p0, iv p1, iv p2, iv p3, iv 2, iv 0, iv (p2 &&& (255 : Int32)).toUInt32.toUInt16.toUInt32.toInt32, rv b111, .unset, .unset, .unset, .unset]
abbrev L0_23 (p0 : Int32) (p1 : Int32) (p2 : Int32) (p3 : Int32) (b111 : Addr) : Array Slot := #[iv p0, iv p1, iv p2, iv p3, iv 2, iv 0, iv (p2 &&& (255 : Int32)).toUInt32.toUInt16.toUInt32.toInt32, rv b111, iv 16, .unset, .unset, .unset]
abbrev L0_24 (p0 : Int32) (p1 : Int32) (p2 : Int32) (p3 : Int32) (b111 : Addr) : Array Slot := #[iv p0, iv p1, iv p2, iv p3, iv 2, iv 0, iv (p2 &&& (255 : Int32)).toUInt32.toUInt16.toUInt32.toInt32, rv b111, iv 16, iv ((p1 &&& (2147483647 : Int32)) % (16 : Int32)), .unset, .unset]
abbrev L0_25 (p0 : Int32) (p1 : Int32) (p2 : Int32) (p3 : Int32) (b111 : Addr) (og : Int32) : Array Slot := #[iv p0, iv p1, iv p2, iv p3, iv 2, iv 0, iv (p2 &&& (255 : Int32)).toUInt32.toUInt16.toUInt32.toInt32, rv b111, iv 16, iv ((p1 &&& (2147483647 : Int32)) % (16 : Int32)), iv og, .unset]
abbrev L0_26 (p0 : Int32) (p1 : Int32) (p2 : Int32) (p3 : Int32) (b111 : Addr) (og : Int32) : Array Slot := #[iv p0, iv p1, iv p2, iv p3, iv 2, iv 0, iv (b0_39 p2 og), rv b111, iv 16, iv ((p1 &&& (2147483647 : Int32)) % (16 : Int32)), iv og, iv (b0_49 p2 og)]
abbrev L0_27 (p0 : Int32) (p1 : Int32) (p2 : Int32) (p3 : Int32) : Array Slot := #[iv p0, iv p1, iv p2, iv p3, iv ((p0 &&& (2147483647 : Int32)) % (3 : Int32)), iv 1, iv (p2 &&& (255 : Int32)).toUInt32.toUInt16.toUInt32.toInt32, .unset, .unset, .unset, .unset, .unset]
abbrev L0_28 (p0 : Int32) (p1 : Int32) (p2 : Int32) (p3 : Int32) : Array Slot := #[iv p0, iv p1, iv p2, iv p3, iv 0, iv 1, iv (p2 &&& (255 : Int32)).toUInt32.toUInt16.toUInt32.toInt32, .unset, .unset, .unset, .unset, .unset]
abbrev L0_29 (p0 : Int32) (p1 : Int32) (p2 : Int32) (p3 : Int32) (b151 : Addr) : Array Slot := #[iv p0, iv p1, iv p2, iv p3, iv 0, iv 1, iv (p2 &&& (255 : Int32)).toUInt32.toUInt16.toUInt32.toInt32, rv b151, iv 14, .unset, .unset, .unset]
abbrev L0_30 (p0 : Int32) (p1 : Int32) (p2 : Int32) (p3 : Int32) (b151 : Addr) : Array Slot := #[iv p0, iv p1, iv p2, iv p3, iv 0, iv 1, iv (p2 &&& (255 : Int32)).toUInt32.toUInt16.toUInt32.toInt32, rv b151, .unset, .unset, .unset, .unset]
abbrev L0_31 (p0 : Int32) (p1 : Int32) (p2 : Int32) (p3 : Int32) : Array Slot := #[iv p0, iv p1, iv p2, iv p3, iv 1, iv 1, iv (p2 &&& (255 : Int32)).toUInt32.toUInt16.toUInt32.toInt32, .unset, .unset, .unset, .unset, .unset]
abbrev L0_32 (p0 : Int32) (p1 : Int32) (p2 : Int32) (p3 : Int32) (b178 : Addr) : Array Slot := #[iv p0, iv p1, iv p2, iv p3, iv 1, iv 1, iv (p2 &&& (255 : Int32)).toUInt32.toUInt16.toUInt32.toInt32, rv b178, iv 12, .unset, .unset, .unset]
abbrev L0_33 (p0 : Int32) (p1 : Int32) (p2 : Int32) (p3 : Int32) (b178 : Addr) : Array Slot := #[iv p0, iv p1, iv p2, iv p3, iv 1, iv 1, iv (p2 &&& (255 : Int32)).toUInt32.toUInt16.toUInt32.toInt32, rv b178, .unset, .unset, .unset, .unset]
abbrev L0_34 (p0 : Int32) (p1 : Int32) (p2 : Int32) (p3 : Int32) : Array Slot := #[iv p0, iv p1, iv p2, iv p3, iv 2, iv 1, iv (p2 &&& (255 : Int32)).toUInt32.toUInt16.toUInt32.toInt32, .unset, .unset, .unset, .unset, .unset]
abbrev L0_35 (p0 : Int32) (p1 : Int32) (p2 : Int32) (p3 : Int32) (b205 : Addr) : Array Slot := #[iv p0, iv p1, iv p2, iv p3, iv 2, iv 1, iv (p2 &&& (255 : Int32)).toUInt32.toUInt16.toUInt32.toInt32, rv b205, iv 17, .unset, .unset, .unset]
abbrev L0_36 (p0 : Int32) (p1 : Int32) (p2 : Int32) (p3 : Int32) (b205 : Addr) : Array Slot := #[iv p0, iv p1, iv p2, iv p3, iv 2, iv 1, iv (p2 &&& (255 : Int32)).toUInt32.toUInt16.toUInt32.toInt32, rv b205, .unset, .unset, .unset, .unset]
abbrev L0_37 (p0 : Int32) (p1 : Int32) (p2 : Int32) (p3 : Int32) : Array Slot := #[iv p0, iv p1, iv p2, iv p3, iv ((p0 &&& (2147483647 : Int32)) % (3 : Int32)), iv 2, iv (p2 &&& (255 : Int32)).toUInt32.toUInt16.toUInt32.toInt32, .unset, .unset, .unset, .unset, .unset]
abbrev L0_38 (p0 : Int32) (p1 : Int32) (p2 : Int32) (p3 : Int32) : Array Slot := #[iv p0, iv p1, iv p2, iv p3, iv 0, iv 2, iv (p2 &&& (255 : Int32)).toUInt32.toUInt16.toUInt32.toInt32, .unset, .unset, .unset, .unset, .unset]
abbrev L0_39 (p0 : Int32) (p1 : Int32) (p2 : Int32) (p3 : Int32) (b235 : Addr) : Array Slot := #[iv p0, iv p1, iv p2, iv p3, iv 0, iv 2, iv (p2 &&& (255 : Int32)).toUInt32.toUInt16.toUInt32.toInt32, rv b235, iv 12, .unset, .unset, .unset]
abbrev L0_40 (p0 : Int32) (p1 : Int32) (p2 : Int32) (p3 : Int32) (b235 : Addr) : Array Slot := #[iv p0, iv p1, iv p2, iv p3, iv 0, iv 2, iv (p2 &&& (255 : Int32)).toUInt32.toUInt16.toUInt32.toInt32, rv b235, .unset, .unset, .unset, .unset]
abbrev L0_41 (p0 : Int32) (p1 : Int32) (p2 : Int32) (p3 : Int32) : Array Slot := #[iv p0, iv p1, iv p2, iv p3, iv 1, iv 2, iv (p2 &&& (255 : Int32)).toUInt32.toUInt16.toUInt32.toInt32, .unset, .unset, .unset, .unset, .unset]
abbrev L0_42 (p0 : Int32) (p1 : Int32) (p2 : Int32) (p3 : Int32) (b259 : Addr) : Array Slot := #[iv p0, iv p1, iv p2, iv p3, iv 1, iv 2, iv (p2 &&& (255 : Int32)).toUInt32.toUInt16.toUInt32.toInt32, rv b259, iv 10, .unset, .unset, .unset]
abbrev L0_43 (p0 : Int32) (p1 : Int32) (p2 : Int32) (p3 : Int32) (b259 : Addr) : Array Slot := #[iv p0, iv p1, iv p2, iv p3, iv 1, iv 2, iv (p2 &&& (255 : Int32)).toUInt32.toUInt16.toUInt32.toInt32, rv b259, .unset, .unset, .unset, .unset]
abbrev L0_44 (p0 : Int32) (p1 : Int32) (p2 : Int32) (p3 : Int32) : Array Slot := #[iv p0, iv p1, iv p2, iv p3, iv 2, iv 2, iv (p2 &&& (255 : Int32)).toUInt32.toUInt16.toUInt32.toInt32, .unset, .unset, .unset, .unset, .unset]
abbrev L0_45 (p0 : Int32) (p1 : Int32) (p2 : Int32) (p3 : Int32) (b283 : Addr) : Array Slot := #[iv p0, iv p1, iv p2, iv p3, iv 2, iv 2, iv (p2 &&& (255 : Int32)).toUInt32.toUInt16.toUInt32.toInt32, rv b283, iv 15, .unset, .unset, .unset]
abbrev L0_46 (p0 : Int32) (p1 : Int32) (p2 : Int32) (p3 : Int32) (b283 : Addr) : Array Slot := #[iv p0, iv p1, iv p2, iv p3, iv 2, iv 2, iv (p2 &&& (255 : Int32)).toUInt32.toUInt16.toUInt32.toInt32, rv b283, .unset, .unset, .unset, .unset]
set_option maxRecDepth 65536 in
set_option maxHeartbeats 40000000 in
theorem rm0 (l : Launch) (Z : State) (aZ : Array Value) (hw : ∀ d ∈ tables_1, d.before aZ Z = true) (ws : List Jvm.Cond) (p0 : Int32) (p1 : Int32) (p2 : Int32) (p3 : Int32) (s_COMPACT_STRINGS : Int32) (h0 : Heap) (n0 : Nat) (Z0 : n0 ≤ h0.size) (hkp : ∀ (b : Addr) (cl : Cell), Z.heap[b]? = some cl → h0[b]? = some cl) (hcn62 : Jvm.Lit.constHeld Z "com/example/calycule/calycule/config/ModuleContext" 62) (hcn68 : Jvm.Lit.constHeld Z "com/example/calycule/calycule/config/ModuleContext" 68) (hcn69 : Jvm.Lit.constHeld Z "com/example/calycule/calycule/config/ModuleContext" 69) (hcn7 : Jvm.Lit.constHeld Z "java/lang/String" 7) (hcw : Jvm.Lit.compactW.before aZ Z = true) (S_COMPACT_STRINGS : Sta Z h0 "java/lang/String" "COMPACT_STRINGS" "Z" (.int s_COMPACT_STRINGS)) (hcs : ¬ s_COMPACT_STRINGS = (0 : Int32)) :
    MetFree l x (head1 (Jvm.Cond.code x code maxLocals ret :: ws) room_1) (fun a U => a = #[(.int p0), (.int p1), (.int p2), (.int p3)] ∧ Z.Warmed39 U.vm ∧ U.heap = h0 ∧ IB Z U.vm []) (fun _ _ _ _ _ => True) (fun _ U o U' => ∃ v L, o = .returned v ∧ Q0 Z n0 p0 p1 p2 p3 s_COMPACT_STRINGS h0 v U'.heap L ∧ ReturnedEndW U o U' L room_1.cells room_1.slots) := by
  refine MetFree.of_bodySF (plainFor_of_name pn_84) hisR ?_
  intro p e s m args below meth c s₁ Bd hml0 hP hK
  obtain ⟨rfl, hZ, hh, IB0⟩ := hP
  have hx := Bd.exec
  have hby := Bd.bytes
  have hml : c.maxLocals = 12 := hml0
  have hown : s.vm.findClass "com/example/calycule/calycule/config/ModuleContextIsImplicitPinLaw" = some m.cls := findClass_of_methodNamed Bd.named
  have hnm := (name_of_methodNamed Bd.named Bd.method).1
  have X0 : Stand p l e room_1 (s.setVm s.vm) m #[(.int p0), (.int p1), (.int p2), (.int p3)] below meth c s₁ [] 0 0 := Stand.of_body Bd
  have e0 : s₁.heap = h0 := by rw [← hh, Bd.state]; rfl
  have N0 := Fr.nil n0
  have K0 : Keep h0 h0 [] := Keep.refl _ _
  obtain ⟨En, hEn⟩ : ∃ z, z = (s₁.setTop (entryFrame m #[(.int p0), (.int p1), (.int p2), (.int p3)] maxLocals)) := ⟨_, rfl⟩
  have go0 : Go p.tables e below s₁ (mkF m 0 (L0_0 p0 p1 p2 p3) []) En := fun t k => by subst hEn; exact castTop (ef0 m p0 p1 p2 p3) k
  have hS0 : s.Since s.vm s.heap.size := (State.WarmedH.refl s).since _
  have hk0 : s.heap.size ≤ h0.size := by rw [← hh]; exact Nat.le_refl _
  have hkS : ∀ (b : Addr) (cl : Cell), Z.heap[b]? = some cl → s.heap[b]? = some cl := fun b cl q => by rw [hh]; exact hkp b cl q
  have go1 : Go p.tables e below s₁ (mkF m 21 (L0_1 p0 p1 p2 p3) []) En := by
    intro t k
    refine go0 _ ?_
    refine XS.iloadN X0.here hx rfl (hb hby at_0) rfl ?_
    refine X0.ldcInt hx hown (mvT hZ (hw _ (mi 0 rfl))) (g := (mkF m 1 (L0_0 p0 p1 p2 p3) [(.int p0)])) rfl (hb hby at_1) _ ?_
    refine XS.iand X0.here hx rfl (hb hby at_3) rfl ?_
    show Steps _ _ _ (s₁.setTop (mkF m 4 (L0_0 p0 p1 p2 p3) [(.int (p0 &&& (2147483647 : Int32)))])) _
    refine XS.iconst X0.here hx rfl (hb hby at_4) ?_
    refine iremM X0 hx rfl (hb hby at_5) rfl (by decide) ?_
    refine XS.istore X0.here hx rfl (hb hby at_6) rfl (l' := (L0_2 p0 p1 p2 p3)) rfl ?_
    show Steps _ _ _ (s₁.setTop (mkF m 8 (L0_2 p0 p1 p2 p3) [])) _
    refine XS.iloadN X0.here hx rfl (hb hby at_8) rfl ?_
    refine XS.iconst X0.here hx rfl (hb hby at_9) ?_
    refine XS.iand X0.here hx rfl (hb hby at_10) rfl ?_
    show Steps _ _ _ (s₁.setTop (mkF m 11 (L0_2 p0 p1 p2 p3) [(.int (p3 &&& (3 : Int32)))])) _
    refine XS.istore X0.here hx rfl (hb hby at_11) rfl (l' := (L0_3 p0 p1 p2 p3)) rfl ?_
    refine XS.iloadN X0.here hx rfl (hb hby at_13) rfl ?_
    refine XS.sipush X0.here hx rfl (hb hby at_14) ?_
    show Steps _ _ _ (s₁.setTop (mkF m 17 (L0_3 p0 p1 p2 p3) [(.int 255), (.int p2)])) _
    refine XS.iand X0.here hx rfl (hb hby at_17) rfl ?_
    refine XS.i2c X0.here hx rfl (hb hby at_18) rfl ?_
    refine XS.istore X0.here hx rfl (hb hby at_19) rfl (l' := (L0_1 p0 p1 p2 p3)) rfl ?_
    show Steps _ _ _ (s₁.setTop (mkF m 21 (L0_1 p0 p1 p2 p3) [])) _
    exact k
  by_cases hs2 : (p3 &&& (3 : Int32)) = (3 : Int32)
  · have go3 : Go p.tables e below s₁ (mkF m 21 (L0_4 p0 p1 p2 p3) []) En := by
      have q : Go p.tables e below s₁ (mkF m  21 #[iv p0, iv p1, iv p2, iv p3, iv ((p0 &&& (2147483647 : Int32)) % (3 : Int32)), iv (p3 &&& (3 : Int32)), iv (p2 &&& (255 : Int32)).toUInt32.toUInt16.toUInt32.toInt32, .unset, .unset, .unset, .unset, .unset] []) En := go1
      rw [hs2] at q
      exact q
    have go4 : Go p.tables e below s₁ (mkF m 27 (L0_4 p0 p1 p2 p3) []) En := by
      intro t k
      refine go3 _ ?_
      refine XS.iload X0.here hx rfl (hb hby at_21) rfl ?_
      refine XS.iconst X0.here hx rfl (hb hby at_23) ?_
      refine XS.icmpNo X0.here hx rfl (hb hby at_24) rfl (XT.ii_ne_f (by decide : ((3 : Int32) = (3 : Int32)))) ?_
      show Steps _ _ _ (s₁.setTop (mkF m 27 (L0_4 p0 p1 p2 p3) [])) _
      exact k
    obtain ⟨T5, h5, X5, e5, E5, A5, D5, -, st5⟩ := newO X0 hx hZ hown (hw _ (mi 6 rfl)) (hw _ (mi 7 rfl)) (hw _ (mi 8 rfl)) e0 (g := (mkF m 27 (L0_4 p0 p1 p2 p3) [])) rfl (hb hby at_27) (by decide) (by decide)
    obtain ⟨b5, g5⟩ : ∃ z, z = h0.size := ⟨_, rfl⟩
    rw [← g5] at A5 D5 st5
    have low5 : n0 ≤ b5 := Nat.le_trans Z0 (Nat.le_of_eq g5.symm)
    have fsh5 : h0.size ≤ b5 := Nat.le_trans K0.1 (Nat.le_of_eq g5.symm)
    have K5 : Keep h0 h5 [] := K0.ext E5
    have Zs5 : n0 ≤ h5.size := Nat.le_trans Z0 E5.1
    have hk5 : s.heap.size ≤ h5.size := Nat.le_trans hk0 E5.1
    have go6 := gap go4 st5
    have F7 : Fld Z h5 b5 "java/lang/String" "coder" "B" (.int 0) := D5 (Or.inr (hw _ (mi 32 rfl))) (ty := .byte) (by decide)
    have F8 : Fld Z h5 b5 "java/lang/String" "value" "[B" .null := D5 (Or.inr (hw _ (mi 34 rfl))) (ty := (.array .byte)) (by decide)
    have go9 : Go p.tables e below T5 (mkF m 32 (L0_4 p0 p1 p2 p3) [(.int 0), (.ref b5), (.ref b5)]) En := by
      intro t k
      refine go6 _ ?_
      refine XS.dup X5.here hx rfl (hb hby at_30) rfl rfl ?_
      refine XS.iconst X5.here hx rfl (hb hby at_31) ?_
      exact k
    obtain ⟨T10, h10, k10, X10, e10, E10, A10, st10⟩ := newP X5 hx hZ (hw _ (mi 5 rfl)) e5 (g := (mkF m 32 (L0_4 p0 p1 p2 p3) [(.int 0), (.ref b5), (.ref b5)])) rfl (hb hby at_32) rfl (by decide) (cap := 0) (by decide) (by decide) (by decide) (by decide)
    obtain ⟨b10, g10⟩ : ∃ z, z = h5.size := ⟨_, rfl⟩
    rw [← g10] at A10 st10
    have ne11 : b5 ≠ b10 := Nat.ne_of_lt (Nat.lt_of_lt_of_le A5.lt (Nat.le_of_eq g10.symm))
    have low10 : n0 ≤ b10 := Nat.le_trans Zs5 (Nat.le_of_eq g10.symm)
    have fsh10 : h0.size ≤ b10 := Nat.le_trans K5.1 (Nat.le_of_eq g10.symm)
    have K10 : Keep h0 h10 [] := K5.ext E10
    have Zs10 : n0 ≤ h10.size := Nat.le_trans Zs5 E10.1
    have hk10 : s.heap.size ≤ h10.size := Nat.le_trans hk5 E10.1
    have go12 := gap go9 st10
    have F13 := A5.ext E10
    have F14 := F7.ext E10
    have F15 := F8.ext E10
    have F16 : Arv Z h10 b10 k10 .char (0 : Int32) [] (.int 0) := (Arv.new A10 (by decide)).pad (pad_rep [] (.int 0) 0)
    obtain ⟨_, _, ⟨T17, L17, k17, n17⟩, -, X17q, hS17q, hg17, ⟨Lc17, hQ17, l17, y17, z17, IB17⟩, st17⟩ := X10.specialBackS hx (y := (⟨"java/lang/String", "<init>", "([C)V"⟩ : MethodName)) rfl hown (mvT hZ (hw _ (mi 9 rfl))) (mvT hZ (hw _ (mi 10 rfl))) (mvT hZ (hw _ (mi 11 rfl))) (by decide) (own_backOfSIP (W := 1) (rmiBn0 l Z aZ hw [] b5 b10 k10 h10 n0 Zs10 F13 F15 F14 low5 F16 (fun b cl q => K10.2.1 b cl (hkp b cl q) nin0) hcn7 hcw) hZ (hw _ (mi 11 rfl)) (hw _ (mi 8 rfl)) (by decide) (by decide) IB0) (g := (mkF m 34 (L0_4 p0 p1 p2 p3) [(.ref b10), (.ref b5), (.ref b5)])) rfl (by rw [hml]; rfl) (Steps.refl _) (a := b5) (argsL := [(.ref b10)]) (rest := [(.ref b5)]) (lenOf pd_640 rfl) rfl (by show 2 * 0 + _ ≤ _; exact Nat.le_of_eq rfl) (hb hby at_34) (fun _ _ => ⟨rfl, e10, (by decide : 2 + 2 ≤ _), (by decide : 4 + 4 ≤ _)⟩)
    dsimp only [Pt.U, Pt.locs, Pt.cells, Pt.slots] at X17q hS17q hg17 l17 y17 z17 st17 hQ17
    subst l17 y17 z17
    have hk17q : s.heap.size ≤ T10.heap.size := by rw [e10]; exact hk10
    obtain ⟨X17, hS17, hZ17, hown17⟩ := rebS hS0 hk17q X17q hS17q hg17 hZ hown
    have hk17r : T17.heap.size ≤ T17.heap.size := Nat.le_refl _
    obtain ⟨rfl, N17q, K17q, G17_0, G17_1, bx17, kx17, GX17, GV17⟩ := hQ17
    have N17 := Fr.app N0 N17q
    have K17 : Keep h0 T17.heap [] := K10.trans K17q (allS (Or.inr fsh5) all0)
    have Zs17 : n0 ≤ T17.heap.size := Nat.le_trans Zs10 K17q.1
    have hk17 : s.heap.size ≤ T17.heap.size := Nat.le_trans hk10 K17q.1
    have F18 := F13.keep K17q
    have F19 := F16.keep K17q (ninS (Ne.symm ne11) nin0)
    have go20 := gapT go12 st17
    obtain ⟨_, _, ⟨T21, L21, k21, n21⟩, -, X21q, hS21q, hg21, ⟨Lc21, hQ21, l21, y21, z21⟩, st21⟩ := callSS X17 hx (y := (⟨"com/example/calycule/calycule/config/ModuleContext", "isImplicit", "(Ljava/lang/String;)Z"⟩ : MethodName)) hown17 (mvT hZ17 (hw _ (mi 35 rfl))) (mvT hZ17 (hw _ (mi 36 rfl))) (mvT hZ17 (hw _ (mi 37 rfl))) (mvT hZ17 (hw _ (mi 38 rfl))) (by decide) (own_backOfSI (W := 0) (rmiz l Z aZ hw [] b5 _ _ _ [] _ T17.heap T17.heap.size (Nat.le_refl _) G17_0 G17_1 GX17 GV17 (own_sta_keep S_COMPACT_STRINGS K17 all0) hcs (fun b cl q => K17.2.1 b cl (hkp b cl q) nin0) hcn62 hcn68 hcn69 hcw rfl (by decide) (by decide) (by decide)) hZ17 (hw _ (mi 38 rfl)) (hw _ (mi 37 rfl)) (by decide) (by decide) IB17) (g := (mkF m 37 (L0_4 p0 p1 p2 p3) [(.ref b5)])) rfl (by rw [hml]; rfl) (argsL := [(.ref b5)]) (rest := []) (lenOf pd_641 rfl) rfl (by show 2 * 0 + _ ≤ _; exact Nat.le_of_eq rfl) (hb hby at_37) (fun _ _ => ⟨rfl, rfl, (by decide : 4 + 6 ≤ _), (by decide : 8 + 172 ≤ _)⟩)
    dsimp only [Pt.U, Pt.locs, Pt.cells, Pt.slots] at X21q hS21q hg21 l21 y21 z21 st21 hQ21
    subst l21 y21 z21
    have hk21q : T17.heap.size ≤ T17.heap.size := hk17r
    obtain ⟨X21, hS21, hZ21, hown21⟩ := rebS hS17 hk21q X21q hS21q hg21 hZ17 hown17
    have hk21r : T21.heap.size ≤ T21.heap.size := Nat.le_refl _
    obtain ⟨rfl, N21q, K21q⟩ := hQ21
    have N21 := Fr.app N17 (own_frm Zs17 N21q)
    have K21 : Keep h0 T21.heap [] := K17.trans K21q all0
    have Zs21 : n0 ≤ T21.heap.size := Nat.le_trans Zs17 K21q.1
    have hk21 : T17.heap.size ≤ T21.heap.size := Nat.le_trans hk17r K21q.1
    have F22 := G17_0.keep K21q
    have F23 := F19.keep K21q nin0
    have F24 := G17_1.keep K21q nin0
    have F25 := GX17.keep K21q nin0
    have F26 := GV17.keep K21q nin0
    have go27 := gapT go20 st21
    have go28 : Go p.tables e below T21 (mkF m 48 (L0_4 p0 p1 p2 p3) [(.int 1)]) En := by
      intro t k
      refine go27 _ ?_
      refine XS.ifNo X21.here hx rfl (hb hby at_40) rfl (XT.i0_ne_f (by decide : ((0 : Int32) = (0 : Int32)))) ?_
      refine XS.iconst X21.here hx rfl (hb hby at_43) ?_
      refine XS.goto X21.here hx rfl (pc0 := 44) (pc' := 48) rfl (hb hby at_44) (by decide) (by decide) ?_
      show Steps _ _ _ (T21.setTop (mkF m 48 (L0_4 p0 p1 p2 p3) [(.int 1)])) _
      exact k
    obtain ⟨fs, hr, hrun, hended, hRW⟩ := X21.leaveW hS21 (hk21r) (v := some (.int 1)) (fun h => by rw [Bd.returns] at h; cases h) Bd.notSynchronized
    subst hEn
    refine ⟨_, _, go28 _ (Jvm.RoadKit.retOut X21 hx Bd.returns rfl (Or.inl ⟨rfl, Or.inr (Or.inl rfl), _, rfl⟩) (hb hby at_48) hr), hrun, hended, _, _, rfl, ?_, hRW.1, hRW.2.1, hRW.2.2.1, hRW.2.2.2.mono (by decide) (by decide)⟩
    show Q0 _ _ p0 p1 p2 p3 s_COMPACT_STRINGS h0 _ (T21.setFrames fs).heap _
    have hE : (T21.setFrames fs).heap = T21.heap := rfl
    rw [hE]
    exact ⟨congrArg (fun z => some (Value.int z)) ((by rw [f0, if_pos hs2] : (1 : Int32) = (f0 p0 p3)).trans (f0_one p0 p3)), N21⟩
  by_cases hs29 : (p3 &&& (3 : Int32)) = (0 : Int32)
  · have go30 : Go p.tables e below s₁ (mkF m 21 (L0_5 p0 p1 p2 p3) []) En := by
      have q : Go p.tables e below s₁ (mkF m  21 #[iv p0, iv p1, iv p2, iv p3, iv ((p0 &&& (2147483647 : Int32)) % (3 : Int32)), iv (p3 &&& (3 : Int32)), iv (p2 &&& (255 : Int32)).toUInt32.toUInt16.toUInt32.toInt32, .unset, .unset, .unset, .unset, .unset] []) En := go1
      rw [hs29] at q
      exact q
    have go31 : Go p.tables e below s₁ (mkF m 49 (L0_5 p0 p1 p2 p3) []) En := by
      intro t k
      refine go30 _ ?_
      refine XS.iload X0.here hx rfl (hb hby at_21) rfl ?_
      refine XS.iconst X0.here hx rfl (hb hby at_23) ?_
      refine XS.icmpYes X0.here hx rfl (pc0 := 24) (pc' := 49) rfl (hb hby at_24) rfl (XT.ii_ne_t (by decide : ¬ ((0 : Int32) = (3 : Int32)))) (by decide) (by decide) ?_
      show Steps _ _ _ (s₁.setTop (mkF m 49 (L0_5 p0 p1 p2 p3) [])) _
      exact k
    by_cases hs32 : ((p0 &&& (2147483647 : Int32)) % (3 : Int32)) = (0 : Int32)
    · have go33 : Go p.tables e below s₁ (mkF m 49 (L0_6 p0 p1 p2 p3) []) En := by
        have q : Go p.tables e below s₁ (mkF m  49 #[iv p0, iv p1, iv p2, iv p3, iv ((p0 &&& (2147483647 : Int32)) % (3 : Int32)), iv 0, iv (p2 &&& (255 : Int32)).toUInt32.toUInt16.toUInt32.toInt32, .unset, .unset, .unset, .unset, .unset] []) En := go31
        rw [hs32] at q
        exact q
      have go34 : Go p.tables e below s₁ (mkF m 53 (L0_6 p0 p1 p2 p3) [(.int 0), (.int 0)]) En := by
        intro t k
        refine go33 _ ?_
        refine XS.iload X0.here hx rfl (hb hby at_49) rfl ?_
        refine XS.iload X0.here hx rfl (hb hby at_51) rfl ?_
        exact k
      obtain ⟨_, T35, Lc35, X35, hQ35, st35⟩ := own_cs X0 hx hZ hown hml go34 (hb hby at_53) e0 (hw _ (mi 1 rfl)) (own_site642 hw) (rmnm00 l Z aZ hw []  h0 n0 Z0 ) (by decide) (argsL := [(.int 0), (.int 0)]) (rest := []) rfl rfl rfl (lenOf pd_643 rfl) (W := 0) rfl (by decide) (by decide) (by decide : 0 + 1 ≤ _) (by decide : 0 + 13 ≤ _)
      obtain ⟨b35, kb35, rfl, N35q, K35q, fr35, G35_0⟩ := hQ35
      have N35 := Fr.app N0 N35q
      have K35 : Keep h0 T35.heap [] := K0.trans K35q all0
      have low35 : n0 ≤ b35 := Nat.le_trans Z0 fr35
      have fsh35 : h0.size ≤ b35 := Nat.le_trans K0.1 fr35
      have Zs35 : n0 ≤ T35.heap.size := Nat.le_trans Z0 K35q.1
      have hk35 : s.heap.size ≤ T35.heap.size := Nat.le_trans hk0 K35q.1
      obtain ⟨cl36, Ar36, q36, S36, N36, H36, G36⟩ := id G35_0
      obtain ⟨og, hel, ho⟩ : ∃ og : Int32, ([(.int 109), (.int 111), (.int 100), (.int 117), (.int 108), (.int 101), (.int 67), (.int 111), (.int 110), (.int 116), (.int 101), (.int 120), (.int 116)] : List Value).getD ((p1 &&& (2147483647 : Int32)) % (13 : Int32)).toNatClampNeg (.int 0) = .int og ∧ ((((p1 &&& (2147483647 : Int32)) % (13 : Int32)) = (0 : Int32) ∧ og = (109 : Int32)) ∨ (((p1 &&& (2147483647 : Int32)) % (13 : Int32)) = (1 : Int32) ∧ og = (111 : Int32)) ∨ (((p1 &&& (2147483647 : Int32)) % (13 : Int32)) = (2 : Int32) ∧ og = (100 : Int32)) ∨ (((p1 &&& (2147483647 : Int32)) % (13 : Int32)) = (3 : Int32) ∧ og = (117 : Int32)) ∨ (((p1 &&& (2147483647 : Int32)) % (13 : Int32)) = (4 : Int32) ∧ og = (108 : Int32)) ∨ (((p1 &&& (2147483647 : Int32)) % (13 : Int32)) = (5 : Int32) ∧ og = (101 : Int32)) ∨ (((p1 &&& (2147483647 : Int32)) % (13 : Int32)) = (6 : Int32) ∧ og = (67 : Int32)) ∨ (((p1 &&& (2147483647 : Int32)) % (13 : Int32)) = (7 : Int32) ∧ og = (111 : Int32)) ∨ (((p1 &&& (2147483647 : Int32)) % (13 : Int32)) = (8 : Int32) ∧ og = (110 : Int32)) ∨ (((p1 &&& (2147483647 : Int32)) % (13 : Int32)) = (9 : Int32) ∧ og = (116 : Int32)) ∨ (((p1 &&& (2147483647 : Int32)) % (13 : Int32)) = (10 : Int32) ∧ og = (101 : Int32)) ∨ (((p1 &&& (2147483647 : Int32)) % (13 : Int32)) = (11 : Int32) ∧ og = (120 : Int32)) ∨ (((p1 &&& (2147483647 : Int32)) % (13 : Int32)) = (12 : Int32) ∧ og = (116 : Int32))) := by
        rcases own_in13 p1 with h | h | h | h | h | h | h | h | h | h | h | h | h
        · exact ⟨(109 : Int32), by rw [h]; rfl, (Or.inl ⟨h, rfl⟩)⟩
        · exact ⟨(111 : Int32), by rw [h]; rfl, (Or.inr (Or.inl ⟨h, rfl⟩))⟩
        · exact ⟨(100 : Int32), by rw [h]; rfl, (Or.inr (Or.inr (Or.inl ⟨h, rfl⟩)))⟩
        · exact ⟨(117 : Int32), by rw [h]; rfl, (Or.inr (Or.inr (Or.inr (Or.inl ⟨h, rfl⟩))))⟩
        · exact ⟨(108 : Int32), by rw [h]; rfl, (Or.inr (Or.inr (Or.inr (Or.inr (Or.inl ⟨h, rfl⟩)))))⟩
        · exact ⟨(101 : Int32), by rw [h]; rfl, (Or.inr (Or.inr (Or.inr (Or.inr (Or.inr (Or.inl ⟨h, rfl⟩))))))⟩
        · exact ⟨(67 : Int32), by rw [h]; rfl, (Or.inr (Or.inr (Or.inr (Or.inr (Or.inr (Or.inr (Or.inl ⟨h, rfl⟩)))))))⟩
        · exact ⟨(111 : Int32), by rw [h]; rfl, (Or.inr (Or.inr (Or.inr (Or.inr (Or.inr (Or.inr (Or.inr (Or.inl ⟨h, rfl⟩))))))))⟩
        · exact ⟨(110 : Int32), by rw [h]; rfl, (Or.inr (Or.inr (Or.inr (Or.inr (Or.inr (Or.inr (Or.inr (Or.inr (Or.inl ⟨h, rfl⟩)))))))))⟩
        · exact ⟨(116 : Int32), by rw [h]; rfl, (Or.inr (Or.inr (Or.inr (Or.inr (Or.inr (Or.inr (Or.inr (Or.inr (Or.inr (Or.inl ⟨h, rfl⟩))))))))))⟩
        · exact ⟨(101 : Int32), by rw [h]; rfl, (Or.inr (Or.inr (Or.inr (Or.inr (Or.inr (Or.inr (Or.inr (Or.inr (Or.inr (Or.inr (Or.inl ⟨h, rfl⟩)))))))))))⟩
        · exact ⟨(120 : Int32), by rw [h]; rfl, (Or.inr (Or.inr (Or.inr (Or.inr (Or.inr (Or.inr (Or.inr (Or.inr (Or.inr (Or.inr (Or.inr (Or.inl ⟨h, rfl⟩))))))))))))⟩
        · exact ⟨(116 : Int32), by rw [h]; rfl, (Or.inr (Or.inr (Or.inr (Or.inr (Or.inr (Or.inr (Or.inr (Or.inr (Or.inr (Or.inr (Or.inr (Or.inr ⟨h, rfl⟩))))))))))))⟩
      have go38 : Go p.tables e below T35 (mkF m 154 (L0_7 p0 p1 p2 p3 b35 og) []) En := by
        intro t k
        have k : Steps p.tables e below (T35.setTop (mkF m  154 #[iv p0, iv p1, iv p2, iv p3, iv 0, iv 0, iv (b0_39 p2 og), rv b35, iv 13, iv ((p1 &&& (2147483647 : Int32)) % (13 : Int32)), iv og, .unset] [])) t := k
        refine st35 _ ?_
        refine XS.astore X35.here hx rfl (hb hby at_56) rfl rfl (l' := (L0_8 p0 p1 p2 p3 b35)) rfl ?_
        refine XS.aload X35.here hx rfl (hb hby at_58) rfl rfl ?_
        refine X35.arraylength hx Ar36.1 (State.isArrayOf_alike hZ.alike Ar36.2.1) (g := (mkF m 60 (L0_8 p0 p1 p2 p3 b35) [(.ref b35)])) rfl rfl (hb hby at_60) _ ?_
        rw [len_of S36 N36]
        show Steps _ _ _ (T35.setTop (mkF m 61 (L0_8 p0 p1 p2 p3 b35) [(.int 13)])) _
        refine XS.istore X35.here hx rfl (hb hby at_61) rfl (l' := (L0_9 p0 p1 p2 p3 b35)) rfl ?_
        refine XS.iload X35.here hx rfl (hb hby at_63) rfl ?_
        refine XS.iconst X35.here hx rfl (hb hby at_65) ?_
        show Steps _ _ _ (T35.setTop (mkF m 66 (L0_9 p0 p1 p2 p3 b35) [(.int 1), (.int 0)])) _
        refine XS.icmpYes X35.here hx rfl (pc0 := 66) (pc' := 99) rfl (hb hby at_66) rfl (XT.ii_ne_t (by decide : ¬ ((0 : Int32) = (1 : Int32)))) (by decide) (by decide) ?_
        refine XS.iload X35.here hx rfl (hb hby at_99) rfl ?_
        refine XS.iconst X35.here hx rfl (hb hby at_101) ?_
        show Steps _ _ _ (T35.setTop (mkF m 102 (L0_9 p0 p1 p2 p3 b35) [(.int 2), (.int 0)])) _
        refine XS.icmpYes X35.here hx rfl (pc0 := 102) (pc' := 126) rfl (hb hby at_102) rfl (XT.ii_ne_t (by decide : ¬ ((0 : Int32) = (2 : Int32)))) (by decide) (by decide) ?_
        refine XS.iloadN X35.here hx rfl (hb hby at_126) rfl ?_
        refine X35.ldcInt hx hown (mvT hZ (hw _ (mi 0 rfl))) (g := (mkF m 127 (L0_9 p0 p1 p2 p3 b35) [(.int p1)])) rfl (hb hby at_127) _ ?_
        show Steps _ _ _ (T35.setTop (mkF m 129 (L0_9 p0 p1 p2 p3 b35) [(.int 2147483647), (.int p1)])) _
        refine XS.iand X35.here hx rfl (hb hby at_129) rfl ?_
        refine XS.iload X35.here hx rfl (hb hby at_130) rfl ?_
        refine iremM X35 hx rfl (hb hby at_132) rfl (by decide) ?_
        show Steps _ _ _ (T35.setTop (mkF m 133 (L0_9 p0 p1 p2 p3 b35) [(.int ((p1 &&& (2147483647 : Int32)) % (13 : Int32)))])) _
        refine XS.istore X35.here hx rfl (hb hby at_133) rfl (l' := (L0_10 p0 p1 p2 p3 b35)) rfl ?_
        refine XS.aload X35.here hx rfl (hb hby at_135) rfl rfl ?_
        refine XS.iload X35.here hx rfl (hb hby at_137) rfl ?_
        show Steps _ _ _ (T35.setTop (mkF m 139 (L0_10 p0 p1 p2 p3 b35) [(.int ((p1 &&& (2147483647 : Int32)) % (13 : Int32))), (.ref b35)])) _
        refine X35.caload hx (j := ((p1 &&& (2147483647 : Int32)) % (13 : Int32))) (v := (.int og)) Ar36.1 (State.isArrayOf_alike hZ.alike Ar36.2.1) Ar36.2.2 (inb_of S36 (own_bb13 p1)) (Has.at H36 (inb_of S36 (own_bb13 p1)) hel) (g := (mkF m 139 (L0_10 p0 p1 p2 p3 b35) [(.int ((p1 &&& (2147483647 : Int32)) % (13 : Int32))), (.ref b35)])) rfl rfl (hb hby at_139) _ ?_
        refine XS.istore X35.here hx rfl (hb hby at_140) rfl (l' := (L0_11 p0 p1 p2 p3 b35 og)) rfl ?_
        refine XS.iloadN X35.here hx rfl (hb hby at_142) rfl ?_
        show Steps _ _ _ (T35.setTop (mkF m 143 (L0_11 p0 p1 p2 p3 b35 og) [(.int p2)])) _
        refine XS.sipush X35.here hx rfl (hb hby at_143) ?_
        refine XS.iand X35.here hx rfl (hb hby at_146) rfl ?_
        by_cases hc37 : (p2 &&& (256 : Int32)) = (0 : Int32)
        · refine XS.ifYes X35.here hx rfl (pc0 := 147) (pc' := 154) rfl (hb hby at_147) rfl (XT.i0_eq_t hc37) (by decide) (by decide) ?_
          have hq40 : (b0_39 p2 og) = (p2 &&& (255 : Int32)).toUInt32.toUInt16.toUInt32.toInt32 := by rw [b0_39, if_pos hc37]
          rw [hq40] at k
          exact k
        · refine XS.ifNo X35.here hx rfl (hb hby at_147) rfl (XT.i0_eq_f hc37) ?_
          refine XS.iload X35.here hx rfl (hb hby at_150) rfl ?_
          refine XS.istore X35.here hx rfl (hb hby at_152) rfl (l' := #[iv p0, iv p1, iv p2, iv p3, iv 0, iv 0, iv og, rv b35, iv 13, iv ((p1 &&& (2147483647 : Int32)) % (13 : Int32)), iv og, .unset]) rfl ?_
          have hq41 : (b0_39 p2 og) = og := by rw [b0_39, if_neg hc37]
          rw [hq41] at k
          exact k
      have go42 : Go p.tables e below T35 (mkF m 160 (L0_7 p0 p1 p2 p3 b35 og) [(.int (b0_39 p2 og)), (.int ((p1 &&& (2147483647 : Int32)) % (13 : Int32))), (.ref b35)]) En := by
        intro t k
        refine go38 _ ?_
        refine XS.aload X35.here hx rfl (hb hby at_154) rfl rfl ?_
        refine XS.iload X35.here hx rfl (hb hby at_156) rfl ?_
        refine XS.iload X35.here hx rfl (hb hby at_158) rfl ?_
        show Steps _ _ _ (T35.setTop (mkF m 160 (L0_7 p0 p1 p2 p3 b35 og) [(.int (b0_39 p2 og)), (.int ((p1 &&& (2147483647 : Int32)) % (13 : Int32))), (.ref b35)])) _
        exact k
      obtain ⟨T43, h43, X43, e43, W43, st43⟩ := stC X35 hx hZ rfl Ar36 (j := ((p1 &&& (2147483647 : Int32)) % (13 : Int32))) (inb_of S36 (own_bb13 p1)) (g := (mkF m 160 (L0_7 p0 p1 p2 p3 b35 og) [(.int (b0_39 p2 og)), (.int ((p1 &&& (2147483647 : Int32)) % (13 : Int32))), (.ref b35)])) rfl rfl (hb hby at_160)
      have go44 := gap go42 st43
      have N43 := Fr.snoc X43 N35 low35
      have K43 : Keep h0 h43 [] := K35.wr W43 (Or.inr fsh35)
      have Zs43 : n0 ≤ h43.size := Nat.le_trans Zs35 (Keep.of_wr W43).1
      have hk43 : s.heap.size ≤ h43.size := Nat.le_trans hk35 (Keep.of_wr W43).1
      have F45 : Arv Z h43 b35 kb35 .char (13 : Int32) ([(.int 109), (.int 111), (.int 100), (.int 117), (.int 108), (.int 101), (.int 67), (.int 111), (.int 110), (.int 116), (.int 101), (.int 120), (.int 116)].set ((p1 &&& (2147483647 : Int32)) % (13 : Int32)).toNatClampNeg (.int (b0_39 p2 og).toUInt32.toUInt16.toUInt32.toInt32)) (.int 0) := Arv.set Ar36 q36 S36 N36 H36 G36 (fits_nar_char _) W43 ((p1 &&& (2147483647 : Int32)) % (13 : Int32)).toNatClampNeg rfl (own_tn (own_bb13 p1))
      have F46 : Arv Z h43 b35 kb35 .char (13 : Int32) [(.int (sx ((p1 &&& (2147483647 : Int32)) % (13 : Int32)) (b0_39 p2 og).toUInt32.toUInt16.toUInt32.toInt32 (0 : Int32) (109 : Int32))), (.int (sx ((p1 &&& (2147483647 : Int32)) % (13 : Int32)) (b0_39 p2 og).toUInt32.toUInt16.toUInt32.toInt32 (1 : Int32) (111 : Int32))), (.int (sx ((p1 &&& (2147483647 : Int32)) % (13 : Int32)) (b0_39 p2 og).toUInt32.toUInt16.toUInt32.toInt32 (2 : Int32) (100 : Int32))), (.int (sx ((p1 &&& (2147483647 : Int32)) % (13 : Int32)) (b0_39 p2 og).toUInt32.toUInt16.toUInt32.toInt32 (3 : Int32) (117 : Int32))), (.int (sx ((p1 &&& (2147483647 : Int32)) % (13 : Int32)) (b0_39 p2 og).toUInt32.toUInt16.toUInt32.toInt32 (4 : Int32) (108 : Int32))), (.int (sx ((p1 &&& (2147483647 : Int32)) % (13 : Int32)) (b0_39 p2 og).toUInt32.toUInt16.toUInt32.toInt32 (5 : Int32) (101 : Int32))), (.int (sx ((p1 &&& (2147483647 : Int32)) % (13 : Int32)) (b0_39 p2 og).toUInt32.toUInt16.toUInt32.toInt32 (6 : Int32) (67 : Int32))), (.int (sx ((p1 &&& (2147483647 : Int32)) % (13 : Int32)) (b0_39 p2 og).toUInt32.toUInt16.toUInt32.toInt32 (7 : Int32) (111 : Int32))), (.int (sx ((p1 &&& (2147483647 : Int32)) % (13 : Int32)) (b0_39 p2 og).toUInt32.toUInt16.toUInt32.toInt32 (8 : Int32) (110 : Int32))), (.int (sx ((p1 &&& (2147483647 : Int32)) % (13 : Int32)) (b0_39 p2 og).toUInt32.toUInt16.toUInt32.toInt32 (9 : Int32) (116 : Int32))), (.int (sx ((p1 &&& (2147483647 : Int32)) % (13 : Int32)) (b0_39 p2 og).toUInt32.toUInt16.toUInt32.toInt32 (10 : Int32) (101 : Int32))), (.int (sx ((p1 &&& (2147483647 : Int32)) % (13 : Int32)) (b0_39 p2 og).toUInt32.toUInt16.toUInt32.toInt32 (11 : Int32) (120 : Int32))), (.int (sx ((p1 &&& (2147483647 : Int32)) % (13 : Int32)) (b0_39 p2 og).toUInt32.toUInt16.toUInt32.toInt32 (12 : Int32) (116 : Int32)))] (.int 0) := by have q := F45; rw [own_set13 _ _ (own_in13 p1)] at q; exact q
      have hogr := own_ogr13 _ og ho
      have hcr : 0 ≤ (b0_39 p2 og).toInt ∧ (b0_39 p2 og).toInt ≤ 255 := by
        unfold b0_39; split
        · exact own_p255 p2
        · exact hogr
      have hv255 := own_cr _ hcr.1 hcr.2
      have go48 : Go p.tables e below T43 (mkF m 173 (L0_7 p0 p1 p2 p3 b35 og) [(.int (b0_49 p2 og))]) En := by
        intro t k
        have k : Steps p.tables e below (T43.setTop (mkF m  173 #[iv p0, iv p1, iv p2, iv p3, iv 0, iv 0, iv (b0_39 p2 og), rv b35, iv 13, iv ((p1 &&& (2147483647 : Int32)) % (13 : Int32)), iv og, .unset] [(.int (b0_49 p2 og))])) t := k
        refine go44 _ ?_
        refine XS.iload X43.here hx rfl (hb hby at_161) rfl ?_
        refine XS.iload X43.here hx rfl (hb hby at_163) rfl ?_
        by_cases hc47 : (b0_39 p2 og) = og
        · refine XS.icmpNo X43.here hx rfl (hb hby at_165) rfl (XT.ii_ne_f hc47) ?_
          refine XS.iconst X43.here hx rfl (hb hby at_168) ?_
          refine XS.goto X43.here hx rfl (pc0 := 169) (pc' := 173) rfl (hb hby at_169) (by decide) (by decide) ?_
          have hq50 : (b0_49 p2 og) = (1 : Int32) := by rw [b0_49, if_pos hc47]
          rw [hq50] at k
          exact k
        · refine XS.icmpYes X43.here hx rfl (pc0 := 165) (pc' := 172) rfl (hb hby at_165) rfl (XT.ii_ne_t hc47) (by decide) (by decide) ?_
          refine XS.iconst X43.here hx rfl (hb hby at_172) ?_
          have hq51 : (b0_49 p2 og) = (0 : Int32) := by rw [b0_49, if_neg hc47]
          rw [hq51] at k
          exact k
      have go52 : Go p.tables e below T43 (mkF m 175 (L0_12 p0 p1 p2 p3 b35 og) []) En := by
        intro t k
        refine go48 _ ?_
        refine XS.istore X43.here hx rfl (hb hby at_173) rfl (l' := (L0_12 p0 p1 p2 p3 b35 og)) rfl ?_
        exact k
      obtain ⟨T53, h53, X53, e53, E53, A53, D53, -, st53⟩ := newO X43 hx hZ hown (hw _ (mi 6 rfl)) (hw _ (mi 7 rfl)) (hw _ (mi 8 rfl)) e43 (g := (mkF m 175 (L0_12 p0 p1 p2 p3 b35 og) [])) rfl (hb hby at_175) (by decide) (by decide)
      obtain ⟨b53, g53⟩ : ∃ z, z = h43.size := ⟨_, rfl⟩
      rw [← g53] at A53 D53 st53
      have ne54 : b35 ≠ b53 := Nat.ne_of_lt (Nat.lt_of_lt_of_le F46.lt (Nat.le_of_eq g53.symm))
      have low53 : n0 ≤ b53 := Nat.le_trans Zs43 (Nat.le_of_eq g53.symm)
      have fsh53 : h0.size ≤ b53 := Nat.le_trans K43.1 (Nat.le_of_eq g53.symm)
      have K53 : Keep h0 h53 [] := K43.ext E53
      have Zs53 : n0 ≤ h53.size := Nat.le_trans Zs43 E53.1
      have hk53 : s.heap.size ≤ h53.size := Nat.le_trans hk43 E53.1
      have go55 := gap go52 st53
      have F56 := F46.ext E53
      have F57 : Fld Z h53 b53 "java/lang/String" "coder" "B" (.int 0) := D53 (Or.inr (hw _ (mi 32 rfl))) (ty := .byte) (by decide)
      have F58 : Fld Z h53 b53 "java/lang/String" "value" "[B" .null := D53 (Or.inr (hw _ (mi 34 rfl))) (ty := (.array .byte)) (by decide)
      have go59 : Go p.tables e below T53 (mkF m 181 (L0_12 p0 p1 p2 p3 b35 og) [(.ref b35), (.ref b53), (.ref b53)]) En := by
        intro t k
        refine go55 _ ?_
        refine XS.dup X53.here hx rfl (hb hby at_178) rfl rfl ?_
        refine XS.aload X53.here hx rfl (hb hby at_179) rfl rfl ?_
        exact k
      obtain ⟨_, T60, Lc60, X60, hQ60, st60⟩ := own_cb X53 hx hZ hown hml go59 (hb hby at_181) e53 (hw _ (mi 9 rfl)) (own_site647 hw) rfl (StrChars.Road.backV (W := 1) hZ (fun d hd => hw d (own_wds d hd)) (hw _ (mi 7 rfl)) (cs := [(sx ((p1 &&& (2147483647 : Int32)) % (13 : Int32)) (b0_39 p2 og).toUInt32.toUInt16.toUInt32.toInt32 (0 : Int32) (109 : Int32)), (sx ((p1 &&& (2147483647 : Int32)) % (13 : Int32)) (b0_39 p2 og).toUInt32.toUInt16.toUInt32.toInt32 (1 : Int32) (111 : Int32)), (sx ((p1 &&& (2147483647 : Int32)) % (13 : Int32)) (b0_39 p2 og).toUInt32.toUInt16.toUInt32.toInt32 (2 : Int32) (100 : Int32)), (sx ((p1 &&& (2147483647 : Int32)) % (13 : Int32)) (b0_39 p2 og).toUInt32.toUInt16.toUInt32.toInt32 (3 : Int32) (117 : Int32)), (sx ((p1 &&& (2147483647 : Int32)) % (13 : Int32)) (b0_39 p2 og).toUInt32.toUInt16.toUInt32.toInt32 (4 : Int32) (108 : Int32)), (sx ((p1 &&& (2147483647 : Int32)) % (13 : Int32)) (b0_39 p2 og).toUInt32.toUInt16.toUInt32.toInt32 (5 : Int32) (101 : Int32)), (sx ((p1 &&& (2147483647 : Int32)) % (13 : Int32)) (b0_39 p2 og).toUInt32.toUInt16.toUInt32.toInt32 (6 : Int32) (67 : Int32)), (sx ((p1 &&& (2147483647 : Int32)) % (13 : Int32)) (b0_39 p2 og).toUInt32.toUInt16.toUInt32.toInt32 (7 : Int32) (111 : Int32)), (sx ((p1 &&& (2147483647 : Int32)) % (13 : Int32)) (b0_39 p2 og).toUInt32.toUInt16.toUInt32.toInt32 (8 : Int32) (110 : Int32)), (sx ((p1 &&& (2147483647 : Int32)) % (13 : Int32)) (b0_39 p2 og).toUInt32.toUInt16.toUInt32.toInt32 (9 : Int32) (116 : Int32)), (sx ((p1 &&& (2147483647 : Int32)) % (13 : Int32)) (b0_39 p2 og).toUInt32.toUInt16.toUInt32.toInt32 (10 : Int32) (101 : Int32)), (sx ((p1 &&& (2147483647 : Int32)) % (13 : Int32)) (b0_39 p2 og).toUInt32.toUInt16.toUInt32.toInt32 (11 : Int32) (120 : Int32)), (sx ((p1 &&& (2147483647 : Int32)) % (13 : Int32)) (b0_39 p2 og).toUInt32.toUInt16.toUInt32.toInt32 (12 : Int32) (116 : Int32))]) (bs := [(sx ((p1 &&& (2147483647 : Int32)) % (13 : Int32)) (b0_39 p2 og).toUInt32.toUInt16.toUInt32.toInt32 (0 : Int32) (109 : Int32)).toInt8.toInt32, (sx ((p1 &&& (2147483647 : Int32)) % (13 : Int32)) (b0_39 p2 og).toUInt32.toUInt16.toUInt32.toInt32 (1 : Int32) (111 : Int32)).toInt8.toInt32, (sx ((p1 &&& (2147483647 : Int32)) % (13 : Int32)) (b0_39 p2 og).toUInt32.toUInt16.toUInt32.toInt32 (2 : Int32) (100 : Int32)).toInt8.toInt32, (sx ((p1 &&& (2147483647 : Int32)) % (13 : Int32)) (b0_39 p2 og).toUInt32.toUInt16.toUInt32.toInt32 (3 : Int32) (117 : Int32)).toInt8.toInt32, (sx ((p1 &&& (2147483647 : Int32)) % (13 : Int32)) (b0_39 p2 og).toUInt32.toUInt16.toUInt32.toInt32 (4 : Int32) (108 : Int32)).toInt8.toInt32, (sx ((p1 &&& (2147483647 : Int32)) % (13 : Int32)) (b0_39 p2 og).toUInt32.toUInt16.toUInt32.toInt32 (5 : Int32) (101 : Int32)).toInt8.toInt32, (sx ((p1 &&& (2147483647 : Int32)) % (13 : Int32)) (b0_39 p2 og).toUInt32.toUInt16.toUInt32.toInt32 (6 : Int32) (67 : Int32)).toInt8.toInt32, (sx ((p1 &&& (2147483647 : Int32)) % (13 : Int32)) (b0_39 p2 og).toUInt32.toUInt16.toUInt32.toInt32 (7 : Int32) (111 : Int32)).toInt8.toInt32, (sx ((p1 &&& (2147483647 : Int32)) % (13 : Int32)) (b0_39 p2 og).toUInt32.toUInt16.toUInt32.toInt32 (8 : Int32) (110 : Int32)).toInt8.toInt32, (sx ((p1 &&& (2147483647 : Int32)) % (13 : Int32)) (b0_39 p2 og).toUInt32.toUInt16.toUInt32.toInt32 (9 : Int32) (116 : Int32)).toInt8.toInt32, (sx ((p1 &&& (2147483647 : Int32)) % (13 : Int32)) (b0_39 p2 og).toUInt32.toUInt16.toUInt32.toInt32 (10 : Int32) (101 : Int32)).toInt8.toInt32, (sx ((p1 &&& (2147483647 : Int32)) % (13 : Int32)) (b0_39 p2 og).toUInt32.toUInt16.toUInt32.toInt32 (11 : Int32) (120 : Int32)).toInt8.toInt32, (sx ((p1 &&& (2147483647 : Int32)) % (13 : Int32)) (b0_39 p2 og).toUInt32.toUInt16.toUInt32.toInt32 (12 : Int32) (116 : Int32)).toInt8.toInt32]) (n := 13) low53 Zs53 A53 F58 F57 F56 (own_sta_keep S_COMPACT_STRINGS K53 all0) hcs rfl rfl (by decide) (by decide) (List.forall_mem_cons.mpr ⟨own_sxr _ _ _ _ hv255 (by decide), (List.forall_mem_cons.mpr ⟨own_sxr _ _ _ _ hv255 (by decide), (List.forall_mem_cons.mpr ⟨own_sxr _ _ _ _ hv255 (by decide), (List.forall_mem_cons.mpr ⟨own_sxr _ _ _ _ hv255 (by decide), (List.forall_mem_cons.mpr ⟨own_sxr _ _ _ _ hv255 (by decide), (List.forall_mem_cons.mpr ⟨own_sxr _ _ _ _ hv255 (by decide), (List.forall_mem_cons.mpr ⟨own_sxr _ _ _ _ hv255 (by decide), (List.forall_mem_cons.mpr ⟨own_sxr _ _ _ _ hv255 (by decide), (List.forall_mem_cons.mpr ⟨own_sxr _ _ _ _ hv255 (by decide), (List.forall_mem_cons.mpr ⟨own_sxr _ _ _ _ hv255 (by decide), (List.forall_mem_cons.mpr ⟨own_sxr _ _ _ _ hv255 (by decide), (List.forall_mem_cons.mpr ⟨own_sxr _ _ _ _ hv255 (by decide), (List.forall_mem_cons.mpr ⟨own_sxr _ _ _ _ hv255 (by decide), (fun _ q => nomatch q)⟩)⟩)⟩)⟩)⟩)⟩)⟩)⟩)⟩)⟩)⟩)⟩)⟩) rfl (by decide) (by decide)) (by decide) (argsL := [(.ref b35)]) (rest := [(.ref b53)]) rfl rfl rfl (lenOf pd_640 rfl) rfl (by decide : 2 + 1 ≤ _) (by decide : 17 + 13 ≤ _)
      obtain ⟨rfl, N60q, K60q, GE60, GC60, bx60, kx60, lo60, fr60, nx60, GX60, GW60⟩ := hQ60
      have N60 := Fr.app N43 N60q
      have K60 : Keep h0 T60.heap [] := K53.trans K60q (allS (Or.inr fsh53) all0)
      have Zs60 : n0 ≤ T60.heap.size := Nat.le_trans Zs53 K60q.1
      have hk60 : s.heap.size ≤ T60.heap.size := Nat.le_trans hk53 K60q.1
      have F61 := F56.keep K60q (ninS ne54 nin0)
      have F62 := A53.keep K60q
      have GV60 : Arv Z T60.heap bx60 kx60 .byte (13 : Int32) [(.int (sx ((p1 &&& (2147483647 : Int32)) % (13 : Int32)) (b0_39 p2 og).toUInt32.toUInt16.toUInt32.toInt32 (0 : Int32) (109 : Int32)).toInt8.toInt32), (.int (sx ((p1 &&& (2147483647 : Int32)) % (13 : Int32)) (b0_39 p2 og).toUInt32.toUInt16.toUInt32.toInt32 (1 : Int32) (111 : Int32)).toInt8.toInt32), (.int (sx ((p1 &&& (2147483647 : Int32)) % (13 : Int32)) (b0_39 p2 og).toUInt32.toUInt16.toUInt32.toInt32 (2 : Int32) (100 : Int32)).toInt8.toInt32), (.int (sx ((p1 &&& (2147483647 : Int32)) % (13 : Int32)) (b0_39 p2 og).toUInt32.toUInt16.toUInt32.toInt32 (3 : Int32) (117 : Int32)).toInt8.toInt32), (.int (sx ((p1 &&& (2147483647 : Int32)) % (13 : Int32)) (b0_39 p2 og).toUInt32.toUInt16.toUInt32.toInt32 (4 : Int32) (108 : Int32)).toInt8.toInt32), (.int (sx ((p1 &&& (2147483647 : Int32)) % (13 : Int32)) (b0_39 p2 og).toUInt32.toUInt16.toUInt32.toInt32 (5 : Int32) (101 : Int32)).toInt8.toInt32), (.int (sx ((p1 &&& (2147483647 : Int32)) % (13 : Int32)) (b0_39 p2 og).toUInt32.toUInt16.toUInt32.toInt32 (6 : Int32) (67 : Int32)).toInt8.toInt32), (.int (sx ((p1 &&& (2147483647 : Int32)) % (13 : Int32)) (b0_39 p2 og).toUInt32.toUInt16.toUInt32.toInt32 (7 : Int32) (111 : Int32)).toInt8.toInt32), (.int (sx ((p1 &&& (2147483647 : Int32)) % (13 : Int32)) (b0_39 p2 og).toUInt32.toUInt16.toUInt32.toInt32 (8 : Int32) (110 : Int32)).toInt8.toInt32), (.int (sx ((p1 &&& (2147483647 : Int32)) % (13 : Int32)) (b0_39 p2 og).toUInt32.toUInt16.toUInt32.toInt32 (9 : Int32) (116 : Int32)).toInt8.toInt32), (.int (sx ((p1 &&& (2147483647 : Int32)) % (13 : Int32)) (b0_39 p2 og).toUInt32.toUInt16.toUInt32.toInt32 (10 : Int32) (101 : Int32)).toInt8.toInt32), (.int (sx ((p1 &&& (2147483647 : Int32)) % (13 : Int32)) (b0_39 p2 og).toUInt32.toUInt16.toUInt32.toInt32 (11 : Int32) (120 : Int32)).toInt8.toInt32), (.int (sx ((p1 &&& (2147483647 : Int32)) % (13 : Int32)) (b0_39 p2 og).toUInt32.toUInt16.toUInt32.toInt32 (12 : Int32) (116 : Int32)).toInt8.toInt32)] (.int 0) := GW60
      obtain ⟨_, _, ⟨T63, L63, k63, n63⟩, -, X63q, hS63q, hg63, ⟨Lc63, hQ63, l63, y63, z63⟩, st63⟩ := callSS X60 hx (y := (⟨"com/example/calycule/calycule/config/ModuleContext", "isImplicit", "(Ljava/lang/String;)Z"⟩ : MethodName)) hown (mvT hZ (hw _ (mi 35 rfl))) (mvT hZ (hw _ (mi 36 rfl))) (mvT hZ (hw _ (mi 37 rfl))) (mvT hZ (hw _ (mi 38 rfl))) (by decide) (own_backOfSI (W := 0) (rmib13 l Z aZ hw [] b53 _ _ _ _ _ _ _ _ _ _ _ _ _ _ _ _ T60.heap T60.heap.size (Nat.le_refl _) GE60 GC60 GX60 GV60 (own_sta_keep S_COMPACT_STRINGS K60 all0) hcs (fun b cl q => K60.2.1 b cl (hkp b cl q) nin0) hcn62 hcn68 hcn69 hcw rfl) hZ (hw _ (mi 38 rfl)) (hw _ (mi 37 rfl)) (by decide) (by decide) IB0) (g := (mkF m 184 (L0_12 p0 p1 p2 p3 b35 og) [(.ref b53)])) rfl (by rw [hml]; rfl) (argsL := [(.ref b53)]) (rest := []) (lenOf pd_641 rfl) rfl (by show 2 * 0 + _ ≤ _; exact Nat.le_of_eq rfl) (hb hby at_184) (fun _ _ => ⟨rfl, rfl, (by decide : 3 + 6 ≤ _), (by decide : 30 + 172 ≤ _)⟩)
      dsimp only [Pt.U, Pt.locs, Pt.cells, Pt.slots] at X63q hS63q hg63 l63 y63 z63 st63 hQ63
      subst l63 y63 z63
      have hk63q : s.heap.size ≤ T60.heap.size := hk60
      obtain ⟨X63, hS63, hZ63, hown63⟩ := rebS hS0 hk63q X63q hS63q hg63 hZ hown
      have hk63r : T63.heap.size ≤ T63.heap.size := Nat.le_refl _
      obtain ⟨rfl, N63q, K63q⟩ := hQ63
      have N63 := Fr.app N60 (own_frm Zs60 N63q)
      have K63 : Keep h0 T63.heap [] := K60.trans K63q all0
      have Zs63 : n0 ≤ T63.heap.size := Nat.le_trans Zs60 K63q.1
      have hk63 : s.heap.size ≤ T63.heap.size := Nat.le_trans hk60 K63q.1
      have F64 := F61.keep K63q nin0
      have F65 := GE60.keep K63q
      have F66 := GC60.keep K63q nin0
      have F67 := GX60.keep K63q nin0
      have F68 := GV60.keep K63q nin0
      have go69 := gapT st60 st63
      have hfin : (gib13_ret (sx ((p1 &&& (2147483647 : Int32)) % (13 : Int32)) (b0_39 p2 og).toUInt32.toUInt16.toUInt32.toInt32 (0 : Int32) (109 : Int32)).toInt8.toInt32 (sx ((p1 &&& (2147483647 : Int32)) % (13 : Int32)) (b0_39 p2 og).toUInt32.toUInt16.toUInt32.toInt32 (1 : Int32) (111 : Int32)).toInt8.toInt32 (sx ((p1 &&& (2147483647 : Int32)) % (13 : Int32)) (b0_39 p2 og).toUInt32.toUInt16.toUInt32.toInt32 (2 : Int32) (100 : Int32)).toInt8.toInt32 (sx ((p1 &&& (2147483647 : Int32)) % (13 : Int32)) (b0_39 p2 og).toUInt32.toUInt16.toUInt32.toInt32 (3 : Int32) (117 : Int32)).toInt8.toInt32 (sx ((p1 &&& (2147483647 : Int32)) % (13 : Int32)) (b0_39 p2 og).toUInt32.toUInt16.toUInt32.toInt32 (4 : Int32) (108 : Int32)).toInt8.toInt32 (sx ((p1 &&& (2147483647 : Int32)) % (13 : Int32)) (b0_39 p2 og).toUInt32.toUInt16.toUInt32.toInt32 (5 : Int32) (101 : Int32)).toInt8.toInt32 (sx ((p1 &&& (2147483647 : Int32)) % (13 : Int32)) (b0_39 p2 og).toUInt32.toUInt16.toUInt32.toInt32 (6 : Int32) (67 : Int32)).toInt8.toInt32 (sx ((p1 &&& (2147483647 : Int32)) % (13 : Int32)) (b0_39 p2 og).toUInt32.toUInt16.toUInt32.toInt32 (7 : Int32) (111 : Int32)).toInt8.toInt32 (sx ((p1 &&& (2147483647 : Int32)) % (13 : Int32)) (b0_39 p2 og).toUInt32.toUInt16.toUInt32.toInt32 (8 : Int32) (110 : Int32)).toInt8.toInt32 (sx ((p1 &&& (2147483647 : Int32)) % (13 : Int32)) (b0_39 p2 og).toUInt32.toUInt16.toUInt32.toInt32 (9 : Int32) (116 : Int32)).toInt8.toInt32 (sx ((p1 &&& (2147483647 : Int32)) % (13 : Int32)) (b0_39 p2 og).toUInt32.toUInt16.toUInt32.toInt32 (10 : Int32) (101 : Int32)).toInt8.toInt32 (sx ((p1 &&& (2147483647 : Int32)) % (13 : Int32)) (b0_39 p2 og).toUInt32.toUInt16.toUInt32.toInt32 (11 : Int32) (120 : Int32)).toInt8.toInt32 (sx ((p1 &&& (2147483647 : Int32)) % (13 : Int32)) (b0_39 p2 og).toUInt32.toUInt16.toUInt32.toInt32 (12 : Int32) (116 : Int32)).toInt8.toInt32) = (b0_49 p2 og) := own_fin13 _ _ og ho hcr.1 hcr.2
      have go70 : Go p.tables e below T63 (mkF m 197 (L0_12 p0 p1 p2 p3 b35 og) [(.int 1)]) En := by
        intro t k
        refine go69 _ ?_
        refine XS.iload X63.here hx rfl (hb hby at_187) rfl ?_
        refine XS.icmpNo X63.here hx rfl (hb hby at_189) rfl (XT.ii_ne_f hfin) ?_
        refine XS.iconst X63.here hx rfl (hb hby at_192) ?_
        show Steps _ _ _ (T63.setTop (mkF m 193 (L0_12 p0 p1 p2 p3 b35 og) [(.int 1)])) _
        refine XS.goto X63.here hx rfl (pc0 := 193) (pc' := 197) rfl (hb hby at_193) (by decide) (by decide) ?_
        exact k
      obtain ⟨fs, hr, hrun, hended, hRW⟩ := X63.leaveW hS63 (hk63r) (v := some (.int 1)) (fun h => by rw [Bd.returns] at h; cases h) Bd.notSynchronized
      subst hEn
      refine ⟨_, _, go70 _ (Jvm.RoadKit.retOut X63 hx Bd.returns rfl (Or.inl ⟨rfl, Or.inr (Or.inl rfl), _, rfl⟩) (hb hby at_197) hr), hrun, hended, _, _, rfl, ?_, hRW.1, hRW.2.1, hRW.2.2.1, hRW.2.2.2.mono (by decide) (by decide)⟩
      show Q0 _ _ p0 p1 p2 p3 s_COMPACT_STRINGS h0 _ (T63.setFrames fs).heap _
      have hE : (T63.setFrames fs).heap = T63.heap := rfl
      rw [hE]
      exact ⟨congrArg (fun z => some (Value.int z)) ((by rw [f0, if_neg hs2, if_pos hs29, if_pos hs32] : (1 : Int32) = (f0 p0 p3)).trans (f0_one p0 p3)), N63⟩
    by_cases hs71 : ((p0 &&& (2147483647 : Int32)) % (3 : Int32)) = (1 : Int32)
    · have go72 : Go p.tables e below s₁ (mkF m 49 (L0_13 p0 p1 p2 p3) []) En := by
        have q : Go p.tables e below s₁ (mkF m  49 #[iv p0, iv p1, iv p2, iv p3, iv ((p0 &&& (2147483647 : Int32)) % (3 : Int32)), iv 0, iv (p2 &&& (255 : Int32)).toUInt32.toUInt16.toUInt32.toInt32, .unset, .unset, .unset, .unset, .unset] []) En := go31
        rw [hs71] at q
        exact q
      have go73 : Go p.tables e below s₁ (mkF m 53 (L0_13 p0 p1 p2 p3) [(.int 0), (.int 1)]) En := by
        intro t k
        refine go72 _ ?_
        refine XS.iload X0.here hx rfl (hb hby at_49) rfl ?_
        refine XS.iload X0.here hx rfl (hb hby at_51) rfl ?_
        exact k
      obtain ⟨_, T74, Lc74, X74, hQ74, st74⟩ := own_cs X0 hx hZ hown hml go73 (hb hby at_53) e0 (hw _ (mi 1 rfl)) (own_site642 hw) (rmnm10 l Z aZ hw []  h0 n0 Z0 ) (by decide) (argsL := [(.int 1), (.int 0)]) (rest := []) rfl rfl rfl (lenOf pd_643 rfl) (W := 0) rfl (by decide) (by decide) (by decide : 0 + 1 ≤ _) (by decide : 0 + 11 ≤ _)
      obtain ⟨b74, kb74, rfl, N74q, K74q, fr74, G74_0⟩ := hQ74
      have N74 := Fr.app N0 N74q
      have K74 : Keep h0 T74.heap [] := K0.trans K74q all0
      have low74 : n0 ≤ b74 := Nat.le_trans Z0 fr74
      have fsh74 : h0.size ≤ b74 := Nat.le_trans K0.1 fr74
      have Zs74 : n0 ≤ T74.heap.size := Nat.le_trans Z0 K74q.1
      have hk74 : s.heap.size ≤ T74.heap.size := Nat.le_trans hk0 K74q.1
      obtain ⟨cl75, Ar75, q75, S75, N75, H75, G75⟩ := id G74_0
      obtain ⟨og, hel, ho⟩ : ∃ og : Int32, ([(.int 109), (.int 111), (.int 100), (.int 117), (.int 108), (.int 101), (.int 83), (.int 99), (.int 111), (.int 112), (.int 101)] : List Value).getD ((p1 &&& (2147483647 : Int32)) % (11 : Int32)).toNatClampNeg (.int 0) = .int og ∧ ((((p1 &&& (2147483647 : Int32)) % (11 : Int32)) = (0 : Int32) ∧ og = (109 : Int32)) ∨ (((p1 &&& (2147483647 : Int32)) % (11 : Int32)) = (1 : Int32) ∧ og = (111 : Int32)) ∨ (((p1 &&& (2147483647 : Int32)) % (11 : Int32)) = (2 : Int32) ∧ og = (100 : Int32)) ∨ (((p1 &&& (2147483647 : Int32)) % (11 : Int32)) = (3 : Int32) ∧ og = (117 : Int32)) ∨ (((p1 &&& (2147483647 : Int32)) % (11 : Int32)) = (4 : Int32) ∧ og = (108 : Int32)) ∨ (((p1 &&& (2147483647 : Int32)) % (11 : Int32)) = (5 : Int32) ∧ og = (101 : Int32)) ∨ (((p1 &&& (2147483647 : Int32)) % (11 : Int32)) = (6 : Int32) ∧ og = (83 : Int32)) ∨ (((p1 &&& (2147483647 : Int32)) % (11 : Int32)) = (7 : Int32) ∧ og = (99 : Int32)) ∨ (((p1 &&& (2147483647 : Int32)) % (11 : Int32)) = (8 : Int32) ∧ og = (111 : Int32)) ∨ (((p1 &&& (2147483647 : Int32)) % (11 : Int32)) = (9 : Int32) ∧ og = (112 : Int32)) ∨ (((p1 &&& (2147483647 : Int32)) % (11 : Int32)) = (10 : Int32) ∧ og = (101 : Int32))) := by
        rcases own_in11 p1 with h | h | h | h | h | h | h | h | h | h | h
        · exact ⟨(109 : Int32), by rw [h]; rfl, (Or.inl ⟨h, rfl⟩)⟩
        · exact ⟨(111 : Int32), by rw [h]; rfl, (Or.inr (Or.inl ⟨h, rfl⟩))⟩
        · exact ⟨(100 : Int32), by rw [h]; rfl, (Or.inr (Or.inr (Or.inl ⟨h, rfl⟩)))⟩
        · exact ⟨(117 : Int32), by rw [h]; rfl, (Or.inr (Or.inr (Or.inr (Or.inl ⟨h, rfl⟩))))⟩
        · exact ⟨(108 : Int32), by rw [h]; rfl, (Or.inr (Or.inr (Or.inr (Or.inr (Or.inl ⟨h, rfl⟩)))))⟩
        · exact ⟨(101 : Int32), by rw [h]; rfl, (Or.inr (Or.inr (Or.inr (Or.inr (Or.inr (Or.inl ⟨h, rfl⟩))))))⟩
        · exact ⟨(83 : Int32), by rw [h]; rfl, (Or.inr (Or.inr (Or.inr (Or.inr (Or.inr (Or.inr (Or.inl ⟨h, rfl⟩)))))))⟩
        · exact ⟨(99 : Int32), by rw [h]; rfl, (Or.inr (Or.inr (Or.inr (Or.inr (Or.inr (Or.inr (Or.inr (Or.inl ⟨h, rfl⟩))))))))⟩
        · exact ⟨(111 : Int32), by rw [h]; rfl, (Or.inr (Or.inr (Or.inr (Or.inr (Or.inr (Or.inr (Or.inr (Or.inr (Or.inl ⟨h, rfl⟩)))))))))⟩
        · exact ⟨(112 : Int32), by rw [h]; rfl, (Or.inr (Or.inr (Or.inr (Or.inr (Or.inr (Or.inr (Or.inr (Or.inr (Or.inr (Or.inl ⟨h, rfl⟩))))))))))⟩
        · exact ⟨(101 : Int32), by rw [h]; rfl, (Or.inr (Or.inr (Or.inr (Or.inr (Or.inr (Or.inr (Or.inr (Or.inr (Or.inr (Or.inr ⟨h, rfl⟩))))))))))⟩
      have go77 : Go p.tables e below T74 (mkF m 154 (L0_14 p0 p1 p2 p3 b74 og) []) En := by
        intro t k
        have k : Steps p.tables e below (T74.setTop (mkF m  154 #[iv p0, iv p1, iv p2, iv p3, iv 1, iv 0, iv (b0_39 p2 og), rv b74, iv 11, iv ((p1 &&& (2147483647 : Int32)) % (11 : Int32)), iv og, .unset] [])) t := k
        refine st74 _ ?_
        refine XS.astore X74.here hx rfl (hb hby at_56) rfl rfl (l' := (L0_15 p0 p1 p2 p3 b74)) rfl ?_
        refine XS.aload X74.here hx rfl (hb hby at_58) rfl rfl ?_
        refine X74.arraylength hx Ar75.1 (State.isArrayOf_alike hZ.alike Ar75.2.1) (g := (mkF m 60 (L0_15 p0 p1 p2 p3 b74) [(.ref b74)])) rfl rfl (hb hby at_60) _ ?_
        rw [len_of S75 N75]
        show Steps _ _ _ (T74.setTop (mkF m 61 (L0_15 p0 p1 p2 p3 b74) [(.int 11)])) _
        refine XS.istore X74.here hx rfl (hb hby at_61) rfl (l' := (L0_16 p0 p1 p2 p3 b74)) rfl ?_
        refine XS.iload X74.here hx rfl (hb hby at_63) rfl ?_
        refine XS.iconst X74.here hx rfl (hb hby at_65) ?_
        show Steps _ _ _ (T74.setTop (mkF m 66 (L0_16 p0 p1 p2 p3 b74) [(.int 1), (.int 0)])) _
        refine XS.icmpYes X74.here hx rfl (pc0 := 66) (pc' := 99) rfl (hb hby at_66) rfl (XT.ii_ne_t (by decide : ¬ ((0 : Int32) = (1 : Int32)))) (by decide) (by decide) ?_
        refine XS.iload X74.here hx rfl (hb hby at_99) rfl ?_
        refine XS.iconst X74.here hx rfl (hb hby at_101) ?_
        show Steps _ _ _ (T74.setTop (mkF m 102 (L0_16 p0 p1 p2 p3 b74) [(.int 2), (.int 0)])) _
        refine XS.icmpYes X74.here hx rfl (pc0 := 102) (pc' := 126) rfl (hb hby at_102) rfl (XT.ii_ne_t (by decide : ¬ ((0 : Int32) = (2 : Int32)))) (by decide) (by decide) ?_
        refine XS.iloadN X74.here hx rfl (hb hby at_126) rfl ?_
        refine X74.ldcInt hx hown (mvT hZ (hw _ (mi 0 rfl))) (g := (mkF m 127 (L0_16 p0 p1 p2 p3 b74) [(.int p1)])) rfl (hb hby at_127) _ ?_
        show Steps _ _ _ (T74.setTop (mkF m 129 (L0_16 p0 p1 p2 p3 b74) [(.int 2147483647), (.int p1)])) _
        refine XS.iand X74.here hx rfl (hb hby at_129) rfl ?_
        refine XS.iload X74.here hx rfl (hb hby at_130) rfl ?_
        refine iremM X74 hx rfl (hb hby at_132) rfl (by decide) ?_
        show Steps _ _ _ (T74.setTop (mkF m 133 (L0_16 p0 p1 p2 p3 b74) [(.int ((p1 &&& (2147483647 : Int32)) % (11 : Int32)))])) _
        refine XS.istore X74.here hx rfl (hb hby at_133) rfl (l' := (L0_17 p0 p1 p2 p3 b74)) rfl ?_
        refine XS.aload X74.here hx rfl (hb hby at_135) rfl rfl ?_
        refine XS.iload X74.here hx rfl (hb hby at_137) rfl ?_
        show Steps _ _ _ (T74.setTop (mkF m 139 (L0_17 p0 p1 p2 p3 b74) [(.int ((p1 &&& (2147483647 : Int32)) % (11 : Int32))), (.ref b74)])) _
        refine X74.caload hx (j := ((p1 &&& (2147483647 : Int32)) % (11 : Int32))) (v := (.int og)) Ar75.1 (State.isArrayOf_alike hZ.alike Ar75.2.1) Ar75.2.2 (inb_of S75 (own_bb11 p1)) (Has.at H75 (inb_of S75 (own_bb11 p1)) hel) (g := (mkF m 139 (L0_17 p0 p1 p2 p3 b74) [(.int ((p1 &&& (2147483647 : Int32)) % (11 : Int32))), (.ref b74)])) rfl rfl (hb hby at_139) _ ?_
        refine XS.istore X74.here hx rfl (hb hby at_140) rfl (l' := (L0_18 p0 p1 p2 p3 b74 og)) rfl ?_
        refine XS.iloadN X74.here hx rfl (hb hby at_142) rfl ?_
        show Steps _ _ _ (T74.setTop (mkF m 143 (L0_18 p0 p1 p2 p3 b74 og) [(.int p2)])) _
        refine XS.sipush X74.here hx rfl (hb hby at_143) ?_
        refine XS.iand X74.here hx rfl (hb hby at_146) rfl ?_
        by_cases hc76 : (p2 &&& (256 : Int32)) = (0 : Int32)
        · refine XS.ifYes X74.here hx rfl (pc0 := 147) (pc' := 154) rfl (hb hby at_147) rfl (XT.i0_eq_t hc76) (by decide) (by decide) ?_
          have hq78 : (b0_39 p2 og) = (p2 &&& (255 : Int32)).toUInt32.toUInt16.toUInt32.toInt32 := by rw [b0_39, if_pos hc76]
          rw [hq78] at k
          exact k
        · refine XS.ifNo X74.here hx rfl (hb hby at_147) rfl (XT.i0_eq_f hc76) ?_
          refine XS.iload X74.here hx rfl (hb hby at_150) rfl ?_
          refine XS.istore X74.here hx rfl (hb hby at_152) rfl (l' := #[iv p0, iv p1, iv p2, iv p3, iv 1, iv 0, iv og, rv b74, iv 11, iv ((p1 &&& (2147483647 : Int32)) % (11 : Int32)), iv og, .unset]) rfl ?_
          have hq79 : (b0_39 p2 og) = og := by rw [b0_39, if_neg hc76]
          rw [hq79] at k
          exact k
      have go80 : Go p.tables e below T74 (mkF m 160 (L0_14 p0 p1 p2 p3 b74 og) [(.int (b0_39 p2 og)), (.int ((p1 &&& (2147483647 : Int32)) % (11 : Int32))), (.ref b74)]) En := by
        intro t k
        refine go77 _ ?_
        refine XS.aload X74.here hx rfl (hb hby at_154) rfl rfl ?_
        refine XS.iload X74.here hx rfl (hb hby at_156) rfl ?_
        refine XS.iload X74.here hx rfl (hb hby at_158) rfl ?_
        show Steps _ _ _ (T74.setTop (mkF m 160 (L0_14 p0 p1 p2 p3 b74 og) [(.int (b0_39 p2 og)), (.int ((p1 &&& (2147483647 : Int32)) % (11 : Int32))), (.ref b74)])) _
        exact k
      obtain ⟨T81, h81, X81, e81, W81, st81⟩ := stC X74 hx hZ rfl Ar75 (j := ((p1 &&& (2147483647 : Int32)) % (11 : Int32))) (inb_of S75 (own_bb11 p1)) (g := (mkF m 160 (L0_14 p0 p1 p2 p3 b74 og) [(.int (b0_39 p2 og)), (.int ((p1 &&& (2147483647 : Int32)) % (11 : Int32))), (.ref b74)])) rfl rfl (hb hby at_160)
      have go82 := gap go80 st81
      have N81 := Fr.snoc X81 N74 low74
      have K81 : Keep h0 h81 [] := K74.wr W81 (Or.inr fsh74)
      have Zs81 : n0 ≤ h81.size := Nat.le_trans Zs74 (Keep.of_wr W81).1
      have hk81 : s.heap.size ≤ h81.size := Nat.le_trans hk74 (Keep.of_wr W81).1
      have F83 : Arv Z h81 b74 kb74 .char (11 : Int32) ([(.int 109), (.int 111), (.int 100), (.int 117), (.int 108), (.int 101), (.int 83), (.int 99), (.int 111), (.int 112), (.int 101)].set ((p1 &&& (2147483647 : Int32)) % (11 : Int32)).toNatClampNeg (.int (b0_39 p2 og).toUInt32.toUInt16.toUInt32.toInt32)) (.int 0) := Arv.set Ar75 q75 S75 N75 H75 G75 (fits_nar_char _) W81 ((p1 &&& (2147483647 : Int32)) % (11 : Int32)).toNatClampNeg rfl (own_tn (own_bb11 p1))
      have F84 : Arv Z h81 b74 kb74 .char (11 : Int32) [(.int (sx ((p1 &&& (2147483647 : Int32)) % (11 : Int32)) (b0_39 p2 og).toUInt32.toUInt16.toUInt32.toInt32 (0 : Int32) (109 : Int32))), (.int (sx ((p1 &&& (2147483647 : Int32)) % (11 : Int32)) (b0_39 p2 og).toUInt32.toUInt16.toUInt32.toInt32 (1 : Int32) (111 : Int32))), (.int (sx ((p1 &&& (2147483647 : Int32)) % (11 : Int32)) (b0_39 p2 og).toUInt32.toUInt16.toUInt32.toInt32 (2 : Int32) (100 : Int32))), (.int (sx ((p1 &&& (2147483647 : Int32)) % (11 : Int32)) (b0_39 p2 og).toUInt32.toUInt16.toUInt32.toInt32 (3 : Int32) (117 : Int32))), (.int (sx ((p1 &&& (2147483647 : Int32)) % (11 : Int32)) (b0_39 p2 og).toUInt32.toUInt16.toUInt32.toInt32 (4 : Int32) (108 : Int32))), (.int (sx ((p1 &&& (2147483647 : Int32)) % (11 : Int32)) (b0_39 p2 og).toUInt32.toUInt16.toUInt32.toInt32 (5 : Int32) (101 : Int32))), (.int (sx ((p1 &&& (2147483647 : Int32)) % (11 : Int32)) (b0_39 p2 og).toUInt32.toUInt16.toUInt32.toInt32 (6 : Int32) (83 : Int32))), (.int (sx ((p1 &&& (2147483647 : Int32)) % (11 : Int32)) (b0_39 p2 og).toUInt32.toUInt16.toUInt32.toInt32 (7 : Int32) (99 : Int32))), (.int (sx ((p1 &&& (2147483647 : Int32)) % (11 : Int32)) (b0_39 p2 og).toUInt32.toUInt16.toUInt32.toInt32 (8 : Int32) (111 : Int32))), (.int (sx ((p1 &&& (2147483647 : Int32)) % (11 : Int32)) (b0_39 p2 og).toUInt32.toUInt16.toUInt32.toInt32 (9 : Int32) (112 : Int32))), (.int (sx ((p1 &&& (2147483647 : Int32)) % (11 : Int32)) (b0_39 p2 og).toUInt32.toUInt16.toUInt32.toInt32 (10 : Int32) (101 : Int32)))] (.int 0) := by have q := F83; rw [own_set11 _ _ (own_in11 p1)] at q; exact q
      have hogr := own_ogr11 _ og ho
      have hcr : 0 ≤ (b0_39 p2 og).toInt ∧ (b0_39 p2 og).toInt ≤ 255 := by
        unfold b0_39; split
        · exact own_p255 p2
        · exact hogr
      have hv255 := own_cr _ hcr.1 hcr.2
      have go86 : Go p.tables e below T81 (mkF m 173 (L0_14 p0 p1 p2 p3 b74 og) [(.int (b0_49 p2 og))]) En := by
        intro t k
        have k : Steps p.tables e below (T81.setTop (mkF m  173 #[iv p0, iv p1, iv p2, iv p3, iv 1, iv 0, iv (b0_39 p2 og), rv b74, iv 11, iv ((p1 &&& (2147483647 : Int32)) % (11 : Int32)), iv og, .unset] [(.int (b0_49 p2 og))])) t := k
        refine go82 _ ?_
        refine XS.iload X81.here hx rfl (hb hby at_161) rfl ?_
        refine XS.iload X81.here hx rfl (hb hby at_163) rfl ?_
        by_cases hc85 : (b0_39 p2 og) = og
        · refine XS.icmpNo X81.here hx rfl (hb hby at_165) rfl (XT.ii_ne_f hc85) ?_
          refine XS.iconst X81.here hx rfl (hb hby at_168) ?_
          refine XS.goto X81.here hx rfl (pc0 := 169) (pc' := 173) rfl (hb hby at_169) (by decide) (by decide) ?_
          have hq87 : (b0_49 p2 og) = (1 : Int32) := by rw [b0_49, if_pos hc85]
          rw [hq87] at k
          exact k
        · refine XS.icmpYes X81.here hx rfl (pc0 := 165) (pc' := 172) rfl (hb hby at_165) rfl (XT.ii_ne_t hc85) (by decide) (by decide) ?_
          refine XS.iconst X81.here hx rfl (hb hby at_172) ?_
          have hq88 : (b0_49 p2 og) = (0 : Int32) := by rw [b0_49, if_neg hc85]
          rw [hq88] at k
          exact k
      have go89 : Go p.tables e below T81 (mkF m 175 (L0_19 p0 p1 p2 p3 b74 og) []) En := by
        intro t k
        refine go86 _ ?_
        refine XS.istore X81.here hx rfl (hb hby at_173) rfl (l' := (L0_19 p0 p1 p2 p3 b74 og)) rfl ?_
        exact k
      obtain ⟨T90, h90, X90, e90, E90, A90, D90, -, st90⟩ := newO X81 hx hZ hown (hw _ (mi 6 rfl)) (hw _ (mi 7 rfl)) (hw _ (mi 8 rfl)) e81 (g := (mkF m 175 (L0_19 p0 p1 p2 p3 b74 og) [])) rfl (hb hby at_175) (by decide) (by decide)
      obtain ⟨b90, g90⟩ : ∃ z, z = h81.size := ⟨_, rfl⟩
      rw [← g90] at A90 D90 st90
      have ne91 : b74 ≠ b90 := Nat.ne_of_lt (Nat.lt_of_lt_of_le F84.lt (Nat.le_of_eq g90.symm))
      have low90 : n0 ≤ b90 := Nat.le_trans Zs81 (Nat.le_of_eq g90.symm)
      have fsh90 : h0.size ≤ b90 := Nat.le_trans K81.1 (Nat.le_of_eq g90.symm)
      have K90 : Keep h0 h90 [] := K81.ext E90
      have Zs90 : n0 ≤ h90.size := Nat.le_trans Zs81 E90.1
      have hk90 : s.heap.size ≤ h90.size := Nat.le_trans hk81 E90.1
      have go92 := gap go89 st90
      have F93 := F84.ext E90
      have F94 : Fld Z h90 b90 "java/lang/String" "coder" "B" (.int 0) := D90 (Or.inr (hw _ (mi 32 rfl))) (ty := .byte) (by decide)
      have F95 : Fld Z h90 b90 "java/lang/String" "value" "[B" .null := D90 (Or.inr (hw _ (mi 34 rfl))) (ty := (.array .byte)) (by decide)
      have go96 : Go p.tables e below T90 (mkF m 181 (L0_19 p0 p1 p2 p3 b74 og) [(.ref b74), (.ref b90), (.ref b90)]) En := by
        intro t k
        refine go92 _ ?_
        refine XS.dup X90.here hx rfl (hb hby at_178) rfl rfl ?_
        refine XS.aload X90.here hx rfl (hb hby at_179) rfl rfl ?_
        exact k
      obtain ⟨_, T97, Lc97, X97, hQ97, st97⟩ := own_cb X90 hx hZ hown hml go96 (hb hby at_181) e90 (hw _ (mi 9 rfl)) (own_site647 hw) rfl (StrChars.Road.backV (W := 1) hZ (fun d hd => hw d (own_wds d hd)) (hw _ (mi 7 rfl)) (cs := [(sx ((p1 &&& (2147483647 : Int32)) % (11 : Int32)) (b0_39 p2 og).toUInt32.toUInt16.toUInt32.toInt32 (0 : Int32) (109 : Int32)), (sx ((p1 &&& (2147483647 : Int32)) % (11 : Int32)) (b0_39 p2 og).toUInt32.toUInt16.toUInt32.toInt32 (1 : Int32) (111 : Int32)), (sx ((p1 &&& (2147483647 : Int32)) % (11 : Int32)) (b0_39 p2 og).toUInt32.toUInt16.toUInt32.toInt32 (2 : Int32) (100 : Int32)), (sx ((p1 &&& (2147483647 : Int32)) % (11 : Int32)) (b0_39 p2 og).toUInt32.toUInt16.toUInt32.toInt32 (3 : Int32) (117 : Int32)), (sx ((p1 &&& (2147483647 : Int32)) % (11 : Int32)) (b0_39 p2 og).toUInt32.toUInt16.toUInt32.toInt32 (4 : Int32) (108 : Int32)), (sx ((p1 &&& (2147483647 : Int32)) % (11 : Int32)) (b0_39 p2 og).toUInt32.toUInt16.toUInt32.toInt32 (5 : Int32) (101 : Int32)), (sx ((p1 &&& (2147483647 : Int32)) % (11 : Int32)) (b0_39 p2 og).toUInt32.toUInt16.toUInt32.toInt32 (6 : Int32) (83 : Int32)), (sx ((p1 &&& (2147483647 : Int32)) % (11 : Int32)) (b0_39 p2 og).toUInt32.toUInt16.toUInt32.toInt32 (7 : Int32) (99 : Int32)), (sx ((p1 &&& (2147483647 : Int32)) % (11 : Int32)) (b0_39 p2 og).toUInt32.toUInt16.toUInt32.toInt32 (8 : Int32) (111 : Int32)), (sx ((p1 &&& (2147483647 : Int32)) % (11 : Int32)) (b0_39 p2 og).toUInt32.toUInt16.toUInt32.toInt32 (9 : Int32) (112 : Int32)), (sx ((p1 &&& (2147483647 : Int32)) % (11 : Int32)) (b0_39 p2 og).toUInt32.toUInt16.toUInt32.toInt32 (10 : Int32) (101 : Int32))]) (bs := [(sx ((p1 &&& (2147483647 : Int32)) % (11 : Int32)) (b0_39 p2 og).toUInt32.toUInt16.toUInt32.toInt32 (0 : Int32) (109 : Int32)).toInt8.toInt32, (sx ((p1 &&& (2147483647 : Int32)) % (11 : Int32)) (b0_39 p2 og).toUInt32.toUInt16.toUInt32.toInt32 (1 : Int32) (111 : Int32)).toInt8.toInt32, (sx ((p1 &&& (2147483647 : Int32)) % (11 : Int32)) (b0_39 p2 og).toUInt32.toUInt16.toUInt32.toInt32 (2 : Int32) (100 : Int32)).toInt8.toInt32, (sx ((p1 &&& (2147483647 : Int32)) % (11 : Int32)) (b0_39 p2 og).toUInt32.toUInt16.toUInt32.toInt32 (3 : Int32) (117 : Int32)).toInt8.toInt32, (sx ((p1 &&& (2147483647 : Int32)) % (11 : Int32)) (b0_39 p2 og).toUInt32.toUInt16.toUInt32.toInt32 (4 : Int32) (108 : Int32)).toInt8.toInt32, (sx ((p1 &&& (2147483647 : Int32)) % (11 : Int32)) (b0_39 p2 og).toUInt32.toUInt16.toUInt32.toInt32 (5 : Int32) (101 : Int32)).toInt8.toInt32, (sx ((p1 &&& (2147483647 : Int32)) % (11 : Int32)) (b0_39 p2 og).toUInt32.toUInt16.toUInt32.toInt32 (6 : Int32) (83 : Int32)).toInt8.toInt32, (sx ((p1 &&& (2147483647 : Int32)) % (11 : Int32)) (b0_39 p2 og).toUInt32.toUInt16.toUInt32.toInt32 (7 : Int32) (99 : Int32)).toInt8.toInt32, (sx ((p1 &&& (2147483647 : Int32)) % (11 : Int32)) (b0_39 p2 og).toUInt32.toUInt16.toUInt32.toInt32 (8 : Int32) (111 : Int32)).toInt8.toInt32, (sx ((p1 &&& (2147483647 : Int32)) % (11 : Int32)) (b0_39 p2 og).toUInt32.toUInt16.toUInt32.toInt32 (9 : Int32) (112 : Int32)).toInt8.toInt32, (sx ((p1 &&& (2147483647 : Int32)) % (11 : Int32)) (b0_39 p2 og).toUInt32.toUInt16.toUInt32.toInt32 (10 : Int32) (101 : Int32)).toInt8.toInt32]) (n := 11) low90 Zs90 A90 F95 F94 F93 (own_sta_keep S_COMPACT_STRINGS K90 all0) hcs rfl rfl (by decide) (by decide) (List.forall_mem_cons.mpr ⟨own_sxr _ _ _ _ hv255 (by decide), (List.forall_mem_cons.mpr ⟨own_sxr _ _ _ _ hv255 (by decide), (List.forall_mem_cons.mpr ⟨own_sxr _ _ _ _ hv255 (by decide), (List.forall_mem_cons.mpr ⟨own_sxr _ _ _ _ hv255 (by decide), (List.forall_mem_cons.mpr ⟨own_sxr _ _ _ _ hv255 (by decide), (List.forall_mem_cons.mpr ⟨own_sxr _ _ _ _ hv255 (by decide), (List.forall_mem_cons.mpr ⟨own_sxr _ _ _ _ hv255 (by decide), (List.forall_mem_cons.mpr ⟨own_sxr _ _ _ _ hv255 (by decide), (List.forall_mem_cons.mpr ⟨own_sxr _ _ _ _ hv255 (by decide), (List.forall_mem_cons.mpr ⟨own_sxr _ _ _ _ hv255 (by decide), (List.forall_mem_cons.mpr ⟨own_sxr _ _ _ _ hv255 (by decide), (fun _ q => nomatch q)⟩)⟩)⟩)⟩)⟩)⟩)⟩)⟩)⟩)⟩)⟩) rfl (by decide) (by decide)) (by decide) (argsL := [(.ref b74)]) (rest := [(.ref b90)]) rfl rfl rfl (lenOf pd_640 rfl) rfl (by decide : 2 + 1 ≤ _) (by decide : 15 + 11 ≤ _)
      obtain ⟨rfl, N97q, K97q, GE97, GC97, bx97, kx97, lo97, fr97, nx97, GX97, GW97⟩ := hQ97
      have N97 := Fr.app N81 N97q
      have K97 : Keep h0 T97.heap [] := K90.trans K97q (allS (Or.inr fsh90) all0)
      have Zs97 : n0 ≤ T97.heap.size := Nat.le_trans Zs90 K97q.1
      have hk97 : s.heap.size ≤ T97.heap.size := Nat.le_trans hk90 K97q.1
      have F98 := F93.keep K97q (ninS ne91 nin0)
      have F99 := A90.keep K97q
      have GV97 : Arv Z T97.heap bx97 kx97 .byte (11 : Int32) [(.int (sx ((p1 &&& (2147483647 : Int32)) % (11 : Int32)) (b0_39 p2 og).toUInt32.toUInt16.toUInt32.toInt32 (0 : Int32) (109 : Int32)).toInt8.toInt32), (.int (sx ((p1 &&& (2147483647 : Int32)) % (11 : Int32)) (b0_39 p2 og).toUInt32.toUInt16.toUInt32.toInt32 (1 : Int32) (111 : Int32)).toInt8.toInt32), (.int (sx ((p1 &&& (2147483647 : Int32)) % (11 : Int32)) (b0_39 p2 og).toUInt32.toUInt16.toUInt32.toInt32 (2 : Int32) (100 : Int32)).toInt8.toInt32), (.int (sx ((p1 &&& (2147483647 : Int32)) % (11 : Int32)) (b0_39 p2 og).toUInt32.toUInt16.toUInt32.toInt32 (3 : Int32) (117 : Int32)).toInt8.toInt32), (.int (sx ((p1 &&& (2147483647 : Int32)) % (11 : Int32)) (b0_39 p2 og).toUInt32.toUInt16.toUInt32.toInt32 (4 : Int32) (108 : Int32)).toInt8.toInt32), (.int (sx ((p1 &&& (2147483647 : Int32)) % (11 : Int32)) (b0_39 p2 og).toUInt32.toUInt16.toUInt32.toInt32 (5 : Int32) (101 : Int32)).toInt8.toInt32), (.int (sx ((p1 &&& (2147483647 : Int32)) % (11 : Int32)) (b0_39 p2 og).toUInt32.toUInt16.toUInt32.toInt32 (6 : Int32) (83 : Int32)).toInt8.toInt32), (.int (sx ((p1 &&& (2147483647 : Int32)) % (11 : Int32)) (b0_39 p2 og).toUInt32.toUInt16.toUInt32.toInt32 (7 : Int32) (99 : Int32)).toInt8.toInt32), (.int (sx ((p1 &&& (2147483647 : Int32)) % (11 : Int32)) (b0_39 p2 og).toUInt32.toUInt16.toUInt32.toInt32 (8 : Int32) (111 : Int32)).toInt8.toInt32), (.int (sx ((p1 &&& (2147483647 : Int32)) % (11 : Int32)) (b0_39 p2 og).toUInt32.toUInt16.toUInt32.toInt32 (9 : Int32) (112 : Int32)).toInt8.toInt32), (.int (sx ((p1 &&& (2147483647 : Int32)) % (11 : Int32)) (b0_39 p2 og).toUInt32.toUInt16.toUInt32.toInt32 (10 : Int32) (101 : Int32)).toInt8.toInt32)] (.int 0) := GW97
      obtain ⟨_, _, ⟨T100, L100, k100, n100⟩, -, X100q, hS100q, hg100, ⟨Lc100, hQ100, l100, y100, z100⟩, st100⟩ := callSS X97 hx (y := (⟨"com/example/calycule/calycule/config/ModuleContext", "isImplicit", "(Ljava/lang/String;)Z"⟩ : MethodName)) hown (mvT hZ (hw _ (mi 35 rfl))) (mvT hZ (hw _ (mi 36 rfl))) (mvT hZ (hw _ (mi 37 rfl))) (mvT hZ (hw _ (mi 38 rfl))) (by decide) (own_backOfSI (W := 0) (rmib11 l Z aZ hw [] b90 _ _ _ _ _ _ _ _ _ _ _ _ _ _ T97.heap T97.heap.size (Nat.le_refl _) GE97 GC97 GX97 GV97 (own_sta_keep S_COMPACT_STRINGS K97 all0) hcs (fun b cl q => K97.2.1 b cl (hkp b cl q) nin0) hcn62 hcn68 hcn69 hcw rfl) hZ (hw _ (mi 38 rfl)) (hw _ (mi 37 rfl)) (by decide) (by decide) IB0) (g := (mkF m 184 (L0_19 p0 p1 p2 p3 b74 og) [(.ref b90)])) rfl (by rw [hml]; rfl) (argsL := [(.ref b90)]) (rest := []) (lenOf pd_641 rfl) rfl (by show 2 * 0 + _ ≤ _; exact Nat.le_of_eq rfl) (hb hby at_184) (fun _ _ => ⟨rfl, rfl, (by decide : 3 + 6 ≤ _), (by decide : 26 + 172 ≤ _)⟩)
      dsimp only [Pt.U, Pt.locs, Pt.cells, Pt.slots] at X100q hS100q hg100 l100 y100 z100 st100 hQ100
      subst l100 y100 z100
      have hk100q : s.heap.size ≤ T97.heap.size := hk97
      obtain ⟨X100, hS100, hZ100, hown100⟩ := rebS hS0 hk100q X100q hS100q hg100 hZ hown
      have hk100r : T100.heap.size ≤ T100.heap.size := Nat.le_refl _
      obtain ⟨rfl, N100q, K100q⟩ := hQ100
      have N100 := Fr.app N97 (own_frm Zs97 N100q)
      have K100 : Keep h0 T100.heap [] := K97.trans K100q all0
      have Zs100 : n0 ≤ T100.heap.size := Nat.le_trans Zs97 K100q.1
      have hk100 : s.heap.size ≤ T100.heap.size := Nat.le_trans hk97 K100q.1
      have F101 := F98.keep K100q nin0
      have F102 := GE97.keep K100q
      have F103 := GC97.keep K100q nin0
      have F104 := GX97.keep K100q nin0
      have F105 := GV97.keep K100q nin0
      have go106 := gapT st97 st100
      have hfin : (gib11_ret (sx ((p1 &&& (2147483647 : Int32)) % (11 : Int32)) (b0_39 p2 og).toUInt32.toUInt16.toUInt32.toInt32 (0 : Int32) (109 : Int32)).toInt8.toInt32 (sx ((p1 &&& (2147483647 : Int32)) % (11 : Int32)) (b0_39 p2 og).toUInt32.toUInt16.toUInt32.toInt32 (1 : Int32) (111 : Int32)).toInt8.toInt32 (sx ((p1 &&& (2147483647 : Int32)) % (11 : Int32)) (b0_39 p2 og).toUInt32.toUInt16.toUInt32.toInt32 (2 : Int32) (100 : Int32)).toInt8.toInt32 (sx ((p1 &&& (2147483647 : Int32)) % (11 : Int32)) (b0_39 p2 og).toUInt32.toUInt16.toUInt32.toInt32 (3 : Int32) (117 : Int32)).toInt8.toInt32 (sx ((p1 &&& (2147483647 : Int32)) % (11 : Int32)) (b0_39 p2 og).toUInt32.toUInt16.toUInt32.toInt32 (4 : Int32) (108 : Int32)).toInt8.toInt32 (sx ((p1 &&& (2147483647 : Int32)) % (11 : Int32)) (b0_39 p2 og).toUInt32.toUInt16.toUInt32.toInt32 (5 : Int32) (101 : Int32)).toInt8.toInt32 (sx ((p1 &&& (2147483647 : Int32)) % (11 : Int32)) (b0_39 p2 og).toUInt32.toUInt16.toUInt32.toInt32 (6 : Int32) (83 : Int32)).toInt8.toInt32 (sx ((p1 &&& (2147483647 : Int32)) % (11 : Int32)) (b0_39 p2 og).toUInt32.toUInt16.toUInt32.toInt32 (7 : Int32) (99 : Int32)).toInt8.toInt32 (sx ((p1 &&& (2147483647 : Int32)) % (11 : Int32)) (b0_39 p2 og).toUInt32.toUInt16.toUInt32.toInt32 (8 : Int32) (111 : Int32)).toInt8.toInt32 (sx ((p1 &&& (2147483647 : Int32)) % (11 : Int32)) (b0_39 p2 og).toUInt32.toUInt16.toUInt32.toInt32 (9 : Int32) (112 : Int32)).toInt8.toInt32 (sx ((p1 &&& (2147483647 : Int32)) % (11 : Int32)) (b0_39 p2 og).toUInt32.toUInt16.toUInt32.toInt32 (10 : Int32) (101 : Int32)).toInt8.toInt32) = (b0_49 p2 og) := own_fin11 _ _ og ho hcr.1 hcr.2
      have go107 : Go p.tables e below T100 (mkF m 197 (L0_19 p0 p1 p2 p3 b74 og) [(.int 1)]) En := by
        intro t k
        refine go106 _ ?_
        refine XS.iload X100.here hx rfl (hb hby at_187) rfl ?_
        refine XS.icmpNo X100.here hx rfl (hb hby at_189) rfl (XT.ii_ne_f hfin) ?_
        refine XS.iconst X100.here hx rfl (hb hby at_192) ?_
        show Steps _ _ _ (T100.setTop (mkF m 193 (L0_19 p0 p1 p2 p3 b74 og) [(.int 1)])) _
        refine XS.goto X100.here hx rfl (pc0 := 193) (pc' := 197) rfl (hb hby at_193) (by decide) (by decide) ?_
        exact k
      obtain ⟨fs, hr, hrun, hended, hRW⟩ := X100.leaveW hS100 (hk100r) (v := some (.int 1)) (fun h => by rw [Bd.returns] at h; cases h) Bd.notSynchronized
      subst hEn
      refine ⟨_, _, go107 _ (Jvm.RoadKit.retOut X100 hx Bd.returns rfl (Or.inl ⟨rfl, Or.inr (Or.inl rfl), _, rfl⟩) (hb hby at_197) hr), hrun, hended, _, _, rfl, ?_, hRW.1, hRW.2.1, hRW.2.2.1, hRW.2.2.2.mono (by decide) (by decide)⟩
      show Q0 _ _ p0 p1 p2 p3 s_COMPACT_STRINGS h0 _ (T100.setFrames fs).heap _
      have hE : (T100.setFrames fs).heap = T100.heap := rfl
      rw [hE]
      exact ⟨congrArg (fun z => some (Value.int z)) ((by rw [f0, if_neg hs2, if_pos hs29, if_neg hs32, if_pos hs71] : (1 : Int32) = (f0 p0 p3)).trans (f0_one p0 p3)), N100⟩
    by_cases hs108 : ((p0 &&& (2147483647 : Int32)) % (3 : Int32)) = (2 : Int32)
    · have go109 : Go p.tables e below s₁ (mkF m 49 (L0_20 p0 p1 p2 p3) []) En := by
        have q : Go p.tables e below s₁ (mkF m  49 #[iv p0, iv p1, iv p2, iv p3, iv ((p0 &&& (2147483647 : Int32)) % (3 : Int32)), iv 0, iv (p2 &&& (255 : Int32)).toUInt32.toUInt16.toUInt32.toInt32, .unset, .unset, .unset, .unset, .unset] []) En := go31
        rw [hs108] at q
        exact q
      have go110 : Go p.tables e below s₁ (mkF m 53 (L0_20 p0 p1 p2 p3) [(.int 0), (.int 2)]) En := by
        intro t k
        refine go109 _ ?_
        refine XS.iload X0.here hx rfl (hb hby at_49) rfl ?_
        refine XS.iload X0.here hx rfl (hb hby at_51) rfl ?_
        exact k
      obtain ⟨_, T111, Lc111, X111, hQ111, st111⟩ := own_cs X0 hx hZ hown hml go110 (hb hby at_53) e0 (hw _ (mi 1 rfl)) (own_site642 hw) (rmnm20 l Z aZ hw []  h0 n0 Z0 ) (by decide) (argsL := [(.int 2), (.int 0)]) (rest := []) rfl rfl rfl (lenOf pd_643 rfl) (W := 0) rfl (by decide) (by decide) (by decide : 0 + 1 ≤ _) (by decide : 0 + 16 ≤ _)
      obtain ⟨b111, kb111, rfl, N111q, K111q, fr111, G111_0⟩ := hQ111
      have N111 := Fr.app N0 N111q
      have K111 : Keep h0 T111.heap [] := K0.trans K111q all0
      have low111 : n0 ≤ b111 := Nat.le_trans Z0 fr111
      have fsh111 : h0.size ≤ b111 := Nat.le_trans K0.1 fr111
      have Zs111 : n0 ≤ T111.heap.size := Nat.le_trans Z0 K111q.1
      have hk111 : s.heap.size ≤ T111.heap.size := Nat.le_trans hk0 K111q.1
      obtain ⟨cl112, Ar112, q112, S112, N112, H112, G112⟩ := id G111_0
      obtain ⟨og, hel, ho⟩ : ∃ og : Int32, ([(.int 97), (.int 112), (.int 112), (.int 108), (.int 105), (.int 99), (.int 97), (.int 116), (.int 105), (.int 111), (.int 110), (.int 83), (.int 99), (.int 111), (.int 112), (.int 101)] : List Value).getD ((p1 &&& (2147483647 : Int32)) % (16 : Int32)).toNatClampNeg (.int 0) = .int og ∧ ((((p1 &&& (2147483647 : Int32)) % (16 : Int32)) = (0 : Int32) ∧ og = (97 : Int32)) ∨ (((p1 &&& (2147483647 : Int32)) % (16 : Int32)) = (1 : Int32) ∧ og = (112 : Int32)) ∨ (((p1 &&& (2147483647 : Int32)) % (16 : Int32)) = (2 : Int32) ∧ og = (112 : Int32)) ∨ (((p1 &&& (2147483647 : Int32)) % (16 : Int32)) = (3 : Int32) ∧ og = (108 : Int32)) ∨ (((p1 &&& (2147483647 : Int32)) % (16 : Int32)) = (4 : Int32) ∧ og = (105 : Int32)) ∨ (((p1 &&& (2147483647 : Int32)) % (16 : Int32)) = (5 : Int32) ∧ og = (99 : Int32)) ∨ (((p1 &&& (2147483647 : Int32)) % (16 : Int32)) = (6 : Int32) ∧ og = (97 : Int32)) ∨ (((p1 &&& (2147483647 : Int32)) % (16 : Int32)) = (7 : Int32) ∧ og = (116 : Int32)) ∨ (((p1 &&& (2147483647 : Int32)) % (16 : Int32)) = (8 : Int32) ∧ og = (105 : Int32)) ∨ (((p1 &&& (2147483647 : Int32)) % (16 : Int32)) = (9 : Int32) ∧ og = (111 : Int32)) ∨ (((p1 &&& (2147483647 : Int32)) % (16 : Int32)) = (10 : Int32) ∧ og = (110 : Int32)) ∨ (((p1 &&& (2147483647 : Int32)) % (16 : Int32)) = (11 : Int32) ∧ og = (83 : Int32)) ∨ (((p1 &&& (2147483647 : Int32)) % (16 : Int32)) = (12 : Int32) ∧ og = (99 : Int32)) ∨ (((p1 &&& (2147483647 : Int32)) % (16 : Int32)) = (13 : Int32) ∧ og = (111 : Int32)) ∨ (((p1 &&& (2147483647 : Int32)) % (16 : Int32)) = (14 : Int32) ∧ og = (112 : Int32)) ∨ (((p1 &&& (2147483647 : Int32)) % (16 : Int32)) = (15 : Int32) ∧ og = (101 : Int32))) := by
        rcases own_in16 p1 with h | h | h | h | h | h | h | h | h | h | h | h | h | h | h | h
        · exact ⟨(97 : Int32), by rw [h]; rfl, (Or.inl ⟨h, rfl⟩)⟩
        · exact ⟨(112 : Int32), by rw [h]; rfl, (Or.inr (Or.inl ⟨h, rfl⟩))⟩
        · exact ⟨(112 : Int32), by rw [h]; rfl, (Or.inr (Or.inr (Or.inl ⟨h, rfl⟩)))⟩
        · exact ⟨(108 : Int32), by rw [h]; rfl, (Or.inr (Or.inr (Or.inr (Or.inl ⟨h, rfl⟩))))⟩
        · exact ⟨(105 : Int32), by rw [h]; rfl, (Or.inr (Or.inr (Or.inr (Or.inr (Or.inl ⟨h, rfl⟩)))))⟩
        · exact ⟨(99 : Int32), by rw [h]; rfl, (Or.inr (Or.inr (Or.inr (Or.inr (Or.inr (Or.inl ⟨h, rfl⟩))))))⟩
        · exact ⟨(97 : Int32), by rw [h]; rfl, (Or.inr (Or.inr (Or.inr (Or.inr (Or.inr (Or.inr (Or.inl ⟨h, rfl⟩)))))))⟩
        · exact ⟨(116 : Int32), by rw [h]; rfl, (Or.inr (Or.inr (Or.inr (Or.inr (Or.inr (Or.inr (Or.inr (Or.inl ⟨h, rfl⟩))))))))⟩
        · exact ⟨(105 : Int32), by rw [h]; rfl, (Or.inr (Or.inr (Or.inr (Or.inr (Or.inr (Or.inr (Or.inr (Or.inr (Or.inl ⟨h, rfl⟩)))))))))⟩
        · exact ⟨(111 : Int32), by rw [h]; rfl, (Or.inr (Or.inr (Or.inr (Or.inr (Or.inr (Or.inr (Or.inr (Or.inr (Or.inr (Or.inl ⟨h, rfl⟩))))))))))⟩
        · exact ⟨(110 : Int32), by rw [h]; rfl, (Or.inr (Or.inr (Or.inr (Or.inr (Or.inr (Or.inr (Or.inr (Or.inr (Or.inr (Or.inr (Or.inl ⟨h, rfl⟩)))))))))))⟩
        · exact ⟨(83 : Int32), by rw [h]; rfl, (Or.inr (Or.inr (Or.inr (Or.inr (Or.inr (Or.inr (Or.inr (Or.inr (Or.inr (Or.inr (Or.inr (Or.inl ⟨h, rfl⟩))))))))))))⟩
        · exact ⟨(99 : Int32), by rw [h]; rfl, (Or.inr (Or.inr (Or.inr (Or.inr (Or.inr (Or.inr (Or.inr (Or.inr (Or.inr (Or.inr (Or.inr (Or.inr (Or.inl ⟨h, rfl⟩)))))))))))))⟩
        · exact ⟨(111 : Int32), by rw [h]; rfl, (Or.inr (Or.inr (Or.inr (Or.inr (Or.inr (Or.inr (Or.inr (Or.inr (Or.inr (Or.inr (Or.inr (Or.inr (Or.inr (Or.inl ⟨h, rfl⟩))))))))))))))⟩
        · exact ⟨(112 : Int32), by rw [h]; rfl, (Or.inr (Or.inr (Or.inr (Or.inr (Or.inr (Or.inr (Or.inr (Or.inr (Or.inr (Or.inr (Or.inr (Or.inr (Or.inr (Or.inr (Or.inl ⟨h, rfl⟩)))))))))))))))⟩
        · exact ⟨(101 : Int32), by rw [h]; rfl, (Or.inr (Or.inr (Or.inr (Or.inr (Or.inr (Or.inr (Or.inr (Or.inr (Or.inr (Or.inr (Or.inr (Or.inr (Or.inr (Or.inr (Or.inr ⟨h, rfl⟩)))))))))))))))⟩
      have go114 : Go p.tables e below T111 (mkF m 154 (L0_21 p0 p1 p2 p3 b111 og) []) En := by
        intro t k
        have k : Steps p.tables e below (T111.setTop (mkF m  154 #[iv p0, iv p1, iv p2, iv p3, iv 2, iv 0, iv (b0_39 p2 og), rv b111, iv 16, iv ((p1 &&& (2147483647 : Int32)) % (16 : Int32)), iv og, .unset] [])) t := k
        refine st111 _ ?_
        refine XS.astore X111.here hx rfl (hb hby at_56) rfl rfl (l' := (L0_22 p0 p1 p2 p3 b111)) rfl ?_
        refine XS.aload X111.here hx rfl (hb hby at_58) rfl rfl ?_
        refine X111.arraylength hx Ar112.1 (State.isArrayOf_alike hZ.alike Ar112.2.1) (g := (mkF m 60 (L0_22 p0 p1 p2 p3 b111) [(.ref b111)])) rfl rfl (hb hby at_60) _ ?_
        rw [len_of S112 N112]
        show Steps _ _ _ (T111.setTop (mkF m 61 (L0_22 p0 p1 p2 p3 b111) [(.int 16)])) _
        refine XS.istore X111.here hx rfl (hb hby at_61) rfl (l' := (L0_23 p0 p1 p2 p3 b111)) rfl ?_
        refine XS.iload X111.here hx rfl (hb hby at_63) rfl ?_
        refine XS.iconst X111.here hx rfl (hb hby at_65) ?_
        show Steps _ _ _ (T111.setTop (mkF m 66 (L0_23 p0 p1 p2 p3 b111) [(.int 1), (.int 0)])) _
        refine XS.icmpYes X111.here hx rfl (pc0 := 66) (pc' := 99) rfl (hb hby at_66) rfl (XT.ii_ne_t (by decide : ¬ ((0 : Int32) = (1 : Int32)))) (by decide) (by decide) ?_
        refine XS.iload X111.here hx rfl (hb hby at_99) rfl ?_
        refine XS.iconst X111.here hx rfl (hb hby at_101) ?_
        show Steps _ _ _ (T111.setTop (mkF m 102 (L0_23 p0 p1 p2 p3 b111) [(.int 2), (.int 0)])) _
        refine XS.icmpYes X111.here hx rfl (pc0 := 102) (pc' := 126) rfl (hb hby at_102) rfl (XT.ii_ne_t (by decide : ¬ ((0 : Int32) = (2 : Int32)))) (by decide) (by decide) ?_
        refine XS.iloadN X111.here hx rfl (hb hby at_126) rfl ?_
        refine X111.ldcInt hx hown (mvT hZ (hw _ (mi 0 rfl))) (g := (mkF m 127 (L0_23 p0 p1 p2 p3 b111) [(.int p1)])) rfl (hb hby at_127) _ ?_
        show Steps _ _ _ (T111.setTop (mkF m 129 (L0_23 p0 p1 p2 p3 b111) [(.int 2147483647), (.int p1)])) _
        refine XS.iand X111.here hx rfl (hb hby at_129) rfl ?_
        refine XS.iload X111.here hx rfl (hb hby at_130) rfl ?_
        refine iremM X111 hx rfl (hb hby at_132) rfl (by decide) ?_
        show Steps _ _ _ (T111.setTop (mkF m 133 (L0_23 p0 p1 p2 p3 b111) [(.int ((p1 &&& (2147483647 : Int32)) % (16 : Int32)))])) _
        refine XS.istore X111.here hx rfl (hb hby at_133) rfl (l' := (L0_24 p0 p1 p2 p3 b111)) rfl ?_
        refine XS.aload X111.here hx rfl (hb hby at_135) rfl rfl ?_
        refine XS.iload X111.here hx rfl (hb hby at_137) rfl ?_
        show Steps _ _ _ (T111.setTop (mkF m 139 (L0_24 p0 p1 p2 p3 b111) [(.int ((p1 &&& (2147483647 : Int32)) % (16 : Int32))), (.ref b111)])) _
        refine X111.caload hx (j := ((p1 &&& (2147483647 : Int32)) % (16 : Int32))) (v := (.int og)) Ar112.1 (State.isArrayOf_alike hZ.alike Ar112.2.1) Ar112.2.2 (inb_of S112 (own_bb16 p1)) (Has.at H112 (inb_of S112 (own_bb16 p1)) hel) (g := (mkF m 139 (L0_24 p0 p1 p2 p3 b111) [(.int ((p1 &&& (2147483647 : Int32)) % (16 : Int32))), (.ref b111)])) rfl rfl (hb hby at_139) _ ?_
        refine XS.istore X111.here hx rfl (hb hby at_140) rfl (l' := (L0_25 p0 p1 p2 p3 b111 og)) rfl ?_
        refine XS.iloadN X111.here hx rfl (hb hby at_142) rfl ?_
        show Steps _ _ _ (T111.setTop (mkF m 143 (L0_25 p0 p1 p2 p3 b111 og) [(.int p2)])) _
        refine XS.sipush X111.here hx rfl (hb hby at_143) ?_
        refine XS.iand X111.here hx rfl (hb hby at_146) rfl ?_
        by_cases hc113 : (p2 &&& (256 : Int32)) = (0 : Int32)
        · refine XS.ifYes X111.here hx rfl (pc0 := 147) (pc' := 154) rfl (hb hby at_147) rfl (XT.i0_eq_t hc113) (by decide) (by decide) ?_
          have hq115 : (b0_39 p2 og) = (p2 &&& (255 : Int32)).toUInt32.toUInt16.toUInt32.toInt32 := by rw [b0_39, if_pos hc113]
          rw [hq115] at k
          exact k
        · refine XS.ifNo X111.here hx rfl (hb hby at_147) rfl (XT.i0_eq_f hc113) ?_
          refine XS.iload X111.here hx rfl (hb hby at_150) rfl ?_
          refine XS.istore X111.here hx rfl (hb hby at_152) rfl (l' := #[iv p0, iv p1, iv p2, iv p3, iv 2, iv 0, iv og, rv b111, iv 16, iv ((p1 &&& (2147483647 : Int32)) % (16 : Int32)), iv og, .unset]) rfl ?_
          have hq116 : (b0_39 p2 og) = og := by rw [b0_39, if_neg hc113]
          rw [hq116] at k
          exact k
      have go117 : Go p.tables e below T111 (mkF m 160 (L0_21 p0 p1 p2 p3 b111 og) [(.int (b0_39 p2 og)), (.int ((p1 &&& (2147483647 : Int32)) % (16 : Int32))), (.ref b111)]) En := by
        intro t k
        refine go114 _ ?_
        refine XS.aload X111.here hx rfl (hb hby at_154) rfl rfl ?_
        refine XS.iload X111.here hx rfl (hb hby at_156) rfl ?_
        refine XS.iload X111.here hx rfl (hb hby at_158) rfl ?_
        show Steps _ _ _ (T111.setTop (mkF m 160 (L0_21 p0 p1 p2 p3 b111 og) [(.int (b0_39 p2 og)), (.int ((p1 &&& (2147483647 : Int32)) % (16 : Int32))), (.ref b111)])) _
        exact k
      obtain ⟨T118, h118, X118, e118, W118, st118⟩ := stC X111 hx hZ rfl Ar112 (j := ((p1 &&& (2147483647 : Int32)) % (16 : Int32))) (inb_of S112 (own_bb16 p1)) (g := (mkF m 160 (L0_21 p0 p1 p2 p3 b111 og) [(.int (b0_39 p2 og)), (.int ((p1 &&& (2147483647 : Int32)) % (16 : Int32))), (.ref b111)])) rfl rfl (hb hby at_160)
      have go119 := gap go117 st118
      have N118 := Fr.snoc X118 N111 low111
      have K118 : Keep h0 h118 [] := K111.wr W118 (Or.inr fsh111)
      have Zs118 : n0 ≤ h118.size := Nat.le_trans Zs111 (Keep.of_wr W118).1
      have hk118 : s.heap.size ≤ h118.size := Nat.le_trans hk111 (Keep.of_wr W118).1
      have F120 : Arv Z h118 b111 kb111 .char (16 : Int32) ([(.int 97), (.int 112), (.int 112), (.int 108), (.int 105), (.int 99), (.int 97), (.int 116), (.int 105), (.int 111), (.int 110), (.int 83), (.int 99), (.int 111), (.int 112), (.int 101)].set ((p1 &&& (2147483647 : Int32)) % (16 : Int32)).toNatClampNeg (.int (b0_39 p2 og).toUInt32.toUInt16.toUInt32.toInt32)) (.int 0) := Arv.set Ar112 q112 S112 N112 H112 G112 (fits_nar_char _) W118 ((p1 &&& (2147483647 : Int32)) % (16 : Int32)).toNatClampNeg rfl (own_tn (own_bb16 p1))
      have F121 : Arv Z h118 b111 kb111 .char (16 : Int32) [(.int (sx ((p1 &&& (2147483647 : Int32)) % (16 : Int32)) (b0_39 p2 og).toUInt32.toUInt16.toUInt32.toInt32 (0 : Int32) (97 : Int32))), (.int (sx ((p1 &&& (2147483647 : Int32)) % (16 : Int32)) (b0_39 p2 og).toUInt32.toUInt16.toUInt32.toInt32 (1 : Int32) (112 : Int32))), (.int (sx ((p1 &&& (2147483647 : Int32)) % (16 : Int32)) (b0_39 p2 og).toUInt32.toUInt16.toUInt32.toInt32 (2 : Int32) (112 : Int32))), (.int (sx ((p1 &&& (2147483647 : Int32)) % (16 : Int32)) (b0_39 p2 og).toUInt32.toUInt16.toUInt32.toInt32 (3 : Int32) (108 : Int32))), (.int (sx ((p1 &&& (2147483647 : Int32)) % (16 : Int32)) (b0_39 p2 og).toUInt32.toUInt16.toUInt32.toInt32 (4 : Int32) (105 : Int32))), (.int (sx ((p1 &&& (2147483647 : Int32)) % (16 : Int32)) (b0_39 p2 og).toUInt32.toUInt16.toUInt32.toInt32 (5 : Int32) (99 : Int32))), (.int (sx ((p1 &&& (2147483647 : Int32)) % (16 : Int32)) (b0_39 p2 og).toUInt32.toUInt16.toUInt32.toInt32 (6 : Int32) (97 : Int32))), (.int (sx ((p1 &&& (2147483647 : Int32)) % (16 : Int32)) (b0_39 p2 og).toUInt32.toUInt16.toUInt32.toInt32 (7 : Int32) (116 : Int32))), (.int (sx ((p1 &&& (2147483647 : Int32)) % (16 : Int32)) (b0_39 p2 og).toUInt32.toUInt16.toUInt32.toInt32 (8 : Int32) (105 : Int32))), (.int (sx ((p1 &&& (2147483647 : Int32)) % (16 : Int32)) (b0_39 p2 og).toUInt32.toUInt16.toUInt32.toInt32 (9 : Int32) (111 : Int32))), (.int (sx ((p1 &&& (2147483647 : Int32)) % (16 : Int32)) (b0_39 p2 og).toUInt32.toUInt16.toUInt32.toInt32 (10 : Int32) (110 : Int32))), (.int (sx ((p1 &&& (2147483647 : Int32)) % (16 : Int32)) (b0_39 p2 og).toUInt32.toUInt16.toUInt32.toInt32 (11 : Int32) (83 : Int32))), (.int (sx ((p1 &&& (2147483647 : Int32)) % (16 : Int32)) (b0_39 p2 og).toUInt32.toUInt16.toUInt32.toInt32 (12 : Int32) (99 : Int32))), (.int (sx ((p1 &&& (2147483647 : Int32)) % (16 : Int32)) (b0_39 p2 og).toUInt32.toUInt16.toUInt32.toInt32 (13 : Int32) (111 : Int32))), (.int (sx ((p1 &&& (2147483647 : Int32)) % (16 : Int32)) (b0_39 p2 og).toUInt32.toUInt16.toUInt32.toInt32 (14 : Int32) (112 : Int32))), (.int (sx ((p1 &&& (2147483647 : Int32)) % (16 : Int32)) (b0_39 p2 og).toUInt32.toUInt16.toUInt32.toInt32 (15 : Int32) (101 : Int32)))] (.int 0) := by have q := F120; rw [own_set16 _ _ (own_in16 p1)] at q; exact q
      have hogr := own_ogr16 _ og ho
      have hcr : 0 ≤ (b0_39 p2 og).toInt ∧ (b0_39 p2 og).toInt ≤ 255 := by
        unfold b0_39; split
        · exact own_p255 p2
        · exact hogr
      have hv255 := own_cr _ hcr.1 hcr.2
      have go123 : Go p.tables e below T118 (mkF m 173 (L0_21 p0 p1 p2 p3 b111 og) [(.int (b0_49 p2 og))]) En := by
        intro t k
        have k : Steps p.tables e below (T118.setTop (mkF m  173 #[iv p0, iv p1, iv p2, iv p3, iv 2, iv 0, iv (b0_39 p2 og), rv b111, iv 16, iv ((p1 &&& (2147483647 : Int32)) % (16 : Int32)), iv og, .unset] [(.int (b0_49 p2 og))])) t := k
        refine go119 _ ?_
        refine XS.iload X118.here hx rfl (hb hby at_161) rfl ?_
        refine XS.iload X118.here hx rfl (hb hby at_163) rfl ?_
        by_cases hc122 : (b0_39 p2 og) = og
        · refine XS.icmpNo X118.here hx rfl (hb hby at_165) rfl (XT.ii_ne_f hc122) ?_
          refine XS.iconst X118.here hx rfl (hb hby at_168) ?_
          refine XS.goto X118.here hx rfl (pc0 := 169) (pc' := 173) rfl (hb hby at_169) (by decide) (by decide) ?_
          have hq124 : (b0_49 p2 og) = (1 : Int32) := by rw [b0_49, if_pos hc122]
          rw [hq124] at k
          exact k
        · refine XS.icmpYes X118.here hx rfl (pc0 := 165) (pc' := 172) rfl (hb hby at_165) rfl (XT.ii_ne_t hc122) (by decide) (by decide) ?_
          refine XS.iconst X118.here hx rfl (hb hby at_172) ?_
          have hq125 : (b0_49 p2 og) = (0 : Int32) := by rw [b0_49, if_neg hc122]
          rw [hq125] at k
          exact k
      have go126 : Go p.tables e below T118 (mkF m 175 (L0_26 p0 p1 p2 p3 b111 og) []) En := by
        intro t k
        refine go123 _ ?_
        refine XS.istore X118.here hx rfl (hb hby at_173) rfl (l' := (L0_26 p0 p1 p2 p3 b111 og)) rfl ?_
        exact k
      obtain ⟨T127, h127, X127, e127, E127, A127, D127, -, st127⟩ := newO X118 hx hZ hown (hw _ (mi 6 rfl)) (hw _ (mi 7 rfl)) (hw _ (mi 8 rfl)) e118 (g := (mkF m 175 (L0_26 p0 p1 p2 p3 b111 og) [])) rfl (hb hby at_175) (by decide) (by decide)
      obtain ⟨b127, g127⟩ : ∃ z, z = h118.size := ⟨_, rfl⟩
      rw [← g127] at A127 D127 st127
      have ne128 : b111 ≠ b127 := Nat.ne_of_lt (Nat.lt_of_lt_of_le F121.lt (Nat.le_of_eq g127.symm))
      have low127 : n0 ≤ b127 := Nat.le_trans Zs118 (Nat.le_of_eq g127.symm)
      have fsh127 : h0.size ≤ b127 := Nat.le_trans K118.1 (Nat.le_of_eq g127.symm)
      have K127 : Keep h0 h127 [] := K118.ext E127
      have Zs127 : n0 ≤ h127.size := Nat.le_trans Zs118 E127.1
      have hk127 : s.heap.size ≤ h127.size := Nat.le_trans hk118 E127.1
      have go129 := gap go126 st127
      have F130 := F121.ext E127
      have F131 : Fld Z h127 b127 "java/lang/String" "coder" "B" (.int 0) := D127 (Or.inr (hw _ (mi 32 rfl))) (ty := .byte) (by decide)
      have F132 : Fld Z h127 b127 "java/lang/String" "value" "[B" .null := D127 (Or.inr (hw _ (mi 34 rfl))) (ty := (.array .byte)) (by decide)
      have go133 : Go p.tables e below T127 (mkF m 181 (L0_26 p0 p1 p2 p3 b111 og) [(.ref b111), (.ref b127), (.ref b127)]) En := by
        intro t k
        refine go129 _ ?_
        refine XS.dup X127.here hx rfl (hb hby at_178) rfl rfl ?_
        refine XS.aload X127.here hx rfl (hb hby at_179) rfl rfl ?_
        exact k
      obtain ⟨_, T134, Lc134, X134, hQ134, st134⟩ := own_cb X127 hx hZ hown hml go133 (hb hby at_181) e127 (hw _ (mi 9 rfl)) (own_site647 hw) rfl (StrChars.Road.backV (W := 1) hZ (fun d hd => hw d (own_wds d hd)) (hw _ (mi 7 rfl)) (cs := [(sx ((p1 &&& (2147483647 : Int32)) % (16 : Int32)) (b0_39 p2 og).toUInt32.toUInt16.toUInt32.toInt32 (0 : Int32) (97 : Int32)), (sx ((p1 &&& (2147483647 : Int32)) % (16 : Int32)) (b0_39 p2 og).toUInt32.toUInt16.toUInt32.toInt32 (1 : Int32) (112 : Int32)), (sx ((p1 &&& (2147483647 : Int32)) % (16 : Int32)) (b0_39 p2 og).toUInt32.toUInt16.toUInt32.toInt32 (2 : Int32) (112 : Int32)), (sx ((p1 &&& (2147483647 : Int32)) % (16 : Int32)) (b0_39 p2 og).toUInt32.toUInt16.toUInt32.toInt32 (3 : Int32) (108 : Int32)), (sx ((p1 &&& (2147483647 : Int32)) % (16 : Int32)) (b0_39 p2 og).toUInt32.toUInt16.toUInt32.toInt32 (4 : Int32) (105 : Int32)), (sx ((p1 &&& (2147483647 : Int32)) % (16 : Int32)) (b0_39 p2 og).toUInt32.toUInt16.toUInt32.toInt32 (5 : Int32) (99 : Int32)), (sx ((p1 &&& (2147483647 : Int32)) % (16 : Int32)) (b0_39 p2 og).toUInt32.toUInt16.toUInt32.toInt32 (6 : Int32) (97 : Int32)), (sx ((p1 &&& (2147483647 : Int32)) % (16 : Int32)) (b0_39 p2 og).toUInt32.toUInt16.toUInt32.toInt32 (7 : Int32) (116 : Int32)), (sx ((p1 &&& (2147483647 : Int32)) % (16 : Int32)) (b0_39 p2 og).toUInt32.toUInt16.toUInt32.toInt32 (8 : Int32) (105 : Int32)), (sx ((p1 &&& (2147483647 : Int32)) % (16 : Int32)) (b0_39 p2 og).toUInt32.toUInt16.toUInt32.toInt32 (9 : Int32) (111 : Int32)), (sx ((p1 &&& (2147483647 : Int32)) % (16 : Int32)) (b0_39 p2 og).toUInt32.toUInt16.toUInt32.toInt32 (10 : Int32) (110 : Int32)), (sx ((p1 &&& (2147483647 : Int32)) % (16 : Int32)) (b0_39 p2 og).toUInt32.toUInt16.toUInt32.toInt32 (11 : Int32) (83 : Int32)), (sx ((p1 &&& (2147483647 : Int32)) % (16 : Int32)) (b0_39 p2 og).toUInt32.toUInt16.toUInt32.toInt32 (12 : Int32) (99 : Int32)), (sx ((p1 &&& (2147483647 : Int32)) % (16 : Int32)) (b0_39 p2 og).toUInt32.toUInt16.toUInt32.toInt32 (13 : Int32) (111 : Int32)), (sx ((p1 &&& (2147483647 : Int32)) % (16 : Int32)) (b0_39 p2 og).toUInt32.toUInt16.toUInt32.toInt32 (14 : Int32) (112 : Int32)), (sx ((p1 &&& (2147483647 : Int32)) % (16 : Int32)) (b0_39 p2 og).toUInt32.toUInt16.toUInt32.toInt32 (15 : Int32) (101 : Int32))]) (bs := [(sx ((p1 &&& (2147483647 : Int32)) % (16 : Int32)) (b0_39 p2 og).toUInt32.toUInt16.toUInt32.toInt32 (0 : Int32) (97 : Int32)).toInt8.toInt32, (sx ((p1 &&& (2147483647 : Int32)) % (16 : Int32)) (b0_39 p2 og).toUInt32.toUInt16.toUInt32.toInt32 (1 : Int32) (112 : Int32)).toInt8.toInt32, (sx ((p1 &&& (2147483647 : Int32)) % (16 : Int32)) (b0_39 p2 og).toUInt32.toUInt16.toUInt32.toInt32 (2 : Int32) (112 : Int32)).toInt8.toInt32, (sx ((p1 &&& (2147483647 : Int32)) % (16 : Int32)) (b0_39 p2 og).toUInt32.toUInt16.toUInt32.toInt32 (3 : Int32) (108 : Int32)).toInt8.toInt32, (sx ((p1 &&& (2147483647 : Int32)) % (16 : Int32)) (b0_39 p2 og).toUInt32.toUInt16.toUInt32.toInt32 (4 : Int32) (105 : Int32)).toInt8.toInt32, (sx ((p1 &&& (2147483647 : Int32)) % (16 : Int32)) (b0_39 p2 og).toUInt32.toUInt16.toUInt32.toInt32 (5 : Int32) (99 : Int32)).toInt8.toInt32, (sx ((p1 &&& (2147483647 : Int32)) % (16 : Int32)) (b0_39 p2 og).toUInt32.toUInt16.toUInt32.toInt32 (6 : Int32) (97 : Int32)).toInt8.toInt32, (sx ((p1 &&& (2147483647 : Int32)) % (16 : Int32)) (b0_39 p2 og).toUInt32.toUInt16.toUInt32.toInt32 (7 : Int32) (116 : Int32)).toInt8.toInt32, (sx ((p1 &&& (2147483647 : Int32)) % (16 : Int32)) (b0_39 p2 og).toUInt32.toUInt16.toUInt32.toInt32 (8 : Int32) (105 : Int32)).toInt8.toInt32, (sx ((p1 &&& (2147483647 : Int32)) % (16 : Int32)) (b0_39 p2 og).toUInt32.toUInt16.toUInt32.toInt32 (9 : Int32) (111 : Int32)).toInt8.toInt32, (sx ((p1 &&& (2147483647 : Int32)) % (16 : Int32)) (b0_39 p2 og).toUInt32.toUInt16.toUInt32.toInt32 (10 : Int32) (110 : Int32)).toInt8.toInt32, (sx ((p1 &&& (2147483647 : Int32)) % (16 : Int32)) (b0_39 p2 og).toUInt32.toUInt16.toUInt32.toInt32 (11 : Int32) (83 : Int32)).toInt8.toInt32, (sx ((p1 &&& (2147483647 : Int32)) % (16 : Int32)) (b0_39 p2 og).toUInt32.toUInt16.toUInt32.toInt32 (12 : Int32) (99 : Int32)).toInt8.toInt32, (sx ((p1 &&& (2147483647 : Int32)) % (16 : Int32)) (b0_39 p2 og).toUInt32.toUInt16.toUInt32.toInt32 (13 : Int32) (111 : Int32)).toInt8.toInt32, (sx ((p1 &&& (2147483647 : Int32)) % (16 : Int32)) (b0_39 p2 og).toUInt32.toUInt16.toUInt32.toInt32 (14 : Int32) (112 : Int32)).toInt8.toInt32, (sx ((p1 &&& (2147483647 : Int32)) % (16 : Int32)) (b0_39 p2 og).toUInt32.toUInt16.toUInt32.toInt32 (15 : Int32) (101 : Int32)).toInt8.toInt32]) (n := 16) low127 Zs127 A127 F132 F131 F130 (own_sta_keep S_COMPACT_STRINGS K127 all0) hcs rfl rfl (by decide) (by decide) (List.forall_mem_cons.mpr ⟨own_sxr _ _ _ _ hv255 (by decide), (List.forall_mem_cons.mpr ⟨own_sxr _ _ _ _ hv255 (by decide), (List.forall_mem_cons.mpr ⟨own_sxr _ _ _ _ hv255 (by decide), (List.forall_mem_cons.mpr ⟨own_sxr _ _ _ _ hv255 (by decide), (List.forall_mem_cons.mpr ⟨own_sxr _ _ _ _ hv255 (by decide), (List.forall_mem_cons.mpr ⟨own_sxr _ _ _ _ hv255 (by decide), (List.forall_mem_cons.mpr ⟨own_sxr _ _ _ _ hv255 (by decide), (List.forall_mem_cons.mpr ⟨own_sxr _ _ _ _ hv255 (by decide), (List.forall_mem_cons.mpr ⟨own_sxr _ _ _ _ hv255 (by decide), (List.forall_mem_cons.mpr ⟨own_sxr _ _ _ _ hv255 (by decide), (List.forall_mem_cons.mpr ⟨own_sxr _ _ _ _ hv255 (by decide), (List.forall_mem_cons.mpr ⟨own_sxr _ _ _ _ hv255 (by decide), (List.forall_mem_cons.mpr ⟨own_sxr _ _ _ _ hv255 (by decide), (List.forall_mem_cons.mpr ⟨own_sxr _ _ _ _ hv255 (by decide), (List.forall_mem_cons.mpr ⟨own_sxr _ _ _ _ hv255 (by decide), (List.forall_mem_cons.mpr ⟨own_sxr _ _ _ _ hv255 (by decide), (fun _ q => nomatch q)⟩)⟩)⟩)⟩)⟩)⟩)⟩)⟩)⟩)⟩)⟩)⟩)⟩)⟩)⟩)⟩) rfl (by decide) (by decide)) (by decide) (argsL := [(.ref b111)]) (rest := [(.ref b127)]) rfl rfl rfl (lenOf pd_640 rfl) rfl (by decide : 2 + 1 ≤ _) (by decide : 20 + 16 ≤ _)
      obtain ⟨rfl, N134q, K134q, GE134, GC134, bx134, kx134, lo134, fr134, nx134, GX134, GW134⟩ := hQ134
      have N134 := Fr.app N118 N134q
      have K134 : Keep h0 T134.heap [] := K127.trans K134q (allS (Or.inr fsh127) all0)
      have Zs134 : n0 ≤ T134.heap.size := Nat.le_trans Zs127 K134q.1
      have hk134 : s.heap.size ≤ T134.heap.size := Nat.le_trans hk127 K134q.1
      have F135 := F130.keep K134q (ninS ne128 nin0)
      have F136 := A127.keep K134q
      have GV134 : Arv Z T134.heap bx134 kx134 .byte (16 : Int32) [(.int (sx ((p1 &&& (2147483647 : Int32)) % (16 : Int32)) (b0_39 p2 og).toUInt32.toUInt16.toUInt32.toInt32 (0 : Int32) (97 : Int32)).toInt8.toInt32), (.int (sx ((p1 &&& (2147483647 : Int32)) % (16 : Int32)) (b0_39 p2 og).toUInt32.toUInt16.toUInt32.toInt32 (1 : Int32) (112 : Int32)).toInt8.toInt32), (.int (sx ((p1 &&& (2147483647 : Int32)) % (16 : Int32)) (b0_39 p2 og).toUInt32.toUInt16.toUInt32.toInt32 (2 : Int32) (112 : Int32)).toInt8.toInt32), (.int (sx ((p1 &&& (2147483647 : Int32)) % (16 : Int32)) (b0_39 p2 og).toUInt32.toUInt16.toUInt32.toInt32 (3 : Int32) (108 : Int32)).toInt8.toInt32), (.int (sx ((p1 &&& (2147483647 : Int32)) % (16 : Int32)) (b0_39 p2 og).toUInt32.toUInt16.toUInt32.toInt32 (4 : Int32) (105 : Int32)).toInt8.toInt32), (.int (sx ((p1 &&& (2147483647 : Int32)) % (16 : Int32)) (b0_39 p2 og).toUInt32.toUInt16.toUInt32.toInt32 (5 : Int32) (99 : Int32)).toInt8.toInt32), (.int (sx ((p1 &&& (2147483647 : Int32)) % (16 : Int32)) (b0_39 p2 og).toUInt32.toUInt16.toUInt32.toInt32 (6 : Int32) (97 : Int32)).toInt8.toInt32), (.int (sx ((p1 &&& (2147483647 : Int32)) % (16 : Int32)) (b0_39 p2 og).toUInt32.toUInt16.toUInt32.toInt32 (7 : Int32) (116 : Int32)).toInt8.toInt32), (.int (sx ((p1 &&& (2147483647 : Int32)) % (16 : Int32)) (b0_39 p2 og).toUInt32.toUInt16.toUInt32.toInt32 (8 : Int32) (105 : Int32)).toInt8.toInt32), (.int (sx ((p1 &&& (2147483647 : Int32)) % (16 : Int32)) (b0_39 p2 og).toUInt32.toUInt16.toUInt32.toInt32 (9 : Int32) (111 : Int32)).toInt8.toInt32), (.int (sx ((p1 &&& (2147483647 : Int32)) % (16 : Int32)) (b0_39 p2 og).toUInt32.toUInt16.toUInt32.toInt32 (10 : Int32) (110 : Int32)).toInt8.toInt32), (.int (sx ((p1 &&& (2147483647 : Int32)) % (16 : Int32)) (b0_39 p2 og).toUInt32.toUInt16.toUInt32.toInt32 (11 : Int32) (83 : Int32)).toInt8.toInt32), (.int (sx ((p1 &&& (2147483647 : Int32)) % (16 : Int32)) (b0_39 p2 og).toUInt32.toUInt16.toUInt32.toInt32 (12 : Int32) (99 : Int32)).toInt8.toInt32), (.int (sx ((p1 &&& (2147483647 : Int32)) % (16 : Int32)) (b0_39 p2 og).toUInt32.toUInt16.toUInt32.toInt32 (13 : Int32) (111 : Int32)).toInt8.toInt32), (.int (sx ((p1 &&& (2147483647 : Int32)) % (16 : Int32)) (b0_39 p2 og).toUInt32.toUInt16.toUInt32.toInt32 (14 : Int32) (112 : Int32)).toInt8.toInt32), (.int (sx ((p1 &&& (2147483647 : Int32)) % (16 : Int32)) (b0_39 p2 og).toUInt32.toUInt16.toUInt32.toInt32 (15 : Int32) (101 : Int32)).toInt8.toInt32)] (.int 0) := GW134
      obtain ⟨_, _, ⟨T137, L137, k137, n137⟩, -, X137q, hS137q, hg137, ⟨Lc137, hQ137, l137, y137, z137⟩, st137⟩ := callSS X134 hx (y := (⟨"com/example/calycule/calycule/config/ModuleContext", "isImplicit", "(Ljava/lang/String;)Z"⟩ : MethodName)) hown (mvT hZ (hw _ (mi 35 rfl))) (mvT hZ (hw _ (mi 36 rfl))) (mvT hZ (hw _ (mi 37 rfl))) (mvT hZ (hw _ (mi 38 rfl))) (by decide) (own_backOfSI (W := 0) (rmib16 l Z aZ hw [] _ _ _ _ _ _ _ _ _ _ _ _ _ _ _ _ _ _ _ _ T134.heap T134.heap.size (Nat.le_refl _) GE134 GC134 GX134 GV134 (own_sta_keep S_COMPACT_STRINGS K134 all0) hcs (fun b cl q => K134.2.1 b cl (hkp b cl q) nin0) hcn62 hcn68 hcn69 hcw rfl) hZ (hw _ (mi 38 rfl)) (hw _ (mi 37 rfl)) (by decide) (by decide) IB0) (g := (mkF m 184 (L0_26 p0 p1 p2 p3 b111 og) [(.ref b127)])) rfl (by rw [hml]; rfl) (argsL := [(.ref b127)]) (rest := []) (lenOf pd_641 rfl) rfl (by show 2 * 0 + _ ≤ _; exact Nat.le_of_eq rfl) (hb hby at_184) (fun _ _ => ⟨rfl, rfl, (by decide : 3 + 6 ≤ _), (by decide : 36 + 172 ≤ _)⟩)
      dsimp only [Pt.U, Pt.locs, Pt.cells, Pt.slots] at X137q hS137q hg137 l137 y137 z137 st137 hQ137
      subst l137 y137 z137
      have hk137q : s.heap.size ≤ T134.heap.size := hk134
      obtain ⟨X137, hS137, hZ137, hown137⟩ := rebS hS0 hk137q X137q hS137q hg137 hZ hown
      have hk137r : T137.heap.size ≤ T137.heap.size := Nat.le_refl _
      obtain ⟨rfl, N137q, K137q⟩ := hQ137
      have N137 := Fr.app N134 (own_frm Zs134 N137q)
      have K137 : Keep h0 T137.heap [] := K134.trans K137q all0
      have Zs137 : n0 ≤ T137.heap.size := Nat.le_trans Zs134 K137q.1
      have hk137 : s.heap.size ≤ T137.heap.size := Nat.le_trans hk134 K137q.1
      have F138 := F135.keep K137q nin0
      have F139 := GE134.keep K137q
      have F140 := GC134.keep K137q nin0
      have F141 := GX134.keep K137q nin0
      have F142 := GV134.keep K137q nin0
      have go143 := gapT st134 st137
      have hfin : (vib16_30 (sx ((p1 &&& (2147483647 : Int32)) % (16 : Int32)) (b0_39 p2 og).toUInt32.toUInt16.toUInt32.toInt32 (0 : Int32) (97 : Int32)).toInt8.toInt32 (sx ((p1 &&& (2147483647 : Int32)) % (16 : Int32)) (b0_39 p2 og).toUInt32.toUInt16.toUInt32.toInt32 (1 : Int32) (112 : Int32)).toInt8.toInt32 (sx ((p1 &&& (2147483647 : Int32)) % (16 : Int32)) (b0_39 p2 og).toUInt32.toUInt16.toUInt32.toInt32 (2 : Int32) (112 : Int32)).toInt8.toInt32 (sx ((p1 &&& (2147483647 : Int32)) % (16 : Int32)) (b0_39 p2 og).toUInt32.toUInt16.toUInt32.toInt32 (3 : Int32) (108 : Int32)).toInt8.toInt32 (sx ((p1 &&& (2147483647 : Int32)) % (16 : Int32)) (b0_39 p2 og).toUInt32.toUInt16.toUInt32.toInt32 (4 : Int32) (105 : Int32)).toInt8.toInt32 (sx ((p1 &&& (2147483647 : Int32)) % (16 : Int32)) (b0_39 p2 og).toUInt32.toUInt16.toUInt32.toInt32 (5 : Int32) (99 : Int32)).toInt8.toInt32 (sx ((p1 &&& (2147483647 : Int32)) % (16 : Int32)) (b0_39 p2 og).toUInt32.toUInt16.toUInt32.toInt32 (6 : Int32) (97 : Int32)).toInt8.toInt32 (sx ((p1 &&& (2147483647 : Int32)) % (16 : Int32)) (b0_39 p2 og).toUInt32.toUInt16.toUInt32.toInt32 (7 : Int32) (116 : Int32)).toInt8.toInt32 (sx ((p1 &&& (2147483647 : Int32)) % (16 : Int32)) (b0_39 p2 og).toUInt32.toUInt16.toUInt32.toInt32 (8 : Int32) (105 : Int32)).toInt8.toInt32 (sx ((p1 &&& (2147483647 : Int32)) % (16 : Int32)) (b0_39 p2 og).toUInt32.toUInt16.toUInt32.toInt32 (9 : Int32) (111 : Int32)).toInt8.toInt32 (sx ((p1 &&& (2147483647 : Int32)) % (16 : Int32)) (b0_39 p2 og).toUInt32.toUInt16.toUInt32.toInt32 (10 : Int32) (110 : Int32)).toInt8.toInt32 (sx ((p1 &&& (2147483647 : Int32)) % (16 : Int32)) (b0_39 p2 og).toUInt32.toUInt16.toUInt32.toInt32 (11 : Int32) (83 : Int32)).toInt8.toInt32 (sx ((p1 &&& (2147483647 : Int32)) % (16 : Int32)) (b0_39 p2 og).toUInt32.toUInt16.toUInt32.toInt32 (12 : Int32) (99 : Int32)).toInt8.toInt32 (sx ((p1 &&& (2147483647 : Int32)) % (16 : Int32)) (b0_39 p2 og).toUInt32.toUInt16.toUInt32.toInt32 (13 : Int32) (111 : Int32)).toInt8.toInt32 (sx ((p1 &&& (2147483647 : Int32)) % (16 : Int32)) (b0_39 p2 og).toUInt32.toUInt16.toUInt32.toInt32 (14 : Int32) (112 : Int32)).toInt8.toInt32 (sx ((p1 &&& (2147483647 : Int32)) % (16 : Int32)) (b0_39 p2 og).toUInt32.toUInt16.toUInt32.toInt32 (15 : Int32) (101 : Int32)).toInt8.toInt32) = (b0_49 p2 og) := own_fin16 _ _ og ho hcr.1 hcr.2
      have go144 : Go p.tables e below T137 (mkF m 197 (L0_26 p0 p1 p2 p3 b111 og) [(.int 1)]) En := by
        intro t k
        refine go143 _ ?_
        refine XS.iload X137.here hx rfl (hb hby at_187) rfl ?_
        refine XS.icmpNo X137.here hx rfl (hb hby at_189) rfl (XT.ii_ne_f hfin) ?_
        refine XS.iconst X137.here hx rfl (hb hby at_192) ?_
        show Steps _ _ _ (T137.setTop (mkF m 193 (L0_26 p0 p1 p2 p3 b111 og) [(.int 1)])) _
        refine XS.goto X137.here hx rfl (pc0 := 193) (pc' := 197) rfl (hb hby at_193) (by decide) (by decide) ?_
        exact k
      obtain ⟨fs, hr, hrun, hended, hRW⟩ := X137.leaveW hS137 (hk137r) (v := some (.int 1)) (fun h => by rw [Bd.returns] at h; cases h) Bd.notSynchronized
      subst hEn
      refine ⟨_, _, go144 _ (Jvm.RoadKit.retOut X137 hx Bd.returns rfl (Or.inl ⟨rfl, Or.inr (Or.inl rfl), _, rfl⟩) (hb hby at_197) hr), hrun, hended, _, _, rfl, ?_, hRW.1, hRW.2.1, hRW.2.2.1, hRW.2.2.2.mono (by decide) (by decide)⟩
      show Q0 _ _ p0 p1 p2 p3 s_COMPACT_STRINGS h0 _ (T137.setFrames fs).heap _
      have hE : (T137.setFrames fs).heap = T137.heap := rfl
      rw [hE]
      exact ⟨congrArg (fun z => some (Value.int z)) ((by rw [f0, if_neg hs2, if_pos hs29, if_neg hs32, if_neg hs71, if_pos hs108] : (1 : Int32) = (f0 p0 p3)).trans (f0_one p0 p3)), N137⟩
    exact (own_dead3m p0 hs32 hs71 hs108).elim
  by_cases hs145 : (p3 &&& (3 : Int32)) = (1 : Int32)
  · have go146 : Go p.tables e below s₁ (mkF m 21 (L0_27 p0 p1 p2 p3) []) En := by
      have q : Go p.tables e below s₁ (mkF m  21 #[iv p0, iv p1, iv p2, iv p3, iv ((p0 &&& (2147483647 : Int32)) % (3 : Int32)), iv (p3 &&& (3 : Int32)), iv (p2 &&& (255 : Int32)).toUInt32.toUInt16.toUInt32.toInt32, .unset, .unset, .unset, .unset, .unset] []) En := go1
      rw [hs145] at q
      exact q
    have go147 : Go p.tables e below s₁ (mkF m 49 (L0_27 p0 p1 p2 p3) []) En := by
      intro t k
      refine go146 _ ?_
      refine XS.iload X0.here hx rfl (hb hby at_21) rfl ?_
      refine XS.iconst X0.here hx rfl (hb hby at_23) ?_
      refine XS.icmpYes X0.here hx rfl (pc0 := 24) (pc' := 49) rfl (hb hby at_24) rfl (XT.ii_ne_t (by decide : ¬ ((1 : Int32) = (3 : Int32)))) (by decide) (by decide) ?_
      show Steps _ _ _ (s₁.setTop (mkF m 49 (L0_27 p0 p1 p2 p3) [])) _
      exact k
    by_cases hs148 : ((p0 &&& (2147483647 : Int32)) % (3 : Int32)) = (0 : Int32)
    · have go149 : Go p.tables e below s₁ (mkF m 49 (L0_28 p0 p1 p2 p3) []) En := by
        have q : Go p.tables e below s₁ (mkF m  49 #[iv p0, iv p1, iv p2, iv p3, iv ((p0 &&& (2147483647 : Int32)) % (3 : Int32)), iv 1, iv (p2 &&& (255 : Int32)).toUInt32.toUInt16.toUInt32.toInt32, .unset, .unset, .unset, .unset, .unset] []) En := go147
        rw [hs148] at q
        exact q
      have go150 : Go p.tables e below s₁ (mkF m 53 (L0_28 p0 p1 p2 p3) [(.int 1), (.int 0)]) En := by
        intro t k
        refine go149 _ ?_
        refine XS.iload X0.here hx rfl (hb hby at_49) rfl ?_
        refine XS.iload X0.here hx rfl (hb hby at_51) rfl ?_
        exact k
      obtain ⟨_, T151, Lc151, X151, hQ151, st151⟩ := own_cs X0 hx hZ hown hml go150 (hb hby at_53) e0 (hw _ (mi 1 rfl)) (own_site642 hw) (rmnm01 l Z aZ hw []  h0 n0 Z0 ) (by decide) (argsL := [(.int 0), (.int 1)]) (rest := []) rfl rfl rfl (lenOf pd_643 rfl) (W := 0) rfl (by decide) (by decide) (by decide : 0 + 1 ≤ _) (by decide : 0 + 14 ≤ _)
      obtain ⟨b151, kb151, rfl, N151q, K151q, fr151, G151_0⟩ := hQ151
      have N151 := Fr.app N0 N151q
      have K151 : Keep h0 T151.heap [] := K0.trans K151q all0
      have low151 : n0 ≤ b151 := Nat.le_trans Z0 fr151
      have fsh151 : h0.size ≤ b151 := Nat.le_trans K0.1 fr151
      have Zs151 : n0 ≤ T151.heap.size := Nat.le_trans Z0 K151q.1
      have hk151 : s.heap.size ≤ T151.heap.size := Nat.le_trans hk0 K151q.1
      obtain ⟨cl152, Ar152, q152, S152, N152, H152, G152⟩ := id G151_0
      have go153 : Go p.tables e below T151 (mkF m 77 (L0_29 p0 p1 p2 p3 b151) [(.int (p2 &&& (255 : Int32)).toUInt32.toUInt16.toUInt32.toInt32), (.int 13), (.ref b151)]) En := by
        intro t k
        refine st151 _ ?_
        refine XS.astore X151.here hx rfl (hb hby at_56) rfl rfl (l' := (L0_30 p0 p1 p2 p3 b151)) rfl ?_
        refine XS.aload X151.here hx rfl (hb hby at_58) rfl rfl ?_
        refine X151.arraylength hx Ar152.1 (State.isArrayOf_alike hZ.alike Ar152.2.1) (g := (mkF m 60 (L0_30 p0 p1 p2 p3 b151) [(.ref b151)])) rfl rfl (hb hby at_60) _ ?_
        rw [len_of S152 N152]
        show Steps _ _ _ (T151.setTop (mkF m 61 (L0_30 p0 p1 p2 p3 b151) [(.int 14)])) _
        refine XS.istore X151.here hx rfl (hb hby at_61) rfl (l' := (L0_29 p0 p1 p2 p3 b151)) rfl ?_
        refine XS.iload X151.here hx rfl (hb hby at_63) rfl ?_
        refine XS.iconst X151.here hx rfl (hb hby at_65) ?_
        show Steps _ _ _ (T151.setTop (mkF m 66 (L0_29 p0 p1 p2 p3 b151) [(.int 1), (.int 1)])) _
        refine XS.icmpNo X151.here hx rfl (hb hby at_66) rfl (XT.ii_ne_f (by decide : ((1 : Int32) = (1 : Int32)))) ?_
        refine XS.aload X151.here hx rfl (hb hby at_69) rfl rfl ?_
        refine XS.iload X151.here hx rfl (hb hby at_71) rfl ?_
        show Steps _ _ _ (T151.setTop (mkF m 73 (L0_29 p0 p1 p2 p3 b151) [(.int 14), (.ref b151)])) _
        refine XS.iconst X151.here hx rfl (hb hby at_73) ?_
        refine XS.isub X151.here hx rfl (hb hby at_74) rfl ?_
        refine XS.iload X151.here hx rfl (hb hby at_75) rfl ?_
        show Steps _ _ _ (T151.setTop (mkF m 77 (L0_29 p0 p1 p2 p3 b151) [(.int (p2 &&& (255 : Int32)).toUInt32.toUInt16.toUInt32.toInt32), (.int 13), (.ref b151)])) _
        exact k
      obtain ⟨T154, h154, X154, e154, W154, st154⟩ := stC X151 hx hZ rfl Ar152 (j := (13 : Int32)) (inb_of S152 ⟨by decide, by decide⟩) (g := (mkF m 77 (L0_29 p0 p1 p2 p3 b151) [(.int (p2 &&& (255 : Int32)).toUInt32.toUInt16.toUInt32.toInt32), (.int 13), (.ref b151)])) rfl rfl (hb hby at_77)
      have go155 := gap go153 st154
      have N154 := Fr.snoc X154 N151 low151
      have K154 : Keep h0 h154 [] := K151.wr W154 (Or.inr fsh151)
      have Zs154 : n0 ≤ h154.size := Nat.le_trans Zs151 (Keep.of_wr W154).1
      have hk154 : s.heap.size ≤ h154.size := Nat.le_trans hk151 (Keep.of_wr W154).1
      have F156 : Arv Z h154 b151 kb151 .char (14 : Int32) [(.int 109), (.int 111), (.int 100), (.int 117), (.int 108), (.int 101), (.int 67), (.int 111), (.int 110), (.int 116), (.int 101), (.int 120), (.int 116), (.int (p2 &&& (255 : Int32)).toUInt32.toUInt16.toUInt32.toInt32.toUInt32.toUInt16.toUInt32.toInt32)] (.int 0) := Arv.set Ar152 q152 S152 N152 H152 G152 (fits_nar_char _) W154 13 rfl (Nat.le_of_ble_eq_true rfl)
      obtain ⟨T157, h157, X157, e157, E157, A157, D157, -, st157⟩ := newO X154 hx hZ hown (hw _ (mi 6 rfl)) (hw _ (mi 7 rfl)) (hw _ (mi 8 rfl)) e154 (g := (mkF m 78 (L0_29 p0 p1 p2 p3 b151) [])) rfl (hb hby at_78) (by decide) (by decide)
      obtain ⟨b157, g157⟩ : ∃ z, z = h154.size := ⟨_, rfl⟩
      rw [← g157] at A157 D157 st157
      have ne158 : b151 ≠ b157 := Nat.ne_of_lt (Nat.lt_of_lt_of_le F156.lt (Nat.le_of_eq g157.symm))
      have low157 : n0 ≤ b157 := Nat.le_trans Zs154 (Nat.le_of_eq g157.symm)
      have fsh157 : h0.size ≤ b157 := Nat.le_trans K154.1 (Nat.le_of_eq g157.symm)
      have K157 : Keep h0 h157 [] := K154.ext E157
      have Zs157 : n0 ≤ h157.size := Nat.le_trans Zs154 E157.1
      have hk157 : s.heap.size ≤ h157.size := Nat.le_trans hk154 E157.1
      have go159 := gap go155 st157
      have F160 := F156.ext E157
      have F161 : Fld Z h157 b157 "java/lang/String" "coder" "B" (.int 0) := D157 (Or.inr (hw _ (mi 32 rfl))) (ty := .byte) (by decide)
      have F162 : Fld Z h157 b157 "java/lang/String" "value" "[B" .null := D157 (Or.inr (hw _ (mi 34 rfl))) (ty := (.array .byte)) (by decide)
      have go163 : Go p.tables e below T157 (mkF m 84 (L0_29 p0 p1 p2 p3 b151) [(.ref b151), (.ref b157), (.ref b157)]) En := by
        intro t k
        refine go159 _ ?_
        refine XS.dup X157.here hx rfl (hb hby at_81) rfl rfl ?_
        refine XS.aload X157.here hx rfl (hb hby at_82) rfl rfl ?_
        exact k
      obtain ⟨_, T164, Lc164, X164, hQ164, st164⟩ := own_cb X157 hx hZ hown hml go163 (hb hby at_84) e157 (hw _ (mi 9 rfl)) (own_site647 hw) rfl (StrChars.Road.backV (W := 1) hZ (fun d hd => hw d (own_wds d hd)) (hw _ (mi 7 rfl)) (cs := [(109 : Int32), (111 : Int32), (100 : Int32), (117 : Int32), (108 : Int32), (101 : Int32), (67 : Int32), (111 : Int32), (110 : Int32), (116 : Int32), (101 : Int32), (120 : Int32), (116 : Int32), (p2 &&& (255 : Int32)).toUInt32.toUInt16.toUInt32.toInt32.toUInt32.toUInt16.toUInt32.toInt32]) (bs := [(109 : Int32).toInt8.toInt32, (111 : Int32).toInt8.toInt32, (100 : Int32).toInt8.toInt32, (117 : Int32).toInt8.toInt32, (108 : Int32).toInt8.toInt32, (101 : Int32).toInt8.toInt32, (67 : Int32).toInt8.toInt32, (111 : Int32).toInt8.toInt32, (110 : Int32).toInt8.toInt32, (116 : Int32).toInt8.toInt32, (101 : Int32).toInt8.toInt32, (120 : Int32).toInt8.toInt32, (116 : Int32).toInt8.toInt32, (p2 &&& (255 : Int32)).toUInt32.toUInt16.toUInt32.toInt32.toUInt32.toUInt16.toUInt32.toInt32.toInt8.toInt32]) (n := 14) low157 Zs157 A157 F162 F161 F160 (own_sta_keep S_COMPACT_STRINGS K157 all0) hcs rfl rfl (by decide) (by decide) (List.forall_mem_cons.mpr ⟨by decide, (List.forall_mem_cons.mpr ⟨by decide, (List.forall_mem_cons.mpr ⟨by decide, (List.forall_mem_cons.mpr ⟨by decide, (List.forall_mem_cons.mpr ⟨by decide, (List.forall_mem_cons.mpr ⟨by decide, (List.forall_mem_cons.mpr ⟨by decide, (List.forall_mem_cons.mpr ⟨by decide, (List.forall_mem_cons.mpr ⟨by decide, (List.forall_mem_cons.mpr ⟨by decide, (List.forall_mem_cons.mpr ⟨by decide, (List.forall_mem_cons.mpr ⟨by decide, (List.forall_mem_cons.mpr ⟨by decide, (List.forall_mem_cons.mpr ⟨own_cr _ (own_p255 p2).1 (own_p255 p2).2, (fun _ q => nomatch q)⟩)⟩)⟩)⟩)⟩)⟩)⟩)⟩)⟩)⟩)⟩)⟩)⟩)⟩) rfl (by decide) (by decide)) (by decide) (argsL := [(.ref b151)]) (rest := [(.ref b157)]) rfl rfl rfl (lenOf pd_640 rfl) rfl (by decide : 2 + 1 ≤ _) (by decide : 18 + 14 ≤ _)
      obtain ⟨rfl, N164q, K164q, GE164, GC164, bx164, kx164, lo164, fr164, nx164, GX164, GW164⟩ := hQ164
      have N164 := Fr.app N154 N164q
      have K164 : Keep h0 T164.heap [] := K157.trans K164q (allS (Or.inr fsh157) all0)
      have Zs164 : n0 ≤ T164.heap.size := Nat.le_trans Zs157 K164q.1
      have hk164 : s.heap.size ≤ T164.heap.size := Nat.le_trans hk157 K164q.1
      have F165 := F160.keep K164q (ninS ne158 nin0)
      have F166 := A157.keep K164q
      have GV164 : Arv Z T164.heap bx164 kx164 .byte (14 : Int32) [(.int (109 : Int32).toInt8.toInt32), (.int (111 : Int32).toInt8.toInt32), (.int (100 : Int32).toInt8.toInt32), (.int (117 : Int32).toInt8.toInt32), (.int (108 : Int32).toInt8.toInt32), (.int (101 : Int32).toInt8.toInt32), (.int (67 : Int32).toInt8.toInt32), (.int (111 : Int32).toInt8.toInt32), (.int (110 : Int32).toInt8.toInt32), (.int (116 : Int32).toInt8.toInt32), (.int (101 : Int32).toInt8.toInt32), (.int (120 : Int32).toInt8.toInt32), (.int (116 : Int32).toInt8.toInt32), (.int (p2 &&& (255 : Int32)).toUInt32.toUInt16.toUInt32.toInt32.toUInt32.toUInt16.toUInt32.toInt32.toInt8.toInt32)] (.int 0) := GW164
      obtain ⟨_, _, ⟨T167, L167, k167, n167⟩, -, X167q, hS167q, hg167, ⟨Lc167, hQ167, l167, y167, z167⟩, st167⟩ := callSS X164 hx (y := (⟨"com/example/calycule/calycule/config/ModuleContext", "isImplicit", "(Ljava/lang/String;)Z"⟩ : MethodName)) hown (mvT hZ (hw _ (mi 35 rfl))) (mvT hZ (hw _ (mi 36 rfl))) (mvT hZ (hw _ (mi 37 rfl))) (mvT hZ (hw _ (mi 38 rfl))) (by decide) (own_backOfSI (W := 0) (rmia l Z aZ hw [] _ _ _ _ _ _ T164.heap T164.heap.size (Nat.le_refl _) GE164 GC164 GX164 GV164 (own_sta_keep S_COMPACT_STRINGS K164 all0) hcs (fun b cl q => K164.2.1 b cl (hkp b cl q) nin0) hcn62 hcn68 hcn69 hcw rfl (by decide) (by decide) (by decide)) hZ (hw _ (mi 38 rfl)) (hw _ (mi 37 rfl)) (by decide) (by decide) IB0) (g := (mkF m 87 (L0_29 p0 p1 p2 p3 b151) [(.ref b157)])) rfl (by rw [hml]; rfl) (argsL := [(.ref b157)]) (rest := []) (lenOf pd_641 rfl) rfl (by show 2 * 0 + _ ≤ _; exact Nat.le_of_eq rfl) (hb hby at_87) (fun _ _ => ⟨rfl, rfl, (by decide : 3 + 6 ≤ _), (by decide : 32 + 172 ≤ _)⟩)
      dsimp only [Pt.U, Pt.locs, Pt.cells, Pt.slots] at X167q hS167q hg167 l167 y167 z167 st167 hQ167
      subst l167 y167 z167
      have hk167q : s.heap.size ≤ T164.heap.size := hk164
      obtain ⟨X167, hS167, hZ167, hown167⟩ := rebS hS0 hk167q X167q hS167q hg167 hZ hown
      have hk167r : T167.heap.size ≤ T167.heap.size := Nat.le_refl _
      obtain ⟨rfl, N167q, K167q⟩ := hQ167
      have N167 := Fr.app N164 (own_frm Zs164 N167q)
      have K167 : Keep h0 T167.heap [] := K164.trans K167q all0
      have Zs167 : n0 ≤ T167.heap.size := Nat.le_trans Zs164 K167q.1
      have hk167 : s.heap.size ≤ T167.heap.size := Nat.le_trans hk164 K167q.1
      have F168 := F165.keep K167q nin0
      have F169 := GE164.keep K167q
      have F170 := GC164.keep K167q nin0
      have F171 := GX164.keep K167q nin0
      have F172 := GV164.keep K167q nin0
      have go173 := gapT st164 st167
      have go174 : Go p.tables e below T167 (mkF m 98 (L0_29 p0 p1 p2 p3 b151) [(.int 1)]) En := by
        intro t k
        refine go173 _ ?_
        refine XS.ifNo X167.here hx rfl (hb hby at_90) rfl (XT.i0_ne_f (by decide : ((0 : Int32) = (0 : Int32)))) ?_
        refine XS.iconst X167.here hx rfl (hb hby at_93) ?_
        refine XS.goto X167.here hx rfl (pc0 := 94) (pc' := 98) rfl (hb hby at_94) (by decide) (by decide) ?_
        show Steps _ _ _ (T167.setTop (mkF m 98 (L0_29 p0 p1 p2 p3 b151) [(.int 1)])) _
        exact k
      obtain ⟨fs, hr, hrun, hended, hRW⟩ := X167.leaveW hS167 (hk167r) (v := some (.int 1)) (fun h => by rw [Bd.returns] at h; cases h) Bd.notSynchronized
      subst hEn
      refine ⟨_, _, go174 _ (Jvm.RoadKit.retOut X167 hx Bd.returns rfl (Or.inl ⟨rfl, Or.inr (Or.inl rfl), _, rfl⟩) (hb hby at_98) hr), hrun, hended, _, _, rfl, ?_, hRW.1, hRW.2.1, hRW.2.2.1, hRW.2.2.2.mono (by decide) (by decide)⟩
      show Q0 _ _ p0 p1 p2 p3 s_COMPACT_STRINGS h0 _ (T167.setFrames fs).heap _
      have hE : (T167.setFrames fs).heap = T167.heap := rfl
      rw [hE]
      exact ⟨congrArg (fun z => some (Value.int z)) ((by rw [f0, if_neg hs2, if_neg hs29, if_pos hs145, if_pos hs148] : (1 : Int32) = (f0 p0 p3)).trans (f0_one p0 p3)), N167⟩
    by_cases hs175 : ((p0 &&& (2147483647 : Int32)) % (3 : Int32)) = (1 : Int32)
    · have go176 : Go p.tables e below s₁ (mkF m 49 (L0_31 p0 p1 p2 p3) []) En := by
        have q : Go p.tables e below s₁ (mkF m  49 #[iv p0, iv p1, iv p2, iv p3, iv ((p0 &&& (2147483647 : Int32)) % (3 : Int32)), iv 1, iv (p2 &&& (255 : Int32)).toUInt32.toUInt16.toUInt32.toInt32, .unset, .unset, .unset, .unset, .unset] []) En := go147
        rw [hs175] at q
        exact q
      have go177 : Go p.tables e below s₁ (mkF m 53 (L0_31 p0 p1 p2 p3) [(.int 1), (.int 1)]) En := by
        intro t k
        refine go176 _ ?_
        refine XS.iload X0.here hx rfl (hb hby at_49) rfl ?_
        refine XS.iload X0.here hx rfl (hb hby at_51) rfl ?_
        exact k
      obtain ⟨_, T178, Lc178, X178, hQ178, st178⟩ := own_cs X0 hx hZ hown hml go177 (hb hby at_53) e0 (hw _ (mi 1 rfl)) (own_site642 hw) (rmnm11 l Z aZ hw []  h0 n0 Z0 ) (by decide) (argsL := [(.int 1), (.int 1)]) (rest := []) rfl rfl rfl (lenOf pd_643 rfl) (W := 0) rfl (by decide) (by decide) (by decide : 0 + 1 ≤ _) (by decide : 0 + 12 ≤ _)
      obtain ⟨b178, kb178, rfl, N178q, K178q, fr178, G178_0⟩ := hQ178
      have N178 := Fr.app N0 N178q
      have K178 : Keep h0 T178.heap [] := K0.trans K178q all0
      have low178 : n0 ≤ b178 := Nat.le_trans Z0 fr178
      have fsh178 : h0.size ≤ b178 := Nat.le_trans K0.1 fr178
      have Zs178 : n0 ≤ T178.heap.size := Nat.le_trans Z0 K178q.1
      have hk178 : s.heap.size ≤ T178.heap.size := Nat.le_trans hk0 K178q.1
      obtain ⟨cl179, Ar179, q179, S179, N179, H179, G179⟩ := id G178_0
      have go180 : Go p.tables e below T178 (mkF m 77 (L0_32 p0 p1 p2 p3 b178) [(.int (p2 &&& (255 : Int32)).toUInt32.toUInt16.toUInt32.toInt32), (.int 11), (.ref b178)]) En := by
        intro t k
        refine st178 _ ?_
        refine XS.astore X178.here hx rfl (hb hby at_56) rfl rfl (l' := (L0_33 p0 p1 p2 p3 b178)) rfl ?_
        refine XS.aload X178.here hx rfl (hb hby at_58) rfl rfl ?_
        refine X178.arraylength hx Ar179.1 (State.isArrayOf_alike hZ.alike Ar179.2.1) (g := (mkF m 60 (L0_33 p0 p1 p2 p3 b178) [(.ref b178)])) rfl rfl (hb hby at_60) _ ?_
        rw [len_of S179 N179]
        show Steps _ _ _ (T178.setTop (mkF m 61 (L0_33 p0 p1 p2 p3 b178) [(.int 12)])) _
        refine XS.istore X178.here hx rfl (hb hby at_61) rfl (l' := (L0_32 p0 p1 p2 p3 b178)) rfl ?_
        refine XS.iload X178.here hx rfl (hb hby at_63) rfl ?_
        refine XS.iconst X178.here hx rfl (hb hby at_65) ?_
        show Steps _ _ _ (T178.setTop (mkF m 66 (L0_32 p0 p1 p2 p3 b178) [(.int 1), (.int 1)])) _
        refine XS.icmpNo X178.here hx rfl (hb hby at_66) rfl (XT.ii_ne_f (by decide : ((1 : Int32) = (1 : Int32)))) ?_
        refine XS.aload X178.here hx rfl (hb hby at_69) rfl rfl ?_
        refine XS.iload X178.here hx rfl (hb hby at_71) rfl ?_
        show Steps _ _ _ (T178.setTop (mkF m 73 (L0_32 p0 p1 p2 p3 b178) [(.int 12), (.ref b178)])) _
        refine XS.iconst X178.here hx rfl (hb hby at_73) ?_
        refine XS.isub X178.here hx rfl (hb hby at_74) rfl ?_
        refine XS.iload X178.here hx rfl (hb hby at_75) rfl ?_
        show Steps _ _ _ (T178.setTop (mkF m 77 (L0_32 p0 p1 p2 p3 b178) [(.int (p2 &&& (255 : Int32)).toUInt32.toUInt16.toUInt32.toInt32), (.int 11), (.ref b178)])) _
        exact k
      obtain ⟨T181, h181, X181, e181, W181, st181⟩ := stC X178 hx hZ rfl Ar179 (j := (11 : Int32)) (inb_of S179 ⟨by decide, by decide⟩) (g := (mkF m 77 (L0_32 p0 p1 p2 p3 b178) [(.int (p2 &&& (255 : Int32)).toUInt32.toUInt16.toUInt32.toInt32), (.int 11), (.ref b178)])) rfl rfl (hb hby at_77)
      have go182 := gap go180 st181
      have N181 := Fr.snoc X181 N178 low178
      have K181 : Keep h0 h181 [] := K178.wr W181 (Or.inr fsh178)
      have Zs181 : n0 ≤ h181.size := Nat.le_trans Zs178 (Keep.of_wr W181).1
      have hk181 : s.heap.size ≤ h181.size := Nat.le_trans hk178 (Keep.of_wr W181).1
      have F183 : Arv Z h181 b178 kb178 .char (12 : Int32) [(.int 109), (.int 111), (.int 100), (.int 117), (.int 108), (.int 101), (.int 83), (.int 99), (.int 111), (.int 112), (.int 101), (.int (p2 &&& (255 : Int32)).toUInt32.toUInt16.toUInt32.toInt32.toUInt32.toUInt16.toUInt32.toInt32)] (.int 0) := Arv.set Ar179 q179 S179 N179 H179 G179 (fits_nar_char _) W181 11 rfl (Nat.le_of_ble_eq_true rfl)
      obtain ⟨T184, h184, X184, e184, E184, A184, D184, -, st184⟩ := newO X181 hx hZ hown (hw _ (mi 6 rfl)) (hw _ (mi 7 rfl)) (hw _ (mi 8 rfl)) e181 (g := (mkF m 78 (L0_32 p0 p1 p2 p3 b178) [])) rfl (hb hby at_78) (by decide) (by decide)
      obtain ⟨b184, g184⟩ : ∃ z, z = h181.size := ⟨_, rfl⟩
      rw [← g184] at A184 D184 st184
      have ne185 : b178 ≠ b184 := Nat.ne_of_lt (Nat.lt_of_lt_of_le F183.lt (Nat.le_of_eq g184.symm))
      have low184 : n0 ≤ b184 := Nat.le_trans Zs181 (Nat.le_of_eq g184.symm)
      have fsh184 : h0.size ≤ b184 := Nat.le_trans K181.1 (Nat.le_of_eq g184.symm)
      have K184 : Keep h0 h184 [] := K181.ext E184
      have Zs184 : n0 ≤ h184.size := Nat.le_trans Zs181 E184.1
      have hk184 : s.heap.size ≤ h184.size := Nat.le_trans hk181 E184.1
      have go186 := gap go182 st184
      have F187 := F183.ext E184
      have F188 : Fld Z h184 b184 "java/lang/String" "coder" "B" (.int 0) := D184 (Or.inr (hw _ (mi 32 rfl))) (ty := .byte) (by decide)
      have F189 : Fld Z h184 b184 "java/lang/String" "value" "[B" .null := D184 (Or.inr (hw _ (mi 34 rfl))) (ty := (.array .byte)) (by decide)
      have go190 : Go p.tables e below T184 (mkF m 84 (L0_32 p0 p1 p2 p3 b178) [(.ref b178), (.ref b184), (.ref b184)]) En := by
        intro t k
        refine go186 _ ?_
        refine XS.dup X184.here hx rfl (hb hby at_81) rfl rfl ?_
        refine XS.aload X184.here hx rfl (hb hby at_82) rfl rfl ?_
        exact k
      obtain ⟨_, T191, Lc191, X191, hQ191, st191⟩ := own_cb X184 hx hZ hown hml go190 (hb hby at_84) e184 (hw _ (mi 9 rfl)) (own_site647 hw) rfl (StrChars.Road.backV (W := 1) hZ (fun d hd => hw d (own_wds d hd)) (hw _ (mi 7 rfl)) (cs := [(109 : Int32), (111 : Int32), (100 : Int32), (117 : Int32), (108 : Int32), (101 : Int32), (83 : Int32), (99 : Int32), (111 : Int32), (112 : Int32), (101 : Int32), (p2 &&& (255 : Int32)).toUInt32.toUInt16.toUInt32.toInt32.toUInt32.toUInt16.toUInt32.toInt32]) (bs := [(109 : Int32).toInt8.toInt32, (111 : Int32).toInt8.toInt32, (100 : Int32).toInt8.toInt32, (117 : Int32).toInt8.toInt32, (108 : Int32).toInt8.toInt32, (101 : Int32).toInt8.toInt32, (83 : Int32).toInt8.toInt32, (99 : Int32).toInt8.toInt32, (111 : Int32).toInt8.toInt32, (112 : Int32).toInt8.toInt32, (101 : Int32).toInt8.toInt32, (p2 &&& (255 : Int32)).toUInt32.toUInt16.toUInt32.toInt32.toUInt32.toUInt16.toUInt32.toInt32.toInt8.toInt32]) (n := 12) low184 Zs184 A184 F189 F188 F187 (own_sta_keep S_COMPACT_STRINGS K184 all0) hcs rfl rfl (by decide) (by decide) (List.forall_mem_cons.mpr ⟨by decide, (List.forall_mem_cons.mpr ⟨by decide, (List.forall_mem_cons.mpr ⟨by decide, (List.forall_mem_cons.mpr ⟨by decide, (List.forall_mem_cons.mpr ⟨by decide, (List.forall_mem_cons.mpr ⟨by decide, (List.forall_mem_cons.mpr ⟨by decide, (List.forall_mem_cons.mpr ⟨by decide, (List.forall_mem_cons.mpr ⟨by decide, (List.forall_mem_cons.mpr ⟨by decide, (List.forall_mem_cons.mpr ⟨by decide, (List.forall_mem_cons.mpr ⟨own_cr _ (own_p255 p2).1 (own_p255 p2).2, (fun _ q => nomatch q)⟩)⟩)⟩)⟩)⟩)⟩)⟩)⟩)⟩)⟩)⟩)⟩) rfl (by decide) (by decide)) (by decide) (argsL := [(.ref b178)]) (rest := [(.ref b184)]) rfl rfl rfl (lenOf pd_640 rfl) rfl (by decide : 2 + 1 ≤ _) (by decide : 16 + 12 ≤ _)
      obtain ⟨rfl, N191q, K191q, GE191, GC191, bx191, kx191, lo191, fr191, nx191, GX191, GW191⟩ := hQ191
      have N191 := Fr.app N181 N191q
      have K191 : Keep h0 T191.heap [] := K184.trans K191q (allS (Or.inr fsh184) all0)
      have Zs191 : n0 ≤ T191.heap.size := Nat.le_trans Zs184 K191q.1
      have hk191 : s.heap.size ≤ T191.heap.size := Nat.le_trans hk184 K191q.1
      have F192 := F187.keep K191q (ninS ne185 nin0)
      have F193 := A184.keep K191q
      have GV191 : Arv Z T191.heap bx191 kx191 .byte (12 : Int32) [(.int (109 : Int32).toInt8.toInt32), (.int (111 : Int32).toInt8.toInt32), (.int (100 : Int32).toInt8.toInt32), (.int (117 : Int32).toInt8.toInt32), (.int (108 : Int32).toInt8.toInt32), (.int (101 : Int32).toInt8.toInt32), (.int (83 : Int32).toInt8.toInt32), (.int (99 : Int32).toInt8.toInt32), (.int (111 : Int32).toInt8.toInt32), (.int (112 : Int32).toInt8.toInt32), (.int (101 : Int32).toInt8.toInt32), (.int (p2 &&& (255 : Int32)).toUInt32.toUInt16.toUInt32.toInt32.toUInt32.toUInt16.toUInt32.toInt32.toInt8.toInt32)] (.int 0) := GW191
      obtain ⟨_, _, ⟨T194, L194, k194, n194⟩, -, X194q, hS194q, hg194, ⟨Lc194, hQ194, l194, y194, z194⟩, st194⟩ := callSS X191 hx (y := (⟨"com/example/calycule/calycule/config/ModuleContext", "isImplicit", "(Ljava/lang/String;)Z"⟩ : MethodName)) hown (mvT hZ (hw _ (mi 35 rfl))) (mvT hZ (hw _ (mi 36 rfl))) (mvT hZ (hw _ (mi 37 rfl))) (mvT hZ (hw _ (mi 38 rfl))) (by decide) (own_backOfSI (W := 0) (rmia l Z aZ hw [] _ _ _ _ _ _ T191.heap T191.heap.size (Nat.le_refl _) GE191 GC191 GX191 GV191 (own_sta_keep S_COMPACT_STRINGS K191 all0) hcs (fun b cl q => K191.2.1 b cl (hkp b cl q) nin0) hcn62 hcn68 hcn69 hcw rfl (by decide) (by decide) (by decide)) hZ (hw _ (mi 38 rfl)) (hw _ (mi 37 rfl)) (by decide) (by decide) IB0) (g := (mkF m 87 (L0_32 p0 p1 p2 p3 b178) [(.ref b184)])) rfl (by rw [hml]; rfl) (argsL := [(.ref b184)]) (rest := []) (lenOf pd_641 rfl) rfl (by show 2 * 0 + _ ≤ _; exact Nat.le_of_eq rfl) (hb hby at_87) (fun _ _ => ⟨rfl, rfl, (by decide : 3 + 6 ≤ _), (by decide : 28 + 172 ≤ _)⟩)
      dsimp only [Pt.U, Pt.locs, Pt.cells, Pt.slots] at X194q hS194q hg194 l194 y194 z194 st194 hQ194
      subst l194 y194 z194
      have hk194q : s.heap.size ≤ T191.heap.size := hk191
      obtain ⟨X194, hS194, hZ194, hown194⟩ := rebS hS0 hk194q X194q hS194q hg194 hZ hown
      have hk194r : T194.heap.size ≤ T194.heap.size := Nat.le_refl _
      obtain ⟨rfl, N194q, K194q⟩ := hQ194
      have N194 := Fr.app N191 (own_frm Zs191 N194q)
      have K194 : Keep h0 T194.heap [] := K191.trans K194q all0
      have Zs194 : n0 ≤ T194.heap.size := Nat.le_trans Zs191 K194q.1
      have hk194 : s.heap.size ≤ T194.heap.size := Nat.le_trans hk191 K194q.1
      have F195 := F192.keep K194q nin0
      have F196 := GE191.keep K194q
      have F197 := GC191.keep K194q nin0
      have F198 := GX191.keep K194q nin0
      have F199 := GV191.keep K194q nin0
      have go200 := gapT st191 st194
      have go201 : Go p.tables e below T194 (mkF m 98 (L0_32 p0 p1 p2 p3 b178) [(.int 1)]) En := by
        intro t k
        refine go200 _ ?_
        refine XS.ifNo X194.here hx rfl (hb hby at_90) rfl (XT.i0_ne_f (by decide : ((0 : Int32) = (0 : Int32)))) ?_
        refine XS.iconst X194.here hx rfl (hb hby at_93) ?_
        refine XS.goto X194.here hx rfl (pc0 := 94) (pc' := 98) rfl (hb hby at_94) (by decide) (by decide) ?_
        show Steps _ _ _ (T194.setTop (mkF m 98 (L0_32 p0 p1 p2 p3 b178) [(.int 1)])) _
        exact k
      obtain ⟨fs, hr, hrun, hended, hRW⟩ := X194.leaveW hS194 (hk194r) (v := some (.int 1)) (fun h => by rw [Bd.returns] at h; cases h) Bd.notSynchronized
      subst hEn
      refine ⟨_, _, go201 _ (Jvm.RoadKit.retOut X194 hx Bd.returns rfl (Or.inl ⟨rfl, Or.inr (Or.inl rfl), _, rfl⟩) (hb hby at_98) hr), hrun, hended, _, _, rfl, ?_, hRW.1, hRW.2.1, hRW.2.2.1, hRW.2.2.2.mono (by decide) (by decide)⟩
      show Q0 _ _ p0 p1 p2 p3 s_COMPACT_STRINGS h0 _ (T194.setFrames fs).heap _
      have hE : (T194.setFrames fs).heap = T194.heap := rfl
      rw [hE]
      exact ⟨congrArg (fun z => some (Value.int z)) ((by rw [f0, if_neg hs2, if_neg hs29, if_pos hs145, if_neg hs148, if_pos hs175] : (1 : Int32) = (f0 p0 p3)).trans (f0_one p0 p3)), N194⟩
    by_cases hs202 : ((p0 &&& (2147483647 : Int32)) % (3 : Int32)) = (2 : Int32)
    · have go203 : Go p.tables e below s₁ (mkF m 49 (L0_34 p0 p1 p2 p3) []) En := by
        have q : Go p.tables e below s₁ (mkF m  49 #[iv p0, iv p1, iv p2, iv p3, iv ((p0 &&& (2147483647 : Int32)) % (3 : Int32)), iv 1, iv (p2 &&& (255 : Int32)).toUInt32.toUInt16.toUInt32.toInt32, .unset, .unset, .unset, .unset, .unset] []) En := go147
        rw [hs202] at q
        exact q
      have go204 : Go p.tables e below s₁ (mkF m 53 (L0_34 p0 p1 p2 p3) [(.int 1), (.int 2)]) En := by
        intro t k
        refine go203 _ ?_
        refine XS.iload X0.here hx rfl (hb hby at_49) rfl ?_
        refine XS.iload X0.here hx rfl (hb hby at_51) rfl ?_
        exact k
      obtain ⟨_, T205, Lc205, X205, hQ205, st205⟩ := own_cs X0 hx hZ hown hml go204 (hb hby at_53) e0 (hw _ (mi 1 rfl)) (own_site642 hw) (rmnm21 l Z aZ hw []  h0 n0 Z0 ) (by decide) (argsL := [(.int 2), (.int 1)]) (rest := []) rfl rfl rfl (lenOf pd_643 rfl) (W := 0) rfl (by decide) (by decide) (by decide : 0 + 1 ≤ _) (by decide : 0 + 17 ≤ _)
      obtain ⟨b205, kb205, rfl, N205q, K205q, fr205, G205_0⟩ := hQ205
      have N205 := Fr.app N0 N205q
      have K205 : Keep h0 T205.heap [] := K0.trans K205q all0
      have low205 : n0 ≤ b205 := Nat.le_trans Z0 fr205
      have fsh205 : h0.size ≤ b205 := Nat.le_trans K0.1 fr205
      have Zs205 : n0 ≤ T205.heap.size := Nat.le_trans Z0 K205q.1
      have hk205 : s.heap.size ≤ T205.heap.size := Nat.le_trans hk0 K205q.1
      obtain ⟨cl206, Ar206, q206, S206, N206, H206, G206⟩ := id G205_0
      have go207 : Go p.tables e below T205 (mkF m 77 (L0_35 p0 p1 p2 p3 b205) [(.int (p2 &&& (255 : Int32)).toUInt32.toUInt16.toUInt32.toInt32), (.int 16), (.ref b205)]) En := by
        intro t k
        refine st205 _ ?_
        refine XS.astore X205.here hx rfl (hb hby at_56) rfl rfl (l' := (L0_36 p0 p1 p2 p3 b205)) rfl ?_
        refine XS.aload X205.here hx rfl (hb hby at_58) rfl rfl ?_
        refine X205.arraylength hx Ar206.1 (State.isArrayOf_alike hZ.alike Ar206.2.1) (g := (mkF m 60 (L0_36 p0 p1 p2 p3 b205) [(.ref b205)])) rfl rfl (hb hby at_60) _ ?_
        rw [len_of S206 N206]
        show Steps _ _ _ (T205.setTop (mkF m 61 (L0_36 p0 p1 p2 p3 b205) [(.int 17)])) _
        refine XS.istore X205.here hx rfl (hb hby at_61) rfl (l' := (L0_35 p0 p1 p2 p3 b205)) rfl ?_
        refine XS.iload X205.here hx rfl (hb hby at_63) rfl ?_
        refine XS.iconst X205.here hx rfl (hb hby at_65) ?_
        show Steps _ _ _ (T205.setTop (mkF m 66 (L0_35 p0 p1 p2 p3 b205) [(.int 1), (.int 1)])) _
        refine XS.icmpNo X205.here hx rfl (hb hby at_66) rfl (XT.ii_ne_f (by decide : ((1 : Int32) = (1 : Int32)))) ?_
        refine XS.aload X205.here hx rfl (hb hby at_69) rfl rfl ?_
        refine XS.iload X205.here hx rfl (hb hby at_71) rfl ?_
        show Steps _ _ _ (T205.setTop (mkF m 73 (L0_35 p0 p1 p2 p3 b205) [(.int 17), (.ref b205)])) _
        refine XS.iconst X205.here hx rfl (hb hby at_73) ?_
        refine XS.isub X205.here hx rfl (hb hby at_74) rfl ?_
        refine XS.iload X205.here hx rfl (hb hby at_75) rfl ?_
        show Steps _ _ _ (T205.setTop (mkF m 77 (L0_35 p0 p1 p2 p3 b205) [(.int (p2 &&& (255 : Int32)).toUInt32.toUInt16.toUInt32.toInt32), (.int 16), (.ref b205)])) _
        exact k
      obtain ⟨T208, h208, X208, e208, W208, st208⟩ := stC X205 hx hZ rfl Ar206 (j := (16 : Int32)) (inb_of S206 ⟨by decide, by decide⟩) (g := (mkF m 77 (L0_35 p0 p1 p2 p3 b205) [(.int (p2 &&& (255 : Int32)).toUInt32.toUInt16.toUInt32.toInt32), (.int 16), (.ref b205)])) rfl rfl (hb hby at_77)
      have go209 := gap go207 st208
      have N208 := Fr.snoc X208 N205 low205
      have K208 : Keep h0 h208 [] := K205.wr W208 (Or.inr fsh205)
      have Zs208 : n0 ≤ h208.size := Nat.le_trans Zs205 (Keep.of_wr W208).1
      have hk208 : s.heap.size ≤ h208.size := Nat.le_trans hk205 (Keep.of_wr W208).1
      have F210 : Arv Z h208 b205 kb205 .char (17 : Int32) [(.int 97), (.int 112), (.int 112), (.int 108), (.int 105), (.int 99), (.int 97), (.int 116), (.int 105), (.int 111), (.int 110), (.int 83), (.int 99), (.int 111), (.int 112), (.int 101), (.int (p2 &&& (255 : Int32)).toUInt32.toUInt16.toUInt32.toInt32.toUInt32.toUInt16.toUInt32.toInt32)] (.int 0) := Arv.set Ar206 q206 S206 N206 H206 G206 (fits_nar_char _) W208 16 rfl (Nat.le_of_ble_eq_true rfl)
      obtain ⟨T211, h211, X211, e211, E211, A211, D211, -, st211⟩ := newO X208 hx hZ hown (hw _ (mi 6 rfl)) (hw _ (mi 7 rfl)) (hw _ (mi 8 rfl)) e208 (g := (mkF m 78 (L0_35 p0 p1 p2 p3 b205) [])) rfl (hb hby at_78) (by decide) (by decide)
      obtain ⟨b211, g211⟩ : ∃ z, z = h208.size := ⟨_, rfl⟩
      rw [← g211] at A211 D211 st211
      have ne212 : b205 ≠ b211 := Nat.ne_of_lt (Nat.lt_of_lt_of_le F210.lt (Nat.le_of_eq g211.symm))
      have low211 : n0 ≤ b211 := Nat.le_trans Zs208 (Nat.le_of_eq g211.symm)
      have fsh211 : h0.size ≤ b211 := Nat.le_trans K208.1 (Nat.le_of_eq g211.symm)
      have K211 : Keep h0 h211 [] := K208.ext E211
      have Zs211 : n0 ≤ h211.size := Nat.le_trans Zs208 E211.1
      have hk211 : s.heap.size ≤ h211.size := Nat.le_trans hk208 E211.1
      have go213 := gap go209 st211
      have F214 := F210.ext E211
      have F215 : Fld Z h211 b211 "java/lang/String" "coder" "B" (.int 0) := D211 (Or.inr (hw _ (mi 32 rfl))) (ty := .byte) (by decide)
      have F216 : Fld Z h211 b211 "java/lang/String" "value" "[B" .null := D211 (Or.inr (hw _ (mi 34 rfl))) (ty := (.array .byte)) (by decide)
      have go217 : Go p.tables e below T211 (mkF m 84 (L0_35 p0 p1 p2 p3 b205) [(.ref b205), (.ref b211), (.ref b211)]) En := by
        intro t k
        refine go213 _ ?_
        refine XS.dup X211.here hx rfl (hb hby at_81) rfl rfl ?_
        refine XS.aload X211.here hx rfl (hb hby at_82) rfl rfl ?_
        exact k
      obtain ⟨_, T218, Lc218, X218, hQ218, st218⟩ := own_cb X211 hx hZ hown hml go217 (hb hby at_84) e211 (hw _ (mi 9 rfl)) (own_site647 hw) rfl (StrChars.Road.backV (W := 1) hZ (fun d hd => hw d (own_wds d hd)) (hw _ (mi 7 rfl)) (cs := [(97 : Int32), (112 : Int32), (112 : Int32), (108 : Int32), (105 : Int32), (99 : Int32), (97 : Int32), (116 : Int32), (105 : Int32), (111 : Int32), (110 : Int32), (83 : Int32), (99 : Int32), (111 : Int32), (112 : Int32), (101 : Int32), (p2 &&& (255 : Int32)).toUInt32.toUInt16.toUInt32.toInt32.toUInt32.toUInt16.toUInt32.toInt32]) (bs := [(97 : Int32).toInt8.toInt32, (112 : Int32).toInt8.toInt32, (112 : Int32).toInt8.toInt32, (108 : Int32).toInt8.toInt32, (105 : Int32).toInt8.toInt32, (99 : Int32).toInt8.toInt32, (97 : Int32).toInt8.toInt32, (116 : Int32).toInt8.toInt32, (105 : Int32).toInt8.toInt32, (111 : Int32).toInt8.toInt32, (110 : Int32).toInt8.toInt32, (83 : Int32).toInt8.toInt32, (99 : Int32).toInt8.toInt32, (111 : Int32).toInt8.toInt32, (112 : Int32).toInt8.toInt32, (101 : Int32).toInt8.toInt32, (p2 &&& (255 : Int32)).toUInt32.toUInt16.toUInt32.toInt32.toUInt32.toUInt16.toUInt32.toInt32.toInt8.toInt32]) (n := 17) low211 Zs211 A211 F216 F215 F214 (own_sta_keep S_COMPACT_STRINGS K211 all0) hcs rfl rfl (by decide) (by decide) (List.forall_mem_cons.mpr ⟨by decide, (List.forall_mem_cons.mpr ⟨by decide, (List.forall_mem_cons.mpr ⟨by decide, (List.forall_mem_cons.mpr ⟨by decide, (List.forall_mem_cons.mpr ⟨by decide, (List.forall_mem_cons.mpr ⟨by decide, (List.forall_mem_cons.mpr ⟨by decide, (List.forall_mem_cons.mpr ⟨by decide, (List.forall_mem_cons.mpr ⟨by decide, (List.forall_mem_cons.mpr ⟨by decide, (List.forall_mem_cons.mpr ⟨by decide, (List.forall_mem_cons.mpr ⟨by decide, (List.forall_mem_cons.mpr ⟨by decide, (List.forall_mem_cons.mpr ⟨by decide, (List.forall_mem_cons.mpr ⟨by decide, (List.forall_mem_cons.mpr ⟨by decide, (List.forall_mem_cons.mpr ⟨own_cr _ (own_p255 p2).1 (own_p255 p2).2, (fun _ q => nomatch q)⟩)⟩)⟩)⟩)⟩)⟩)⟩)⟩)⟩)⟩)⟩)⟩)⟩)⟩)⟩)⟩)⟩) rfl (by decide) (by decide)) (by decide) (argsL := [(.ref b205)]) (rest := [(.ref b211)]) rfl rfl rfl (lenOf pd_640 rfl) rfl (by decide : 2 + 1 ≤ _) (by decide : 21 + 17 ≤ _)
      obtain ⟨rfl, N218q, K218q, GE218, GC218, bx218, kx218, lo218, fr218, nx218, GX218, GW218⟩ := hQ218
      have N218 := Fr.app N208 N218q
      have K218 : Keep h0 T218.heap [] := K211.trans K218q (allS (Or.inr fsh211) all0)
      have Zs218 : n0 ≤ T218.heap.size := Nat.le_trans Zs211 K218q.1
      have hk218 : s.heap.size ≤ T218.heap.size := Nat.le_trans hk211 K218q.1
      have F219 := F214.keep K218q (ninS ne212 nin0)
      have F220 := A211.keep K218q
      have GV218 : Arv Z T218.heap bx218 kx218 .byte (17 : Int32) [(.int (97 : Int32).toInt8.toInt32), (.int (112 : Int32).toInt8.toInt32), (.int (112 : Int32).toInt8.toInt32), (.int (108 : Int32).toInt8.toInt32), (.int (105 : Int32).toInt8.toInt32), (.int (99 : Int32).toInt8.toInt32), (.int (97 : Int32).toInt8.toInt32), (.int (116 : Int32).toInt8.toInt32), (.int (105 : Int32).toInt8.toInt32), (.int (111 : Int32).toInt8.toInt32), (.int (110 : Int32).toInt8.toInt32), (.int (83 : Int32).toInt8.toInt32), (.int (99 : Int32).toInt8.toInt32), (.int (111 : Int32).toInt8.toInt32), (.int (112 : Int32).toInt8.toInt32), (.int (101 : Int32).toInt8.toInt32), (.int (p2 &&& (255 : Int32)).toUInt32.toUInt16.toUInt32.toInt32.toUInt32.toUInt16.toUInt32.toInt32.toInt8.toInt32)] (.int 0) := GW218
      obtain ⟨_, _, ⟨T221, L221, k221, n221⟩, -, X221q, hS221q, hg221, ⟨Lc221, hQ221, l221, y221, z221⟩, st221⟩ := callSS X218 hx (y := (⟨"com/example/calycule/calycule/config/ModuleContext", "isImplicit", "(Ljava/lang/String;)Z"⟩ : MethodName)) hown (mvT hZ (hw _ (mi 35 rfl))) (mvT hZ (hw _ (mi 36 rfl))) (mvT hZ (hw _ (mi 37 rfl))) (mvT hZ (hw _ (mi 38 rfl))) (by decide) (own_backOfSI (W := 0) (rmia l Z aZ hw [] _ _ _ _ _ _ T218.heap T218.heap.size (Nat.le_refl _) GE218 GC218 GX218 GV218 (own_sta_keep S_COMPACT_STRINGS K218 all0) hcs (fun b cl q => K218.2.1 b cl (hkp b cl q) nin0) hcn62 hcn68 hcn69 hcw rfl (by decide) (by decide) (by decide)) hZ (hw _ (mi 38 rfl)) (hw _ (mi 37 rfl)) (by decide) (by decide) IB0) (g := (mkF m 87 (L0_35 p0 p1 p2 p3 b205) [(.ref b211)])) rfl (by rw [hml]; rfl) (argsL := [(.ref b211)]) (rest := []) (lenOf pd_641 rfl) rfl (by show 2 * 0 + _ ≤ _; exact Nat.le_of_eq rfl) (hb hby at_87) (fun _ _ => ⟨rfl, rfl, (by decide : 3 + 6 ≤ _), (by decide : 38 + 172 ≤ _)⟩)
      dsimp only [Pt.U, Pt.locs, Pt.cells, Pt.slots] at X221q hS221q hg221 l221 y221 z221 st221 hQ221
      subst l221 y221 z221
      have hk221q : s.heap.size ≤ T218.heap.size := hk218
      obtain ⟨X221, hS221, hZ221, hown221⟩ := rebS hS0 hk221q X221q hS221q hg221 hZ hown
      have hk221r : T221.heap.size ≤ T221.heap.size := Nat.le_refl _
      obtain ⟨rfl, N221q, K221q⟩ := hQ221
      have N221 := Fr.app N218 (own_frm Zs218 N221q)
      have K221 : Keep h0 T221.heap [] := K218.trans K221q all0
      have Zs221 : n0 ≤ T221.heap.size := Nat.le_trans Zs218 K221q.1
      have hk221 : s.heap.size ≤ T221.heap.size := Nat.le_trans hk218 K221q.1
      have F222 := F219.keep K221q nin0
      have F223 := GE218.keep K221q
      have F224 := GC218.keep K221q nin0
      have F225 := GX218.keep K221q nin0
      have F226 := GV218.keep K221q nin0
      have go227 := gapT st218 st221
      have go228 : Go p.tables e below T221 (mkF m 98 (L0_35 p0 p1 p2 p3 b205) [(.int 1)]) En := by
        intro t k
        refine go227 _ ?_
        refine XS.ifNo X221.here hx rfl (hb hby at_90) rfl (XT.i0_ne_f (by decide : ((0 : Int32) = (0 : Int32)))) ?_
        refine XS.iconst X221.here hx rfl (hb hby at_93) ?_
        refine XS.goto X221.here hx rfl (pc0 := 94) (pc' := 98) rfl (hb hby at_94) (by decide) (by decide) ?_
        show Steps _ _ _ (T221.setTop (mkF m 98 (L0_35 p0 p1 p2 p3 b205) [(.int 1)])) _
        exact k
      obtain ⟨fs, hr, hrun, hended, hRW⟩ := X221.leaveW hS221 (hk221r) (v := some (.int 1)) (fun h => by rw [Bd.returns] at h; cases h) Bd.notSynchronized
      subst hEn
      refine ⟨_, _, go228 _ (Jvm.RoadKit.retOut X221 hx Bd.returns rfl (Or.inl ⟨rfl, Or.inr (Or.inl rfl), _, rfl⟩) (hb hby at_98) hr), hrun, hended, _, _, rfl, ?_, hRW.1, hRW.2.1, hRW.2.2.1, hRW.2.2.2.mono (by decide) (by decide)⟩
      show Q0 _ _ p0 p1 p2 p3 s_COMPACT_STRINGS h0 _ (T221.setFrames fs).heap _
      have hE : (T221.setFrames fs).heap = T221.heap := rfl
      rw [hE]
      exact ⟨congrArg (fun z => some (Value.int z)) ((by rw [f0, if_neg hs2, if_neg hs29, if_pos hs145, if_neg hs148, if_neg hs175, if_pos hs202] : (1 : Int32) = (f0 p0 p3)).trans (f0_one p0 p3)), N221⟩
    exact (own_dead3m p0 hs148 hs175 hs202).elim
  by_cases hs229 : (p3 &&& (3 : Int32)) = (2 : Int32)
  · have go230 : Go p.tables e below s₁ (mkF m 21 (L0_37 p0 p1 p2 p3) []) En := by
      have q : Go p.tables e below s₁ (mkF m  21 #[iv p0, iv p1, iv p2, iv p3, iv ((p0 &&& (2147483647 : Int32)) % (3 : Int32)), iv (p3 &&& (3 : Int32)), iv (p2 &&& (255 : Int32)).toUInt32.toUInt16.toUInt32.toInt32, .unset, .unset, .unset, .unset, .unset] []) En := go1
      rw [hs229] at q
      exact q
    have go231 : Go p.tables e below s₁ (mkF m 49 (L0_37 p0 p1 p2 p3) []) En := by
      intro t k
      refine go230 _ ?_
      refine XS.iload X0.here hx rfl (hb hby at_21) rfl ?_
      refine XS.iconst X0.here hx rfl (hb hby at_23) ?_
      refine XS.icmpYes X0.here hx rfl (pc0 := 24) (pc' := 49) rfl (hb hby at_24) rfl (XT.ii_ne_t (by decide : ¬ ((2 : Int32) = (3 : Int32)))) (by decide) (by decide) ?_
      show Steps _ _ _ (s₁.setTop (mkF m 49 (L0_37 p0 p1 p2 p3) [])) _
      exact k
    by_cases hs232 : ((p0 &&& (2147483647 : Int32)) % (3 : Int32)) = (0 : Int32)
    · have go233 : Go p.tables e below s₁ (mkF m 49 (L0_38 p0 p1 p2 p3) []) En := by
        have q : Go p.tables e below s₁ (mkF m  49 #[iv p0, iv p1, iv p2, iv p3, iv ((p0 &&& (2147483647 : Int32)) % (3 : Int32)), iv 2, iv (p2 &&& (255 : Int32)).toUInt32.toUInt16.toUInt32.toInt32, .unset, .unset, .unset, .unset, .unset] []) En := go231
        rw [hs232] at q
        exact q
      have go234 : Go p.tables e below s₁ (mkF m 53 (L0_38 p0 p1 p2 p3) [(.int 2), (.int 0)]) En := by
        intro t k
        refine go233 _ ?_
        refine XS.iload X0.here hx rfl (hb hby at_49) rfl ?_
        refine XS.iload X0.here hx rfl (hb hby at_51) rfl ?_
        exact k
      obtain ⟨_, T235, Lc235, X235, hQ235, st235⟩ := own_cs X0 hx hZ hown hml go234 (hb hby at_53) e0 (hw _ (mi 1 rfl)) (own_site642 hw) (rmnm02 l Z aZ hw []  h0 n0 Z0 ) (by decide) (argsL := [(.int 0), (.int 2)]) (rest := []) rfl rfl rfl (lenOf pd_643 rfl) (W := 0) rfl (by decide) (by decide) (by decide : 0 + 1 ≤ _) (by decide : 0 + 12 ≤ _)
      obtain ⟨b235, kb235, rfl, N235q, K235q, fr235, G235_0⟩ := hQ235
      have N235 := Fr.app N0 N235q
      have K235 : Keep h0 T235.heap [] := K0.trans K235q all0
      have low235 : n0 ≤ b235 := Nat.le_trans Z0 fr235
      have fsh235 : h0.size ≤ b235 := Nat.le_trans K0.1 fr235
      have Zs235 : n0 ≤ T235.heap.size := Nat.le_trans Z0 K235q.1
      have hk235 : s.heap.size ≤ T235.heap.size := Nat.le_trans hk0 K235q.1
      obtain ⟨cl236, Ar236, q236, S236, N236, H236, G236⟩ := id G235_0
      have go237 : Go p.tables e below T235 (mkF m 105 (L0_39 p0 p1 p2 p3 b235) []) En := by
        intro t k
        refine st235 _ ?_
        refine XS.astore X235.here hx rfl (hb hby at_56) rfl rfl (l' := (L0_40 p0 p1 p2 p3 b235)) rfl ?_
        refine XS.aload X235.here hx rfl (hb hby at_58) rfl rfl ?_
        refine X235.arraylength hx Ar236.1 (State.isArrayOf_alike hZ.alike Ar236.2.1) (g := (mkF m 60 (L0_40 p0 p1 p2 p3 b235) [(.ref b235)])) rfl rfl (hb hby at_60) _ ?_
        rw [len_of S236 N236]
        show Steps _ _ _ (T235.setTop (mkF m 61 (L0_40 p0 p1 p2 p3 b235) [(.int 12)])) _
        refine XS.istore X235.here hx rfl (hb hby at_61) rfl (l' := (L0_39 p0 p1 p2 p3 b235)) rfl ?_
        refine XS.iload X235.here hx rfl (hb hby at_63) rfl ?_
        refine XS.iconst X235.here hx rfl (hb hby at_65) ?_
        show Steps _ _ _ (T235.setTop (mkF m 66 (L0_39 p0 p1 p2 p3 b235) [(.int 1), (.int 2)])) _
        refine XS.icmpYes X235.here hx rfl (pc0 := 66) (pc' := 99) rfl (hb hby at_66) rfl (XT.ii_ne_t (by decide : ¬ ((2 : Int32) = (1 : Int32)))) (by decide) (by decide) ?_
        refine XS.iload X235.here hx rfl (hb hby at_99) rfl ?_
        refine XS.iconst X235.here hx rfl (hb hby at_101) ?_
        show Steps _ _ _ (T235.setTop (mkF m 102 (L0_39 p0 p1 p2 p3 b235) [(.int 2), (.int 2)])) _
        refine XS.icmpNo X235.here hx rfl (hb hby at_102) rfl (XT.ii_ne_f (by decide : ((2 : Int32) = (2 : Int32)))) ?_
        exact k
      obtain ⟨T238, h238, X238, e238, E238, A238, D238, -, st238⟩ := newO X235 hx hZ hown (hw _ (mi 6 rfl)) (hw _ (mi 7 rfl)) (hw _ (mi 8 rfl)) rfl (g := (mkF m 105 (L0_39 p0 p1 p2 p3 b235) [])) rfl (hb hby at_105) (by decide) (by decide)
      obtain ⟨b238, g238⟩ : ∃ z, z = T235.heap.size := ⟨_, rfl⟩
      rw [← g238] at A238 D238 st238
      have ne239 : b235 ≠ b238 := Nat.ne_of_lt (Nat.lt_of_lt_of_le G235_0.lt (Nat.le_of_eq g238.symm))
      have low238 : n0 ≤ b238 := Nat.le_trans Zs235 (Nat.le_of_eq g238.symm)
      have fsh238 : h0.size ≤ b238 := Nat.le_trans K235.1 (Nat.le_of_eq g238.symm)
      have K238 : Keep h0 h238 [] := K235.ext E238
      have Zs238 : n0 ≤ h238.size := Nat.le_trans Zs235 E238.1
      have hk238 : s.heap.size ≤ h238.size := Nat.le_trans hk235 E238.1
      have go240 := gap go237 st238
      have F241 := G235_0.ext E238
      have F242 : Fld Z h238 b238 "java/lang/String" "coder" "B" (.int 0) := D238 (Or.inr (hw _ (mi 32 rfl))) (ty := .byte) (by decide)
      have F243 : Fld Z h238 b238 "java/lang/String" "value" "[B" .null := D238 (Or.inr (hw _ (mi 34 rfl))) (ty := (.array .byte)) (by decide)
      have go244 : Go p.tables e below T238 (mkF m 111 (L0_39 p0 p1 p2 p3 b235) [(.ref b235), (.ref b238), (.ref b238)]) En := by
        intro t k
        refine go240 _ ?_
        refine XS.dup X238.here hx rfl (hb hby at_108) rfl rfl ?_
        refine XS.aload X238.here hx rfl (hb hby at_109) rfl rfl ?_
        exact k
      obtain ⟨_, T245, Lc245, X245, hQ245, st245⟩ := own_cb X238 hx hZ hown hml go244 (hb hby at_111) e238 (hw _ (mi 9 rfl)) (own_site647 hw) rfl (StrChars.Road.backV (W := 1) hZ (fun d hd => hw d (own_wds d hd)) (hw _ (mi 7 rfl)) (cs := [(109 : Int32), (111 : Int32), (100 : Int32), (117 : Int32), (108 : Int32), (101 : Int32), (67 : Int32), (111 : Int32), (110 : Int32), (116 : Int32), (101 : Int32), (120 : Int32)]) (bs := [(109 : Int32).toInt8.toInt32, (111 : Int32).toInt8.toInt32, (100 : Int32).toInt8.toInt32, (117 : Int32).toInt8.toInt32, (108 : Int32).toInt8.toInt32, (101 : Int32).toInt8.toInt32, (67 : Int32).toInt8.toInt32, (111 : Int32).toInt8.toInt32, (110 : Int32).toInt8.toInt32, (116 : Int32).toInt8.toInt32, (101 : Int32).toInt8.toInt32, (120 : Int32).toInt8.toInt32]) (n := 12) low238 Zs238 A238 F243 F242 F241 (own_sta_keep S_COMPACT_STRINGS K238 all0) hcs rfl rfl (by decide) (by decide) (List.forall_mem_cons.mpr ⟨by decide, (List.forall_mem_cons.mpr ⟨by decide, (List.forall_mem_cons.mpr ⟨by decide, (List.forall_mem_cons.mpr ⟨by decide, (List.forall_mem_cons.mpr ⟨by decide, (List.forall_mem_cons.mpr ⟨by decide, (List.forall_mem_cons.mpr ⟨by decide, (List.forall_mem_cons.mpr ⟨by decide, (List.forall_mem_cons.mpr ⟨by decide, (List.forall_mem_cons.mpr ⟨by decide, (List.forall_mem_cons.mpr ⟨by decide, (List.forall_mem_cons.mpr ⟨by decide, (fun _ q => nomatch q)⟩)⟩)⟩)⟩)⟩)⟩)⟩)⟩)⟩)⟩)⟩)⟩) rfl (by decide) (by decide)) (by decide) (argsL := [(.ref b235)]) (rest := [(.ref b238)]) rfl rfl rfl (lenOf pd_640 rfl) rfl (by decide : 2 + 1 ≤ _) (by decide : 16 + 12 ≤ _)
      obtain ⟨rfl, N245q, K245q, GE245, GC245, bx245, kx245, lo245, fr245, nx245, GX245, GW245⟩ := hQ245
      have N245 := Fr.app N235 N245q
      have K245 : Keep h0 T245.heap [] := K238.trans K245q (allS (Or.inr fsh238) all0)
      have Zs245 : n0 ≤ T245.heap.size := Nat.le_trans Zs238 K245q.1
      have hk245 : s.heap.size ≤ T245.heap.size := Nat.le_trans hk238 K245q.1
      have F246 := F241.keep K245q (ninS ne239 nin0)
      have F247 := A238.keep K245q
      have GV245 : Arv Z T245.heap bx245 kx245 .byte (12 : Int32) [(.int (109 : Int32).toInt8.toInt32), (.int (111 : Int32).toInt8.toInt32), (.int (100 : Int32).toInt8.toInt32), (.int (117 : Int32).toInt8.toInt32), (.int (108 : Int32).toInt8.toInt32), (.int (101 : Int32).toInt8.toInt32), (.int (67 : Int32).toInt8.toInt32), (.int (111 : Int32).toInt8.toInt32), (.int (110 : Int32).toInt8.toInt32), (.int (116 : Int32).toInt8.toInt32), (.int (101 : Int32).toInt8.toInt32), (.int (120 : Int32).toInt8.toInt32)] (.int 0) := GW245
      obtain ⟨_, _, ⟨T248, L248, k248, n248⟩, -, X248q, hS248q, hg248, ⟨Lc248, hQ248, l248, y248, z248⟩, st248⟩ := callSS X245 hx (y := (⟨"com/example/calycule/calycule/config/ModuleContext", "isImplicit", "(Ljava/lang/String;)Z"⟩ : MethodName)) hown (mvT hZ (hw _ (mi 35 rfl))) (mvT hZ (hw _ (mi 36 rfl))) (mvT hZ (hw _ (mi 37 rfl))) (mvT hZ (hw _ (mi 38 rfl))) (by decide) (own_backOfSI (W := 0) (rmia l Z aZ hw [] _ _ _ _ _ _ T245.heap T245.heap.size (Nat.le_refl _) GE245 GC245 GX245 GV245 (own_sta_keep S_COMPACT_STRINGS K245 all0) hcs (fun b cl q => K245.2.1 b cl (hkp b cl q) nin0) hcn62 hcn68 hcn69 hcw rfl (by decide) (by decide) (by decide)) hZ (hw _ (mi 38 rfl)) (hw _ (mi 37 rfl)) (by decide) (by decide) IB0) (g := (mkF m 114 (L0_39 p0 p1 p2 p3 b235) [(.ref b238)])) rfl (by rw [hml]; rfl) (argsL := [(.ref b238)]) (rest := []) (lenOf pd_641 rfl) rfl (by show 2 * 0 + _ ≤ _; exact Nat.le_of_eq rfl) (hb hby at_114) (fun _ _ => ⟨rfl, rfl, (by decide : 3 + 6 ≤ _), (by decide : 28 + 172 ≤ _)⟩)
      dsimp only [Pt.U, Pt.locs, Pt.cells, Pt.slots] at X248q hS248q hg248 l248 y248 z248 st248 hQ248
      subst l248 y248 z248
      have hk248q : s.heap.size ≤ T245.heap.size := hk245
      obtain ⟨X248, hS248, hZ248, hown248⟩ := rebS hS0 hk248q X248q hS248q hg248 hZ hown
      have hk248r : T248.heap.size ≤ T248.heap.size := Nat.le_refl _
      obtain ⟨rfl, N248q, K248q⟩ := hQ248
      have N248 := Fr.app N245 (own_frm Zs245 N248q)
      have K248 : Keep h0 T248.heap [] := K245.trans K248q all0
      have Zs248 : n0 ≤ T248.heap.size := Nat.le_trans Zs245 K248q.1
      have hk248 : s.heap.size ≤ T248.heap.size := Nat.le_trans hk245 K248q.1
      have F249 := F246.keep K248q nin0
      have F250 := GE245.keep K248q
      have F251 := GC245.keep K248q nin0
      have F252 := GX245.keep K248q nin0
      have F253 := GV245.keep K248q nin0
      have go254 := gapT st245 st248
      have go255 : Go p.tables e below T248 (mkF m 125 (L0_39 p0 p1 p2 p3 b235) [(.int 1)]) En := by
        intro t k
        refine go254 _ ?_
        refine XS.ifNo X248.here hx rfl (hb hby at_117) rfl (XT.i0_ne_f (by decide : ((0 : Int32) = (0 : Int32)))) ?_
        refine XS.iconst X248.here hx rfl (hb hby at_120) ?_
        refine XS.goto X248.here hx rfl (pc0 := 121) (pc' := 125) rfl (hb hby at_121) (by decide) (by decide) ?_
        show Steps _ _ _ (T248.setTop (mkF m 125 (L0_39 p0 p1 p2 p3 b235) [(.int 1)])) _
        exact k
      obtain ⟨fs, hr, hrun, hended, hRW⟩ := X248.leaveW hS248 (hk248r) (v := some (.int 1)) (fun h => by rw [Bd.returns] at h; cases h) Bd.notSynchronized
      subst hEn
      refine ⟨_, _, go255 _ (Jvm.RoadKit.retOut X248 hx Bd.returns rfl (Or.inl ⟨rfl, Or.inr (Or.inl rfl), _, rfl⟩) (hb hby at_125) hr), hrun, hended, _, _, rfl, ?_, hRW.1, hRW.2.1, hRW.2.2.1, hRW.2.2.2.mono (by decide) (by decide)⟩
      show Q0 _ _ p0 p1 p2 p3 s_COMPACT_STRINGS h0 _ (T248.setFrames fs).heap _
      have hE : (T248.setFrames fs).heap = T248.heap := rfl
      rw [hE]
      exact ⟨congrArg (fun z => some (Value.int z)) ((by rw [f0, if_neg hs2, if_neg hs29, if_neg hs145, if_pos hs229, if_pos hs232] : (1 : Int32) = (f0 p0 p3)).trans (f0_one p0 p3)), N248⟩
    by_cases hs256 : ((p0 &&& (2147483647 : Int32)) % (3 : Int32)) = (1 : Int32)
    · have go257 : Go p.tables e below s₁ (mkF m 49 (L0_41 p0 p1 p2 p3) []) En := by
        have q : Go p.tables e below s₁ (mkF m  49 #[iv p0, iv p1, iv p2, iv p3, iv ((p0 &&& (2147483647 : Int32)) % (3 : Int32)), iv 2, iv (p2 &&& (255 : Int32)).toUInt32.toUInt16.toUInt32.toInt32, .unset, .unset, .unset, .unset, .unset] []) En := go231
        rw [hs256] at q
        exact q
      have go258 : Go p.tables e below s₁ (mkF m 53 (L0_41 p0 p1 p2 p3) [(.int 2), (.int 1)]) En := by
        intro t k
        refine go257 _ ?_
        refine XS.iload X0.here hx rfl (hb hby at_49) rfl ?_
        refine XS.iload X0.here hx rfl (hb hby at_51) rfl ?_
        exact k
      obtain ⟨_, T259, Lc259, X259, hQ259, st259⟩ := own_cs X0 hx hZ hown hml go258 (hb hby at_53) e0 (hw _ (mi 1 rfl)) (own_site642 hw) (rmnm12 l Z aZ hw []  h0 n0 Z0 ) (by decide) (argsL := [(.int 1), (.int 2)]) (rest := []) rfl rfl rfl (lenOf pd_643 rfl) (W := 0) rfl (by decide) (by decide) (by decide : 0 + 1 ≤ _) (by decide : 0 + 10 ≤ _)
      obtain ⟨b259, kb259, rfl, N259q, K259q, fr259, G259_0⟩ := hQ259
      have N259 := Fr.app N0 N259q
      have K259 : Keep h0 T259.heap [] := K0.trans K259q all0
      have low259 : n0 ≤ b259 := Nat.le_trans Z0 fr259
      have fsh259 : h0.size ≤ b259 := Nat.le_trans K0.1 fr259
      have Zs259 : n0 ≤ T259.heap.size := Nat.le_trans Z0 K259q.1
      have hk259 : s.heap.size ≤ T259.heap.size := Nat.le_trans hk0 K259q.1
      obtain ⟨cl260, Ar260, q260, S260, N260, H260, G260⟩ := id G259_0
      have go261 : Go p.tables e below T259 (mkF m 105 (L0_42 p0 p1 p2 p3 b259) []) En := by
        intro t k
        refine st259 _ ?_
        refine XS.astore X259.here hx rfl (hb hby at_56) rfl rfl (l' := (L0_43 p0 p1 p2 p3 b259)) rfl ?_
        refine XS.aload X259.here hx rfl (hb hby at_58) rfl rfl ?_
        refine X259.arraylength hx Ar260.1 (State.isArrayOf_alike hZ.alike Ar260.2.1) (g := (mkF m 60 (L0_43 p0 p1 p2 p3 b259) [(.ref b259)])) rfl rfl (hb hby at_60) _ ?_
        rw [len_of S260 N260]
        show Steps _ _ _ (T259.setTop (mkF m 61 (L0_43 p0 p1 p2 p3 b259) [(.int 10)])) _
        refine XS.istore X259.here hx rfl (hb hby at_61) rfl (l' := (L0_42 p0 p1 p2 p3 b259)) rfl ?_
        refine XS.iload X259.here hx rfl (hb hby at_63) rfl ?_
        refine XS.iconst X259.here hx rfl (hb hby at_65) ?_
        show Steps _ _ _ (T259.setTop (mkF m 66 (L0_42 p0 p1 p2 p3 b259) [(.int 1), (.int 2)])) _
        refine XS.icmpYes X259.here hx rfl (pc0 := 66) (pc' := 99) rfl (hb hby at_66) rfl (XT.ii_ne_t (by decide : ¬ ((2 : Int32) = (1 : Int32)))) (by decide) (by decide) ?_
        refine XS.iload X259.here hx rfl (hb hby at_99) rfl ?_
        refine XS.iconst X259.here hx rfl (hb hby at_101) ?_
        show Steps _ _ _ (T259.setTop (mkF m 102 (L0_42 p0 p1 p2 p3 b259) [(.int 2), (.int 2)])) _
        refine XS.icmpNo X259.here hx rfl (hb hby at_102) rfl (XT.ii_ne_f (by decide : ((2 : Int32) = (2 : Int32)))) ?_
        exact k
      obtain ⟨T262, h262, X262, e262, E262, A262, D262, -, st262⟩ := newO X259 hx hZ hown (hw _ (mi 6 rfl)) (hw _ (mi 7 rfl)) (hw _ (mi 8 rfl)) rfl (g := (mkF m 105 (L0_42 p0 p1 p2 p3 b259) [])) rfl (hb hby at_105) (by decide) (by decide)
      obtain ⟨b262, g262⟩ : ∃ z, z = T259.heap.size := ⟨_, rfl⟩
      rw [← g262] at A262 D262 st262
      have ne263 : b259 ≠ b262 := Nat.ne_of_lt (Nat.lt_of_lt_of_le G259_0.lt (Nat.le_of_eq g262.symm))
      have low262 : n0 ≤ b262 := Nat.le_trans Zs259 (Nat.le_of_eq g262.symm)
      have fsh262 : h0.size ≤ b262 := Nat.le_trans K259.1 (Nat.le_of_eq g262.symm)
      have K262 : Keep h0 h262 [] := K259.ext E262
      have Zs262 : n0 ≤ h262.size := Nat.le_trans Zs259 E262.1
      have hk262 : s.heap.size ≤ h262.size := Nat.le_trans hk259 E262.1
      have go264 := gap go261 st262
      have F265 := G259_0.ext E262
      have F266 : Fld Z h262 b262 "java/lang/String" "coder" "B" (.int 0) := D262 (Or.inr (hw _ (mi 32 rfl))) (ty := .byte) (by decide)
      have F267 : Fld Z h262 b262 "java/lang/String" "value" "[B" .null := D262 (Or.inr (hw _ (mi 34 rfl))) (ty := (.array .byte)) (by decide)
      have go268 : Go p.tables e below T262 (mkF m 111 (L0_42 p0 p1 p2 p3 b259) [(.ref b259), (.ref b262), (.ref b262)]) En := by
        intro t k
        refine go264 _ ?_
        refine XS.dup X262.here hx rfl (hb hby at_108) rfl rfl ?_
        refine XS.aload X262.here hx rfl (hb hby at_109) rfl rfl ?_
        exact k
      obtain ⟨_, T269, Lc269, X269, hQ269, st269⟩ := own_cb X262 hx hZ hown hml go268 (hb hby at_111) e262 (hw _ (mi 9 rfl)) (own_site647 hw) rfl (StrChars.Road.backV (W := 1) hZ (fun d hd => hw d (own_wds d hd)) (hw _ (mi 7 rfl)) (cs := [(109 : Int32), (111 : Int32), (100 : Int32), (117 : Int32), (108 : Int32), (101 : Int32), (83 : Int32), (99 : Int32), (111 : Int32), (112 : Int32)]) (bs := [(109 : Int32).toInt8.toInt32, (111 : Int32).toInt8.toInt32, (100 : Int32).toInt8.toInt32, (117 : Int32).toInt8.toInt32, (108 : Int32).toInt8.toInt32, (101 : Int32).toInt8.toInt32, (83 : Int32).toInt8.toInt32, (99 : Int32).toInt8.toInt32, (111 : Int32).toInt8.toInt32, (112 : Int32).toInt8.toInt32]) (n := 10) low262 Zs262 A262 F267 F266 F265 (own_sta_keep S_COMPACT_STRINGS K262 all0) hcs rfl rfl (by decide) (by decide) (List.forall_mem_cons.mpr ⟨by decide, (List.forall_mem_cons.mpr ⟨by decide, (List.forall_mem_cons.mpr ⟨by decide, (List.forall_mem_cons.mpr ⟨by decide, (List.forall_mem_cons.mpr ⟨by decide, (List.forall_mem_cons.mpr ⟨by decide, (List.forall_mem_cons.mpr ⟨by decide, (List.forall_mem_cons.mpr ⟨by decide, (List.forall_mem_cons.mpr ⟨by decide, (List.forall_mem_cons.mpr ⟨by decide, (fun _ q => nomatch q)⟩)⟩)⟩)⟩)⟩)⟩)⟩)⟩)⟩)⟩) rfl (by decide) (by decide)) (by decide) (argsL := [(.ref b259)]) (rest := [(.ref b262)]) rfl rfl rfl (lenOf pd_640 rfl) rfl (by decide : 2 + 1 ≤ _) (by decide : 14 + 10 ≤ _)
      obtain ⟨rfl, N269q, K269q, GE269, GC269, bx269, kx269, lo269, fr269, nx269, GX269, GW269⟩ := hQ269
      have N269 := Fr.app N259 N269q
      have K269 : Keep h0 T269.heap [] := K262.trans K269q (allS (Or.inr fsh262) all0)
      have Zs269 : n0 ≤ T269.heap.size := Nat.le_trans Zs262 K269q.1
      have hk269 : s.heap.size ≤ T269.heap.size := Nat.le_trans hk262 K269q.1
      have F270 := F265.keep K269q (ninS ne263 nin0)
      have F271 := A262.keep K269q
      have GV269 : Arv Z T269.heap bx269 kx269 .byte (10 : Int32) [(.int (109 : Int32).toInt8.toInt32), (.int (111 : Int32).toInt8.toInt32), (.int (100 : Int32).toInt8.toInt32), (.int (117 : Int32).toInt8.toInt32), (.int (108 : Int32).toInt8.toInt32), (.int (101 : Int32).toInt8.toInt32), (.int (83 : Int32).toInt8.toInt32), (.int (99 : Int32).toInt8.toInt32), (.int (111 : Int32).toInt8.toInt32), (.int (112 : Int32).toInt8.toInt32)] (.int 0) := GW269
      obtain ⟨_, _, ⟨T272, L272, k272, n272⟩, -, X272q, hS272q, hg272, ⟨Lc272, hQ272, l272, y272, z272⟩, st272⟩ := callSS X269 hx (y := (⟨"com/example/calycule/calycule/config/ModuleContext", "isImplicit", "(Ljava/lang/String;)Z"⟩ : MethodName)) hown (mvT hZ (hw _ (mi 35 rfl))) (mvT hZ (hw _ (mi 36 rfl))) (mvT hZ (hw _ (mi 37 rfl))) (mvT hZ (hw _ (mi 38 rfl))) (by decide) (own_backOfSI (W := 0) (rmia l Z aZ hw [] _ _ _ _ _ _ T269.heap T269.heap.size (Nat.le_refl _) GE269 GC269 GX269 GV269 (own_sta_keep S_COMPACT_STRINGS K269 all0) hcs (fun b cl q => K269.2.1 b cl (hkp b cl q) nin0) hcn62 hcn68 hcn69 hcw rfl (by decide) (by decide) (by decide)) hZ (hw _ (mi 38 rfl)) (hw _ (mi 37 rfl)) (by decide) (by decide) IB0) (g := (mkF m 114 (L0_42 p0 p1 p2 p3 b259) [(.ref b262)])) rfl (by rw [hml]; rfl) (argsL := [(.ref b262)]) (rest := []) (lenOf pd_641 rfl) rfl (by show 2 * 0 + _ ≤ _; exact Nat.le_of_eq rfl) (hb hby at_114) (fun _ _ => ⟨rfl, rfl, (by decide : 3 + 6 ≤ _), (by decide : 24 + 172 ≤ _)⟩)
      dsimp only [Pt.U, Pt.locs, Pt.cells, Pt.slots] at X272q hS272q hg272 l272 y272 z272 st272 hQ272
      subst l272 y272 z272
      have hk272q : s.heap.size ≤ T269.heap.size := hk269
      obtain ⟨X272, hS272, hZ272, hown272⟩ := rebS hS0 hk272q X272q hS272q hg272 hZ hown
      have hk272r : T272.heap.size ≤ T272.heap.size := Nat.le_refl _
      obtain ⟨rfl, N272q, K272q⟩ := hQ272
      have N272 := Fr.app N269 (own_frm Zs269 N272q)
      have K272 : Keep h0 T272.heap [] := K269.trans K272q all0
      have Zs272 : n0 ≤ T272.heap.size := Nat.le_trans Zs269 K272q.1
      have hk272 : s.heap.size ≤ T272.heap.size := Nat.le_trans hk269 K272q.1
      have F273 := F270.keep K272q nin0
      have F274 := GE269.keep K272q
      have F275 := GC269.keep K272q nin0
      have F276 := GX269.keep K272q nin0
      have F277 := GV269.keep K272q nin0
      have go278 := gapT st269 st272
      have go279 : Go p.tables e below T272 (mkF m 125 (L0_42 p0 p1 p2 p3 b259) [(.int 1)]) En := by
        intro t k
        refine go278 _ ?_
        refine XS.ifNo X272.here hx rfl (hb hby at_117) rfl (XT.i0_ne_f (by decide : ((0 : Int32) = (0 : Int32)))) ?_
        refine XS.iconst X272.here hx rfl (hb hby at_120) ?_
        refine XS.goto X272.here hx rfl (pc0 := 121) (pc' := 125) rfl (hb hby at_121) (by decide) (by decide) ?_
        show Steps _ _ _ (T272.setTop (mkF m 125 (L0_42 p0 p1 p2 p3 b259) [(.int 1)])) _
        exact k
      obtain ⟨fs, hr, hrun, hended, hRW⟩ := X272.leaveW hS272 (hk272r) (v := some (.int 1)) (fun h => by rw [Bd.returns] at h; cases h) Bd.notSynchronized
      subst hEn
      refine ⟨_, _, go279 _ (Jvm.RoadKit.retOut X272 hx Bd.returns rfl (Or.inl ⟨rfl, Or.inr (Or.inl rfl), _, rfl⟩) (hb hby at_125) hr), hrun, hended, _, _, rfl, ?_, hRW.1, hRW.2.1, hRW.2.2.1, hRW.2.2.2.mono (by decide) (by decide)⟩
      show Q0 _ _ p0 p1 p2 p3 s_COMPACT_STRINGS h0 _ (T272.setFrames fs).heap _
      have hE : (T272.setFrames fs).heap = T272.heap := rfl
      rw [hE]
      exact ⟨congrArg (fun z => some (Value.int z)) ((by rw [f0, if_neg hs2, if_neg hs29, if_neg hs145, if_pos hs229, if_neg hs232, if_pos hs256] : (1 : Int32) = (f0 p0 p3)).trans (f0_one p0 p3)), N272⟩
    by_cases hs280 : ((p0 &&& (2147483647 : Int32)) % (3 : Int32)) = (2 : Int32)
    · have go281 : Go p.tables e below s₁ (mkF m 49 (L0_44 p0 p1 p2 p3) []) En := by
        have q : Go p.tables e below s₁ (mkF m  49 #[iv p0, iv p1, iv p2, iv p3, iv ((p0 &&& (2147483647 : Int32)) % (3 : Int32)), iv 2, iv (p2 &&& (255 : Int32)).toUInt32.toUInt16.toUInt32.toInt32, .unset, .unset, .unset, .unset, .unset] []) En := go231
        rw [hs280] at q
        exact q
      have go282 : Go p.tables e below s₁ (mkF m 53 (L0_44 p0 p1 p2 p3) [(.int 2), (.int 2)]) En := by
        intro t k
        refine go281 _ ?_
        refine XS.iload X0.here hx rfl (hb hby at_49) rfl ?_
        refine XS.iload X0.here hx rfl (hb hby at_51) rfl ?_
        exact k
      obtain ⟨_, T283, Lc283, X283, hQ283, st283⟩ := own_cs X0 hx hZ hown hml go282 (hb hby at_53) e0 (hw _ (mi 1 rfl)) (own_site642 hw) (rmnm22 l Z aZ hw []  h0 n0 Z0 ) (by decide) (argsL := [(.int 2), (.int 2)]) (rest := []) rfl rfl rfl (lenOf pd_643 rfl) (W := 0) rfl (by decide) (by decide) (by decide : 0 + 1 ≤ _) (by decide : 0 + 15 ≤ _)
      obtain ⟨b283, kb283, rfl, N283q, K283q, fr283, G283_0⟩ := hQ283
      have N283 := Fr.app N0 N283q
      have K283 : Keep h0 T283.heap [] := K0.trans K283q all0
      have low283 : n0 ≤ b283 := Nat.le_trans Z0 fr283
      have fsh283 : h0.size ≤ b283 := Nat.le_trans K0.1 fr283
      have Zs283 : n0 ≤ T283.heap.size := Nat.le_trans Z0 K283q.1
      have hk283 : s.heap.size ≤ T283.heap.size := Nat.le_trans hk0 K283q.1
      obtain ⟨cl284, Ar284, q284, S284, N284, H284, G284⟩ := id G283_0
      have go285 : Go p.tables e below T283 (mkF m 105 (L0_45 p0 p1 p2 p3 b283) []) En := by
        intro t k
        refine st283 _ ?_
        refine XS.astore X283.here hx rfl (hb hby at_56) rfl rfl (l' := (L0_46 p0 p1 p2 p3 b283)) rfl ?_
        refine XS.aload X283.here hx rfl (hb hby at_58) rfl rfl ?_
        refine X283.arraylength hx Ar284.1 (State.isArrayOf_alike hZ.alike Ar284.2.1) (g := (mkF m 60 (L0_46 p0 p1 p2 p3 b283) [(.ref b283)])) rfl rfl (hb hby at_60) _ ?_
        rw [len_of S284 N284]
        show Steps _ _ _ (T283.setTop (mkF m 61 (L0_46 p0 p1 p2 p3 b283) [(.int 15)])) _
        refine XS.istore X283.here hx rfl (hb hby at_61) rfl (l' := (L0_45 p0 p1 p2 p3 b283)) rfl ?_
        refine XS.iload X283.here hx rfl (hb hby at_63) rfl ?_
        refine XS.iconst X283.here hx rfl (hb hby at_65) ?_
        show Steps _ _ _ (T283.setTop (mkF m 66 (L0_45 p0 p1 p2 p3 b283) [(.int 1), (.int 2)])) _
        refine XS.icmpYes X283.here hx rfl (pc0 := 66) (pc' := 99) rfl (hb hby at_66) rfl (XT.ii_ne_t (by decide : ¬ ((2 : Int32) = (1 : Int32)))) (by decide) (by decide) ?_
        refine XS.iload X283.here hx rfl (hb hby at_99) rfl ?_
        refine XS.iconst X283.here hx rfl (hb hby at_101) ?_
        show Steps _ _ _ (T283.setTop (mkF m 102 (L0_45 p0 p1 p2 p3 b283) [(.int 2), (.int 2)])) _
        refine XS.icmpNo X283.here hx rfl (hb hby at_102) rfl (XT.ii_ne_f (by decide : ((2 : Int32) = (2 : Int32)))) ?_
        exact k
      obtain ⟨T286, h286, X286, e286, E286, A286, D286, -, st286⟩ := newO X283 hx hZ hown (hw _ (mi 6 rfl)) (hw _ (mi 7 rfl)) (hw _ (mi 8 rfl)) rfl (g := (mkF m 105 (L0_45 p0 p1 p2 p3 b283) [])) rfl (hb hby at_105) (by decide) (by decide)
      obtain ⟨b286, g286⟩ : ∃ z, z = T283.heap.size := ⟨_, rfl⟩
      rw [← g286] at A286 D286 st286
      have ne287 : b283 ≠ b286 := Nat.ne_of_lt (Nat.lt_of_lt_of_le G283_0.lt (Nat.le_of_eq g286.symm))
      have low286 : n0 ≤ b286 := Nat.le_trans Zs283 (Nat.le_of_eq g286.symm)
      have fsh286 : h0.size ≤ b286 := Nat.le_trans K283.1 (Nat.le_of_eq g286.symm)
      have K286 : Keep h0 h286 [] := K283.ext E286
      have Zs286 : n0 ≤ h286.size := Nat.le_trans Zs283 E286.1
      have hk286 : s.heap.size ≤ h286.size := Nat.le_trans hk283 E286.1
      have go288 := gap go285 st286
      have F289 := G283_0.ext E286
      have F290 : Fld Z h286 b286 "java/lang/String" "coder" "B" (.int 0) := D286 (Or.inr (hw _ (mi 32 rfl))) (ty := .byte) (by decide)
      have F291 : Fld Z h286 b286 "java/lang/String" "value" "[B" .null := D286 (Or.inr (hw _ (mi 34 rfl))) (ty := (.array .byte)) (by decide)
      have go292 : Go p.tables e below T286 (mkF m 111 (L0_45 p0 p1 p2 p3 b283) [(.ref b283), (.ref b286), (.ref b286)]) En := by
        intro t k
        refine go288 _ ?_
        refine XS.dup X286.here hx rfl (hb hby at_108) rfl rfl ?_
        refine XS.aload X286.here hx rfl (hb hby at_109) rfl rfl ?_
        exact k
      obtain ⟨_, T293, Lc293, X293, hQ293, st293⟩ := own_cb X286 hx hZ hown hml go292 (hb hby at_111) e286 (hw _ (mi 9 rfl)) (own_site647 hw) rfl (StrChars.Road.backV (W := 1) hZ (fun d hd => hw d (own_wds d hd)) (hw _ (mi 7 rfl)) (cs := [(97 : Int32), (112 : Int32), (112 : Int32), (108 : Int32), (105 : Int32), (99 : Int32), (97 : Int32), (116 : Int32), (105 : Int32), (111 : Int32), (110 : Int32), (83 : Int32), (99 : Int32), (111 : Int32), (112 : Int32)]) (bs := [(97 : Int32).toInt8.toInt32, (112 : Int32).toInt8.toInt32, (112 : Int32).toInt8.toInt32, (108 : Int32).toInt8.toInt32, (105 : Int32).toInt8.toInt32, (99 : Int32).toInt8.toInt32, (97 : Int32).toInt8.toInt32, (116 : Int32).toInt8.toInt32, (105 : Int32).toInt8.toInt32, (111 : Int32).toInt8.toInt32, (110 : Int32).toInt8.toInt32, (83 : Int32).toInt8.toInt32, (99 : Int32).toInt8.toInt32, (111 : Int32).toInt8.toInt32, (112 : Int32).toInt8.toInt32]) (n := 15) low286 Zs286 A286 F291 F290 F289 (own_sta_keep S_COMPACT_STRINGS K286 all0) hcs rfl rfl (by decide) (by decide) (List.forall_mem_cons.mpr ⟨by decide, (List.forall_mem_cons.mpr ⟨by decide, (List.forall_mem_cons.mpr ⟨by decide, (List.forall_mem_cons.mpr ⟨by decide, (List.forall_mem_cons.mpr ⟨by decide, (List.forall_mem_cons.mpr ⟨by decide, (List.forall_mem_cons.mpr ⟨by decide, (List.forall_mem_cons.mpr ⟨by decide, (List.forall_mem_cons.mpr ⟨by decide, (List.forall_mem_cons.mpr ⟨by decide, (List.forall_mem_cons.mpr ⟨by decide, (List.forall_mem_cons.mpr ⟨by decide, (List.forall_mem_cons.mpr ⟨by decide, (List.forall_mem_cons.mpr ⟨by decide, (List.forall_mem_cons.mpr ⟨by decide, (fun _ q => nomatch q)⟩)⟩)⟩)⟩)⟩)⟩)⟩)⟩)⟩)⟩)⟩)⟩)⟩)⟩)⟩) rfl (by decide) (by decide)) (by decide) (argsL := [(.ref b283)]) (rest := [(.ref b286)]) rfl rfl rfl (lenOf pd_640 rfl) rfl (by decide : 2 + 1 ≤ _) (by decide : 19 + 15 ≤ _)
      obtain ⟨rfl, N293q, K293q, GE293, GC293, bx293, kx293, lo293, fr293, nx293, GX293, GW293⟩ := hQ293
      have N293 := Fr.app N283 N293q
      have K293 : Keep h0 T293.heap [] := K286.trans K293q (allS (Or.inr fsh286) all0)
      have Zs293 : n0 ≤ T293.heap.size := Nat.le_trans Zs286 K293q.1
      have hk293 : s.heap.size ≤ T293.heap.size := Nat.le_trans hk286 K293q.1
      have F294 := F289.keep K293q (ninS ne287 nin0)
      have F295 := A286.keep K293q
      have GV293 : Arv Z T293.heap bx293 kx293 .byte (15 : Int32) [(.int (97 : Int32).toInt8.toInt32), (.int (112 : Int32).toInt8.toInt32), (.int (112 : Int32).toInt8.toInt32), (.int (108 : Int32).toInt8.toInt32), (.int (105 : Int32).toInt8.toInt32), (.int (99 : Int32).toInt8.toInt32), (.int (97 : Int32).toInt8.toInt32), (.int (116 : Int32).toInt8.toInt32), (.int (105 : Int32).toInt8.toInt32), (.int (111 : Int32).toInt8.toInt32), (.int (110 : Int32).toInt8.toInt32), (.int (83 : Int32).toInt8.toInt32), (.int (99 : Int32).toInt8.toInt32), (.int (111 : Int32).toInt8.toInt32), (.int (112 : Int32).toInt8.toInt32)] (.int 0) := GW293
      obtain ⟨_, _, ⟨T296, L296, k296, n296⟩, -, X296q, hS296q, hg296, ⟨Lc296, hQ296, l296, y296, z296⟩, st296⟩ := callSS X293 hx (y := (⟨"com/example/calycule/calycule/config/ModuleContext", "isImplicit", "(Ljava/lang/String;)Z"⟩ : MethodName)) hown (mvT hZ (hw _ (mi 35 rfl))) (mvT hZ (hw _ (mi 36 rfl))) (mvT hZ (hw _ (mi 37 rfl))) (mvT hZ (hw _ (mi 38 rfl))) (by decide) (own_backOfSI (W := 0) (rmia l Z aZ hw [] _ _ _ _ _ _ T293.heap T293.heap.size (Nat.le_refl _) GE293 GC293 GX293 GV293 (own_sta_keep S_COMPACT_STRINGS K293 all0) hcs (fun b cl q => K293.2.1 b cl (hkp b cl q) nin0) hcn62 hcn68 hcn69 hcw rfl (by decide) (by decide) (by decide)) hZ (hw _ (mi 38 rfl)) (hw _ (mi 37 rfl)) (by decide) (by decide) IB0) (g := (mkF m 114 (L0_45 p0 p1 p2 p3 b283) [(.ref b286)])) rfl (by rw [hml]; rfl) (argsL := [(.ref b286)]) (rest := []) (lenOf pd_641 rfl) rfl (by show 2 * 0 + _ ≤ _; exact Nat.le_of_eq rfl) (hb hby at_114) (fun _ _ => ⟨rfl, rfl, (by decide : 3 + 6 ≤ _), (by decide : 34 + 172 ≤ _)⟩)
      dsimp only [Pt.U, Pt.locs, Pt.cells, Pt.slots] at X296q hS296q hg296 l296 y296 z296 st296 hQ296
      subst l296 y296 z296
      have hk296q : s.heap.size ≤ T293.heap.size := hk293
      obtain ⟨X296, hS296, hZ296, hown296⟩ := rebS hS0 hk296q X296q hS296q hg296 hZ hown
      have hk296r : T296.heap.size ≤ T296.heap.size := Nat.le_refl _
      obtain ⟨rfl, N296q, K296q⟩ := hQ296
      have N296 := Fr.app N293 (own_frm Zs293 N296q)
      have K296 : Keep h0 T296.heap [] := K293.trans K296q all0
      have Zs296 : n0 ≤ T296.heap.size := Nat.le_trans Zs293 K296q.1
      have hk296 : s.heap.size ≤ T296.heap.size := Nat.le_trans hk293 K296q.1
      have F297 := F294.keep K296q nin0
      have F298 := GE293.keep K296q
      have F299 := GC293.keep K296q nin0
      have F300 := GX293.keep K296q nin0
      have F301 := GV293.keep K296q nin0
      have go302 := gapT st293 st296
      have go303 : Go p.tables e below T296 (mkF m 125 (L0_45 p0 p1 p2 p3 b283) [(.int 1)]) En := by
        intro t k
        refine go302 _ ?_
        refine XS.ifNo X296.here hx rfl (hb hby at_117) rfl (XT.i0_ne_f (by decide : ((0 : Int32) = (0 : Int32)))) ?_
        refine XS.iconst X296.here hx rfl (hb hby at_120) ?_
        refine XS.goto X296.here hx rfl (pc0 := 121) (pc' := 125) rfl (hb hby at_121) (by decide) (by decide) ?_
        show Steps _ _ _ (T296.setTop (mkF m 125 (L0_45 p0 p1 p2 p3 b283) [(.int 1)])) _
        exact k
      obtain ⟨fs, hr, hrun, hended, hRW⟩ := X296.leaveW hS296 (hk296r) (v := some (.int 1)) (fun h => by rw [Bd.returns] at h; cases h) Bd.notSynchronized
      subst hEn
      refine ⟨_, _, go303 _ (Jvm.RoadKit.retOut X296 hx Bd.returns rfl (Or.inl ⟨rfl, Or.inr (Or.inl rfl), _, rfl⟩) (hb hby at_125) hr), hrun, hended, _, _, rfl, ?_, hRW.1, hRW.2.1, hRW.2.2.1, hRW.2.2.2.mono (by decide) (by decide)⟩
      show Q0 _ _ p0 p1 p2 p3 s_COMPACT_STRINGS h0 _ (T296.setFrames fs).heap _
      have hE : (T296.setFrames fs).heap = T296.heap := rfl
      rw [hE]
      exact ⟨congrArg (fun z => some (Value.int z)) ((by rw [f0, if_neg hs2, if_neg hs29, if_neg hs145, if_pos hs229, if_neg hs232, if_neg hs256, if_pos hs280] : (1 : Int32) = (f0 p0 p3)).trans (f0_one p0 p3)), N296⟩
    exact (own_dead3m p0 hs232 hs256 hs280).elim
  exact (own_dead4 p3 hs2 hs29 hs145 hs229).elim
set_option maxRecDepth 65536 in
set_option maxHeartbeats 40000000 in
theorem comes_1 {Post : Tables → Env → Array Value → State → Outcome → State → Prop} (hpost : ∀ tb e args s v u, (limb_1_1.after args s (.returned v) u = true ∧ limb_1_2.after args s (.returned v) u = true ∧ True) → ReturnedEndW s (.returned v) u (Jvm.fieldLocs frame_1_writes args s ++ Jvm.arrayLocs frame_1_arrays args s ++ Jvm.staticLocs frame_1_statics s) 24 4288 → Post tb e args s (.returned v) u) :
    ArmFor flags0 classFile x code maxLocals ret World_1 tables_1 room_1 Calls_1 rest_1 Pre_1 Post := by
  intro l hfl _ _ p e ha hc hk s m args below hf hA hF happ hP
  obtain ⟨hcalls, hrest, hpre⟩ := hP
  obtain ⟨-, -, -, hnamed, -, -, -, hat⟩ := (Spec.applies_iff hf).mp happ
  obtain ⟨hg, hn⟩ := and_e (Cond.before_iff.mp (show (Jvm.Cond.and given_1 narrow_1).before args s = true from hpre))
  obtain ⟨hcount, hg1⟩ := and_e hg
  obtain ⟨ha0, hb0⟩ := and_e hg1
  obtain ⟨ha1, hb1⟩ := and_e hb0
  obtain ⟨ha2, hb2⟩ := and_e hb1
  obtain ⟨w0, w1, w2, w3, rfl⟩ : ∃ w0 w1 w2 w3 : Value, args = #[w0, w1, w2, w3] := by
    have hs : args.size = 4 := by simpa [Cond.value, given_1] using hcount
    obtain ⟨L⟩ := args
    match L, hs with
    | [w0, w1, w2, w3], _ => exact ⟨w0, w1, w2, w3, rfl⟩
  have hw := fun d (hd : d ∈ tables_1) => atoms_spec (ws := Jvm.Cond.code x code maxLocals ret :: tables_1) hat d (List.mem_cons_of_mem _ hd)
  have hfit : Fit s := fun {y c} hc i hi => by
    obtain ⟨ha, rfl⟩ := Array.getElem?_eq_some_iff.mp hc
    have q := List.all_eq_true.mp ((Array.all_eq_true_iff_forall_mem.mp hF) _ (Array.getElem_mem ha)) i (List.mem_range.mpr hi)
    simpa [Array.getElem?_eq_getElem hi] using q
  obtain ⟨hsets, hown0⟩ := atoms_of _ (rest_1_c_eq ▸ (show rest_1_c.before _ s = true from hrest))
  have hr0 := Cond.before_iff.mp hown0
  obtain ⟨i0, ei0⟩ := is_v ha0
  obtain rfl : w0 = (.int i0) := Option.some.inj ei0
  obtain ⟨i1, ei1⟩ := is_v ha1
  obtain rfl : w1 = (.int i1) := Option.some.inj ei1
  obtain ⟨i2, ei2⟩ := is_v ha2
  obtain rfl : w2 = (.int i2) := Option.some.inj ei2
  obtain ⟨i3, ei3⟩ := is_v hb2
  obtain rfl : w3 = (.int i3) := Option.some.inj ei3
  obtain ⟨cs, ecs⟩ := is_v (Cond.before_iff.mp (hsets _ (List.mem_of_getElem? (i := 1) rfl)))
  have S_COMPACT_STRINGS : Sta s s.heap "java/lang/String" "COMPACT_STRINGS" "Z" (.int cs) := Sta.start ecs (Or.inl (hsets _ (List.mem_of_getElem? (i := 0) rfl)))
  have hcs : ¬ cs = (0 : Int32) := fun q => by subst q; have z := not_v (Cond.before_iff.mp (hsets _ (List.mem_of_getElem? (i := 2) rfl))); rw [eq_i ecs (Term.int_eval (0 : Int32)) rfl] at z; cases z
  have hkp : ∀ (b : Addr) (cl : Cell), s.heap[b]? = some cl → s.heap[b]? = some cl := fun _ _ q => q
  have hcw : Jvm.Lit.compactW.before _ s = true := hsets _ (List.mem_of_getElem? (i := 2) rfl)
  have hcn62 : Jvm.Lit.constHeld s "com/example/calycule/calycule/config/ModuleContext" 62 := hcalls.1 ("com/example/calycule/calycule/config/ModuleContext", 62) (by simp [consts_1])
  have hcn68 : Jvm.Lit.constHeld s "com/example/calycule/calycule/config/ModuleContext" 68 := hcalls.1 ("com/example/calycule/calycule/config/ModuleContext", 68) (by simp [consts_1])
  have hcn69 : Jvm.Lit.constHeld s "com/example/calycule/calycule/config/ModuleContext" 69 := hcalls.1 ("com/example/calycule/calycule/config/ModuleContext", 69) (by simp [consts_1])
  have hcn7 : Jvm.Lit.constHeld s "java/lang/String" 7 := hcalls.1 ("java/lang/String", 7) (by simp [consts_1])
  obtain ⟨n, o, h1, h2, h3, _, L, rfl, ⟨rfl, N⟩, hq⟩ := rm0 l s _ hw tables_1 i0 i1 i2 i3 cs s.heap s.heap.size (Nat.le_refl _) hkp hcn62 hcn68 hcn69 hcn7 hcw S_COMPACT_STRINGS hcs p e ha hc hk s m _ below hf ((Spec.applies_iff_loose hf).mp happ).1 ⟨rfl, State.Warmed39.refl s, rfl, IB.start⟩ trivial
  refine ⟨n, _, h1, h2, h3, hpost _ _ _ _ _ _ ⟨Cond.after_iff.mpr rfl, Cond.after_iff.mpr (eq_i res_at (Term.int_eval (1)) rfl), trivial⟩ ⟨hq.1, hq.2.1, hq.2.2.1, (hq.2.2.2.sift fun y hy => Or.inr (N y hy)).mono (by decide) (by decide)⟩⟩
theorem main_1_1 : Claimed_1_1 := comes_1 fun _ _ _ _ _ _ h hF => ⟨h.1, hF⟩
theorem main_1_2 : Claimed_1_2 := comes_1 fun _ _ _ _ _ _ h hF => ⟨h.2.1, hF⟩
end Jvm.Pilot.@@N@@
namespace Jvm.Pilot.@@N@@
open Jvm Jvm.ClassFile Sem Op Lib Jvm.Free Jvm.Stand Jvm.Pilot.@@N@@.Jvm.D
/-! MADE BY PROGRAM (witnessworld.py) out of the Statement's table words and the real class files: 20 classes; the members and pool entries that the words name. The judged class is class 1, her method 2. -/
namespace start1
open Jvm.ClassFile
def u (s : String) : CpInfo := .utf8 (stringToUtf16 s)
/-- a pool by its gaps: so many unusable entries, then the entry; so many at the end -/
def gap : Nat → List CpInfo → List CpInfo
  | 0, r => r
  | n + 1, r => .unusable :: gap n r
def poolList (es : List (Nat × CpInfo)) (last : Nat) : List CpInfo := es.foldr (fun e r => gap e.1 (e.2 :: r)) (gap last [])
def pool (es : List (Nat × CpInfo)) (last : Nat) : Array CpInfo := ⟨poolList es last⟩
def fileOf (pool : Array CpInfo) (this : Nat) (attrs : Array Attribute := #[]) (ms : Array MethodInfo := #[]) (fl : Nat := 33) (sup : Nat := 0) (ifs : Array Nat := #[]) (fds : Array FieldInfo := #[]) : ClassFile where
  minorVersion := 0
  majorVersion := 65
  constantPool := pool
  accessFlags := fl
  thisClass := this
  superClass := sup
  interfaces := ifs
  fields := fds
  methods := ms
  attributes := attrs
def plain (name : String) (sup : Option ClassId) : Class where
  name := name
  kind := .ordinary
  loader := none
  accessFlags := 33
  super := sup
  interfaces := #[]
  cf := none
  fields := #[]
  methods := #[]
  instanceTypes := #[]
  staticTypes := #[]
  resolved := #[]
  callSites := []
  init := .initialized
  statics := none
  mirror := none

def pool0 : Array CpInfo := pool [(5, u "<init>"), (0, u "()V"), (1, .class_ 10), (1, u "java/lang/Object")] 113

def k0c0 : Code := { maxStack := 0, maxLocals := 1, code := object_method_1_code, exceptionTable := #[], attributes := #[] }
def k0m0 : Method := { name := "<init>", desc := "()V", sig := { parameters := [], returnType := none }, accessFlags := 1, code := some k0c0 }
/-- java/lang/Object -/
def k0 : Class := { plain "java/lang/Object" none with
  accessFlags := 33
  interfaces := #[]
  cf := some (fileOf pool0 8 #[] #[{ accessFlags := 1, nameIndex := 5, descriptorIndex := 6, attributes := #[] }] 33 0 #[] #[])
  fields := #[]
  methods := #[k0m0]
  instanceTypes := #[]
  staticTypes := #[]
  resolved := Array.replicate 124 none
  statics := none }

def pool1 : Array CpInfo := pool [(2, .class_ 4), (1, u "java/lang/Object"), (0, u "<init>"), (0, u "()V"), (0, .integer 2147483647), (0, .class_ 9), (0, u "java/lang/String"), (0, .methodref 8 11), (0, .nameAndType 5 12), (0, u "([C)V"), (0, .methodref 14 15), (0, .class_ 16), (0, .nameAndType 17 18), (0, u "com/example/calycule/calycule/config/ModuleContext"), (0, u "isImplicit"), (0, u "(Ljava/lang/String;)Z"), (0, .methodref 20 21), (0, .class_ 22), (0, .nameAndType 23 24), (0, u "com/example/calycule/calycule/config/ModuleContextIsImplicitPinLaw"), (0, u "name"), (0, u "(II)[C"), (3, u "law"), (0, u "(IIII)Z")] 4

def k1m0 : Method := { name := "<init>", desc := "()V", sig := { parameters := [], returnType := none }, accessFlags := 1, code := none }
def k1c1 : Code := { maxStack := 4, maxLocals := 2, code := method_2_code, exceptionTable := #[], attributes := #[] }
def k1m1 : Method := { name := "name", desc := "(II)[C", sig := { parameters := [.int, .int], returnType := some (.array .char) }, accessFlags := 10, code := some k1c1 }
def k1c2 : Code := { maxStack := 3, maxLocals := 12, code := code, exceptionTable := #[], attributes := #[] }
def k1m2 : Method := { name := "law", desc := "(IIII)Z", sig := { parameters := [.int, .int, .int, .int], returnType := some .boolean }, accessFlags := 9, code := some k1c2 }
/-- com/example/calycule/calycule/config/ModuleContextIsImplicitPinLaw -/
def k1 : Class := { plain "com/example/calycule/calycule/config/ModuleContextIsImplicitPinLaw" (some 0) with
  accessFlags := 49
  interfaces := #[]
  cf := some (fileOf pool1 20 #[] #[{ accessFlags := 1, nameIndex := 5, descriptorIndex := 6, attributes := #[] }, { accessFlags := 10, nameIndex := 23, descriptorIndex := 24, attributes := #[] }, { accessFlags := 9, nameIndex := 28, descriptorIndex := 29, attributes := #[] }] 49 2 #[] #[])
  fields := #[]
  methods := #[k1m0, k1m1, k1m2]
  instanceTypes := #[]
  staticTypes := #[]
  resolved := Array.replicate 34 none
  statics := none }

def pool2 : Array CpInfo := pool [(1, .class_ 2), (0, u "java/io/Serializable"), (0, .class_ 4), (0, u "java/lang/Object")] 2

/-- java/io/Serializable -/
def k2 : Class := { plain "java/io/Serializable" (some 0) with
  accessFlags := 1537
  interfaces := #[]
  cf := some (fileOf pool2 1 #[] #[] 1537 3 #[] #[])
  fields := #[]
  methods := #[]
  instanceTypes := #[]
  staticTypes := #[]
  resolved := Array.replicate 7 none
  statics := none }

def pool3 : Array CpInfo := pool [(1, .class_ 2), (0, u "java/lang/Comparable"), (0, .class_ 4), (0, u "java/lang/Object")] 7

/-- java/lang/Comparable -/
def k3 : Class := { plain "java/lang/Comparable" (some 0) with
  accessFlags := 1537
  interfaces := #[]
  cf := some (fileOf pool3 1 #[] #[] 1537 3 #[] #[])
  fields := #[]
  methods := #[]
  instanceTypes := #[]
  staticTypes := #[]
  resolved := Array.replicate 12 none
  statics := none }

def pool4 : Array CpInfo := pool [(2, .class_ 4), (1, u "java/lang/CharSequence"), (42, .class_ 48), (0, u "java/lang/CharSequence$1CodePointIterator"), (10, .class_ 60), (0, u "java/lang/CharSequence$1CharIterator"), (5, .class_ 67), (0, u "java/lang/Object")] 63

/-- java/lang/CharSequence -/
def k4 : Class := { plain "java/lang/CharSequence" (some 0) with
  accessFlags := 1537
  interfaces := #[]
  cf := some (fileOf pool4 2 #[.nestMembers #[47, 59]] #[] 1537 66 #[] #[])
  fields := #[]
  methods := #[]
  instanceTypes := #[]
  staticTypes := #[]
  resolved := Array.replicate 131 none
  statics := none }

def pool5 : Array CpInfo := pool [(1, .class_ 2), (0, u "java/lang/constant/Constable"), (0, .class_ 4), (0, u "java/lang/Object")] 6

/-- java/lang/constant/Constable -/
def k5 : Class := { plain "java/lang/constant/Constable" (some 0) with
  accessFlags := 1537
  interfaces := #[]
  cf := some (fileOf pool5 1 #[] #[] 1537 3 #[] #[])
  fields := #[]
  methods := #[]
  instanceTypes := #[]
  staticTypes := #[]
  resolved := Array.replicate 11 none
  statics := none }

def pool6 : Array CpInfo := pool [(1, .class_ 2), (0, u "java/lang/constant/ConstantDesc"), (0, .class_ 4), (0, u "java/lang/Object")] 32

/-- java/lang/constant/ConstantDesc -/
def k6 : Class := { plain "java/lang/constant/ConstantDesc" (some 0) with
  accessFlags := 1537
  interfaces := #[]
  cf := some (fileOf pool6 1 #[] #[] 1537 3 #[] #[])
  fields := #[]
  methods := #[]
  instanceTypes := #[]
  staticTypes := #[]
  resolved := Array.replicate 37 none
  statics := none }

def pool7 : Array CpInfo := pool [(1, .methodref 2 3), (0, .class_ 4), (0, .nameAndType 5 6), (0, u "java/lang/Object"), (0, u "<init>"), (0, u "()V"), (0, .string 8), (0, u ""), (0, .fieldref 10 11), (0, .class_ 12), (0, .nameAndType 13 14), (0, u "java/lang/String"), (0, u "value"), (0, u "[B"), (0, .fieldref 10 16), (0, .nameAndType 17 18), (0, u "coder"), (0, u "B"), (2, u "hash"), (0, u "I"), (2, u "hashIsZero"), (0, u "Z"), (0, .methodref 10 28), (0, .nameAndType 5 29), (0, u "([CIILjava/lang/Void;)V"), (8, .fieldref 10 39), (0, .nameAndType 40 26), (0, u "COMPACT_STRINGS"), (1, .class_ 44), (1, u "java/lang/StringUTF16"), (0, u "compress"), (1, .methodref 42 48), (0, .nameAndType 49 50), (0, u "coderFromArrayLen"), (0, u "([BI)B"), (56, .class_ 109), (1, u "java/lang/StringLatin1"), (67, .methodref 42 178), (0, .nameAndType 45 179), (0, u "([CII)[B"), (361, .methodref 107 542), (0, .nameAndType 543 544), (0, u "equals"), (0, u "([B[B)Z"), (28, u "(Ljava/lang/Object;)Z"), (1, .class_ 576), (0, u "java/lang/CharSequence"), (22, u "CASE_INSENSITIVE_ORDER"), (0, u "Ljava/util/Comparator;"), (409, u "([C)V"), (90, u "serialPersistentFields"), (0, u "[Ljava/io/ObjectStreamField;"), (0, .class_ 1104), (0, u "java/lang/String$CaseInsensitiveComparator"), (1, .class_ 1107), (0, u "java/io/Serializable"), (0, .class_ 1109), (0, u "java/lang/Comparable"), (0, .class_ 1111), (0, u "java/lang/constant/Constable"), (0, .class_ 1113), (0, u "java/lang/constant/ConstantDesc"), (2, u "serialVersionUID"), (0, u "J"), (3, u "REPL"), (0, u "C"), (2, u "LATIN1"), (1, u "UTF16")] 323

def k7m0 : Method := { name := "<init>", desc := "()V", sig := { parameters := [], returnType := none }, accessFlags := 1, code := none }
def k7c1 : Code := { maxStack := 5, maxLocals := 2, code := jdk_42_method_3_code, exceptionTable := #[], attributes := #[] }
def k7m1 : Method := { name := "<init>", desc := "([C)V", sig := { parameters := [(.array .char)], returnType := none }, accessFlags := 1, code := some k7c1 }
def k7c2 : Code := { maxStack := 2, maxLocals := 3, code := jdk_42_method_66_code, exceptionTable := #[], attributes := #[] }
def k7m2 : Method := { name := "equals", desc := "(Ljava/lang/Object;)Z", sig := { parameters := [(.object "java/lang/Object")], returnType := some .boolean }, accessFlags := 1, code := some k7c2 }
def k7c3 : Code := { maxStack := 4, maxLocals := 6, code := jdk_42_method_149_code, exceptionTable := #[], attributes := #[] }
def k7m3 : Method := { name := "<init>", desc := "([CIILjava/lang/Void;)V", sig := { parameters := [(.array .char), .int, .int, (.object "java/lang/Void")], returnType := none }, accessFlags := 2, code := some k7c3 }
/-- java/lang/String -/
def k7 : Class := { plain "java/lang/String" (some 0) with
  accessFlags := 49
  interfaces := #[2, 3, 4, 5, 6]
  cf := some (fileOf pool7 10 #[.nestMembers #[1103]] #[{ accessFlags := 1, nameIndex := 5, descriptorIndex := 6, attributes := #[] }, { accessFlags := 1, nameIndex := 5, descriptorIndex := 1010, attributes := #[] }, { accessFlags := 1, nameIndex := 543, descriptorIndex := 573, attributes := #[] }, { accessFlags := 2, nameIndex := 5, descriptorIndex := 29, attributes := #[] }] 49 2 #[1106, 1108, 575, 1110, 1112] #[{ accessFlags := 18, nameIndex := 13, descriptorIndex := 14, attributes := #[] }, { accessFlags := 18, nameIndex := 17, descriptorIndex := 18, attributes := #[] }, { accessFlags := 2, nameIndex := 21, descriptorIndex := 22, attributes := #[] }, { accessFlags := 2, nameIndex := 25, descriptorIndex := 26, attributes := #[] }, { accessFlags := 26, nameIndex := 1116, descriptorIndex := 1117, attributes := #[] }, { accessFlags := 24, nameIndex := 40, descriptorIndex := 26, attributes := #[] }, { accessFlags := 26, nameIndex := 1101, descriptorIndex := 1102, attributes := #[] }, { accessFlags := 26, nameIndex := 1121, descriptorIndex := 1122, attributes := #[] }, { accessFlags := 25, nameIndex := 599, descriptorIndex := 600, attributes := #[] }, { accessFlags := 24, nameIndex := 1125, descriptorIndex := 18, attributes := #[] }, { accessFlags := 24, nameIndex := 1127, descriptorIndex := 18, attributes := #[] }])
  fields := #[{ name := "value", type := (.array .byte), accessFlags := 18, slot := 0, constantValue := 0 }, { name := "coder", type := .byte, accessFlags := 18, slot := 1, constantValue := 0 }, { name := "hash", type := .int, accessFlags := 2, slot := 2, constantValue := 0 }, { name := "hashIsZero", type := .boolean, accessFlags := 2, slot := 3, constantValue := 0 }, { name := "serialVersionUID", type := .long, accessFlags := 26, slot := 0, constantValue := 0 }, { name := "COMPACT_STRINGS", type := .boolean, accessFlags := 24, slot := 1, constantValue := 0 }, { name := "serialPersistentFields", type := (.array (.object "java/io/ObjectStreamField")), accessFlags := 26, slot := 2, constantValue := 0 }, { name := "REPL", type := .char, accessFlags := 26, slot := 3, constantValue := 0 }, { name := "CASE_INSENSITIVE_ORDER", type := (.object "java/util/Comparator"), accessFlags := 25, slot := 4, constantValue := 0 }, { name := "LATIN1", type := .byte, accessFlags := 24, slot := 5, constantValue := 0 }, { name := "UTF16", type := .byte, accessFlags := 24, slot := 6, constantValue := 0 }]
  methods := #[k7m0, k7m1, k7m2, k7m3]
  instanceTypes := #[(.array .byte), .byte, .int, .boolean]
  staticTypes := #[.long, .boolean, (.array (.object "java/io/ObjectStreamField")), .char, (.object "java/util/Comparator"), .byte, .byte]
  resolved := Array.replicate 1451 none
  statics := some 0 }

def pool8 : Array CpInfo := pool [(6, .class_ 8), (1, u "java/lang/Object"), (0, u "<init>"), (0, u "()V"), (1, .class_ 14), (1, u "java/lang/StringUTF16"), (31, u "$assertionsDisabled"), (0, u "Z"), (13, u "HI_BYTE_SHIFT"), (0, u "I"), (2, u "LO_BYTE_SHIFT"), (49, .methodref 12 116), (0, .nameAndType 117 118), (0, u "compress"), (0, u "([CI[BII)I"), (3, u "([CII)[B"), (138, u "coderFromArrayLen"), (0, u "([BI)B"), (106, .class_ 371), (1, u "java/lang/StringUTF16$LinesSpliterator"), (58, u "MAX_LENGTH"), (196, .class_ 628), (0, u "java/lang/StringUTF16$CodePointsSpliterator"), (0, .class_ 630), (0, u "java/lang/StringUTF16$CharsSpliterator")] 4

def k8m0 : Method := { name := "<init>", desc := "()V", sig := { parameters := [], returnType := none }, accessFlags := 0, code := none }
def k8c1 : Code := { maxStack := 2, maxLocals := 2, code := jdk_52_method_15_code, exceptionTable := #[], attributes := #[] }
def k8m1 : Method := { name := "coderFromArrayLen", desc := "([BI)B", sig := { parameters := [(.array .byte), .int], returnType := some .byte }, accessFlags := 8, code := some k8c1 }
def k8c2 : Code := { maxStack := 5, maxLocals := 6, code := jdk_52_method_16_code, exceptionTable := #[], attributes := #[] }
def k8m2 : Method := { name := "compress", desc := "([CII)[B", sig := { parameters := [(.array .char), .int, .int], returnType := some (.array .byte) }, accessFlags := 9, code := some k8c2 }
def k8c3 : Code := { maxStack := 3, maxLocals := 7, code := jdk_52_method_21_code, exceptionTable := #[], attributes := #[] }
def k8m3 : Method := { name := "compress", desc := "([CI[BII)I", sig := { parameters := [(.array .char), .int, (.array .byte), .int, .int], returnType := some .int }, accessFlags := 9, code := some k8c3 }
/-- java/lang/StringUTF16 -/
def k8 : Class := { plain "java/lang/StringUTF16" (some 0) with
  accessFlags := 48
  interfaces := #[]
  cf := some (fileOf pool8 12 #[.nestMembers #[627, 629, 369]] #[{ accessFlags := 0, nameIndex := 9, descriptorIndex := 10, attributes := #[] }, { accessFlags := 8, nameIndex := 261, descriptorIndex := 262, attributes := #[] }, { accessFlags := 9, nameIndex := 117, descriptorIndex := 122, attributes := #[] }, { accessFlags := 9, nameIndex := 117, descriptorIndex := 118, attributes := #[] }] 48 6 #[] #[{ accessFlags := 26, nameIndex := 61, descriptorIndex := 62, attributes := #[] }, { accessFlags := 26, nameIndex := 65, descriptorIndex := 62, attributes := #[] }, { accessFlags := 24, nameIndex := 430, descriptorIndex := 62, attributes := #[] }, { accessFlags := 4120, nameIndex := 46, descriptorIndex := 47, attributes := #[] }])
  fields := #[{ name := "HI_BYTE_SHIFT", type := .int, accessFlags := 26, slot := 0, constantValue := 0 }, { name := "LO_BYTE_SHIFT", type := .int, accessFlags := 26, slot := 1, constantValue := 0 }, { name := "MAX_LENGTH", type := .int, accessFlags := 24, slot := 2, constantValue := 0 }, { name := "$assertionsDisabled", type := .boolean, accessFlags := 4120, slot := 3, constantValue := 0 }]
  methods := #[k8m0, k8m1, k8m2, k8m3]
  instanceTypes := #[]
  staticTypes := #[.int, .int, .int, .boolean]
  resolved := Array.replicate 635 none
  statics := none }

def pool9 : Array CpInfo := pool [(2, .class_ 4), (1, u "java/lang/Object"), (6, .class_ 13), (1, u "com/example/calycule/calycule/config/ModuleContext"), (0, u "moduleScope"), (0, u "Ljava/util/Map;"), (6, .class_ 23), (0, u "java/lang/String"), (2, u "name"), (0, u "Ljava/lang/String;"), (8, u "initParameters"), (2, u "applicationScope"), (4, u "paths"), (0, u "Ljava/util/function/UnaryOperator;"), (16, .string 63), (0, u "moduleContext"), (0, .methodref 22 65), (0, .nameAndType 66 67), (0, u "equals"), (0, u "(Ljava/lang/Object;)Z"), (0, .string 14), (0, .string 39), (21, u "isImplicit"), (0, u "(Ljava/lang/String;)Z")] 25

def k9c0 : Code := { maxStack := 2, maxLocals := 1, code := prog_17_method_8_code, exceptionTable := #[], attributes := #[] }
def k9m0 : Method := { name := "isImplicit", desc := "(Ljava/lang/String;)Z", sig := { parameters := [(.object "java/lang/String")], returnType := some .boolean }, accessFlags := 8, code := some k9c0 }
/-- com/example/calycule/calycule/config/ModuleContext -/
def k9 : Class := { plain "com/example/calycule/calycule/config/ModuleContext" (some 0) with
  accessFlags := 49
  interfaces := #[]
  cf := some (fileOf pool9 11 #[] #[{ accessFlags := 8, nameIndex := 91, descriptorIndex := 92, attributes := #[] }] 49 2 #[] #[{ accessFlags := 18, nameIndex := 26, descriptorIndex := 27, attributes := #[] }, { accessFlags := 18, nameIndex := 36, descriptorIndex := 15, attributes := #[] }, { accessFlags := 18, nameIndex := 14, descriptorIndex := 15, attributes := #[] }, { accessFlags := 18, nameIndex := 39, descriptorIndex := 15, attributes := #[] }, { accessFlags := 18, nameIndex := 44, descriptorIndex := 45, attributes := #[] }])
  fields := #[{ name := "name", type := (.object "java/lang/String"), accessFlags := 18, slot := 0, constantValue := 0 }, { name := "initParameters", type := (.object "java/util/Map"), accessFlags := 18, slot := 1, constantValue := 0 }, { name := "moduleScope", type := (.object "java/util/Map"), accessFlags := 18, slot := 2, constantValue := 0 }, { name := "applicationScope", type := (.object "java/util/Map"), accessFlags := 18, slot := 3, constantValue := 0 }, { name := "paths", type := (.object "java/util/function/UnaryOperator"), accessFlags := 18, slot := 4, constantValue := 0 }]
  methods := #[k9m0]
  instanceTypes := #[(.object "java/lang/String"), (.object "java/util/Map"), (.object "java/util/Map"), (.object "java/util/Map"), (.object "java/util/function/UnaryOperator")]
  staticTypes := #[]
  resolved := Array.replicate 118 none
  statics := none }

def pool10 : Array CpInfo := pool [(4, .class_ 6), (1, u "java/lang/Object"), (0, u "<init>"), (0, u "()V"), (5, .class_ 16), (1, u "java/lang/StringLatin1"), (104, u "$assertionsDisabled"), (0, u "Z"), (98, .class_ 223), (1, u "java/lang/StringLatin1$LinesSpliterator"), (57, u "equals"), (0, u "([B[B)Z"), (107, .class_ 391), (0, u "java/lang/StringLatin1$CharsSpliterator")] 3

def k10m0 : Method := { name := "<init>", desc := "()V", sig := { parameters := [], returnType := none }, accessFlags := 0, code := none }
def k10c1 : Code := { maxStack := 3, maxLocals := 3, code := jdk_43_method_13_code, exceptionTable := #[], attributes := #[] }
def k10m1 : Method := { name := "equals", desc := "([B[B)Z", sig := { parameters := [(.array .byte), (.array .byte)], returnType := some .boolean }, accessFlags := 9, code := some k10c1 }
/-- java/lang/StringLatin1 -/
def k10 : Class := { plain "java/lang/StringLatin1" (some 0) with
  accessFlags := 48
  interfaces := #[]
  cf := some (fileOf pool10 14 #[.nestMembers #[390, 221]] #[{ accessFlags := 0, nameIndex := 7, descriptorIndex := 8, attributes := #[] }, { accessFlags := 9, nameIndex := 281, descriptorIndex := 282, attributes := #[] }] 48 4 #[] #[{ accessFlags := 4120, nameIndex := 121, descriptorIndex := 122, attributes := #[] }])
  fields := #[{ name := "$assertionsDisabled", type := .boolean, accessFlags := 4120, slot := 0, constantValue := 0 }]
  methods := #[k10m0, k10m1]
  instanceTypes := #[]
  staticTypes := #[.boolean]
  resolved := Array.replicate 395 none
  statics := none }

def pool11 : Array CpInfo := pool [(2, .class_ 4), (1, u "java/lang/Object"), (0, u "<init>"), (0, u "()V"), (17, .class_ 26), (1, u "jdk/internal/util/Preconditions"), (28, .class_ 56), (0, u "jdk/internal/util/Preconditions$4"), (57, .class_ 115), (0, u "jdk/internal/util/Preconditions$1"), (7, u "SIOOBE_FORMATTER"), (0, u "Ljava/util/function/BiFunction;"), (0, .class_ 126), (0, u "jdk/internal/util/Preconditions$2"), (3, u "AIOOBE_FORMATTER"), (0, .class_ 132), (0, u "jdk/internal/util/Preconditions$3"), (3, u "IOOBE_FORMATTER")] 57

def k11m0 : Method := { name := "<init>", desc := "()V", sig := { parameters := [], returnType := none }, accessFlags := 1, code := none }
/-- jdk/internal/util/Preconditions -/
def k11 : Class := { plain "jdk/internal/util/Preconditions" (some 0) with
  accessFlags := 33
  interfaces := #[]
  cf := some (fileOf pool11 24 #[.nestMembers #[55, 131, 125, 114]] #[{ accessFlags := 1, nameIndex := 5, descriptorIndex := 6, attributes := #[] }] 33 2 #[] #[{ accessFlags := 25, nameIndex := 123, descriptorIndex := 124, attributes := #[] }, { accessFlags := 25, nameIndex := 130, descriptorIndex := 124, attributes := #[] }, { accessFlags := 25, nameIndex := 136, descriptorIndex := 124, attributes := #[] }])
  fields := #[{ name := "SIOOBE_FORMATTER", type := (.object "java/util/function/BiFunction"), accessFlags := 25, slot := 0, constantValue := 0 }, { name := "AIOOBE_FORMATTER", type := (.object "java/util/function/BiFunction"), accessFlags := 25, slot := 1, constantValue := 0 }, { name := "IOOBE_FORMATTER", type := (.object "java/util/function/BiFunction"), accessFlags := 25, slot := 2, constantValue := 0 }]
  methods := #[k11m0]
  instanceTypes := #[]
  staticTypes := #[(.object "java/util/function/BiFunction"), (.object "java/util/function/BiFunction"), (.object "java/util/function/BiFunction")]
  resolved := Array.replicate 194 none
  statics := some 1 }

def pool12 : Array CpInfo := pool [(9, u "<init>"), (6, .class_ 18), (1, u "java/lang/Object"), (0, u "()V"), (1, .class_ 23), (1, u "jdk/internal/util/ArraysSupport"), (0, u "LOG2_ARRAY_LONG_INDEX_SCALE"), (0, u "I"), (2, u "U"), (0, u "Ljdk/internal/misc/Unsafe;"), (8, u "BIG_ENDIAN"), (0, u "Z"), (8, u "LOG2_BYTE_BIT_SIZE"), (4, u "LOG2_ARRAY_INT_INDEX_SCALE"), (54, u "JLA"), (0, u "Ljdk/internal/access/JavaLangAccess;"), (11, u "LOG2_ARRAY_BOOLEAN_INDEX_SCALE"), (9, u "LOG2_ARRAY_BYTE_INDEX_SCALE"), (5, u "LOG2_ARRAY_CHAR_INDEX_SCALE"), (5, u "LOG2_ARRAY_SHORT_INDEX_SCALE"), (18, u "LOG2_ARRAY_FLOAT_INDEX_SCALE"), (24, u "LOG2_ARRAY_DOUBLE_INDEX_SCALE"), (89, u "T_BOOLEAN"), (2, u "T_CHAR"), (1, u "T_FLOAT"), (1, u "T_DOUBLE"), (1, u "T_BYTE"), (1, u "T_SHORT"), (1, u "T_INT"), (1, u "T_LONG"), (1, u "SOFT_MAX_ARRAY_LENGTH")] 83

def k12m0 : Method := { name := "<init>", desc := "()V", sig := { parameters := [], returnType := none }, accessFlags := 2, code := none }
/-- jdk/internal/util/ArraysSupport -/
def k12 : Class := { plain "jdk/internal/util/ArraysSupport" (some 0) with
  accessFlags := 33
  interfaces := #[]
  cf := some (fileOf pool12 21 #[] #[{ accessFlags := 2, nameIndex := 9, descriptorIndex := 19, attributes := #[] }] 33 16 #[] #[{ accessFlags := 24, nameIndex := 28, descriptorIndex := 29, attributes := #[] }, { accessFlags := 26, nameIndex := 38, descriptorIndex := 39, attributes := #[] }, { accessFlags := 25, nameIndex := 121, descriptorIndex := 25, attributes := #[] }, { accessFlags := 25, nameIndex := 131, descriptorIndex := 25, attributes := #[] }, { accessFlags := 25, nameIndex := 137, descriptorIndex := 25, attributes := #[] }, { accessFlags := 25, nameIndex := 143, descriptorIndex := 25, attributes := #[] }, { accessFlags := 25, nameIndex := 53, descriptorIndex := 25, attributes := #[] }, { accessFlags := 25, nameIndex := 24, descriptorIndex := 25, attributes := #[] }, { accessFlags := 25, nameIndex := 162, descriptorIndex := 25, attributes := #[] }, { accessFlags := 25, nameIndex := 187, descriptorIndex := 25, attributes := #[] }, { accessFlags := 26, nameIndex := 48, descriptorIndex := 25, attributes := #[] }, { accessFlags := 25, nameIndex := 277, descriptorIndex := 25, attributes := #[] }, { accessFlags := 25, nameIndex := 280, descriptorIndex := 25, attributes := #[] }, { accessFlags := 25, nameIndex := 282, descriptorIndex := 25, attributes := #[] }, { accessFlags := 25, nameIndex := 284, descriptorIndex := 25, attributes := #[] }, { accessFlags := 25, nameIndex := 286, descriptorIndex := 25, attributes := #[] }, { accessFlags := 25, nameIndex := 288, descriptorIndex := 25, attributes := #[] }, { accessFlags := 25, nameIndex := 290, descriptorIndex := 25, attributes := #[] }, { accessFlags := 25, nameIndex := 292, descriptorIndex := 25, attributes := #[] }, { accessFlags := 26, nameIndex := 108, descriptorIndex := 109, attributes := #[] }, { accessFlags := 25, nameIndex := 294, descriptorIndex := 25, attributes := #[] }])
  fields := #[{ name := "U", type := (.object "jdk/internal/misc/Unsafe"), accessFlags := 24, slot := 0, constantValue := 0 }, { name := "BIG_ENDIAN", type := .boolean, accessFlags := 26, slot := 1, constantValue := 0 }, { name := "LOG2_ARRAY_BOOLEAN_INDEX_SCALE", type := .int, accessFlags := 25, slot := 2, constantValue := 0 }, { name := "LOG2_ARRAY_BYTE_INDEX_SCALE", type := .int, accessFlags := 25, slot := 3, constantValue := 0 }, { name := "LOG2_ARRAY_CHAR_INDEX_SCALE", type := .int, accessFlags := 25, slot := 4, constantValue := 0 }, { name := "LOG2_ARRAY_SHORT_INDEX_SCALE", type := .int, accessFlags := 25, slot := 5, constantValue := 0 }, { name := "LOG2_ARRAY_INT_INDEX_SCALE", type := .int, accessFlags := 25, slot := 6, constantValue := 0 }, { name := "LOG2_ARRAY_LONG_INDEX_SCALE", type := .int, accessFlags := 25, slot := 7, constantValue := 0 }, { name := "LOG2_ARRAY_FLOAT_INDEX_SCALE", type := .int, accessFlags := 25, slot := 8, constantValue := 0 }, { name := "LOG2_ARRAY_DOUBLE_INDEX_SCALE", type := .int, accessFlags := 25, slot := 9, constantValue := 0 }, { name := "LOG2_BYTE_BIT_SIZE", type := .int, accessFlags := 26, slot := 10, constantValue := 0 }, { name := "T_BOOLEAN", type := .int, accessFlags := 25, slot := 11, constantValue := 0 }, { name := "T_CHAR", type := .int, accessFlags := 25, slot := 12, constantValue := 0 }, { name := "T_FLOAT", type := .int, accessFlags := 25, slot := 13, constantValue := 0 }, { name := "T_DOUBLE", type := .int, accessFlags := 25, slot := 14, constantValue := 0 }, { name := "T_BYTE", type := .int, accessFlags := 25, slot := 15, constantValue := 0 }, { name := "T_SHORT", type := .int, accessFlags := 25, slot := 16, constantValue := 0 }, { name := "T_INT", type := .int, accessFlags := 25, slot := 17, constantValue := 0 }, { name := "T_LONG", type := .int, accessFlags := 25, slot := 18, constantValue := 0 }, { name := "JLA", type := (.object "jdk/internal/access/JavaLangAccess"), accessFlags := 26, slot := 19, constantValue := 0 }, { name := "SOFT_MAX_ARRAY_LENGTH", type := .int, accessFlags := 25, slot := 20, constantValue := 0 }]
  methods := #[k12m0]
  instanceTypes := #[]
  staticTypes := #[(.object "jdk/internal/misc/Unsafe"), .boolean, .int, .int, .int, .int, .int, .int, .int, .int, .int, .int, .int, .int, .int, .int, .int, .int, .int, (.object "jdk/internal/access/JavaLangAccess"), .int]
  resolved := Array.replicate 378 none
  statics := none }

def pool13 : Array CpInfo := pool [(1, u "java/lang/Cloneable"), (0, .class_ 1), (0, u "java/lang/Object"), (0, .class_ 3)] 3

/-- java/lang/Cloneable -/
def k13 : Class := { plain "java/lang/Cloneable" (some 0) with
  accessFlags := 1537
  interfaces := #[]
  cf := some (fileOf pool13 2 #[] #[] 1537 4 #[] #[])
  fields := #[]
  methods := #[]
  instanceTypes := #[]
  staticTypes := #[]
  resolved := Array.replicate 8 none
  statics := none }

/-- the primitive byte -/
def k14 : Class := { plain "byte" none with kind := .primitive 'B', accessFlags := 0x411 }
/-- [B -/
def k15 : Class := { plain "[B" (some 0) with kind := .array 14 .byte, interfaces := #[13, 2], accessFlags := 1041 }

/-- the primitive char -/
def k16 : Class := { plain "char" none with kind := .primitive 'C', accessFlags := 0x411 }
/-- [C -/
def k17 : Class := { plain "[C" (some 0) with kind := .array 16 .char, interfaces := #[13, 2], accessFlags := 1041 }

/-- the primitive int -/
def k18 : Class := { plain "int" none with kind := .primitive 'I', accessFlags := 0x411 }
/-- [I -/
def k19 : Class := { plain "[I" (some 0) with kind := .array 18 .int, interfaces := #[13, 2], accessFlags := 1041 }

def heap : Heap := #[{ cls := 7, slots := #[.long 0, .int 1, .null, .int 0, .null, .int 0, .int 0], vm := .statics 7 },
  { cls := 11, slots := #[.null, .null, .null], vm := .statics 11 }]
def classes : Array Class := #[k0, k1, k2, k3, k4, k5, k6, k7, k8, k9, k10, k11, k12, k13, k14, k15, k16, k17, k18, k19]
def interned : List (Array UInt16 × Addr) := []
def slotsUsed : Nat := 10
def theMethod : MethodId := ⟨1, 2⟩
def args0 : Array Value := #[.int 5, .int 5, .int 5, .int 0]
def aboutOver (below : List Frame) : State where
  vm := { classes := classes, interned := interned.toArray }
  heap := heap
  slotsUsed := slotsUsed
  threads := #[{ frames := .invoking theMethod args0 :: below }]
def below0 : List Frame := [.native { method := ⟨0, 0⟩, args := #[] }]
def about1 : State := aboutOver below0
def p0 : Program := .bare "" "" ""
def e0 : Env := launch0.env 0 0 0
theorem w_frames : about1.frames = Frame.invoking theMethod args0 :: below0 := rfl
set_option maxRecDepth 65536 in
theorem w_args : argsFit about1.vm theMethod args0 = true := by decide +kernel
set_option maxRecDepth 65536 in
theorem w_heap : heapFits about1 = true := by decide +kernel
set_option maxRecDepth 65536 in
theorem w_runnable : about1.curStatus? = some .runnable := by decide +kernel
set_option maxRecDepth 65536 in
theorem w_alone : about1.alone = true := by decide +kernel
set_option maxRecDepth 65536 in
theorem w_named : about1.methodNamed? x = some theMethod := by decide +kernel
set_option maxRecDepth 65536 in
theorem w_hears : about1.hears theMethod below0 = true := by decide +kernel
set_option maxRecDepth 65536 in
theorem w_ripe : about1.ripe theMethod args0 below0 = true := by decide +kernel
theorem w_running : about1.status = .running := rfl
set_option maxRecDepth 65536 in
theorem w_room : about1.hasRoom e0.platform room_1 = true :=
  launch0.hasRoom_least _ room_1 (by decide +kernel) (by decide +kernel) (by decide +kernel) (by decide +kernel) (by decide +kernel) (by decide +kernel)
theorem allAtoms_all (ts : List Jvm.Cond) (a : Array Jvm.Value) (st : Jvm.State) : (allAtoms ts).before a st = ts.all (fun c => c.before a st) := by
  induction ts with
  | nil => rfl
  | cons c t ih =>
    show (Jvm.Cond.and c (allAtoms t)).before a st = _
    rw [Jvm.Cond.before_and, ih, List.all_cons]
def words1 : List Jvm.Cond := Jvm.Cond.code x code maxLocals ret :: tables_1
/-- a 'code' word, met by the world's own term for the bytes: nothing is compared byte by byte -/
theorem code_word {y : MethodName} {bytes : ByteArray} {mx : Nat} {rt : Option FieldType} {a : Array Value} {s : State} {m : MethodId} {meth : Method} {c : Code} (h1 : s.methodNamed? y = some m) (h2 : s.vm.method? m = some meth) (h3 : meth.code = some c) (h4 : c.code = bytes)
    (h5 : (c.maxLocals == mx && c.exceptionTable.isEmpty && decide (c.maxStack ≤ mostOperands) && decide (meth.sig.returnType = rt) && !meth.locks && decide (parseMethodDescriptor y.desc = some meth.sig)) = true) : (Jvm.Cond.code y bytes mx rt).before a s = true := by
  simp only [Bool.and_eq_true, beq_iff_eq, Bool.not_eq_true', decide_eq_true_eq] at h5
  obtain ⟨⟨⟨⟨⟨g1, g2⟩, g3⟩, g4⟩, g5⟩, g6⟩ := h5
  simp [Cond.before, Cond.holds, Cond.value, h1, h2, h3, h4, g1, g2, g3, g4, g5, g6]
def isCode : Jvm.Cond → Bool
  | .code _ _ _ _ => true
  | _ => false
theorem all_split {L : List Jvm.Cond} {P : Jvm.Cond → Bool} (h1 : L.all (fun c => isCode c || P c) = true) (h2 : ∀ c ∈ L.filter isCode, P c = true) : L.all P = true := by
  refine List.all_eq_true.mpr fun c hc => ?_
  have h := List.all_eq_true.mp h1 c hc
  rcases Bool.eq_false_or_eq_true (isCode c) with hi | hi
  · exact h2 c (List.mem_filter.mpr ⟨hc, hi⟩)
  · simpa [hi] using h
set_option maxRecDepth 65536 in
theorem w_c0 : (Jvm.Cond.code x code maxLocals ret).before args0 about1 = true := code_word (m := ⟨1, 2⟩) (meth := k1m2) (c := k1c2) (by decide +kernel) rfl rfl rfl (by decide +kernel)
set_option maxRecDepth 65536 in
theorem w_c1 : (Jvm.Cond.code ({ cls := "com/example/calycule/calycule/config/ModuleContextIsImplicitPinLaw", name := "name", desc := "(II)[C" } : Jvm.MethodName) method_2_code (2 : Nat) (Option.some (Jvm.ClassFile.FieldType.array Jvm.ClassFile.FieldType.char))).before args0 about1 = true := code_word (m := ⟨1, 1⟩) (meth := k1m1) (c := k1c1) (by decide +kernel) rfl rfl rfl (by decide +kernel)
set_option maxRecDepth 65536 in
theorem w_c2 : (Jvm.Cond.code ({ cls := "java/lang/String", name := "<init>", desc := "([C)V" } : Jvm.MethodName) jdk_42_method_3_code (2 : Nat) (Option.none : Option Jvm.ClassFile.FieldType)).before args0 about1 = true := code_word (m := ⟨7, 1⟩) (meth := k7m1) (c := k7c1) (by decide +kernel) rfl rfl rfl (by decide +kernel)
set_option maxRecDepth 65536 in
theorem w_c3 : (Jvm.Cond.code ({ cls := "java/lang/String", name := "<init>", desc := "([CIILjava/lang/Void;)V" } : Jvm.MethodName) jdk_42_method_149_code (6 : Nat) (Option.none : Option Jvm.ClassFile.FieldType)).before args0 about1 = true := code_word (m := ⟨7, 3⟩) (meth := k7m3) (c := k7c3) (by decide +kernel) rfl rfl rfl (by decide +kernel)
set_option maxRecDepth 65536 in
theorem w_c4 : (Jvm.Cond.code ({ cls := "java/lang/Object", name := "<init>", desc := "()V" } : Jvm.MethodName) object_method_1_code (1 : Nat) (Option.none : Option Jvm.ClassFile.FieldType)).before args0 about1 = true := code_word (m := ⟨0, 0⟩) (meth := k0m0) (c := k0c0) (by decide +kernel) rfl rfl rfl (by decide +kernel)
set_option maxRecDepth 65536 in
theorem w_c5 : (Jvm.Cond.code ({ cls := "java/lang/StringUTF16", name := "compress", desc := "([CII)[B" } : Jvm.MethodName) jdk_52_method_16_code (6 : Nat) (Option.some (Jvm.ClassFile.FieldType.array Jvm.ClassFile.FieldType.byte))).before args0 about1 = true := code_word (m := ⟨8, 2⟩) (meth := k8m2) (c := k8c2) (by decide +kernel) rfl rfl rfl (by decide +kernel)
set_option maxRecDepth 65536 in
theorem w_c6 : (Jvm.Cond.code ({ cls := "java/lang/StringUTF16", name := "compress", desc := "([CI[BII)I" } : Jvm.MethodName) jdk_52_method_21_code (7 : Nat) (Option.some Jvm.ClassFile.FieldType.int)).before args0 about1 = true := code_word (m := ⟨8, 3⟩) (meth := k8m3) (c := k8c3) (by decide +kernel) rfl rfl rfl (by decide +kernel)
set_option maxRecDepth 65536 in
theorem w_c7 : (Jvm.Cond.code ({ cls := "java/lang/StringUTF16", name := "coderFromArrayLen", desc := "([BI)B" } : Jvm.MethodName) jdk_52_method_15_code (2 : Nat) (Option.some Jvm.ClassFile.FieldType.byte)).before args0 about1 = true := code_word (m := ⟨8, 1⟩) (meth := k8m1) (c := k8c1) (by decide +kernel) rfl rfl rfl (by decide +kernel)
set_option maxRecDepth 65536 in
theorem w_c8 : (Jvm.Cond.code ({ cls := "com/example/calycule/calycule/config/ModuleContext", name := "isImplicit", desc := "(Ljava/lang/String;)Z" } : Jvm.MethodName) prog_17_method_8_code (1 : Nat) (Option.some Jvm.ClassFile.FieldType.boolean)).before args0 about1 = true := code_word (m := ⟨9, 0⟩) (meth := k9m0) (c := k9c0) (by decide +kernel) rfl rfl rfl (by decide +kernel)
set_option maxRecDepth 65536 in
theorem w_c9 : (Jvm.Cond.code ({ cls := "java/lang/String", name := "equals", desc := "(Ljava/lang/Object;)Z" } : Jvm.MethodName) jdk_42_method_66_code (3 : Nat) (Option.some Jvm.ClassFile.FieldType.boolean)).before args0 about1 = true := code_word (m := ⟨7, 2⟩) (meth := k7m2) (c := k7c2) (by decide +kernel) rfl rfl rfl (by decide +kernel)
set_option maxRecDepth 65536 in
theorem w_c10 : (Jvm.Cond.code ({ cls := "java/lang/StringLatin1", name := "equals", desc := "([B[B)Z" } : Jvm.MethodName) jdk_43_method_13_code (3 : Nat) (Option.some Jvm.ClassFile.FieldType.boolean)).before args0 about1 = true := code_word (m := ⟨10, 1⟩) (meth := k10m1) (c := k10c1) (by decide +kernel) rfl rfl rfl (by decide +kernel)
def codes1 : List Jvm.Cond := [Jvm.Cond.code x code maxLocals ret, Jvm.Cond.code ({ cls := "com/example/calycule/calycule/config/ModuleContextIsImplicitPinLaw", name := "name", desc := "(II)[C" } : Jvm.MethodName) method_2_code (2 : Nat) (Option.some (Jvm.ClassFile.FieldType.array Jvm.ClassFile.FieldType.char)), Jvm.Cond.code ({ cls := "java/lang/String", name := "<init>", desc := "([C)V" } : Jvm.MethodName) jdk_42_method_3_code (2 : Nat) (Option.none : Option Jvm.ClassFile.FieldType), Jvm.Cond.code ({ cls := "java/lang/String", name := "<init>", desc := "([CIILjava/lang/Void;)V" } : Jvm.MethodName) jdk_42_method_149_code (6 : Nat) (Option.none : Option Jvm.ClassFile.FieldType), Jvm.Cond.code ({ cls := "java/lang/Object", name := "<init>", desc := "()V" } : Jvm.MethodName) object_method_1_code (1 : Nat) (Option.none : Option Jvm.ClassFile.FieldType), Jvm.Cond.code ({ cls := "java/lang/StringUTF16", name := "compress", desc := "([CII)[B" } : Jvm.MethodName) jdk_52_method_16_code (6 : Nat) (Option.some (Jvm.ClassFile.FieldType.array Jvm.ClassFile.FieldType.byte)), Jvm.Cond.code ({ cls := "java/lang/StringUTF16", name := "compress", desc := "([CI[BII)I" } : Jvm.MethodName) jdk_52_method_21_code (7 : Nat) (Option.some Jvm.ClassFile.FieldType.int), Jvm.Cond.code ({ cls := "java/lang/StringUTF16", name := "coderFromArrayLen", desc := "([BI)B" } : Jvm.MethodName) jdk_52_method_15_code (2 : Nat) (Option.some Jvm.ClassFile.FieldType.byte), Jvm.Cond.code ({ cls := "com/example/calycule/calycule/config/ModuleContext", name := "isImplicit", desc := "(Ljava/lang/String;)Z" } : Jvm.MethodName) prog_17_method_8_code (1 : Nat) (Option.some Jvm.ClassFile.FieldType.boolean), Jvm.Cond.code ({ cls := "java/lang/String", name := "equals", desc := "(Ljava/lang/Object;)Z" } : Jvm.MethodName) jdk_42_method_66_code (3 : Nat) (Option.some Jvm.ClassFile.FieldType.boolean), Jvm.Cond.code ({ cls := "java/lang/StringLatin1", name := "equals", desc := "([B[B)Z" } : Jvm.MethodName) jdk_43_method_13_code (3 : Nat) (Option.some Jvm.ClassFile.FieldType.boolean)]
set_option maxRecDepth 65536 in
theorem codes_eq : words1.filter isCode = codes1 := rfl
theorem w_codes : ∀ c ∈ words1.filter isCode, c.before args0 about1 = true := by
  rw [codes_eq]
  intro c hc
  simp only [codes1, List.mem_cons, List.not_mem_nil, or_false] at hc
  rcases hc with rfl | rfl | rfl | rfl | rfl | rfl | rfl | rfl | rfl | rfl | rfl
  · exact w_c0
  · exact w_c1
  · exact w_c2
  · exact w_c3
  · exact w_c4
  · exact w_c5
  · exact w_c6
  · exact w_c7
  · exact w_c8
  · exact w_c9
  · exact w_c10
set_option maxRecDepth 65536 in
theorem w_t1 : (words1.take 24).all (fun c => isCode c || c.before args0 about1) = true := by decide +kernel
set_option maxRecDepth 65536 in
theorem w_t2 : ((words1.drop 24).take 24).all (fun c => isCode c || c.before args0 about1) = true := by decide +kernel
set_option maxRecDepth 65536 in
theorem w_t3 : ((words1.drop 24).drop 24).all (fun c => isCode c || c.before args0 about1) = true := by decide +kernel
theorem w_tables : (allAtoms (Jvm.Cond.code x code maxLocals ret :: tables_1)).before args0 about1 = true := by
  rw [allAtoms_all]
  show words1.all (fun c => c.before args0 about1) = true
  refine all_split ?_ w_codes
  rw [← List.take_append_drop 24 words1, List.all_append, w_t1, ← List.take_append_drop 24 (words1.drop 24), List.all_append, w_t2, w_t3]
  rfl
set_option maxRecDepth 65536 in
theorem w_rest : rest_1_c.before args0 about1 = true := by decide +kernel
set_option maxRecDepth 65536 in
theorem w_case : (Jvm.Cond.and given_1 narrow_1).before args0 about1 = true := by decide +kernel
set_option maxRecDepth 65536 in
theorem w_consts : constsHeld consts_1 about1 := Jvm.Lit.constsHeldB_iff.mp (by decide +kernel)
theorem w_applies : (headSpec (Jvm.Cond.code x code maxLocals ret :: tables_1) room_1).applies x e0.platform about1 = true :=
  (Spec.applies_iff w_frames).mpr ⟨w_running, w_runnable, w_alone, w_named, w_hears, w_ripe, w_room, w_tables⟩
theorem w_held0 : Jvm.D.constHeld about1 "com/example/calycule/calycule/config/ModuleContext" 62 := by
  intro c k cf i units a h1 h2 h3 h4 h5 h6 h7 h8
  have e1 : about1.vm.findClass "com/example/calycule/calycule/config/ModuleContext" = some 9 := by decide +kernel
  cases e1.symm.trans h1
  have e2 : about1.vm.classes[9]? = some k9 := rfl
  cases e2.symm.trans h2
  rcases h8 with h8 | ⟨-, h8⟩
  · have e3 : k9.resolved[62]? = some none := by show (Array.replicate 118 none)[62]? = some none; simp
    rw [e3] at h8; cases h8
  · have n : about1.vm.interned.find? (fun p => p.1 == units) = none := rfl
    rw [n] at h8; cases h8
theorem w_held1 : Jvm.D.constHeld about1 "com/example/calycule/calycule/config/ModuleContext" 68 := by
  intro c k cf i units a h1 h2 h3 h4 h5 h6 h7 h8
  have e1 : about1.vm.findClass "com/example/calycule/calycule/config/ModuleContext" = some 9 := by decide +kernel
  cases e1.symm.trans h1
  have e2 : about1.vm.classes[9]? = some k9 := rfl
  cases e2.symm.trans h2
  rcases h8 with h8 | ⟨-, h8⟩
  · have e3 : k9.resolved[68]? = some none := by show (Array.replicate 118 none)[68]? = some none; simp
    rw [e3] at h8; cases h8
  · have n : about1.vm.interned.find? (fun p => p.1 == units) = none := rfl
    rw [n] at h8; cases h8
theorem w_held2 : Jvm.D.constHeld about1 "com/example/calycule/calycule/config/ModuleContext" 69 := by
  intro c k cf i units a h1 h2 h3 h4 h5 h6 h7 h8
  have e1 : about1.vm.findClass "com/example/calycule/calycule/config/ModuleContext" = some 9 := by decide +kernel
  cases e1.symm.trans h1
  have e2 : about1.vm.classes[9]? = some k9 := rfl
  cases e2.symm.trans h2
  rcases h8 with h8 | ⟨-, h8⟩
  · have e3 : k9.resolved[69]? = some none := by show (Array.replicate 118 none)[69]? = some none; simp
    rw [e3] at h8; cases h8
  · have n : about1.vm.interned.find? (fun p => p.1 == units) = none := rfl
    rw [n] at h8; cases h8
theorem w_held3 : Jvm.D.constHeld about1 "java/lang/String" 7 := by
  intro c k cf i units a h1 h2 h3 h4 h5 h6 h7 h8
  have e1 : about1.vm.findClass "java/lang/String" = some 7 := by decide +kernel
  cases e1.symm.trans h1
  have e2 : about1.vm.classes[7]? = some k7 := rfl
  cases e2.symm.trans h2
  rcases h8 with h8 | ⟨-, h8⟩
  · have e3 : k7.resolved[7]? = some none := by show (Array.replicate 1451 none)[7]? = some none; simp
    rw [e3] at h8; cases h8
  · have n : about1.vm.interned.find? (fun p => p.1 == units) = none := rfl
    rw [n] at h8; cases h8
theorem w_calls : Calls_1 p0.tables e0 args0 about1 := by
  refine ⟨fun q hq => ?_, trivial⟩
  simp only [consts_1, List.mem_cons, List.not_mem_nil, or_false] at hq
  rcases hq with rfl | rfl | rfl | rfl
  · exact w_held0
  · exact w_held1
  · exact w_held2
  · exact w_held3
theorem atStart : AtStart classFile x code maxLocals ret World_1 tables_1 room_1 Calls_1 rest_1 Pre_1 launch0 p0 e0 about1 theMethod args0 below0 :=
  ⟨lists_1, trivial, launch0.admits_env _ _ _, launch0.least_env, fairChoices_fair.cas, fairChoices_fair.clock, w_frames, w_args, w_heap, w_applies, ⟨w_consts, trivial⟩, w_rest, w_case⟩
end start1
theorem witness_1 : WitnessClaimed_1 := ⟨start1.p0, start1.e0, start1.about1, start1.theMethod, start1.args0, start1.below0, start1.atStart⟩
end Jvm.Pilot.@@N@@
