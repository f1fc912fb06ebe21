import JvmDerived
import JvmDerived.Pilot.@@N@@Statement
import JvmDerived.Pilot.@@N@@Code
set_option linter.unusedVariables false
set_option linter.unusedSimpArgs false
/- laws to paste: Road.backV (cut by pick.py; bodies as the Statement names them) -/
namespace Jvm.Pilot.@@N@@
namespace StrChars
open Jvm Sem ClassFile Op Lib Jvm.Stand Jvm.Free.XT Jvm.Free.ALB Jvm.Free.JM Jvm.Free
open Jvm.Lib.Cold (StaticIs)
/-- a char array whose places are chars -/
def Ch (a : Addr) (A : Cell) (U : State) : Prop := Arr .char a A U ∧ Typed .char A
theorem Ch.mv {a : Addr} {A : Cell} {U U' : State} (h : Ch a A U) (hal : U.vm.Alike U'.vm) (hh : U'.heap = U.heap) : Ch a A U' := ⟨h.1.mv hal hh, h.2⟩
theorem Ch.keep {a : Addr} {A : Cell} {U U' : State} (h : Ch a A U) (hal : U.vm.Alike U'.vm) (hk : U'.heap[a]? = some A) : Ch a A U' := ⟨h.1.keep hal hk, h.2⟩
/-- what place i of a char[]'s cell holds -/
def cv (A : Cell) (i : Nat) : Int32 := match A.slots[i]? with | some (.int x) => x | _ => 0
theorem Ch.get {a : Addr} {A : Cell} {U : State} (h : Ch a A U) {i : Nat} (hi : i < A.slots.size) : A.slots[i]? = some (.int (cv A i)) := by
  have e := Array.getElem?_eq_getElem hi
  have f := h.2 i _ e
  unfold cv; rw [e]
  generalize A.slots[i] = v at f
  cases v <;> simp [fits] at f ⊢
/-- the byte that i2b leaves of a char -/
def lo8 (x : Int32) : Int32 := x.toInt8.toInt32
theorem fits_lo8 (y : Int32) : fits .byte (.int (lo8 y)) = true := by
  have h1 := y.toInt8.le_toInt
  have h2 := y.toInt8.toInt_lt
  simp only [lo8, fits, Bool.and_eq_true, decide_eq_true_eq, Int32.le_iff_toInt_le, Int8.toInt_toInt32, show (-128 : Int32).toInt = -128 from by decide, show (127 : Int32).toInt = 127 from by decide]
  omega
/-- A' is A but that each place j of lo .. hi - 1 holds f j -/
def Laid (A A' : Cell) (lo hi : Nat) (f : Nat → Value) : Prop := A'.cls = A.cls ∧ A'.vm = A.vm ∧ A'.slots.size = A.slots.size ∧ ∀ i, A'.slots[i]? = if lo ≤ i ∧ i < hi then some (f i) else A.slots[i]?
theorem Laid.zero (A : Cell) (lo : Nat) (f : Nat → Value) : Laid A A lo (lo + 0) f := ⟨rfl, rfl, rfl, fun i => by rw [if_neg (by omega)]⟩
theorem Laid.step {A Ak : Cell} {lo k : Nat} {f : Nat → Value} {v : Value} (h : Laid A Ak lo k f) (hlo : lo ≤ k) (hk : k < Ak.slots.size) (hv : v = f k) : Laid A (Ak.setSlot k v) lo (k + 1) f := by
  refine ⟨h.1, h.2.1, by simpa [Cell.setSlot] using h.2.2.1, fun i => ?_⟩
  by_cases e : k = i
  · subst e; rw [Cell.slots_setSlot_self v hk, if_pos (by omega), hv]
  · rw [Cell.slots_setSlot_ne v e, h.2.2.2 i]
    by_cases q : lo ≤ i ∧ i < k
    · rw [if_pos q, if_pos (by omega)]
    · rw [if_neg q, if_neg (by omega)]
def U16 : String := "java/lang/StringUTF16"
namespace Cmp5
def yN : MethodName := ⟨"java/lang/StringUTF16", "compress", "([CI[BII)I"⟩
abbrev yB : ByteArray := jdk_52_method_21_code
theorem d0 : decode yB 0 = .ok (.iconst 0, 1) := by decide +kernel
theorem d1 : decode yB 1 = .ok (.istore 5, 2) := by decide +kernel
theorem d3 : decode yB 3 = .ok (.iload 5, 2) := by decide +kernel
theorem d5 : decode yB 5 = .ok (.iload 4, 2) := by decide +kernel
theorem d7 : decode yB 7 = .ok (.if_icmp (.ge) 37, 3) := by decide +kernel
theorem d10 : decode yB 10 = .ok (.aload_n 0, 1) := by decide +kernel
theorem d11 : decode yB 11 = .ok (.iload_n 1, 1) := by decide +kernel
theorem d12 : decode yB 12 = .ok (.caload, 1) := by decide +kernel
theorem d13 : decode yB 13 = .ok (.istore 6, 2) := by decide +kernel
theorem d15 : decode yB 15 = .ok (.iload 6, 2) := by decide +kernel
theorem d17 : decode yB 17 = .ok (.sipush 255, 3) := by decide +kernel
theorem d20 : decode yB 20 = .ok (.if_icmp (.le) 6, 3) := by decide +kernel
theorem d26 : decode yB 26 = .ok (.aload_n 2, 1) := by decide +kernel
theorem d27 : decode yB 27 = .ok (.iload_n 3, 1) := by decide +kernel
theorem d28 : decode yB 28 = .ok (.iload 6, 2) := by decide +kernel
theorem d30 : decode yB 30 = .ok (.i2b, 1) := by decide +kernel
theorem d31 : decode yB 31 = .ok (.bastore, 1) := by decide +kernel
theorem d32 : decode yB 32 = .ok (.iinc 1 1, 3) := by decide +kernel
theorem d35 : decode yB 35 = .ok (.iinc 3 1, 3) := by decide +kernel
theorem d38 : decode yB 38 = .ok (.iinc 5 1, 3) := by decide +kernel
theorem d41 : decode yB 41 = .ok (.goto (-38), 3) := by decide +kernel
theorem d44 : decode yB 44 = .ok (.iload 4, 2) := by decide +kernel
theorem d46 : decode yB 46 = .ok (.ireturn, 1) := by decide +kernel
def site : List Cond := []
def tab : Cond := tabOf yN yB 7 (some .int) site
def P (b : Addr) (A : Cell) (d : Addr) (B : Cell) (o q len : Nat) (args : Array Value) (s : State) : Prop := args = #[.ref b, .int (Int32.ofNat o), .ref d, .int (Int32.ofNat q), .int (Int32.ofNat len)] ∧ Ch b A s ∧ Arr .byte d B s ∧ b ≠ d ∧ o + len ≤ A.slots.size ∧ q + len ≤ B.slots.size ∧ ∀ i, i < len → ¬ 255 < cv A (o + i)
def E (b : Addr) (A : Cell) (d : Addr) (B : Cell) (o q len : Nat) (r : Option Value) (s u : State) : Prop := r = some (.int (Int32.ofNat len)) ∧ ∃ B', Put d B' s u ∧ Laid B B' q (q + len) (fun j => Value.int (lo8 (cv A (o + (j - q)))))
/-- no char of the range above 255: len; the places written hold each char's low byte -/
theorem law (l : Launch) (b : Addr) (A : Cell) (d : Addr) (B : Cell) (o q len : Nat) : Law l yN 5 5 0 0 yB 7 (some .int) site (P b A d B o q len) (E b A d B o q len) (copyLocs d q len) 0 0 := by
  refine Law.of_walk (plainFor_of_name (by decide +kernel)) (by decide +kernel) (by decide +kernel) (by decide) (fun _ _ h => by rw [h.1]; rfl) (fun _ U U' hal hh h => ⟨h.1, h.2.1.mv hal hh, h.2.2.1.mv hal hh, h.2.2.2⟩) (fun r U U' V V' h1 hal h2 h => ⟨h.1, h.2.elim fun B' q => ⟨B', q.1.mv h1 h2, q.2⟩⟩) ?_
  intro p e s m args below meth c s₁ X0 hexec hbytes hml hret hlk hnm hown hh0 W hP
  obtain ⟨rfl, hA, hB, hne, l1, l2, hp⟩ := hP
  have c1 : Steps p.tables e below (s₁.setTop (entryFrame m #[.ref b, .int (Int32.ofNat o), .ref d, .int (Int32.ofNat q), .int (Int32.ofNat len)] 7)) (s₁.setTop (mkF m 0 #[.val (.ref b), .val (.int (Int32.ofNat o)), .val (.ref d), .val (.int (Int32.ofNat q)), .val (.int (Int32.ofNat len)), .unset, .unset] [])) := entry rfl
  have hA0 := hA.1.mv X0.warmed.alike hh0
  have hB0 := hB.mv X0.warmed.alike hh0
  have a31 := hA.1.2.2.2
  have c2 : Steps p.tables e below (s₁.setTop (entryFrame m #[.ref b, .int (Int32.ofNat o), .ref d, .int (Int32.ofNat q), .int (Int32.ofNat len)] 7)) (s₁.setTop (mkF m 3 #[.val (.ref b), .val (.int (Int32.ofNat o)), .val (.ref d), .val (.int (Int32.ofNat q)), .val (.int (Int32.ofNat len)), .val (.int 0), .unset] [])) := c1.trans (by
    refine iconstV X0.here hexec rfl 0 (hb hbytes d0) (by decide) ?_
    refine XS.istore X0.here hexec rfl (hb hbytes d1) rfl rfl ?_
    exact Steps.refl _)
  have loop : ∀ (r i : Nat), i + r = len → ∀ (z : Slot), (z = .unset ∨ ∃ w, z = .val w ∧ w.category = 1) → ∀ (Tl : State) (Bk : Cell), Stand p l e { frames := 0, locals := 0, cells := 0, slots := 0 } s m #[.ref b, .int (Int32.ofNat o), .ref d, .int (Int32.ofNat q), .int (Int32.ofNat len)] below meth c Tl ([] ++ copyLocs d q i) 0 0 → Put d Bk s₁ Tl → Laid B Bk q (q + i) (fun j => Value.int (lo8 (cv A (o + (j - q))))) →
      Steps p.tables e below (s₁.setTop (entryFrame m #[.ref b, .int (Int32.ofNat o), .ref d, .int (Int32.ofNat q), .int (Int32.ofNat len)] 7)) (Tl.setTop (mkF m 3 #[.val (.ref b), .val (.int (Int32.ofNat (o + i))), .val (.ref d), .val (.int (Int32.ofNat (q + i))), .val (.int (Int32.ofNat len)), .val (.int (Int32.ofNat i)), z] [])) → ∃ (T' : State) (B' : Cell) (z' : Slot), Stand p l e { frames := 0, locals := 0, cells := 0, slots := 0 } s m #[.ref b, .int (Int32.ofNat o), .ref d, .int (Int32.ofNat q), .int (Int32.ofNat len)] below meth c T' ([] ++ copyLocs d q len) 0 0 ∧ Put d B' s₁ T' ∧ Laid B B' q (q + len) (fun j => Value.int (lo8 (cv A (o + (j - q))))) ∧
      Steps p.tables e below (s₁.setTop (entryFrame m #[.ref b, .int (Int32.ofNat o), .ref d, .int (Int32.ofNat q), .int (Int32.ofNat len)] 7)) (T'.setTop (mkF m 3 #[.val (.ref b), .val (.int (Int32.ofNat (o + len))), .val (.ref d), .val (.int (Int32.ofNat (q + len))), .val (.int (Int32.ofNat len)), .val (.int (Int32.ofNat len)), z'] [])) := by
    intro r
    induction r with
    | zero =>
      intro i hi z hz Tl Bk Xl pl fl cl
      have hil : i = len := by omega
      rw [hil] at Xl fl cl
      exact ⟨Tl, Bk, z, Xl, pl, fl, cl⟩
    | succ r ih =>
      intro i hi z hz Tl Bk Xl pl fl cl
      have all := X0.warmed.alike.symm.trans Xl.warmed.alike
      have hAl := hA0.keep all (pl.other hne hA0.1)
      have hBk := hB0.like all pl.1 fl.1 fl.2.1 fl.2.2.1
      have hlt : q + i < Bk.slots.size := by rw [fl.2.2.1]; omega
      have c3 : Steps p.tables e below (s₁.setTop (entryFrame m #[.ref b, .int (Int32.ofNat o), .ref d, .int (Int32.ofNat q), .int (Int32.ofNat len)] 7)) (Tl.setTop (mkF m 12 #[.val (.ref b), .val (.int (Int32.ofNat (o + i))), .val (.ref d), .val (.int (Int32.ofNat (q + i))), .val (.int (Int32.ofNat len)), .val (.int (Int32.ofNat i)), z] [.int (Int32.ofNat (o + i)), .ref b])) := cl.trans (by
        refine XS.iload Xl.here hexec rfl (hb hbytes d3) rfl ?_
        refine XS.iload Xl.here hexec rfl (hb hbytes d5) rfl ?_
        refine XS.icmpNo Xl.here hexec rfl (hb hbytes d7) rfl (ii_ge_f (lt32 (by omega) (by omega))) ?_
        refine XS.aloadN Xl.here hexec rfl (hb hbytes d10) rfl rfl ?_
        refine XS.iloadN Xl.here hexec rfl (hb hbytes d11) rfl ?_
        exact Steps.refl _)
      have c4 : Steps p.tables e below (s₁.setTop (entryFrame m #[.ref b, .int (Int32.ofNat o), .ref d, .int (Int32.ofNat q), .int (Int32.ofNat len)] 7)) (Tl.setTop (mkF m 13 #[.val (.ref b), .val (.int (Int32.ofNat (o + i))), .val (.ref d), .val (.int (Int32.ofNat (q + i))), .val (.int (Int32.ofNat len)), .val (.int (Int32.ofNat i)), z] [.int (cv A (o + i))])) := c3.trans (by
        refine Xl.aget hexec hAl rfl (hA.get (i := o + i) (by omega)) rfl rfl (hb hbytes d12) ?_
        exact Steps.refl _)
      have c5 : Steps p.tables e below (s₁.setTop (entryFrame m #[.ref b, .int (Int32.ofNat o), .ref d, .int (Int32.ofNat q), .int (Int32.ofNat len)] 7)) (Tl.setTop (mkF m 15 #[.val (.ref b), .val (.int (Int32.ofNat (o + i))), .val (.ref d), .val (.int (Int32.ofNat (q + i))), .val (.int (Int32.ofNat len)), .val (.int (Int32.ofNat i)), .val (.int (cv A (o + i)))] [])) := c4.trans (by
        refine XS.istoreS Xl.here hexec rfl (hb hbytes d13) rfl rfl hz ?_
        exact Steps.refl _)
      have c6 : Steps p.tables e below (s₁.setTop (entryFrame m #[.ref b, .int (Int32.ofNat o), .ref d, .int (Int32.ofNat q), .int (Int32.ofNat len)] 7)) (Tl.setTop (mkF m 31 #[.val (.ref b), .val (.int (Int32.ofNat (o + i))), .val (.ref d), .val (.int (Int32.ofNat (q + i))), .val (.int (Int32.ofNat len)), .val (.int (Int32.ofNat i)), .val (.int (cv A (o + i)))] [.int (lo8 (cv A (o + i))), .int (Int32.ofNat (q + i)), .ref d])) := c5.trans (by
        refine XS.iload Xl.here hexec rfl (hb hbytes d15) rfl ?_
        refine sipushV Xl.here hexec rfl 255 (hb hbytes d17) (by decide) ?_
        refine XS.icmpYes Xl.here hexec rfl (pc0 := 20) rfl (hb hbytes d20) rfl (ii_le_t (hp i (by omega))) (by decide) rfl ?_
        refine XS.aloadN Xl.here hexec rfl (hb hbytes d26) rfl rfl ?_
        refine XS.iloadN Xl.here hexec rfl (hb hbytes d27) rfl ?_
        refine XS.iload Xl.here hexec rfl (hb hbytes d28) rfl ?_
        refine i2b Xl.here hexec rfl (hb hbytes d30) rfl ?_
        exact Steps.refl _)
      obtain ⟨T7, X7, p7, st7⟩ := Xl.aput hexec hBk rfl hlt rfl (fits_lo8 (cv A (o + i))) (g := (mkF m 31 #[.val (.ref b), .val (.int (Int32.ofNat (o + i))), .val (.ref d), .val (.int (Int32.ofNat (q + i))), .val (.int (Int32.ofNat len)), .val (.int (Int32.ofNat i)), .val (.int (cv A (o + i)))] [.int (lo8 (cv A (o + i))), .int (Int32.ofNat (q + i)), .ref d])) rfl (rest := []) rfl (hb hbytes d31)
      have c8 : Steps p.tables e below (s₁.setTop (entryFrame m #[.ref b, .int (Int32.ofNat o), .ref d, .int (Int32.ofNat q), .int (Int32.ofNat len)] 7)) (T7.setTop (mkF m 32 #[.val (.ref b), .val (.int (Int32.ofNat (o + i))), .val (.ref d), .val (.int (Int32.ofNat (q + i))), .val (.int (Int32.ofNat len)), .val (.int (Int32.ofNat i)), .val (.int (cv A (o + i)))] [])) := c6.trans (st7 _ (Steps.refl _))
      have c9 : Steps p.tables e below (s₁.setTop (entryFrame m #[.ref b, .int (Int32.ofNat o), .ref d, .int (Int32.ofNat q), .int (Int32.ofNat len)] 7)) (T7.setTop (mkF m 3 #[.val (.ref b), .val (.int (Int32.ofNat (o + i) + 1)), .val (.ref d), .val (.int (Int32.ofNat (q + i) + 1)), .val (.int (Int32.ofNat len)), .val (.int (Int32.ofNat i + 1)), .val (.int (cv A (o + i)))] [])) := c8.trans (by
        refine iincV X7.here hexec rfl 1 (hb hbytes d32) (by decide) rfl rfl ?_
        refine iincV X7.here hexec rfl 1 (hb hbytes d35) (by decide) rfl rfl ?_
        refine iincV X7.here hexec rfl 1 (hb hbytes d38) (by decide) rfl rfl ?_
        refine XS.goto X7.here hexec rfl (pc0 := 41) rfl (hb hbytes d41) (by decide) rfl ?_
        exact Steps.refl _)
      have c10 : Steps p.tables e below (s₁.setTop (entryFrame m #[.ref b, .int (Int32.ofNat o), .ref d, .int (Int32.ofNat q), .int (Int32.ofNat len)] 7)) (T7.setTop (mkF m 3 #[.val (.ref b), .val (.int (Int32.ofNat (o + (i + 1)))), .val (.ref d), .val (.int (Int32.ofNat (q + (i + 1)))), .val (.int (Int32.ofNat len)), .val (.int (Int32.ofNat (i + 1))), .val (.int (cv A (o + i)))] [])) := by
        have := c9
        rw [succ32, succ32, succ32] at this
        exact this
      exact ih (i + 1) (by omega) _ (Or.inr ⟨_, rfl, rfl⟩) T7 _ (by rw [copyLocs_step, ← List.append_assoc]; exact X7) (pl.trans p7) (fl.step (by omega) hlt (by simp)) c10
  obtain ⟨T9, B9, z9, X9, p9, f9, g9⟩ := loop len 0 (by omega) .unset (Or.inl rfl) s₁ B (by simpa [copyLocs] using X0) ⟨hB0.1, fun _ _ => rfl, rfl⟩ (Laid.zero _ _ _) c2
  have c11 : Steps p.tables e below (s₁.setTop (entryFrame m #[.ref b, .int (Int32.ofNat o), .ref d, .int (Int32.ofNat q), .int (Int32.ofNat len)] 7)) (T9.setTop (mkF m 46 #[.val (.ref b), .val (.int (Int32.ofNat (o + len))), .val (.ref d), .val (.int (Int32.ofNat (q + len))), .val (.int (Int32.ofNat len)), .val (.int (Int32.ofNat len)), z9] [.int (Int32.ofNat len)])) := g9.trans (by
    refine XS.iload X9.here hexec rfl (hb hbytes d3) rfl ?_
    refine XS.iload X9.here hexec rfl (hb hbytes d5) rfl ?_
    refine XS.icmpYes X9.here hexec rfl (pc0 := 7) rfl (hb hbytes d7) rfl (ii_ge_t (nlt32 (by omega) (Nat.le_refl _))) (by decide) rfl ?_
    refine XS.iload X9.here hexec rfl (hb hbytes d44) rfl ?_
    exact Steps.refl _)
  exact ⟨T9, some (.int (Int32.ofNat len)), _, _, _, X9, by simp, rfl, rfl, (fun h => by cases h), ⟨rfl, B9, p9.from hh0, f9⟩, fun fs hl => c11.trans (X9.ireturnOut hexec hret rfl (Or.inl rfl) (hb hbytes d46) hl)⟩
end Cmp5
namespace Cmp3
def yN : MethodName := ⟨"java/lang/StringUTF16", "compress", "([CII)[B"⟩
abbrev yB : ByteArray := jdk_52_method_16_code
theorem d0 : decode yB 0 = .ok (.iload_n 2, 1) := by decide +kernel
theorem d1 : decode yB 1 = .ok (.newarray .byte, 2) := by decide +kernel
theorem d3 : decode yB 3 = .ok (.astore_n 3, 1) := by decide +kernel
theorem d4 : decode yB 4 = .ok (.aload_n 0, 1) := by decide +kernel
theorem d5 : decode yB 5 = .ok (.iload_n 1, 1) := by decide +kernel
theorem d6 : decode yB 6 = .ok (.aload_n 3, 1) := by decide +kernel
theorem d7 : decode yB 7 = .ok (.iconst 0, 1) := by decide +kernel
theorem d8 : decode yB 8 = .ok (.iload_n 2, 1) := by decide +kernel
theorem d9 : decode yB 9 = .ok (.invokestatic 115, 3) := by decide +kernel
theorem d12 : decode yB 12 = .ok (.istore 4, 2) := by decide +kernel
theorem d14 : decode yB 14 = .ok (.iload 4, 2) := by decide +kernel
theorem d16 : decode yB 16 = .ok (.iload_n 2, 1) := by decide +kernel
theorem d17 : decode yB 17 = .ok (.if_icmp (.eq) 40, 3) := by decide +kernel
theorem d57 : decode yB 57 = .ok (.aload_n 3, 1) := by decide +kernel
theorem d58 : decode yB 58 = .ok (.areturn, 1) := by decide +kernel
def site : List Cond := [.arrayClass .byte, Cmp5.tab] ++ staticW U16 115 Cmp5.yN
def tab : Cond := tabOf yN yB 6 (some (.array .byte)) site
def P (b : Addr) (A : Cell) (o len : Nat) (args : Array Value) (s : State) : Prop := args = #[.ref b, .int (Int32.ofNat o), .int (Int32.ofNat len)] ∧ Ch b A s ∧ o + len ≤ A.slots.size ∧ len ≤ 536870912 ∧ ∀ i, i < len → ¬ 255 < cv A (o + i)
def E (b : Addr) (A : Cell) (o len : Nat) (r : Option Value) (s u : State) : Prop := NewArr .byte "[B" len (fun j => .int (lo8 (cv A (o + j)))) r s u ∧ u.heap.size = s.heap.size + 1
/-- no char of the range above 255: a new byte[] of their low bytes -/
theorem law (l : Launch) (b : Addr) (A : Cell) (o len : Nat) : Law l yN 3 3 1 18 yB 6 (some (.array .byte)) site (P b A o len) (E b A o len) [] 1 len := by
  refine Law.of_walk (plainFor_of_name (by decide +kernel)) (by decide +kernel) (by decide +kernel) (by decide) (fun _ _ h => by rw [h.1]; rfl) (fun _ U U' hal hh h => ⟨h.1, h.2.1.mv hal hh, h.2.2⟩) (fun r U U' V V' h1 hal h2 h => ⟨NewArr.mv r U U' V V' h1 hal h2 h.1, by rw [h1, h2]; exact h.2⟩) ?_
  intro p e s m args below meth c s₁ X0 hexec hbytes hml hret hlk hnm hown hh0 W hP
  obtain ⟨rfl, hA, l1, l2, hp⟩ := hP
  have a31 := hA.1.2.2.2
  have c1 : Steps p.tables e below (s₁.setTop (entryFrame m #[.ref b, .int (Int32.ofNat o), .int (Int32.ofNat len)] 6)) (s₁.setTop (mkF m 0 #[.val (.ref b), .val (.int (Int32.ofNat o)), .val (.int (Int32.ofNat len)), .unset, .unset, .unset] [])) := entry rfl
  have c2 : Steps p.tables e below (s₁.setTop (entryFrame m #[.ref b, .int (Int32.ofNat o), .int (Int32.ofNat len)] 6)) (s₁.setTop (mkF m 1 #[.val (.ref b), .val (.int (Int32.ofNat o)), .val (.int (Int32.ofNat len)), .unset, .unset, .unset] [.int (Int32.ofNat len)])) := c1.trans (by
    refine XS.iloadN X0.here hexec rfl (hb hbytes d0) rfl ?_
    exact Steps.refl _)
  obtain ⟨T3, B3, X3, ba3, bs3, bv3, bh3, bf3, st3⟩ := X0.anew hexec (atype := .byte) (wk W (.arrayClass .byte)) rfl (by show len * 1 ≤ _; omega) (by omega) (g := (mkF m 1 #[.val (.ref b), .val (.int (Int32.ofNat o)), .val (.int (Int32.ofNat len)), .unset, .unset, .unset] [.int (Int32.ofNat len)])) rfl (hb hbytes d1) (rest := []) rfl (Nat.le_refl _) (by show 0 + len ≤ len; omega)
  rw [hh0] at ba3 st3
  have kp3 : XT.Kept s T3 := (XT.Kept.of_eq hh0).push bh3
  have hA3 := hA.keep X3.warmed.alike (kp3 _ _ hA.1.1)
  have hne : b ≠ s.heap.size := hA.1.ne
  have c4 : Steps p.tables e below (s₁.setTop (entryFrame m #[.ref b, .int (Int32.ofNat o), .int (Int32.ofNat len)] 6)) (T3.setTop (mkF m 3 #[.val (.ref b), .val (.int (Int32.ofNat o)), .val (.int (Int32.ofNat len)), .unset, .unset, .unset] [.ref s.heap.size])) := c2.trans (st3 _ (Steps.refl _))
  have c5 : Steps p.tables e below (s₁.setTop (entryFrame m #[.ref b, .int (Int32.ofNat o), .int (Int32.ofNat len)] 6)) (T3.setTop (mkF m 9 #[.val (.ref b), .val (.int (Int32.ofNat o)), .val (.int (Int32.ofNat len)), .val (.ref s.heap.size), .unset, .unset] [.int (Int32.ofNat len), .int 0, .ref s.heap.size, .int (Int32.ofNat o), .ref b])) := c4.trans (by
    refine XS.astoreN X3.here hexec rfl (hb hbytes d3) rfl rfl rfl ?_
    refine XS.aloadN X3.here hexec rfl (hb hbytes d4) rfl rfl ?_
    refine XS.iloadN X3.here hexec rfl (hb hbytes d5) rfl ?_
    refine XS.aloadN X3.here hexec rfl (hb hbytes d6) rfl rfl ?_
    refine iconstV X3.here hexec rfl 0 (hb hbytes d7) (by decide) ?_
    refine XS.iloadN X3.here hexec rfl (hb hbytes d8) rfl ?_
    exact Steps.refl _)
  obtain ⟨v6, T6, X6, E6, g6⟩ := X3.callS hexec (Cmp5.law l b A s.heap.size B3 o 0 len) hown (wks W (staticW U16 115 Cmp5.yN)) (wk W Cmp5.tab) (W := 0) (Nat.le_of_ble_eq_true rfl) (Nat.le_of_ble_eq_true rfl) (Nat.le_refl _) (by show 0 + len + 0 ≤ len; omega) (g := (mkF m 9 #[.val (.ref b), .val (.int (Int32.ofNat o)), .val (.int (Int32.ofNat len)), .val (.ref s.heap.size), .unset, .unset] [.int (Int32.ofNat len), .int (Int32.ofNat 0), .ref s.heap.size, .int (Int32.ofNat o), .ref b])) rfl (by rw [hml]; rfl) c5 (argsL := [.ref b, .int (Int32.ofNat o), .ref s.heap.size, .int (Int32.ofNat 0), .int (Int32.ofNat len)]) (rest := []) rfl rfl (by show 2 * 0 + 0 ≤ _; decide) (hb hbytes d9) (⟨rfl, hA3, ba3, hne, l1, by rw [bs3]; simp, hp⟩)
  obtain ⟨rfl, B6, p6, f6⟩ := E6
  have c7 : Steps p.tables e below (s₁.setTop (entryFrame m #[.ref b, .int (Int32.ofNat o), .int (Int32.ofNat len)] 6)) (T6.setTop (mkF m 12 #[.val (.ref b), .val (.int (Int32.ofNat o)), .val (.int (Int32.ofNat len)), .val (.ref s.heap.size), .unset, .unset] [.int (Int32.ofNat len)])) := g6
  have c8 : Steps p.tables e below (s₁.setTop (entryFrame m #[.ref b, .int (Int32.ofNat o), .int (Int32.ofNat len)] 6)) (T6.setTop (mkF m 58 #[.val (.ref b), .val (.int (Int32.ofNat o)), .val (.int (Int32.ofNat len)), .val (.ref s.heap.size), .val (.int (Int32.ofNat len)), .unset] [.ref s.heap.size])) := c7.trans (by
    refine XS.istore X6.here hexec rfl (hb hbytes d12) rfl rfl ?_
    refine XS.iload X6.here hexec rfl (hb hbytes d14) rfl ?_
    refine XS.iloadN X6.here hexec rfl (hb hbytes d16) rfl ?_
    refine XS.icmpYes X6.here hexec rfl (pc0 := 17) rfl (hb hbytes d17) rfl (ii_eq_t rfl) (by decide) rfl ?_
    refine XS.aloadN X6.here hexec rfl (hb hbytes d57) rfl rfl ?_
    exact Steps.refl _)
  have X8 := X6.wide (L' := []) (cells' := 1) (slots' := len) (fun x hx hlt => by
    simp only [List.nil_append, copyLocs, List.mem_map, List.mem_range] at hx
    obtain ⟨i, -, rfl⟩ := hx
    exact absurd hlt (Nat.lt_irrefl _)) (Nat.le_refl _) (by omega)
  exact ⟨T6, some (.ref s.heap.size), _, _, _, X8, rfl, rfl, rfl, (fun h => by cases h), ⟨⟨rfl, B6, ba3.like (X3.warmed.alike.symm.trans X6.warmed.alike) p6.1 f6.1 f6.2.1 f6.2.2.1, f6.2.1.trans bv3, by rw [X6.warmed.alike.findClass, f6.1]; exact bf3, by rw [f6.2.2.1, bs3]; simp, fun j hj => by rw [f6.2.2.2 j, if_pos (by omega)]; rfl, kp3.put p6 (Nat.le_refl _)⟩, by rw [p6.2.2, bh3, hh0]; simp⟩, fun fs hl => c8.trans (X8.areturnOut hexec rfl hret rfl (hb hbytes d58) hl)⟩
end Cmp3
namespace CodL
def yN : MethodName := ⟨"java/lang/StringUTF16", "coderFromArrayLen", "([BI)B"⟩
abbrev yB : ByteArray := jdk_52_method_15_code
theorem d0 : decode yB 0 = .ok (.iload_n 1, 1) := by decide +kernel
theorem d1 : decode yB 1 = .ok (.aload_n 0, 1) := by decide +kernel
theorem d2 : decode yB 2 = .ok (.arraylength, 1) := by decide +kernel
theorem d3 : decode yB 3 = .ok (.isub, 1) := by decide +kernel
theorem d4 : decode yB 4 = .ok (.bipush 31, 2) := by decide +kernel
theorem d6 : decode yB 6 = .ok (.iushr, 1) := by decide +kernel
theorem d7 : decode yB 7 = .ok (.i2b, 1) := by decide +kernel
theorem d8 : decode yB 8 = .ok (.ireturn, 1) := by decide +kernel
def site : List Cond := []
def tab : Cond := tabOf yN yB 2 (some .byte) site
def P (d : Addr) (B : Cell) (args : Array Value) (s : State) : Prop := args = #[.ref d, .int (Int32.ofNat B.slots.size)] ∧ Arr .byte d B s
def E (r : Option Value) (s u : State) : Prop := XT.PureE (some (.int 0)) r s u
/-- an array as long as the number of chars: LATIN1 -/
theorem law (l : Launch) (d : Addr) (B : Cell) : Law l yN 2 2 0 0 yB 2 (some .byte) site (P d B) E [] 0 0 := by
  refine Law.of_walk (plainFor_of_name (by decide +kernel)) (by decide +kernel) (by decide +kernel) (by decide) (fun _ _ h => by rw [h.1]; rfl) (fun _ U U' hal hh h => ⟨h.1, h.2.mv hal hh⟩) (fun r U U' V V' h1 hal h2 h => XT.PureE.mv r U U' V V' h1 hal h2 h) ?_
  intro p e s m args below meth c s₁ X0 hexec hbytes hml hret hlk hnm hown hh0 W hP
  obtain ⟨rfl, hB⟩ := hP
  have hB0 := hB.mv X0.warmed.alike hh0
  have c1 : Steps p.tables e below (s₁.setTop (entryFrame m #[.ref d, .int (Int32.ofNat B.slots.size)] 2)) (s₁.setTop (mkF m 0 #[.val (.ref d), .val (.int (Int32.ofNat B.slots.size))] [])) := entry rfl
  have c2 : Steps p.tables e below (s₁.setTop (entryFrame m #[.ref d, .int (Int32.ofNat B.slots.size)] 2)) (s₁.setTop (mkF m 2 #[.val (.ref d), .val (.int (Int32.ofNat B.slots.size))] [.ref d, .int (Int32.ofNat B.slots.size)])) := c1.trans (by
    refine XS.iloadN X0.here hexec rfl (hb hbytes d0) rfl ?_
    refine XS.aloadN X0.here hexec rfl (hb hbytes d1) rfl rfl ?_
    exact Steps.refl _)
  have c3 : Steps p.tables e below (s₁.setTop (entryFrame m #[.ref d, .int (Int32.ofNat B.slots.size)] 2)) (s₁.setTop (mkF m 8 #[.val (.ref d), .val (.int (Int32.ofNat B.slots.size))] [.int (lo8 (ushr (Int32.ofNat B.slots.size - Int32.ofNat B.slots.size) 31))])) := c2.trans (by
    refine X0.alen hexec hB0 rfl rfl (hb hbytes d2) ?_
    refine XS.isub X0.here hexec rfl (hb hbytes d3) rfl ?_
    refine bipushV X0.here hexec rfl 31 (hb hbytes d4) (by decide) ?_
    refine iushr X0.here hexec rfl (hb hbytes d6) rfl ?_
    refine i2b X0.here hexec rfl (hb hbytes d7) rfl ?_
    exact Steps.refl _)
  have e0 : lo8 (ushr (Int32.ofNat B.slots.size - Int32.ofNat B.slots.size) 31) = 0 := by rw [Int32.sub_self]; decide
  rw [e0] at c3
  exact ⟨s₁, some (.int 0), _, _, _, X0, rfl, rfl, rfl, (fun h => by cases h), ⟨rfl, hh0⟩, fun fs hl => c3.trans (X0.ireturnOut hexec hret rfl (Or.inr (Or.inr (Or.inl rfl))) (hb hbytes d8) hl)⟩
end CodL
/-- the String at a is Latin-1 over a new byte[] (the heap's one new cell): the low bytes of the len chars of A from o on; every cell but a is kept -/
def Got (a : Addr) (D : Cell) (fV fC : Field) (A : Cell) (o len : Nat) (r : Option Value) (s u : State) : Prop := r = none ∧ ∃ D' V : Cell, Blank "java/lang/String" a D' u ∧ Same D D' [fV.slot, fC.slot] ∧ D'.slots[fV.slot]? = some (.ref s.heap.size) ∧ D'.slots[fC.slot]? = some (.int 0) ∧ Arr .byte s.heap.size V u ∧ V.vm = .none ∧ u.vm.findClass "[B" = some V.cls ∧ V.slots.size = len ∧ (∀ j, j < len → V.slots[j]? = some (.int (lo8 (cv A (o + j))))) ∧ (∀ (y : Addr) (c : Cell), y ≠ a → s.heap[y]? = some c → u.heap[y]? = some c) ∧ u.heap.size = s.heap.size + 1
theorem Got.mv {a : Addr} {D A : Cell} {fV fC : Field} {o len : Nat} : ∀ r (U U' V V' : State), U'.heap = U.heap → V.vm.Alike V'.vm → V'.heap = V.heap → Got a D fV fC A o len r U V → Got a D fV fC A o len r U' V' :=
  fun r U U' V V' h1 hal h2 ⟨e0, D', X, a1, a2, a3, a4, a5, a6, a7, a8, a9, a10, a11⟩ => ⟨e0, D', X, a1.mv hal h2, a2, by rw [h1]; exact a3, a4, by rw [h1]; exact a5.mv hal h2, a6, by rw [hal.findClass]; exact a7, a8, a9, by rw [h1, h2]; exact a10, by rw [h1, h2]; exact a11⟩
namespace New4
def yN : MethodName := ⟨"java/lang/String", "<init>", "([CIILjava/lang/Void;)V"⟩
abbrev yB : ByteArray := jdk_42_method_149_code
theorem d0 : decode yB 0 = .ok (.aload_n 0, 1) := by decide +kernel
theorem d1 : decode yB 1 = .ok (.invokespecial 1, 3) := by decide +kernel
theorem d4 : decode yB 4 = .ok (.iload_n 3, 1) := by decide +kernel
theorem d5 : decode yB 5 = .ok (.ifCond (.ne) 22, 3) := by decide +kernel
theorem d27 : decode yB 27 = .ok (.getstatic 38, 3) := by decide +kernel
theorem d30 : decode yB 30 = .ok (.ifCond (.eq) 28, 3) := by decide +kernel
theorem d33 : decode yB 33 = .ok (.aload_n 1, 1) := by decide +kernel
theorem d34 : decode yB 34 = .ok (.iload_n 2, 1) := by decide +kernel
theorem d35 : decode yB 35 = .ok (.iload_n 3, 1) := by decide +kernel
theorem d36 : decode yB 36 = .ok (.invokestatic 177, 3) := by decide +kernel
theorem d39 : decode yB 39 = .ok (.astore 5, 2) := by decide +kernel
theorem d41 : decode yB 41 = .ok (.aload_n 0, 1) := by decide +kernel
theorem d42 : decode yB 42 = .ok (.aload 5, 2) := by decide +kernel
theorem d44 : decode yB 44 = .ok (.iload_n 3, 1) := by decide +kernel
theorem d45 : decode yB 45 = .ok (.invokestatic 47, 3) := by decide +kernel
theorem d48 : decode yB 48 = .ok (.putfield 15, 3) := by decide +kernel
theorem d51 : decode yB 51 = .ok (.aload_n 0, 1) := by decide +kernel
theorem d52 : decode yB 52 = .ok (.aload 5, 2) := by decide +kernel
theorem d54 : decode yB 54 = .ok (.putfield 9, 3) := by decide +kernel
theorem d57 : decode yB 57 = .ok (.return_, 1) := by decide +kernel
def site : List Cond := [.fieldLink "java/lang/String" 38 "java/lang/String" "COMPACT_STRINGS" "Z", Cmp3.tab, CodL.tab, .laysFinal "java/lang/String" "java/lang/String" "value" "[B", .fieldLink "java/lang/String" 9 "java/lang/String" "value" "[B", .laysFinal "java/lang/String" "java/lang/String" "coder" "B", .fieldLink "java/lang/String" 15 "java/lang/String" "coder" "B"] ++ objW "java/lang/String" 1 ++ staticW "java/lang/String" 177 Cmp3.yN ++ staticW "java/lang/String" 47 CodL.yN
def tab : Cond := tabOf yN yB 6 none site
def P (a : Addr) (D : Cell) (fV fC : Field) (b : Addr) (A : Cell) (z : Int32) (o len : Nat) (args : Array Value) (s : State) : Prop := args = #[.ref a, .ref b, .int (Int32.ofNat o), .int (Int32.ofNat len), .null] ∧ Blank "java/lang/String" a D s ∧ Found "java/lang/String" "value" "[B" fV s ∧ Found "java/lang/String" "coder" "B" fC s ∧ Ch b A s ∧ StaticIs s "java/lang/String" "COMPACT_STRINGS" "Z" (.int z) ∧ ¬ z = 0 ∧ 0 < len ∧ o + len ≤ A.slots.size ∧ len ≤ 536870912 ∧ ∀ i, i < len → ¬ 255 < cv A (o + i)
def E (a : Addr) (D : Cell) (fV fC : Field) (A : Cell) (o len : Nat) (r : Option Value) (s u : State) : Prop := Got a D fV fC A o len r s u
/-- len > 0, no char of the range above 255: a Latin-1 String of their low bytes -/
theorem law (l : Launch) (a : Addr) (D : Cell) (fV fC : Field) (b : Addr) (A : Cell) (z : Int32) (o len : Nat) : Law l yN 5 4 2 35 yB 6 none site (P a D fV fC b A z o len) (E a D fV fC A o len) [⟨a, fC.slot⟩, ⟨a, fV.slot⟩] 1 len := by
  refine Law.of_walk (plainFor_of_name (by decide +kernel)) (by decide +kernel) (by decide +kernel) (by decide) (fun _ _ h => by rw [h.1]; rfl) (fun _ U U' hal hh h => ⟨h.1, h.2.1.mv hal hh, h.2.2.1.al hal, h.2.2.2.1.al hal, h.2.2.2.2.1.mv hal hh, h.2.2.2.2.2.1.there hal hh, h.2.2.2.2.2.2⟩) (fun r U U' V V' h1 hal h2 h => Got.mv r U U' V V' h1 hal h2 h) ?_
  intro p e s m args below meth c s₁ X0 hexec hbytes hml hret hlk hnm hown hh0 W hP
  obtain ⟨rfl, hB, f1, f2, hA, s1, hz, l0, l1, l2, hp⟩ := hP
  have a31 := hA.1.2.2.2
  have c1 : Steps p.tables e below (s₁.setTop (entryFrame m #[.ref a, .ref b, .int (Int32.ofNat o), .int (Int32.ofNat len), .null] 6)) (s₁.setTop (mkF m 0 #[.val (.ref a), .val (.ref b), .val (.int (Int32.ofNat o)), .val (.int (Int32.ofNat len)), .val .null, .unset] [])) := entry rfl
  have c2 : Steps p.tables e below (s₁.setTop (entryFrame m #[.ref a, .ref b, .int (Int32.ofNat o), .int (Int32.ofNat len), .null] 6)) (s₁.setTop (mkF m 1 #[.val (.ref a), .val (.ref b), .val (.int (Int32.ofNat o)), .val (.int (Int32.ofNat len)), .val .null, .unset] [.ref a])) := c1.trans (by
    refine XS.aloadN X0.here hexec rfl (hb hbytes d0) rfl rfl ?_
    exact Steps.refl _)
  obtain ⟨T3, X3, q3, st3⟩ := X0.oinit hexec hown (wks W (objW "java/lang/String" 1)) (g := (mkF m 1 #[.val (.ref a), .val (.ref b), .val (.int (Int32.ofNat o)), .val (.int (Int32.ofNat len)), .val .null, .unset] [.ref a])) rfl (by rw [hml]; rfl) (rest := []) rfl (hb hbytes d1) (W := 0) (by show 2 * 0 + 0 ≤ _; decide) (Nat.le_of_ble_eq_true rfl) (Nat.le_of_ble_eq_true rfl)
  have hh3 := q3.trans hh0
  have c4 : Steps p.tables e below (s₁.setTop (entryFrame m #[.ref a, .ref b, .int (Int32.ofNat o), .int (Int32.ofNat len), .null] 6)) (T3.setTop (mkF m 27 #[.val (.ref a), .val (.ref b), .val (.int (Int32.ofNat o)), .val (.int (Int32.ofNat len)), .val .null, .unset] [])) := (c2.trans (st3 _ (Steps.refl _))).trans (by
    refine XS.iloadN X3.here hexec rfl (hb hbytes d4) rfl ?_
    refine XS.ifYes X3.here hexec rfl (pc0 := 5) rfl (hb hbytes d5) rfl (i0_ne_t (nz32 (by omega) l0)) (by decide) rfl ?_
    exact Steps.refl _)
  obtain ⟨T5, X5, q5, st5⟩ := X3.sget hexec hown (wk W (.fieldLink "java/lang/String" 38 "java/lang/String" "COMPACT_STRINGS" "Z")) s1 (fun _ _ h => by rw [hh3]; exact h) (g := (mkF m 27 #[.val (.ref a), .val (.ref b), .val (.int (Int32.ofNat o)), .val (.int (Int32.ofNat len)), .val .null, .unset] [])) rfl (hb hbytes d27)
  have hh5 := q5.trans hh3
  have c6 : Steps p.tables e below (s₁.setTop (entryFrame m #[.ref a, .ref b, .int (Int32.ofNat o), .int (Int32.ofNat len), .null] 6)) (T5.setTop (mkF m 30 #[.val (.ref a), .val (.ref b), .val (.int (Int32.ofNat o)), .val (.int (Int32.ofNat len)), .val .null, .unset] [.int z])) := c4.trans (st5 _ (Steps.refl _))
  have c7 : Steps p.tables e below (s₁.setTop (entryFrame m #[.ref a, .ref b, .int (Int32.ofNat o), .int (Int32.ofNat len), .null] 6)) (T5.setTop (mkF m 36 #[.val (.ref a), .val (.ref b), .val (.int (Int32.ofNat o)), .val (.int (Int32.ofNat len)), .val .null, .unset] [.int (Int32.ofNat len), .int (Int32.ofNat o), .ref b])) := c6.trans (by
    refine XS.ifNo X5.here hexec rfl (hb hbytes d30) rfl (i0_eq_f hz) ?_
    refine XS.aloadN X5.here hexec rfl (hb hbytes d33) rfl rfl ?_
    refine XS.iloadN X5.here hexec rfl (hb hbytes d34) rfl ?_
    refine XS.iloadN X5.here hexec rfl (hb hbytes d35) rfl ?_
    exact Steps.refl _)
  obtain ⟨v8, T8, X8, E8, g8⟩ := X5.callS hexec (Cmp3.law l b A o len) hown (wks W (staticW "java/lang/String" 177 Cmp3.yN)) (wk W Cmp3.tab) (W := 0) (Nat.le_of_ble_eq_true rfl) (Nat.le_of_ble_eq_true rfl) (Nat.le_refl _) (by show 0 + len ≤ len; omega) (g := (mkF m 36 #[.val (.ref a), .val (.ref b), .val (.int (Int32.ofNat o)), .val (.int (Int32.ofNat len)), .val .null, .unset] [.int (Int32.ofNat len), .int (Int32.ofNat o), .ref b])) rfl (by rw [hml]; rfl) c7 (argsL := [.ref b, .int (Int32.ofNat o), .int (Int32.ofNat len)]) (rest := []) rfl rfl (by show 2 * 0 + 0 ≤ _; decide) (hb hbytes d36) (⟨rfl, hA.mv X5.warmed.alike hh5, l1, l2, hp⟩)
  obtain ⟨e8, z8⟩ := E8
  obtain ⟨rfl, N, n1, n2, n3, n4, n5, n6⟩ := NewArr.mv _ T5 s _ _ hh5.symm (Vm.Alike.refl _) rfl e8
  rw [hh5] at z8
  have hB1 := hB.keep X8.warmed.alike (n6 _ _ hB.1)
  have hne : s.heap.size ≠ a := (Nat.ne_of_lt (Array.getElem?_eq_some_iff.mp hB.1).1).symm
  have c9 : Steps p.tables e below (s₁.setTop (entryFrame m #[.ref a, .ref b, .int (Int32.ofNat o), .int (Int32.ofNat len), .null] 6)) (T8.setTop (mkF m 39 #[.val (.ref a), .val (.ref b), .val (.int (Int32.ofNat o)), .val (.int (Int32.ofNat len)), .val .null, .unset] [.ref s.heap.size])) := g8
  have c10 : Steps p.tables e below (s₁.setTop (entryFrame m #[.ref a, .ref b, .int (Int32.ofNat o), .int (Int32.ofNat len), .null] 6)) (T8.setTop (mkF m 45 #[.val (.ref a), .val (.ref b), .val (.int (Int32.ofNat o)), .val (.int (Int32.ofNat len)), .val .null, .val (.ref s.heap.size)] [.int (Int32.ofNat N.slots.size), .ref s.heap.size, .ref a])) := by
    have hc : Steps p.tables e below (s₁.setTop (entryFrame m #[.ref a, .ref b, .int (Int32.ofNat o), .int (Int32.ofNat len), .null] 6)) (T8.setTop (mkF m 45 #[.val (.ref a), .val (.ref b), .val (.int (Int32.ofNat o)), .val (.int (Int32.ofNat len)), .val .null, .val (.ref s.heap.size)] [.int (Int32.ofNat len), .ref s.heap.size, .ref a])) := c9.trans (by
      refine XS.astore X8.here hexec rfl (hb hbytes d39) rfl rfl rfl ?_
      refine XS.aloadN X8.here hexec rfl (hb hbytes d41) rfl rfl ?_
      refine XS.aload X8.here hexec rfl (hb hbytes d42) rfl rfl ?_
      refine XS.iloadN X8.here hexec rfl (hb hbytes d44) rfl ?_
      exact Steps.refl _)
    rw [n4]; exact hc
  obtain ⟨v11, T11, X11, E11, g11⟩ := X8.callS hexec (CodL.law l s.heap.size N) hown (wks W (staticW "java/lang/String" 47 CodL.yN)) (wk W CodL.tab) (W := 1) (Nat.le_of_ble_eq_true rfl) (Nat.le_of_ble_eq_true rfl) (Nat.le_refl _) (by show 0 + len + 0 ≤ len; omega) (g := (mkF m 45 #[.val (.ref a), .val (.ref b), .val (.int (Int32.ofNat o)), .val (.int (Int32.ofNat len)), .val .null, .val (.ref s.heap.size)] [.int (Int32.ofNat N.slots.size), .ref s.heap.size, .ref a])) rfl (by rw [hml]; rfl) c10 (argsL := [.ref s.heap.size, .int (Int32.ofNat N.slots.size)]) (rest := [.ref a]) rfl rfl (by show 2 * 0 + (1 + 0) ≤ _; decide) (hb hbytes d45) (⟨rfl, n1⟩)
  obtain ⟨rfl, q11⟩ := E11
  have hB11 := hB1.mv (X8.warmed.alike.symm.trans X11.warmed.alike) q11
  have c12 : Steps p.tables e below (s₁.setTop (entryFrame m #[.ref a, .ref b, .int (Int32.ofNat o), .int (Int32.ofNat len), .null] 6)) (T11.setTop (mkF m 48 #[.val (.ref a), .val (.ref b), .val (.int (Int32.ofNat o)), .val (.int (Int32.ofNat len)), .val .null, .val (.ref s.heap.size)] [.int 0, .ref a])) := g11
  obtain ⟨T13, X13, p13, bl13, sl13, st13⟩ := X11.finit hexec hown (wk W (.fieldLink "java/lang/String" 15 "java/lang/String" "coder" "B")) (Or.inr ⟨_, (wk W (.laysFinal "java/lang/String" "java/lang/String" "coder" "B"))⟩) (Or.inl ⟨rfl, hnm⟩) f2 (Or.inl rfl) hB11 (t := .byte) (by decide +kernel) rfl (g := (mkF m 48 #[.val (.ref a), .val (.ref b), .val (.int (Int32.ofNat o)), .val (.int (Int32.ofNat len)), .val .null, .val (.ref s.heap.size)] [.int 0, .ref a])) rfl (rest := []) rfl (hb hbytes d48)
  have c14 : Steps p.tables e below (s₁.setTop (entryFrame m #[.ref a, .ref b, .int (Int32.ofNat o), .int (Int32.ofNat len), .null] 6)) (T13.setTop (mkF m 54 #[.val (.ref a), .val (.ref b), .val (.int (Int32.ofNat o)), .val (.int (Int32.ofNat len)), .val .null, .val (.ref s.heap.size)] [.ref s.heap.size, .ref a])) := (c12.trans (st13 _ (Steps.refl _))).trans (by
    refine XS.aloadN X13.here hexec rfl (hb hbytes d51) rfl rfl ?_
    refine XS.aload X13.here hexec rfl (hb hbytes d52) rfl rfl ?_
    exact Steps.refl _)
  obtain ⟨T15, X15, p15, bl15, sl15, st15⟩ := X13.finit hexec hown (wk W (.fieldLink "java/lang/String" 9 "java/lang/String" "value" "[B")) (Or.inr ⟨_, (wk W (.laysFinal "java/lang/String" "java/lang/String" "value" "[B"))⟩) (Or.inl ⟨rfl, hnm⟩) f1 (Or.inl rfl) bl13 (t := (.array .byte)) (by decide +kernel) rfl (g := (mkF m 54 #[.val (.ref a), .val (.ref b), .val (.int (Int32.ofNat o)), .val (.int (Int32.ofNat len)), .val .null, .val (.ref s.heap.size)] [.ref s.heap.size, .ref a])) rfl (rest := []) rfl (hb hbytes d54)
  have c16 : Steps p.tables e below (s₁.setTop (entryFrame m #[.ref a, .ref b, .int (Int32.ofNat o), .int (Int32.ofNat len), .null] 6)) (T15.setTop (mkF m 57 #[.val (.ref a), .val (.ref b), .val (.int (Int32.ofNat o)), .val (.int (Int32.ofNat len)), .val .null, .val (.ref s.heap.size)] [])) := c14.trans (st15 _ (Steps.refl _))
  have ap := apart (Or.inr ⟨_, (wk W (.laysFinal "java/lang/String" "java/lang/String" "value" "[B"))⟩) (Or.inr ⟨_, (wk W (.laysFinal "java/lang/String" "java/lang/String" "coder" "B"))⟩) f1 f2 (t₁ := .array .byte) (t₂ := .byte) (by decide +kernel) (by decide +kernel) (by decide)
  have al := X8.warmed.alike.symm.trans X15.warmed.alike
  have n7 : T11.heap[s.heap.size]? = some N := by rw [q11]; exact n1.1
  exact ⟨T15, none, _, _, _, X15, by simp, rfl, by omega, (fun _ => rfl), ⟨rfl, _, N, bl15, ((Same.refl D _).set _ (by simp)).set _ (by simp), sl15, (Cell.slots_setSlot_ne _ ap).trans sl13, n1.keep al (p15.other hne (p13.other hne n7)), n2, by rw [al.findClass]; exact n3, n4, n5, fun y c h1 h2 => p15.other h1 (p13.other h1 (by rw [q11]; exact n6 y c h2)), by rw [p15.2.2, p13.2.2, q11]; exact z8⟩, fun fs hl => c16.trans (X15.returnOut hexec hret (hb hbytes d57) hl)⟩
end New4
namespace New1
def yN : MethodName := ⟨"java/lang/String", "<init>", "([C)V"⟩
abbrev yB : ByteArray := jdk_42_method_3_code
theorem d0 : decode yB 0 = .ok (.aload_n 0, 1) := by decide +kernel
theorem d1 : decode yB 1 = .ok (.aload_n 1, 1) := by decide +kernel
theorem d2 : decode yB 2 = .ok (.iconst 0, 1) := by decide +kernel
theorem d3 : decode yB 3 = .ok (.aload_n 1, 1) := by decide +kernel
theorem d4 : decode yB 4 = .ok (.arraylength, 1) := by decide +kernel
theorem d5 : decode yB 5 = .ok (.aconst_null, 1) := by decide +kernel
theorem d6 : decode yB 6 = .ok (.invokespecial 27, 3) := by decide +kernel
theorem d9 : decode yB 9 = .ok (.return_, 1) := by decide +kernel
def site : List Cond := [New4.tab] ++ initW "java/lang/String" 27 New4.yN
def tab : Cond := tabOf yN yB 2 none site
def P (a : Addr) (D : Cell) (fV fC : Field) (b : Addr) (A : Cell) (z : Int32) (args : Array Value) (s : State) : Prop := args = #[.ref a, .ref b] ∧ Blank "java/lang/String" a D s ∧ Found "java/lang/String" "value" "[B" fV s ∧ Found "java/lang/String" "coder" "B" fC s ∧ Ch b A s ∧ StaticIs s "java/lang/String" "COMPACT_STRINGS" "Z" (.int z) ∧ ¬ z = 0 ∧ 0 < A.slots.size ∧ A.slots.size ≤ 536870912 ∧ ∀ i, i < A.slots.size → ¬ 255 < cv A i
def E (a : Addr) (D : Cell) (fV fC : Field) (A : Cell) (r : Option Value) (s u : State) : Prop := Got a D fV fC A 0 A.slots.size r s u
/-- new String(chars), not empty, no char above 255: a Latin-1 String of their low bytes -/
theorem law (l : Launch) (a : Addr) (D : Cell) (fV fC : Field) (b : Addr) (A : Cell) (z : Int32) : Law l yN 2 1 3 52 yB 2 none site (P a D fV fC b A z) (E a D fV fC A) [⟨a, fC.slot⟩, ⟨a, fV.slot⟩] 1 A.slots.size := by
  refine Law.of_walk (plainFor_of_name (by decide +kernel)) (by decide +kernel) (by decide +kernel) (by decide) (fun _ _ h => by rw [h.1]; rfl) (fun _ U U' hal hh h => ⟨h.1, h.2.1.mv hal hh, h.2.2.1.al hal, h.2.2.2.1.al hal, h.2.2.2.2.1.mv hal hh, h.2.2.2.2.2.1.there hal hh, h.2.2.2.2.2.2⟩) (fun r U U' V V' h1 hal h2 h => Got.mv r U U' V V' h1 hal h2 h) ?_
  intro p e s m args below meth c s₁ X0 hexec hbytes hml hret hlk hnm hown hh0 W hP
  obtain ⟨rfl, hB, f1, f2, hA, s1, hz, l0, l2, hp⟩ := hP
  have c1 : Steps p.tables e below (s₁.setTop (entryFrame m #[.ref a, .ref b] 2)) (s₁.setTop (mkF m 0 #[.val (.ref a), .val (.ref b)] [])) := entry rfl
  have c2 : Steps p.tables e below (s₁.setTop (entryFrame m #[.ref a, .ref b] 2)) (s₁.setTop (mkF m 6 #[.val (.ref a), .val (.ref b)] [.null, .int (Int32.ofNat A.slots.size), .int 0, .ref b, .ref a])) := c1.trans (by
    refine XS.aloadN X0.here hexec rfl (hb hbytes d0) rfl rfl ?_
    refine XS.aloadN X0.here hexec rfl (hb hbytes d1) rfl rfl ?_
    refine iconstV X0.here hexec rfl 0 (hb hbytes d2) (by decide) ?_
    refine XS.aloadN X0.here hexec rfl (hb hbytes d3) rfl rfl ?_
    refine X0.alen hexec (hA.1.mv X0.warmed.alike hh0) rfl rfl (hb hbytes d4) ?_
    refine XS.aconstNull X0.here hexec rfl (hb hbytes d5) ?_
    exact Steps.refl _)
  obtain ⟨v3, T3, X3, E3, g3⟩ := X0.callN hexec (New4.law l a D fV fC b A z 0 A.slots.size) rfl hown (wks W (initW "java/lang/String" 27 New4.yN)) (W New4.tab (by simp only [site, List.mem_cons, List.mem_append, true_or, or_true])) (W := 0) (Nat.le_of_ble_eq_true rfl) (Nat.le_of_ble_eq_true rfl) (Nat.le_refl _) (by show 0 + A.slots.size ≤ A.slots.size; omega) (g := (mkF m 6 #[.val (.ref a), .val (.ref b)] [.null, .int (Int32.ofNat A.slots.size), .int (Int32.ofNat 0), .ref b, .ref a])) rfl (by rw [hml]; rfl) c2 (argsL := [.ref b, .int (Int32.ofNat 0), .int (Int32.ofNat A.slots.size), .null]) (rest := []) rfl rfl (by show 2 * 0 + 0 ≤ _; decide) (hb hbytes d6) (⟨rfl, hB.mv X0.warmed.alike hh0, f1.al X0.warmed.alike, f2.al X0.warmed.alike, hA.mv X0.warmed.alike hh0, s1.there X0.warmed.alike hh0, hz, l0, by omega, l2, fun i hi => by rw [Nat.zero_add]; exact hp i hi⟩)
  have e0 := Got.mv _ s₁ s _ _ hh0.symm (Vm.Alike.refl _) rfl E3
  obtain rfl := e0.1
  have c4 : Steps p.tables e below (s₁.setTop (entryFrame m #[.ref a, .ref b] 2)) (T3.setTop (mkF m 9 #[.val (.ref a), .val (.ref b)] [])) := g3
  exact ⟨T3, none, _, _, _, X3, by simp, rfl, by omega, (fun _ => rfl), e0, fun fs hl => c4.trans (X3.returnOut hexec hret (hb hbytes d9) hl)⟩
theorem pays {l : Launch} {R : Room} {p : Program} {e : Env} {below : List Frame} {s : State} {sargs : Array Value} {len W : Nat} (a : Addr) (D : Cell) (fV fC : Field) (b : Addr) (A : Cell) (z : Int32) (htab : tab.before sargs s = true) (hfr : 4 ≤ R.frames) (hlo : W + 65 ≤ R.locals) :
    Back l R p e below s sargs yN len W (fun A₁ a₁ => A₁.cells + 1 ≤ R.cells ∧ A₁.slots + A.slots.size ≤ R.slots ∧ P a D fV fC b A z a₁ A₁.U) (fun A₁ _ v₁ B₁ => E a D fV fC A v₁ A₁.U B₁.U ∧ B₁.locs = A₁.locs ++ [⟨a, fC.slot⟩, ⟨a, fV.slot⟩] ∧ B₁.cells = A₁.cells + 1 ∧ B₁.slots = A₁.slots + A.slots.size) :=
  (law l a D fV fC b A z).pays htab hfr (by omega)
end New1
end StrChars
namespace StrChars.Road
open Jvm Sem ClassFile Op Lib Jvm.Stand Jvm.Free Jvm.Free.XT
open Jvm.Lib.Cold (StaticIs)
abbrev ST : String := "java/lang/String"
/-- every table word that New1's law asks, flat -/
abbrev words : List Jvm.Cond := [.code New1.yN New1.yB 2 none, .initialized ST, .methodLink ST 27 New4.yN, .instanceMethod New4.yN,
  .code New4.yN New4.yB 6 none, .fieldLink ST 38 ST "COMPACT_STRINGS" "Z", .laysFinal ST ST "value" "[B", .fieldLink ST 9 ST "value" "[B", .laysFinal ST ST "coder" "B", .fieldLink ST 15 ST "coder" "B",
  .methodLink ST 1 Lib.objectInit, .instanceMethod Lib.objectInit, .code Lib.objectInit ⟨#[0xb1]⟩ 1 none, .methodLink ST 177 Cmp3.yN, .static Cmp3.yN, .methodLink ST 47 CodL.yN, .static CodL.yN,
  .code Cmp3.yN Cmp3.yB 6 (some (.array .byte)), .initialized U16, .arrayClass .byte, .methodLink U16 115 Cmp5.yN, .static Cmp5.yN, .code Cmp5.yN Cmp5.yB 7 (some .int), .code CodL.yN CodL.yB 2 (some .byte)]
theorem tab_of {a : Array Value} {s : State} (h : ∀ w ∈ words, w.before a s = true) : New1.tab.before a s = true := by
  have h5 : Cmp5.tab.before a s = true := unparts (wk h (.code Cmp5.yN Cmp5.yB 7 (some .int))) (wks h (.initialized Cmp5.yN.cls :: Cmp5.site))
  have hc : CodL.tab.before a s = true := unparts (wk h (.code CodL.yN CodL.yB 2 (some .byte))) (wks h (.initialized CodL.yN.cls :: CodL.site))
  have q5 : ∀ w ∈ Cmp5.tab :: words, w.before a s = true := fun w hw => (List.mem_cons.mp hw).elim (fun e => e ▸ h5) (h w)
  have h3 : Cmp3.tab.before a s = true := unparts (wk q5 (.code Cmp3.yN Cmp3.yB 6 (some (.array .byte)))) (wks q5 (.initialized Cmp3.yN.cls :: Cmp3.site))
  have q3 : ∀ w ∈ Cmp3.tab :: CodL.tab :: words, w.before a s = true := fun w hw => (List.mem_cons.mp hw).elim (fun e => e ▸ h3) fun hw => (List.mem_cons.mp hw).elim (fun e => e ▸ hc) (h w)
  have h4 : New4.tab.before a s = true := unparts (wk q3 (.code New4.yN New4.yB 6 none)) (wks q3 (.initialized New4.yN.cls :: New4.site))
  have q4 : ∀ w ∈ New4.tab :: words, w.before a s = true := fun w hw => (List.mem_cons.mp hw).elim (fun e => e ▸ h4) (h w)
  exact unparts (wk q4 (.code New1.yN New1.yB 2 none)) (wks q4 (.initialized New1.yN.cls :: New1.site))
/-- the words ride from the start Z to the walk's own state -/
theorem moved {Z s : State} {a0 args : Array Value} (hZ : Z.Warmed39 s.vm) (hw : ∀ d ∈ words, d.before a0 Z = true) : ∀ d ∈ words, d.before args s = true := fun d hd => by
  have q := hw d hd
  have t : ∀ d ∈ words, d = .arrayClass .byte ∨ (d.onTables && d.keepsFace) = true := by decide +kernel
  rcases t d hd with rfl | t
  · exact RoadKit.mvA hZ q
  · exact RoadKit.mv hZ q t
/-- WHAT COMES BACK, over the tables of the start Z: h the heap at the call, h' behind it -/
def Q (Z : State) (x : Addr) (A : Cell) (h : Heap) (v : Option Value) (h' : Heap) (L : List Loc) : Prop := v = none ∧ (∀ y ∈ L, y.base = x) ∧ RoadKit.Keep h h' [x] ∧ h'.size = h.size + 1 ∧ RoadKit.Exa Z h' x ST ∧ RoadKit.Fld Z h' x ST "value" "[B" (.ref h.size) ∧ RoadKit.Fld Z h' x ST "coder" "B" (.int 0) ∧
  (∃ V : Cell, RoadKit.Arr Z h' h.size V .byte ∧ V.vm = .none ∧ Z.vm.findClass "[B" = some V.cls ∧ V.slots.size = A.slots.size ∧ ∀ j, j < A.slots.size → V.slots[j]? = some (.int (lo8 (cv A j)))) ∧
  ∀ (O n d : String) (w : Value), RoadKit.Fld Z h x O n d w → RoadKit.slotOf Z O n d ≠ RoadKit.slotOf Z ST "value" "[B" → RoadKit.slotOf Z O n d ≠ RoadKit.slotOf Z ST "coder" "B" → RoadKit.Fld Z h' x O n d w
/-- **new String(chars) AT A CALL, IN THE ROAD'S FORM**: for specialBack behind newO: x the fresh String, b the char[] with the cell A -/
theorem back {p : Program} {l : Launch} {e : Env} {R : Room} {s : State} {args : Array Value} {below : List Frame} {len W : Nat} {Z : State} {a0 : Array Value} {h : Heap} (hZ : Z.Warmed39 s.vm) (hw : ∀ d ∈ words, d.before a0 Z = true) {kI : Nat} (wi : (Jvm.Cond.instantiable ST kI).before a0 Z = true)
    {x b : Addr} {A : Cell} {z : Int32} {v0 c0 : Value} (E : RoadKit.Exa Z h x ST) (V : RoadKit.Fld Z h x ST "value" "[B" v0) (C : RoadKit.Fld Z h x ST "coder" "B" c0) (K : RoadKit.Arr Z h b A .char) (hty : Typed .char A) (S : RoadKit.Sta Z h ST "COMPACT_STRINGS" "Z" (.int z)) (hz : ¬ z = 0)
    (l0 : 0 < A.slots.size) (l2 : A.slots.size ≤ 536870912) (hp : ∀ i, i < A.slots.size → ¬ 255 < cv A i) (hfr : 4 ≤ R.frames) (hlo : W + 65 ≤ R.locals) :
    Back l R p e below s args New1.yN len W (fun P a => a = #[.ref x, .ref b] ∧ P.U.heap = h ∧ P.cells + 1 ≤ R.cells ∧ P.slots + A.slots.size ≤ R.slots)
      (fun P _ v B => ∃ L, Q Z x A h v B.U.heap L ∧ B.locs = P.locs ++ L ∧ B.cells = P.cells + 1 ∧ B.slots = P.slots + A.slots.size) := by
  intro m meth c P g ig mk a X hg hsize hdg hW hn hp'
  obtain ⟨rfl, rfl, r1, r2⟩ := hp'
  have al : Z.vm.Alike P.U.vm := hZ.alike.trans X.warmed.alike
  obtain ⟨D, cfV, kV, iV, fV, hD, gV, stV, knV, obV, asV, slV⟩ := id V
  obtain ⟨D', cfC, kC, iC, fC, hD', gC, stC, -, -, asC, slC⟩ := id C
  cases hD.symm.trans hD'
  obtain ⟨D2, kD, e1, e2, e3, e4, e5⟩ := id E
  cases hD.symm.trans e1
  obtain ⟨c2, k2, i1, i2, i3, -⟩ := Cond.instantiable_spec wi
  cases e2.symm.trans i1
  cases e3.symm.trans i2
  obtain ⟨kU, u1, u2⟩ := al.2.2 _ _ e3
  have hB : Blank ST x D P.U := ⟨hD, ⟨knV, fun q hq => by rw [hq] at obV; cases obV⟩, by rw [al.findClass]; exact e2, kU, u1, by rw [u2]; exact i3, by rw [u2]; exact e5 i3⟩
  have F1 : Found ST "value" "[B" fV P.U := ⟨SBG.found_only al ⟨cfV, kV, iV, gV⟩, stV⟩
  have F2 : Found ST "coder" "B" fC P.U := ⟨SBG.found_only al ⟨cfC, kC, iC, gC⟩, stC⟩
  have hA : Ch b A P.U := ⟨⟨K.1, State.isArrayOf_alike al K.2.1, K.2.2, by omega⟩, hty⟩
  have hS : StaticIs P.U ST "COMPACT_STRINGS" "Z" (.int z) := by
    obtain ⟨cfS, iS, kS, fS, st, cS, t1, t2, t3, t4, t5, t6, t7⟩ := S
    exact StaticIs.there (s := { Z with heap := P.U.heap }) ⟨cfS, iS, kS, fS, st, cS, t1, t2, t3, t4, t5, (fun q => by rw [q] at t6; cases t6), t7⟩ al rfl
  obtain ⟨v, B, X', ⟨⟨hv, E', V', q1, q2, q3, q4, q5, q6, q7, q8, q9, q10, q11⟩, hl, hc, hs⟩, st⟩ := New1.pays x D fV fC b A z (tab_of (moved hZ hw)) hfr hlo m meth c P g ig mk _ X hg hsize hdg hW hn ⟨r1, r2, rfl, hB, F1, F2, hA, hS, hz, l0, l2, hp⟩
  have al' : Z.vm.Alike B.U.vm := hZ.alike.trans X'.warmed.alike
  have hsz : E'.slots.size = D.slots.size := by
    obtain ⟨-, -, -, kB, w1, w2, w3⟩ := q1
    obtain ⟨kB', y1, y2⟩ := al'.2.2 _ _ e3
    rw [q2.2.1] at w1
    cases w1.symm.trans y1
    rw [w3, e5 i3, y2]
  refine ⟨v, B, X', ⟨_, ⟨hv, ?_, ⟨by omega, fun y cy hy hn' => q10 y cy (by simpa using hn') hy, fun y cy hy => ?_⟩, q11, ⟨E', _, q1.1, by rw [q2.2.1]; exact e2, by rw [q2.2.1]; exact e3, by rw [q2.1]; exact obV, fun _ => by rw [hsz]; exact e5 i3⟩,
    ⟨E', cfV, kV, iV, fV, q1.1, gV, stV, by rw [q2.1]; exact knV, by rw [q2.1]; exact obV, by rw [q2.2.1]; exact asV, q3⟩, ⟨E', cfC, kC, iC, fC, q1.1, gC, stC, by rw [q2.1]; exact knV, by rw [q2.1]; exact obV, by rw [q2.2.1]; exact asC, q4⟩,
    ⟨V', ⟨q5.1, State.isArrayOf_alike al'.symm q5.2.1, q5.2.2.1⟩, q6, by rw [← al'.findClass]; exact q7, q8, fun j hj => by have := q9 j hj; rwa [Nat.zero_add] at this⟩, fun O n d w F n1 n2 => ?_⟩, hl, hc, hs⟩, st⟩
  · intro y hy
    simp only [List.mem_cons, List.not_mem_nil, or_false] at hy
    rcases hy with rfl | rfl <;> rfl
  · by_cases q : y = x
    · subst q
      cases hD.symm.trans hy
      exact ⟨E', q1.1, q2.2.1, q2.1, hsz⟩
    · exact ⟨cy, q10 y cy q hy, rfl, rfl, rfl⟩
  · obtain ⟨D3, cf, k, i, f, g1, g2, g3, g4, g5, g6, g7⟩ := F
    cases hD.symm.trans g1
    simp only [RoadKit.slotOf, g2, gV, gC, Option.map_some, Option.getD_some] at n1 n2
    exact ⟨E', cf, k, i, f, q1.1, g2, g3, by rw [q2.1]; exact g4, by rw [q2.1]; exact g5, by rw [q2.2.1]; exact g6, by rw [q2.2.2 f.slot (by simp [n1, n2])]; exact g7⟩
end StrChars.Road
namespace StrChars.Road
open Jvm Sem ClassFile Op Lib Jvm.Stand Jvm.Free Jvm.Free.XT
/-- WHAT COMES BACK, the byte[] as a list of values -/
def QA (Z : State) (x : Addr) (zn : Int32) (cs : List Int32) (h : Heap) (v : Option Value) (h' : Heap) (L : List Loc) : Prop := v = none ∧ (∀ y ∈ L, y.base = x) ∧ RoadKit.Keep h h' [x] ∧ h'.size = h.size + 1 ∧ RoadKit.Exa Z h' x ST ∧ RoadKit.Fld Z h' x ST "value" "[B" (.ref h.size) ∧ RoadKit.Fld Z h' x ST "coder" "B" (.int 0) ∧
  (∃ kb, Z.vm.findClass "[B" = some kb ∧ RoadKit.Arv Z h' h.size kb .byte zn (cs.map fun c => .int (lo8 c)) (.int 0)) ∧
  ∀ (O n d : String) (w : Value), RoadKit.Fld Z h x O n d w → RoadKit.slotOf Z O n d ≠ RoadKit.slotOf Z ST "value" "[B" → RoadKit.slotOf Z O n d ≠ RoadKit.slotOf Z ST "coder" "B" → RoadKit.Fld Z h' x O n d w
/-- **new String(chars) AT A CALL, THE ARRAYS AS LISTS**: the char[] at b holds cs, not empty, no char above 255 -/
theorem backArv {p : Program} {l : Launch} {e : Env} {R : Room} {s : State} {args : Array Value} {below : List Frame} {len W : Nat} {Z : State} {a0 : Array Value} {h : Heap} (hZ : Z.Warmed39 s.vm) (hw : ∀ d ∈ words, d.before a0 Z = true) {kI : Nat} (wi : (Jvm.Cond.instantiable ST kI).before a0 Z = true)
    {x b : Addr} {k : ClassId} {zn z : Int32} {cs : List Int32} {dv v0 c0 : Value} (E : RoadKit.Exa Z h x ST) (V : RoadKit.Fld Z h x ST "value" "[B" v0) (C : RoadKit.Fld Z h x ST "coder" "B" c0) (K : RoadKit.Arv Z h b k .char zn (cs.map Value.int) dv) (S : RoadKit.Sta Z h ST "COMPACT_STRINGS" "Z" (.int z)) (hz : ¬ z = 0)
    (hlen : zn.toNatClampNeg = cs.length) (h0 : 0 < cs.length) (hbig : cs.length ≤ 536870912) (hall : ∀ c ∈ cs, ¬ 255 < c) (hfr : 4 ≤ R.frames) (hlo : W + 65 ≤ R.locals) :
    Back l R p e below s args New1.yN len W (fun P a => a = #[.ref x, .ref b] ∧ P.U.heap = h ∧ P.cells + 1 ≤ R.cells ∧ P.slots + cs.length ≤ R.slots)
      (fun P _ v B => ∃ L, QA Z x zn cs h v B.U.heap L ∧ B.locs = P.locs ++ L ∧ B.cells = P.cells + 1 ∧ B.slots = P.slots + cs.length) := by
  obtain ⟨A, K1, K2, K3, K4, K5, K6⟩ := K
  have e : A.slots.size = cs.length := K3.trans hlen
  have hat : ∀ (i : Nat) (hi : i < cs.length), A.slots[i]? = some (.int cs[i]) := fun i hi => by rw [K5 i (by omega)]; simp [List.getD_eq_getElem?_getD, hi]
  have hcv : ∀ (i : Nat) (hi : i < cs.length), cv A i = cs[i] := fun i hi => by unfold cv; rw [hat i hi]
  have hty : Typed .char A := fun i v hv => by
    have hi : i < A.slots.size := (Array.getElem?_eq_some_iff.mp hv).1
    have q := K5 i hi
    rw [hv] at q
    rw [Option.some.inj q]
    exact K6 i hi
  refine Back.mono (back hZ hw wi E V C K1 hty S hz (by omega) (by omega) (fun i hi => by rw [hcv i (by omega)]; exact hall _ (List.getElem_mem _)) hfr hlo) (fun P a hp => ⟨hp.1, hp.2.1, hp.2.2.1, by rw [e]; exact hp.2.2.2⟩) (fun P a v B hp hq => ?_)
  obtain ⟨L, ⟨q1, q2, q3, q4, q5, q6, q7, ⟨V', v1, v2, v3, v4, v5⟩, q9⟩, hl, hc, hs⟩ := hq
  refine ⟨L, ⟨q1, q2, q3, q4, q5, q6, q7, ⟨V'.cls, v3, V', v1, rfl, by rw [v4, e, hlen], K4, fun i hi => ?_, fun i hi => ?_⟩, q9⟩, hl, hc, by rw [hs, e]⟩
  · have hi' : i < cs.length := by omega
    rw [v5 i (by omega), hcv i hi']; simp [List.getD_eq_getElem?_getD, hi']
  · have hi' : i < cs.length := by omega
    simp only [List.getD_eq_getElem?_getD, List.getElem?_map, List.getElem?_eq_getElem hi', Option.map_some, Option.getD_some]
    exact fits_lo8 _
end StrChars.Road
namespace StrChars.Road
open Jvm Sem ClassFile Op Lib Jvm.Stand Jvm.Free Jvm.Free.XT
/-- WHAT COMES BACK, in the writer's own shape -/
def QV (Z : State) (x : Addr) (N : Int32) (bs : List Int32) (h : Heap) (n0 : Nat) (v : Option Value) (h' : Heap) (L : List Loc) : Prop := v = none ∧ RoadKit.Fr n0 L ∧ RoadKit.Keep h h' [x] ∧ RoadKit.Exa Z h' x ST ∧ RoadKit.Fld Z h' x ST "coder" "B" (.int 0) ∧
  ∃ (t : Addr) (kb : ClassId), n0 ≤ t ∧ h.size ≤ t ∧ ¬ t = x ∧ RoadKit.Fld Z h' x ST "value" "[B" (.ref t) ∧ RoadKit.Arv Z h' t kb .byte N (bs.map Value.int) (.int 0)
/-- **new String(chars) AT A CALL, FOR THE WRITER**: a char[] of n known ints, each 0 to 255 -/
theorem backV {p : Program} {l : Launch} {e : Env} {R : Room} {s : State} {args : Array Value} {below : List Frame} {len W : Nat} {Z : State} {a0 : Array Value} {h : Heap} (hZ : Z.Warmed39 s.vm) (hw : ∀ d ∈ words, d.before a0 Z = true) {kI : Nat} (wi : (Jvm.Cond.instantiable ST kI).before a0 Z = true)
    {x b : Addr} {kC : ClassId} {cs bs : List Int32} {d v0 c0 : Value} {z N : Int32} {n n0 : Nat} (hx0 : n0 ≤ x) (hh0 : n0 ≤ h.size) (E : RoadKit.Exa Z h x ST) (V : RoadKit.Fld Z h x ST "value" "[B" v0) (C : RoadKit.Fld Z h x ST "coder" "B" c0) (K : RoadKit.Arv Z h b kC .char N (cs.map Value.int) d) (S : RoadKit.Sta Z h ST "COMPACT_STRINGS" "Z" (.int z)) (hz : ¬ z = 0)
    (hn : cs.length = n) (hN : N = Int32.ofNat n) (l0 : 0 < n) (l2 : n ≤ 4000) (hp : ∀ c ∈ cs, ¬ c < 0 ∧ ¬ (255 : Int32) < c) (hb : bs = cs.map (fun c => c.toInt8.toInt32)) (hfr : 4 ≤ R.frames) (hlo : W + 65 ≤ R.locals) :
    Back l R p e below s args (⟨"java/lang/String", "<init>", "([C)V"⟩ : MethodName) len W (fun P a => a = #[.ref x, .ref b] ∧ P.U.heap = h ∧ P.cells + 1 ≤ R.cells ∧ P.slots + n ≤ R.slots)
      (fun P _ v B => ∃ L, QV Z x N bs h n0 v B.U.heap L ∧ B.locs = P.locs ++ L ∧ B.cells = P.cells + 1 ∧ B.slots = P.slots + n) := by
  subst hn hN hb
  refine Back.mono (backArv hZ hw wi E V C K S hz (n32 (by omega)) l0 (by omega) (fun c hc => (hp c hc).2) hfr hlo) (fun P a hp => hp) (fun P a v B hp hq => ?_)
  obtain ⟨L, ⟨q1, q2, q3, q4, q5, q6, q7, ⟨kb, v1, v2⟩, q9⟩, hl, hc, hs⟩ := hq
  exact ⟨L, ⟨q1, fun y hy => by rw [q2 y hy]; exact hx0, q3, q5, q7, h.size, kb, hh0, Nat.le_refl _, Nat.ne_of_gt E.lt, q6, by rw [List.map_map]; exact v2⟩, hl, hc, hs⟩
end StrChars.Road
end Jvm.Pilot.@@N@@
namespace Jvm.Pilot.@@N@@
open Jvm Jvm.ClassFile Sem Op Lib Jvm.Free Jvm.Stand Jvm.LawKit Jvm.RoadKit Bundle Jvm.Pilot.@@N@@.Jvm.D
/-! own text: a small calculus of roads: 'Go' says that from here the method comes to its end -/
abbrev Cx : Type := (Program × Launch × Env × Room) × (State × MethodId × Array Value × List Frame) × (Method × Code) × (Nat × Nat × Bool × String × List (String × Nat))
abbrev Cx.p (C : Cx) : Program := C.1.1
abbrev Cx.l (C : Cx) : Launch := C.1.2.1
abbrev Cx.e (C : Cx) : Env := C.1.2.2.1
abbrev Cx.R (C : Cx) : Room := C.1.2.2.2
abbrev Cx.s (C : Cx) : State := C.2.1.1
abbrev Cx.m (C : Cx) : MethodId := C.2.1.2.1
abbrev Cx.args (C : Cx) : Array Value := C.2.1.2.2.1
abbrev Cx.below (C : Cx) : List Frame := C.2.1.2.2.2
abbrev Cx.meth (C : Cx) : Method := C.2.2.1.1
abbrev Cx.c (C : Cx) : Code := C.2.2.1.2
abbrev Cx.ck (C : Cx) : Nat := C.2.2.2.1
abbrev Cx.ns (C : Cx) : Nat := C.2.2.2.2.1
abbrev Cx.wide (C : Cx) : Bool := C.2.2.2.2.2.1
abbrev Cx.own (C : Cx) : String := C.2.2.2.2.2.2.1
abbrev Cx.EL (C : Cx) : List (String × Nat) := C.2.2.2.2.2.2.2
abbrev StandC (C : Cx) (vm0 : Vm) (T : State) (locs : List Loc) (k n : Nat) : Prop := Stand C.p C.l C.e C.R (C.s.setVm vm0) C.m C.args C.below C.meth C.c T locs k n
abbrev StepsC (C : Cx) (a b : State) : Prop := Steps C.p.tables C.e C.below a b
def Ok (C : Cx) (Z : State) (a0 : Array Value) (b : ByteArray) (ml : Nat) (ret : Option FieldType) (nm own : String) (rm : Room) : Prop :=
  C.p.tables.exec = Jvm.exec ∧ C.c.code = b ∧ C.c.maxLocals = ml ∧ C.meth.sig.returnType = ret ∧ C.meth.name = nm ∧ C.own = own ∧ C.R = rm ∧ C.meth.locks = false ∧ C.ck = rm.cells ∧ C.ns = rm.slots ∧ EW Z a0 C.EL ∧ (∀ d ∈ tables_1, d.before a0 Z = true)
def Hr (C : Cx) (Z : State) (n0 : Nat) (M : List Addr) (T : State) (h : Heap) (k n : Nat) : Prop :=
  ∃ (vm0 : Vm) (locs : List Loc) (k0 : Nat), StandC C vm0 T locs k n ∧ T.heap = h ∧ Z.Warmed39 vm0 ∧ vm0.findClass C.own = some C.m.cls ∧ C.s.Since vm0 k0 ∧ k0 ≤ h.size ∧ Fr n0 locs ∧ (C.wide = true ∨ vm0 = C.s.vm) ∧ CHr Z C.EL C.s.vm C.s.heap vm0 h ∧ (∀ x ∈ M, x < h.size ∧ Safe Z C.EL vm0 h x)
/-- a may be written: no constant's String lies there -/
def SafeOk (C : Cx) (Z : State) (M : List Addr) (h : Heap) (a : Addr) : Prop := C.EL = [] ∨ a ∈ M ∨ ∀ vm : Vm, Z.vm.Alike vm → Safe Z C.EL vm h a
def EndC (C : Cx) (Z : State) (o : Outcome) (s₂ : State) (L : List Loc) : Prop := CHr Z C.EL C.s.vm C.s.heap s₂.vm s₂.heap ∧ (C.wide = true → ReturnedEndW C.s o s₂ L C.ck C.ns) ∧ (C.wide = false → FrameEnd C.s o s₂ L C.ck C.ns)
def Go (C : Cx) (Z : State) (n0 : Nat) (Q : Option Value → Heap → Prop) (M : List Addr) (h : Heap) (k n pc : Nat) (L : Array Slot) (S : List Value) : Prop :=
  ∀ T, Hr C Z n0 M T h k n → ∃ (s₂ : State) (o : Outcome), StepsC C (T.setTop (mkF C.m pc L S)) s₂ ∧ s₂.status = .running ∧ Ended s₂ C.below o ∧ ∃ (v : Option Value) (Lc : List Loc), o = .returned v ∧ (Q v s₂.heap ∧ Fr n0 Lc ∧ C.s.heap.size ≤ s₂.heap.size) ∧ EndC C Z o s₂ Lc
section Cal
variable {C : Cx} {Z : State} {a0 : Array Value} {b : ByteArray} {ml : Nat} {ret : Option FieldType} {nm own : String} {rm : Room} {n0 : Nat} {Q : Option Value → Heap → Prop} {M : List Addr} {h : Heap} {k n pc : Nat} {L : Array Slot} {S : List Value}
theorem Ok.hw (o : Ok C Z a0 b ml ret nm own rm) : ∀ d ∈ tables_1, d.before a0 Z = true := o.2.2.2.2.2.2.2.2.2.2.2
theorem Ok.ew (o : Ok C Z a0 b ml ret nm own rm) : EW Z a0 C.EL := o.2.2.2.2.2.2.2.2.2.2.1
theorem Ok.R (o : Ok C Z a0 b ml ret nm own rm) : C.R = rm := o.2.2.2.2.2.2.1
theorem Ok.hown (o : Ok C Z a0 b ml ret nm own rm) : C.own = own := o.2.2.2.2.2.1
theorem Ok.hret (o : Ok C Z a0 b ml ret nm own rm) : C.meth.sig.returnType = ret := o.2.2.2.1
theorem Go.by {pc' : Nat} {L' : Array Slot} {S' : List Value} (K : Go C Z n0 Q M h k n pc' L' S')
    (st : ∀ (T : State) (vm0 : Vm) (locs : List Loc) (target : State), StandC C vm0 T locs k n → Z.Warmed39 vm0 → vm0.findClass C.own = some C.m.cls → T.heap = h → StepsC C (T.setTop (mkF C.m pc' L' S')) target → StepsC C (T.setTop (mkF C.m pc L S)) target) : Go C Z n0 Q M h k n pc L S := fun T H => by
  obtain ⟨s₂, oc, s1, r⟩ := K T H
  obtain ⟨vm0, locs, k0, X, e1, e2, e3, -⟩ := H
  exact ⟨s₂, oc, st T vm0 locs s₂ X e2 e3 e1 s1, r⟩
/-- the heap goes on from h to h', and the constants' invariant with it -/
def Mv (C : Cx) (Z : State) (M M' : List Addr) (h h' : Heap) : Prop := ∀ vm0 : Vm, Z.Warmed39 vm0 → CHv Z C.EL vm0 h → (∀ x ∈ M, x < h.size ∧ Safe Z C.EL vm0 h x) → CHr Z C.EL vm0 h vm0 h' ∧ ∀ x ∈ M', x < h'.size ∧ Safe Z C.EL vm0 h' x
theorem safe_nil {vm : Vm} {a : Addr} {EL : List (String × Nat)} (hE : EL = []) : Safe Z EL vm h a := fun B => by
  obtain ⟨p, hp, -⟩ := B
  rw [hE] at hp; cases hp
theorem chr_nil {vm vm1 : Vm} {h' : Heap} {EL : List (String × Nat)} (hE : EL = []) (hs : h.size ≤ h'.size) : CHr Z EL vm h vm1 h' := ⟨fun p hp => (by rw [hE] at hp; cases hp), hs, fun y q => absurd q (safe_nil hE)⟩
theorem SafeOk.safe {a : Addr} (q : SafeOk C Z M h a) {vm0 : Vm} (hZ : Z.Warmed39 vm0) (hM : ∀ x ∈ M, x < h.size ∧ Safe Z C.EL vm0 h x) : Safe Z C.EL vm0 h a := by
  rcases q with q | q | q
  · exact safe_nil q
  · exact (hM a q).2
  · exact q vm0 hZ.alike
theorem Mv.refl : Mv C Z M M h h := fun vm0 hZ H hM => ⟨CHr.refl H, hM⟩
theorem Mv.ext {h' : Heap} (E : Ext h h') : Mv C Z M M h h' := fun vm0 hZ H hM => ⟨CHr.ext E H, fun x hx => ⟨Nat.lt_of_lt_of_le (hM x hx).1 E.1, Safe.ext E H (hM x hx).2⟩⟩
theorem Mv.new {h' : Heap} {M' : List Addr} (E : Ext h h') (hl : h.size < h'.size) (hM' : ∀ x ∈ M', x ∈ M ∨ x = h.size) : Mv C Z M M' h h' := fun vm0 hZ H hM => ⟨CHr.ext E H, fun x hx => by
  rcases hM' x hx with q | rfl
  · exact ⟨Nat.lt_of_lt_of_le (hM x q).1 E.1, Safe.ext E H (hM x q).2⟩
  · exact ⟨hl, Safe.ext E H (Safe.new (Nat.le_refl _))⟩⟩
theorem Mv.wr {h' : Heap} {a : Addr} {sl : Nat} {v : Value} (W : Wr h h' a sl v) (q : SafeOk C Z M h a) : Mv C Z M M h h' := fun vm0 hZ H hM => ⟨CHr.wr W (q.safe hZ hM) H, fun x hx => ⟨by rw [W.size]; exact (hM x hx).1, Safe.wr W (q.safe hZ hM) H (hM x hx).2⟩⟩
theorem Mv.keep {h' : Heap} {ws : List Addr} (K : Keep h h' ws) (q : ∀ x ∈ ws, SafeOk C Z M h x) : Mv C Z M M h h' := fun vm0 hZ H hM =>
  have hs : ∀ x ∈ ws, Safe Z C.EL vm0 h x := fun x hx => (q x hx).safe hZ hM
  ⟨CHr.keep K hs H, fun x hx => ⟨Nat.lt_of_lt_of_le (hM x hx).1 K.1, Safe.keep K hs H (hM x hx).2⟩⟩
theorem Mv.triv {h' : Heap} (hE : C.EL = []) (hs : h.size ≤ h'.size) : Mv C Z M M h h' := fun vm0 hZ H hM => ⟨chr_nil hE hs, fun x hx => ⟨Nat.lt_of_lt_of_le (hM x hx).1 hs, safe_nil hE⟩⟩
theorem Go.via {ι : Type} {P : ι → Heap → Prop} {S' : ι → List Value} {k' n' pc' : Nat} {L' : Array Slot} {M' : List Addr} (K : ∀ i h', P i h' → Go C Z n0 Q M' h' k' n' pc' L' (S' i))
    (st : ∀ (T : State) (vm0 : Vm) (locs : List Loc), StandC C vm0 T locs k n → Z.Warmed39 vm0 → vm0.findClass C.own = some C.m.cls → T.heap = h → Fr n0 locs →
      ∃ (i : ι) (T' : State) (locs' : List Loc) (h' : Heap), P i h' ∧ StandC C vm0 T' locs' k' n' ∧ T'.heap = h' ∧ Fr n0 locs' ∧ Mv C Z M M' h h' ∧ ∀ target, StepsC C (T'.setTop (mkF C.m pc' L' (S' i))) target → StepsC C (T.setTop (mkF C.m pc L S)) target) : Go C Z n0 Q M h k n pc L S := fun T H => by
  obtain ⟨vm0, locs, k0, X, e1, e2, e3, e4, e5, e6, e7, e8, e9⟩ := H
  obtain ⟨i, T', locs', h', hP, X', e1', N', mv', step⟩ := st T vm0 locs X e2 e3 e1 e6
  obtain ⟨m1, m2⟩ := mv' vm0 e2 e8.1 e9
  obtain ⟨s₂, oc, s1, r⟩ := K i h' hP T' ⟨vm0, locs', k0, X', e1', e2, e3, e4, Nat.le_trans e5 m1.2.1, N', e7, e8.trans m1, m2⟩
  exact ⟨s₂, oc, step _ s1, r⟩
theorem Go.viaW (hwide : C.wide = true) {ι : Type} {P : ι → Heap → Prop} {S' : ι → List Value} {k' n' pc' : Nat} {L' : Array Slot} (K : ∀ i h', P i h' → Go C Z n0 Q M h' k' n' pc' L' (S' i))
    (st : ∀ (T : State) (vm0 : Vm) (locs : List Loc) (k0 : Nat), StandC C vm0 T locs k n → Z.Warmed39 vm0 → vm0.findClass C.own = some C.m.cls → T.heap = h → Fr n0 locs → C.s.Since vm0 k0 → k0 ≤ h.size → CHv Z C.EL vm0 h → (∀ x ∈ M, x < h.size ∧ Safe Z C.EL vm0 h x) →
      ∃ (i : ι) (T' : State) (vm1 : Vm) (locs' : List Loc) (h' : Heap) (k1 : Nat), P i h' ∧ StandC C vm1 T' locs' k' n' ∧ T'.heap = h' ∧ Fr n0 locs' ∧ C.s.Since vm1 k1 ∧ k1 ≤ h'.size ∧ Z.Warmed39 vm1 ∧ vm1.findClass C.own = some C.m.cls ∧ CHr Z C.EL vm0 h vm1 h' ∧
        ∀ target, StepsC C (T'.setTop (mkF C.m pc' L' (S' i))) target → StepsC C (T.setTop (mkF C.m pc L S)) target) : Go C Z n0 Q M h k n pc L S := fun T H => by
  obtain ⟨vm0, locs, k0, X, e1, e2, e3, e4, e5, e6, e7, e8, e9⟩ := H
  obtain ⟨i, T', vm1, locs', h', k1, hP, X', e1', N', hS, hk, hW, hf, hC, step⟩ := st T vm0 locs k0 X e2 e3 e1 e6 e4 e5 e8.1 e9
  obtain ⟨s₂, oc, s1, r⟩ := K i h' hP T' ⟨vm1, locs', k1, X', e1', hW, hf, hS, hk, N', Or.inl hwide, e8.trans hC, fun x hx => ⟨Nat.lt_of_lt_of_le (e9 x hx).1 hC.2.1, hC.safe (e9 x hx).1 (e9 x hx).2⟩⟩
  exact ⟨s₂, oc, step _ s1, r⟩
theorem Go.mine {x : Addr} (hx : x < h.size) (hs : ∀ vm : Vm, Z.vm.Alike vm → Safe Z C.EL vm h x) (K : Go C Z n0 Q (x :: M) h k n pc L S) : Go C Z n0 Q M h k n pc L S := fun T H => by
  obtain ⟨vm0, locs, k0, X, e1, e2, e3, e4, e5, e6, e7, e8, e9⟩ := H
  exact K T ⟨vm0, locs, k0, X, e1, e2, e3, e4, e5, e6, e7, e8, fun y hy => by
    rcases List.mem_cons.mp hy with rfl | q
    · exact ⟨hx, hs vm0 e2.alike⟩
    · exact e9 y q⟩
theorem Go.mono {k' n' : Nat} (hk : k ≤ k') (hn : n ≤ n') (K : Go C Z n0 Q M h k' n' pc L S) : Go C Z n0 Q M h k n pc L S := fun T H => by
  obtain ⟨vm0, locs, k0, X, r⟩ := H
  exact K T ⟨vm0, locs, k0, X.more hk hn, r⟩
theorem Go.at {pc' : Nat} {L' : Array Slot} {S' : List Value} (K : Go C Z n0 Q M h k n pc' L' S') (hp : pc' = pc) (hL : L' = L) (hS : S' = S) : Go C Z n0 Q M h k n pc L S := by subst hp hL hS; exact K
/-! the return -/
theorem g_end (o : Ok C Z a0 b ml ret nm own rm) {v : Option Value} (q : Q v h) (hk : k ≤ rm.cells) (hn : n ≤ rm.slots) (hv : ret = none → v = none)
    (st : ∀ (T : State) (vm0 : Vm) (locs : List Loc) (fs : List Frame), StandC C vm0 T locs k n → (∀ (f : JFrame) (acts : List Action), f.method = C.m → f.locked = none → f.entered = [] → (doReturn C.e (T.setTop f) acts v).1 = T.setFrames fs) → StepsC C (T.setTop (mkF C.m pc L S)) (T.setFrames fs)) : Go C Z n0 Q M h k n pc L S := fun T H => by
  obtain ⟨vm0, locs, k0, X, e1, e2, e3, e4, e5, e6, e7, e8, -⟩ := H
  subst e1
  have hch : CHr Z C.EL C.s.vm C.s.heap T.vm T.heap := e8.trans (CHv.at X e2 o.ew e8.1)
  have hlk := o.2.2.2.2.2.2.2.1
  have hk' : k ≤ C.ck := by rw [o.2.2.2.2.2.2.2.2.1]; exact hk
  have hn' : n ≤ C.ns := by rw [o.2.2.2.2.2.2.2.2.2.1]; exact hn
  have X' := X.more hk' hn'
  have hsz : C.s.heap.size ≤ T.heap.size := X.same.2.1
  obtain ⟨fs, hr, hrun, hended, hW, hsame⟩ := X'.leave (v := v) (fun hh => hv (o.hret.symm.trans hh)) hlk
  obtain ⟨fs2, hr2, hrun2, hended2, hWW⟩ := X'.leaveW (v := v) e4 e5 (fun hh => hv (o.hret.symm.trans hh)) hlk
  rcases hw : C.wide with _ | _
  · have e8 : vm0 = C.s.vm := by rcases e7 with e7 | e7; · rw [hw] at e7; cases e7
                                 · exact e7
    subst e8
    exact ⟨_, _, st T _ locs fs X hr, hrun, hended, v, locs, rfl, ⟨q, e6, hsz⟩, hch, fun hh => (by rw [hw] at hh; cases hh), fun _ => ⟨⟨v, rfl⟩, hW, hsame⟩⟩
  · exact ⟨_, _, st T _ locs fs2 X hr2, hrun2, hended2, v, locs, rfl, ⟨q, e6, hsz⟩, hch, fun _ => hWW, fun hh => by rw [hw] at hh; cases hh⟩
theorem g_ireturn (o : Ok C Z a0 b ml (some .int) nm own rm) {x : Int32} (d : decode b pc = .ok (.ireturn, 1)) (q : Q (some (.int x)) h) (hk : k ≤ rm.cells) (hn : n ≤ rm.slots) : Go C Z n0 Q M h k n pc L (.int x :: S) :=
  g_end o (v := some (.int x)) q hk hn (fun hh => by cases hh) fun T vm0 locs fs X hr => retOut X o.1 o.hret rfl (Or.inl ⟨rfl, Or.inl rfl, x, rfl⟩) (hb o.2.1 d) hr
theorem g_nreturn {t : FieldType} (o : Ok C Z a0 b ml (some t) nm own rm) {x y : Int32} (ht : t = .boolean ∨ t = .byte ∨ t = .char ∨ t = .short) (d : decode b pc = .ok (.ireturn, 1)) (hy : nar t x = y) (q : Q (some (.int y)) h) (hk : k ≤ rm.cells) (hn : n ≤ rm.slots) : Go C Z n0 Q M h k n pc L (.int x :: S) :=
  g_end o (v := some (.int y)) q hk hn (fun hh => by cases hh) fun T vm0 locs fs X hr => retN X o.1 o.hret ht (hb o.2.1 d) (by rw [hy]; exact hr)
theorem g_areturn {t : FieldType} (o : Ok C Z a0 b ml (some t) nm own rm) {w : Value} (ht : t.isReference = true) (hw : w.isRef = true) (d : decode b pc = .ok (.areturn, 1)) (q : Q (some w) h) (hk : k ≤ rm.cells) (hn : n ≤ rm.slots) : Go C Z n0 Q M h k n pc L (w :: S) :=
  g_end o (v := some w) q hk hn (fun hh => by cases hh) fun T vm0 locs fs X hr => retOut X o.1 o.hret (by cases t <;> first | (cases ht; done) | (rcases ref_cases hw with rfl | ⟨z, rfl⟩ <;> rfl)) (Or.inr (Or.inr (Or.inr (Or.inr ⟨rfl, ht, hw⟩)))) (hb o.2.1 d) hr
theorem g_return (o : Ok C Z a0 b ml none nm own rm) (d : decode b pc = .ok (.return_, 1)) (q : Q none h) (hk : k ≤ rm.cells) (hn : n ≤ rm.slots) : Go C Z n0 Q M h k n pc L [] :=
  g_end o (v := none) q hk hn (fun _ => rfl) fun T vm0 locs fs X hr => X.returnOut o.1 o.hret (hb o.2.1 d) hr
/-! plain steps -/
theorem g_aload_n (o : Ok C Z a0 b ml ret nm own rm) {j : Fin 4} {v : Value} (d : decode b pc = .ok (.aload_n j, 1)) (hl : L[j.val]? = some (.val (v))) (hv : v.isRef = true) (K : Go C Z n0 Q M h k n (pc + 1) L (v :: S)) : Go C Z n0 Q M h k n pc L (S) :=
  K.by fun T vm0 locs target X _ _ _ st => XS.aloadN X.here o.1 rfl (hb o.2.1 d) hl hv st
theorem g_aload (o : Ok C Z a0 b ml ret nm own rm) {j : Nat} {v : Value} (d : decode b pc = .ok (.aload j, 2)) (hl : L[j]? = some (.val (v))) (hv : v.isRef = true) (K : Go C Z n0 Q M h k n (pc + 2) L (v :: S)) : Go C Z n0 Q M h k n pc L (S) :=
  K.by fun T vm0 locs target X _ _ _ st => XS.aload X.here o.1 rfl (hb o.2.1 d) hl hv st
theorem g_iload_n (o : Ok C Z a0 b ml ret nm own rm) {j : Fin 4} {v : Int32} (d : decode b pc = .ok (.iload_n j, 1)) (hl : L[j.val]? = some (.val (.int v))) (K : Go C Z n0 Q M h k n (pc + 1) L (.int v :: S)) : Go C Z n0 Q M h k n pc L (S) :=
  K.by fun T vm0 locs target X _ _ _ st => XS.iloadN X.here o.1 rfl (hb o.2.1 d) hl st
theorem g_iload (o : Ok C Z a0 b ml ret nm own rm) {j : Nat} {v : Int32} (d : decode b pc = .ok (.iload j, 2)) (hl : L[j]? = some (.val (.int v))) (K : Go C Z n0 Q M h k n (pc + 2) L (.int v :: S)) : Go C Z n0 Q M h k n pc L (S) :=
  K.by fun T vm0 locs target X _ _ _ st => XS.iload X.here o.1 rfl (hb o.2.1 d) hl st
theorem g_lload_n (o : Ok C Z a0 b ml ret nm own rm) {j : Fin 4} {v : Int64} (d : decode b pc = .ok (.lload_n j, 1)) (hl : L[j.val]? = some (.val (.long v))) (K : Go C Z n0 Q M h k n (pc + 1) L (.long v :: S)) : Go C Z n0 Q M h k n pc L (S) :=
  K.by fun T vm0 locs target X _ _ _ st => XT.lloadN X.here o.1 rfl (hb o.2.1 d) hl st
theorem g_lload (o : Ok C Z a0 b ml ret nm own rm) {j : Nat} {v : Int64} (d : decode b pc = .ok (.lload j, 2)) (hl : L[j]? = some (.val (.long v))) (K : Go C Z n0 Q M h k n (pc + 2) L (.long v :: S)) : Go C Z n0 Q M h k n pc L (S) :=
  K.by fun T vm0 locs target X _ _ _ st => XT.lload X.here o.1 rfl (hb o.2.1 d) hl st
theorem g_astore_n (o : Ok C Z a0 b ml ret nm own rm) {j : Fin 4} {v : Value} {L' : Array Slot} (d : decode b pc = .ok (.astore_n j, 1)) (hv : v.isRef = true) (hl : storeLocals L j.val (v) = some L') (K : Go C Z n0 Q M h k n (pc + 1) L' (S)) : Go C Z n0 Q M h k n pc L (v :: S) :=
  K.by fun T vm0 locs target X _ _ _ st => XS.astoreN X.here o.1 rfl (hb o.2.1 d) rfl hv hl st
theorem g_astore (o : Ok C Z a0 b ml ret nm own rm) {j : Nat} {v : Value} {L' : Array Slot} (d : decode b pc = .ok (.astore j, 2)) (hv : v.isRef = true) (hl : storeLocals L j (v) = some L') (K : Go C Z n0 Q M h k n (pc + 2) L' (S)) : Go C Z n0 Q M h k n pc L (v :: S) :=
  K.by fun T vm0 locs target X _ _ _ st => XS.astore X.here o.1 rfl (hb o.2.1 d) rfl hv hl st
theorem g_istore_n (o : Ok C Z a0 b ml ret nm own rm) {j : Fin 4} {v : Int32} {L' : Array Slot} (d : decode b pc = .ok (.istore_n j, 1)) (hl : storeLocals L j.val (.int v) = some L') (K : Go C Z n0 Q M h k n (pc + 1) L' (S)) : Go C Z n0 Q M h k n pc L (.int v :: S) :=
  K.by fun T vm0 locs target X _ _ _ st => XS.istoreN X.here o.1 rfl (hb o.2.1 d) rfl hl st
theorem g_istore (o : Ok C Z a0 b ml ret nm own rm) {j : Nat} {v : Int32} {L' : Array Slot} (d : decode b pc = .ok (.istore j, 2)) (hl : storeLocals L j (.int v) = some L') (K : Go C Z n0 Q M h k n (pc + 2) L' (S)) : Go C Z n0 Q M h k n pc L (.int v :: S) :=
  K.by fun T vm0 locs target X _ _ _ st => XS.istore X.here o.1 rfl (hb o.2.1 d) rfl hl st
theorem g_lstore_n (o : Ok C Z a0 b ml ret nm own rm) {j : Fin 4} {v : Int64} {L' : Array Slot} (d : decode b pc = .ok (.lstore_n j, 1)) (hl : storeLocals L j.val (.long v) = some L') (K : Go C Z n0 Q M h k n (pc + 1) L' (S)) : Go C Z n0 Q M h k n pc L (.long v :: S) :=
  K.by fun T vm0 locs target X _ _ _ st => XT.lstoreN X.here o.1 rfl (hb o.2.1 d) rfl hl st
theorem g_lstore (o : Ok C Z a0 b ml ret nm own rm) {j : Nat} {v : Int64} {L' : Array Slot} (d : decode b pc = .ok (.lstore j, 2)) (hl : storeLocals L j (.long v) = some L') (K : Go C Z n0 Q M h k n (pc + 2) L' (S)) : Go C Z n0 Q M h k n pc L (.long v :: S) :=
  K.by fun T vm0 locs target X _ _ _ st => XT.lstore X.here o.1 rfl (hb o.2.1 d) rfl hl st
theorem g_iinc (o : Ok C Z a0 b ml ret nm own rm) {j : Nat} {i : Int} {v w : Int32} {L' : Array Slot} (d : decode b pc = .ok (.iinc j i, 3)) (hl : L[j]? = some (.val (.int v))) (hv : v + Int32.ofInt i = w) (hl' : storeLocals L j (.int w) = some L') (K : Go C Z n0 Q M h k n (pc + 3) L' (S)) : Go C Z n0 Q M h k n pc L (S) :=
  K.by fun T vm0 locs target X _ _ _ st => XS.iinc X.here o.1 rfl (hb o.2.1 d) hl (hv ▸ hl') st
theorem g_iconst (o : Ok C Z a0 b ml ret nm own rm) {i : Int} {v : Int32} (d : decode b pc = .ok (.iconst i, 1)) (hv : Int32.ofInt i = v) (K : Go C Z n0 Q M h k n (pc + 1) L (.int v :: S)) : Go C Z n0 Q M h k n pc L (S) :=
  K.by fun T vm0 locs target X _ _ _ st => XS.iconst X.here o.1 rfl (hb o.2.1 d) (hv ▸ st)
theorem g_bipush (o : Ok C Z a0 b ml ret nm own rm) {i : Int} {v : Int32} (d : decode b pc = .ok (.bipush i, 2)) (hv : (Int8.ofInt i).toInt32 = v) (K : Go C Z n0 Q M h k n (pc + 2) L (.int v :: S)) : Go C Z n0 Q M h k n pc L (S) :=
  K.by fun T vm0 locs target X _ _ _ st => XS.bipush X.here o.1 rfl (hb o.2.1 d) (hv ▸ st)
theorem g_sipush (o : Ok C Z a0 b ml ret nm own rm) {i : Int} {v : Int32} (d : decode b pc = .ok (.sipush i, 3)) (hv : (Int16.ofInt i).toInt32 = v) (K : Go C Z n0 Q M h k n (pc + 3) L (.int v :: S)) : Go C Z n0 Q M h k n pc L (S) :=
  K.by fun T vm0 locs target X _ _ _ st => XS.sipush X.here o.1 rfl (hb o.2.1 d) (hv ▸ st)
theorem g_lconst (o : Ok C Z a0 b ml ret nm own rm) {i : Fin 2} {v : Int64} (d : decode b pc = .ok (.lconst i, 1)) (hv : Int64.ofNat i = v) (K : Go C Z n0 Q M h k n (pc + 1) L (.long v :: S)) : Go C Z n0 Q M h k n pc L (S) :=
  K.by fun T vm0 locs target X _ _ _ st => XT.lconst X.here o.1 rfl (hb o.2.1 d) (hv ▸ st)
theorem g_aconst_null (o : Ok C Z a0 b ml ret nm own rm)  (d : decode b pc = .ok (.aconst_null, 1)) (K : Go C Z n0 Q M h k n (pc + 1) L (.null :: S)) : Go C Z n0 Q M h k n pc L (S) :=
  K.by fun T vm0 locs target X _ _ _ st => XS.aconstNull X.here o.1 rfl (hb o.2.1 d) st
theorem g_iadd (o : Ok C Z a0 b ml ret nm own rm) {x y v : Int32} (d : decode b pc = .ok (.iadd, 1)) (hv : x + y = v) (K : Go C Z n0 Q M h k n (pc + 1) L (.int v :: S)) : Go C Z n0 Q M h k n pc L (.int y :: .int x :: S) :=
  K.by fun T vm0 locs target X _ _ _ st => XS.iadd X.here o.1 rfl (hb o.2.1 d) rfl (hv ▸ st)
theorem g_isub (o : Ok C Z a0 b ml ret nm own rm) {x y v : Int32} (d : decode b pc = .ok (.isub, 1)) (hv : x - y = v) (K : Go C Z n0 Q M h k n (pc + 1) L (.int v :: S)) : Go C Z n0 Q M h k n pc L (.int y :: .int x :: S) :=
  K.by fun T vm0 locs target X _ _ _ st => XS.isub X.here o.1 rfl (hb o.2.1 d) rfl (hv ▸ st)
theorem g_imul (o : Ok C Z a0 b ml ret nm own rm) {x y v : Int32} (d : decode b pc = .ok (.imul, 1)) (hv : x * y = v) (K : Go C Z n0 Q M h k n (pc + 1) L (.int v :: S)) : Go C Z n0 Q M h k n pc L (.int y :: .int x :: S) :=
  K.by fun T vm0 locs target X _ _ _ st => XS.imul X.here o.1 rfl (hb o.2.1 d) rfl (hv ▸ st)
theorem g_iand (o : Ok C Z a0 b ml ret nm own rm) {x y v : Int32} (d : decode b pc = .ok (.iand, 1)) (hv : x &&& y = v) (K : Go C Z n0 Q M h k n (pc + 1) L (.int v :: S)) : Go C Z n0 Q M h k n pc L (.int y :: .int x :: S) :=
  K.by fun T vm0 locs target X _ _ _ st => XS.iand X.here o.1 rfl (hb o.2.1 d) rfl (hv ▸ st)
theorem g_ior (o : Ok C Z a0 b ml ret nm own rm) {x y v : Int32} (d : decode b pc = .ok (.ior, 1)) (hv : x ||| y = v) (K : Go C Z n0 Q M h k n (pc + 1) L (.int v :: S)) : Go C Z n0 Q M h k n pc L (.int y :: .int x :: S) :=
  K.by fun T vm0 locs target X _ _ _ st => XT.ior X.here o.1 rfl (hb o.2.1 d) rfl (hv ▸ st)
theorem g_ixor (o : Ok C Z a0 b ml ret nm own rm) {x y v : Int32} (d : decode b pc = .ok (.ixor, 1)) (hv : x ^^^ y = v) (K : Go C Z n0 Q M h k n (pc + 1) L (.int v :: S)) : Go C Z n0 Q M h k n pc L (.int y :: .int x :: S) :=
  K.by fun T vm0 locs target X _ _ _ st => XT.ixor X.here o.1 rfl (hb o.2.1 d) rfl (hv ▸ st)
theorem g_ishl (o : Ok C Z a0 b ml ret nm own rm) {x y v : Int32} (d : decode b pc = .ok (.ishl, 1)) (hv : x <<< (y &&& 31) = v) (K : Go C Z n0 Q M h k n (pc + 1) L (.int v :: S)) : Go C Z n0 Q M h k n pc L (.int y :: .int x :: S) :=
  K.by fun T vm0 locs target X _ _ _ st => XT.ishl X.here o.1 rfl (hb o.2.1 d) rfl (hv ▸ st)
theorem g_ishr (o : Ok C Z a0 b ml ret nm own rm) {x y v : Int32} (d : decode b pc = .ok (.ishr, 1)) (hv : x >>> (y &&& 31) = v) (K : Go C Z n0 Q M h k n (pc + 1) L (.int v :: S)) : Go C Z n0 Q M h k n pc L (.int y :: .int x :: S) :=
  K.by fun T vm0 locs target X _ _ _ st => XT.ishr X.here o.1 rfl (hb o.2.1 d) rfl (hv ▸ st)
theorem g_iushr (o : Ok C Z a0 b ml ret nm own rm) {x y v : Int32} (d : decode b pc = .ok (.iushr, 1)) (hv : XT.ushr x y = v) (K : Go C Z n0 Q M h k n (pc + 1) L (.int v :: S)) : Go C Z n0 Q M h k n pc L (.int y :: .int x :: S) :=
  K.by fun T vm0 locs target X _ _ _ st => XT.iushr X.here o.1 rfl (hb o.2.1 d) rfl (hv ▸ st)
theorem g_idiv (o : Ok C Z a0 b ml ret nm own rm) {x y v : Int32} (d : decode b pc = .ok (.idiv, 1)) (hy : y ≠ 0) (hv : x / y = v) (K : Go C Z n0 Q M h k n (pc + 1) L (.int v :: S)) : Go C Z n0 Q M h k n pc L (.int y :: .int x :: S) :=
  K.by fun T vm0 locs target X _ _ _ st => XS.idiv X.here o.1 rfl (hb o.2.1 d) rfl hy (hv ▸ st)
theorem g_irem (o : Ok C Z a0 b ml ret nm own rm) {x y v : Int32} (d : decode b pc = .ok (.irem, 1)) (hy : y ≠ 0) (hv : x % y = v) (K : Go C Z n0 Q M h k n (pc + 1) L (.int v :: S)) : Go C Z n0 Q M h k n pc L (.int y :: .int x :: S) :=
  K.by fun T vm0 locs target X _ _ _ st => iremM X o.1 rfl (hb o.2.1 d) rfl hy (hv ▸ st)
theorem g_ineg (o : Ok C Z a0 b ml ret nm own rm) {x : Int32} {v : Int32} (d : decode b pc = .ok (.ineg, 1)) (hv : -x = v) (K : Go C Z n0 Q M h k n (pc + 1) L (.int v :: S)) : Go C Z n0 Q M h k n pc L (.int x :: S) :=
  K.by fun T vm0 locs target X _ _ _ st => XS.ineg X.here o.1 rfl (hb o.2.1 d) rfl (hv ▸ st)
theorem g_i2b (o : Ok C Z a0 b ml ret nm own rm) {x : Int32} {v : Int32} (d : decode b pc = .ok (.i2b, 1)) (hv : x.toInt8.toInt32 = v) (K : Go C Z n0 Q M h k n (pc + 1) L (.int v :: S)) : Go C Z n0 Q M h k n pc L (.int x :: S) :=
  K.by fun T vm0 locs target X _ _ _ st => XT.i2b X.here o.1 rfl (hb o.2.1 d) rfl (hv ▸ st)
theorem g_i2c (o : Ok C Z a0 b ml ret nm own rm) {x : Int32} {v : Int32} (d : decode b pc = .ok (.i2c, 1)) (hv : x.toUInt32.toUInt16.toUInt32.toInt32 = v) (K : Go C Z n0 Q M h k n (pc + 1) L (.int v :: S)) : Go C Z n0 Q M h k n pc L (.int x :: S) :=
  K.by fun T vm0 locs target X _ _ _ st => XT.i2c X.here o.1 rfl (hb o.2.1 d) rfl (hv ▸ st)
theorem g_i2s (o : Ok C Z a0 b ml ret nm own rm) {x : Int32} {v : Int32} (d : decode b pc = .ok (.i2s, 1)) (hv : x.toInt16.toInt32 = v) (K : Go C Z n0 Q M h k n (pc + 1) L (.int v :: S)) : Go C Z n0 Q M h k n pc L (.int x :: S) :=
  K.by fun T vm0 locs target X _ _ _ st => XT.i2s X.here o.1 rfl (hb o.2.1 d) rfl (hv ▸ st)
theorem g_i2l (o : Ok C Z a0 b ml ret nm own rm) {x : Int32} {v : Int64} (d : decode b pc = .ok (.i2l, 1)) (hv : x.toInt64 = v) (K : Go C Z n0 Q M h k n (pc + 1) L (.long v :: S)) : Go C Z n0 Q M h k n pc L (.int x :: S) :=
  K.by fun T vm0 locs target X _ _ _ st => XT.i2l X.here o.1 rfl (hb o.2.1 d) rfl (hv ▸ st)
theorem g_l2i (o : Ok C Z a0 b ml ret nm own rm) {x : Int64} {v : Int32} (d : decode b pc = .ok (.l2i, 1)) (hv : x.toInt32 = v) (K : Go C Z n0 Q M h k n (pc + 1) L (.int v :: S)) : Go C Z n0 Q M h k n pc L (.long x :: S) :=
  K.by fun T vm0 locs target X _ _ _ st => XT.l2i X.here o.1 rfl (hb o.2.1 d) rfl (hv ▸ st)
theorem g_ladd (o : Ok C Z a0 b ml ret nm own rm) {x y v : Int64} (d : decode b pc = .ok (.ladd, 1)) (hv : x + y = v) (K : Go C Z n0 Q M h k n (pc + 1) L (.long v :: S)) : Go C Z n0 Q M h k n pc L (.long y :: .long x :: S) :=
  K.by fun T vm0 locs target X _ _ _ st => XT.ladd X.here o.1 rfl (hb o.2.1 d) rfl (hv ▸ st)
theorem g_lsub (o : Ok C Z a0 b ml ret nm own rm) {x y v : Int64} (d : decode b pc = .ok (.lsub, 1)) (hv : x - y = v) (K : Go C Z n0 Q M h k n (pc + 1) L (.long v :: S)) : Go C Z n0 Q M h k n pc L (.long y :: .long x :: S) :=
  K.by fun T vm0 locs target X _ _ _ st => XT.lsub X.here o.1 rfl (hb o.2.1 d) rfl (hv ▸ st)
theorem g_land (o : Ok C Z a0 b ml ret nm own rm) {x y v : Int64} (d : decode b pc = .ok (.land, 1)) (hv : x &&& y = v) (K : Go C Z n0 Q M h k n (pc + 1) L (.long v :: S)) : Go C Z n0 Q M h k n pc L (.long y :: .long x :: S) :=
  K.by fun T vm0 locs target X _ _ _ st => XT.land X.here o.1 rfl (hb o.2.1 d) rfl (hv ▸ st)
theorem g_lcmp (o : Ok C Z a0 b ml ret nm own rm) {x y : Int64} {v : Int32} (d : decode b pc = .ok (.lcmp, 1)) (hv : XT.cmpL x y = v) (K : Go C Z n0 Q M h k n (pc + 1) L (.int v :: S)) : Go C Z n0 Q M h k n pc L (.long y :: .long x :: S) :=
  K.by fun T vm0 locs target X _ _ _ st => XT.lcmp X.here o.1 rfl (hb o.2.1 d) rfl (hv ▸ st)
theorem g_lushr (o : Ok C Z a0 b ml ret nm own rm) {x v : Int64} {y : Int32} (d : decode b pc = .ok (.lushr, 1)) (hv : XT.ushrL x y = v) (K : Go C Z n0 Q M h k n (pc + 1) L (.long v :: S)) : Go C Z n0 Q M h k n pc L (.int y :: .long x :: S) :=
  K.by fun T vm0 locs target X _ _ _ st => XT.lushr X.here o.1 rfl (hb o.2.1 d) rfl (hv ▸ st)
theorem g_dup (o : Ok C Z a0 b ml ret nm own rm) {x : Value} (d : decode b pc = .ok (.dup, 1)) (hc : x.category = 1) (K : Go C Z n0 Q M h k n (pc + 1) L (x :: x :: S)) : Go C Z n0 Q M h k n pc L (x :: S) :=
  K.by fun T vm0 locs target X _ _ _ st => XS.dup X.here o.1 rfl (hb o.2.1 d) rfl hc st
theorem g_pop (o : Ok C Z a0 b ml ret nm own rm) {x : Value} (d : decode b pc = .ok (.pop, 1)) (hc : x.category = 1) (K : Go C Z n0 Q M h k n (pc + 1) L (S)) : Go C Z n0 Q M h k n pc L (x :: S) :=
  K.by fun T vm0 locs target X _ _ _ st => XT.pop X.here o.1 rfl (hb o.2.1 d) rfl hc st
theorem g_dup_x1 (o : Ok C Z a0 b ml ret nm own rm) {x y : Value} (d : decode b pc = .ok (.dup_x1, 1)) (hc : x.category = 1) (hc' : y.category = 1) (K : Go C Z n0 Q M h k n (pc + 1) L (x :: y :: x :: S)) : Go C Z n0 Q M h k n pc L (x :: y :: S) :=
  K.by fun T vm0 locs target X _ _ _ st => XT.dupX1 X.here o.1 rfl (hb o.2.1 d) rfl hc hc' st
theorem g_dup2 (o : Ok C Z a0 b ml ret nm own rm) {x y : Value} (d : decode b pc = .ok (.dup2, 1)) (hc : x.category = 1) (hc' : y.category = 1) (K : Go C Z n0 Q M h k n (pc + 1) L (x :: y :: x :: y :: S)) : Go C Z n0 Q M h k n pc L (x :: y :: S) :=
  K.by fun T vm0 locs target X _ _ _ st => XT.dup2 X.here o.1 rfl (hb o.2.1 d) rfl hc hc' st
theorem g_goto (o : Ok C Z a0 b ml ret nm own rm) {i : Int} {t : Nat} (d : decode b pc = .ok (.goto i, 3)) (ho : 0 ≤ (pc : Int) + i) (ht : ((pc : Int) + i).toNat = t) (K : Go C Z n0 Q M h k n t L S) : Go C Z n0 Q M h k n pc L S :=
  K.by fun T vm0 locs target X _ _ _ st => XS.goto X.here o.1 rfl (pc0 := pc) rfl (hb o.2.1 d) ho ht st
theorem g_ifC (o : Ok C Z a0 b ml ret nm own rm) {cd : ClassFile.Cond} {P : Prop} {x : Int32} {i : Int} {t : Nat} (d : decode b pc = .ok (.ifCond cd i, 3)) (ho : 0 ≤ (pc : Int) + i) (ht : ((pc : Int) + i).toNat = t) (hP : if_icmp.holds cd x 0 = true ↔ P)
    (Ky : P → Go C Z n0 Q M h k n t L S) (Kn : ¬ P → Go C Z n0 Q M h k n (pc + 3) L S) : Go C Z n0 Q M h k n pc L (.int x :: S) := by
  rw [← if0] at hP
  by_cases hp : P
  · exact (Ky hp).by fun T vm0 locs target X _ _ _ st => XS.ifYes X.here o.1 rfl (pc0 := pc) rfl (hb o.2.1 d) rfl (hP.mpr hp) ho ht st
  · exact (Kn hp).by fun T vm0 locs target X _ _ _ st => XS.ifNo X.here o.1 rfl (hb o.2.1 d) rfl (Bool.eq_false_iff.mpr fun q => hp (hP.mp q)) st
theorem g_icmp (o : Ok C Z a0 b ml ret nm own rm) {cd : ClassFile.Cond} {P : Prop} {x y : Int32} {i : Int} {t : Nat} (d : decode b pc = .ok (.if_icmp cd i, 3)) (ho : 0 ≤ (pc : Int) + i) (ht : ((pc : Int) + i).toNat = t) (hP : if_icmp.holds cd x y = true ↔ P)
    (Ky : P → Go C Z n0 Q M h k n t L S) (Kn : ¬ P → Go C Z n0 Q M h k n (pc + 3) L S) : Go C Z n0 Q M h k n pc L (.int y :: .int x :: S) := by
  by_cases hp : P
  · exact (Ky hp).by fun T vm0 locs target X _ _ _ st => XS.icmpYes X.here o.1 rfl (pc0 := pc) rfl (hb o.2.1 d) rfl (hP.mpr hp) ho ht st
  · exact (Kn hp).by fun T vm0 locs target X _ _ _ st => XS.icmpNo X.here o.1 rfl (hb o.2.1 d) rfl (Bool.eq_false_iff.mpr fun q => hp (hP.mp q)) st
theorem g_ifCN (o : Ok C Z a0 b ml ret nm own rm) {cd : ClassFile.Cond} {P : Prop} {x : Int32} {i : Int} {t : Nat} (d : decode b pc = .ok (.ifCond cd i, 3)) (ho : 0 ≤ (pc : Int) + i) (ht : ((pc : Int) + i).toNat = t) (hP : if_icmp.holds cd x 0 = true ↔ ¬ P)
    (Ky : ¬ P → Go C Z n0 Q M h k n t L S) (Kn : P → Go C Z n0 Q M h k n (pc + 3) L S) : Go C Z n0 Q M h k n pc L (.int x :: S) := g_ifC o d ho ht hP Ky fun q => Kn (Classical.not_not.mp q)
theorem g_icmpN (o : Ok C Z a0 b ml ret nm own rm) {cd : ClassFile.Cond} {P : Prop} {x y : Int32} {i : Int} {t : Nat} (d : decode b pc = .ok (.if_icmp cd i, 3)) (ho : 0 ≤ (pc : Int) + i) (ht : ((pc : Int) + i).toNat = t) (hP : if_icmp.holds cd x y = true ↔ ¬ P)
    (Ky : ¬ P → Go C Z n0 Q M h k n t L S) (Kn : P → Go C Z n0 Q M h k n (pc + 3) L S) : Go C Z n0 Q M h k n pc L (.int y :: .int x :: S) := g_icmp o d ho ht hP Ky fun q => Kn (Classical.not_not.mp q)
theorem c_eq {x y : Int32} : if_icmp.holds .eq x y = true ↔ x = y := ⟨fun q => Classical.byContradiction fun z => (by rw [(feq z).1] at q; cases q), fun z => (teq z).1⟩
theorem c_ne {x y : Int32} : if_icmp.holds .ne x y = true ↔ ¬ x = y := ⟨fun q z => (by rw [(teq z).2] at q; cases q), fun z => (feq z).2⟩
theorem c_lt {x y : Int32} : if_icmp.holds .lt x y = true ↔ x < y := ⟨fun q => Classical.byContradiction fun z => (by rw [(flt z).1] at q; cases q), fun z => (tlt z).1⟩
theorem c_ge {x y : Int32} : if_icmp.holds .ge x y = true ↔ ¬ x < y := ⟨fun q z => (by rw [(tlt z).2.1] at q; cases q), fun z => (flt z).2.1⟩
theorem c_gt {x y : Int32} : if_icmp.holds .gt x y = true ↔ y < x := ⟨fun q => Classical.byContradiction fun z => (by rw [(flt z).2.2.1] at q; cases q), fun z => (tlt z).2.2.1⟩
theorem c_le {x y : Int32} : if_icmp.holds .le x y = true ↔ ¬ y < x := ⟨fun q z => (by rw [(tlt z).2.2.2] at q; cases q), fun z => (flt z).2.2.2⟩
theorem g_ifnullY (o : Ok C Z a0 b ml ret nm own rm) {i : Int} {t : Nat} (d : decode b pc = .ok (.ifnull i, 3)) (ho : 0 ≤ (pc : Int) + i) (ht : ((pc : Int) + i).toNat = t) (K : Go C Z n0 Q M h k n t L S) : Go C Z n0 Q M h k n pc L (.null :: S) :=
  K.by fun T vm0 locs target X _ _ _ st => XS.ifnullYes X.here o.1 rfl (pc0 := pc) rfl (hb o.2.1 d) rfl ho ht st
theorem g_ifnullN (o : Ok C Z a0 b ml ret nm own rm) {i : Int} {a : Addr} (d : decode b pc = .ok (.ifnull i, 3)) (K : Go C Z n0 Q M h k n (pc + 3) L S) : Go C Z n0 Q M h k n pc L (.ref a :: S) :=
  K.by fun T vm0 locs target X _ _ _ st => XS.ifnullNo X.here o.1 rfl (hb o.2.1 d) rfl st
theorem g_ifnonnullY (o : Ok C Z a0 b ml ret nm own rm) {i : Int} {t : Nat} {a : Addr} (d : decode b pc = .ok (.ifnonnull i, 3)) (ho : 0 ≤ (pc : Int) + i) (ht : ((pc : Int) + i).toNat = t) (K : Go C Z n0 Q M h k n t L S) : Go C Z n0 Q M h k n pc L (.ref a :: S) :=
  K.by fun T vm0 locs target X _ _ _ st => XT.ifnonnullYes X.here o.1 rfl (pc0 := pc) rfl (hb o.2.1 d) rfl ho ht st
theorem g_ifnonnullN (o : Ok C Z a0 b ml ret nm own rm) {i : Int} (d : decode b pc = .ok (.ifnonnull i, 3)) (K : Go C Z n0 Q M h k n (pc + 3) L S) : Go C Z n0 Q M h k n pc L (.null :: S) :=
  K.by fun T vm0 locs target X _ _ _ st => XT.ifnonnullNo X.here o.1 rfl (hb o.2.1 d) rfl st
theorem g_acmpEq (o : Ok C Z a0 b ml ret nm own rm) {x y : Value} {i : Int} {t : Nat} (d : decode b pc = .ok (.if_acmp .eq i, 3)) (ho : 0 ≤ (pc : Int) + i) (ht : ((pc : Int) + i).toNat = t) (hx : x.isRef = true) (hy : y.isRef = true)
    (Ky : x = y → Go C Z n0 Q M h k n t L S) (Kn : ¬ x = y → Go C Z n0 Q M h k n (pc + 3) L S) : Go C Z n0 Q M h k n pc L (y :: x :: S) := by
  by_cases hp : x = y
  · exact (Ky hp).by fun T vm0 locs target X _ _ _ st => XT.acmpYes X.here o.1 rfl (pc0 := pc) rfl (hb o.2.1 d) rfl hx hy (decide_eq_true hp) ho ht st
  · exact (Kn hp).by fun T vm0 locs target X _ _ _ st => XT.acmpNo X.here o.1 rfl (hb o.2.1 d) rfl hx hy (decide_eq_false hp) st
theorem g_acmpNe (o : Ok C Z a0 b ml ret nm own rm) {x y : Value} {i : Int} {t : Nat} (d : decode b pc = .ok (.if_acmp .ne i, 3)) (ho : 0 ≤ (pc : Int) + i) (ht : ((pc : Int) + i).toNat = t) (hx : x.isRef = true) (hy : y.isRef = true)
    (Ky : ¬ x = y → Go C Z n0 Q M h k n t L S) (Kn : x = y → Go C Z n0 Q M h k n (pc + 3) L S) : Go C Z n0 Q M h k n pc L (y :: x :: S) := by
  by_cases hp : x = y
  · exact (Kn hp).by fun T vm0 locs target X _ _ _ st => XT.acmpNo X.here o.1 rfl (hb o.2.1 d) rfl hx hy (decide_eq_false (fun q => q hp)) st
  · exact (Ky hp).by fun T vm0 locs target X _ _ _ st => XT.acmpYes X.here o.1 rfl (pc0 := pc) rfl (hb o.2.1 d) rfl hx hy (decide_eq_true hp) ho ht st
theorem g_ldcI (o : Ok C Z a0 b ml ret nm own rm) {ix : Nat} {v : Int32} (d : decode b pc = .ok (.ldc ix, 2)) (w : (Jvm.Cond.constant own ix v).before a0 Z = true) (K : Go C Z n0 Q M h k n (pc + 2) L (.int v :: S)) : Go C Z n0 Q M h k n pc L S :=
  K.by fun T vm0 locs target X hZ hf _ st => X.ldcInt o.1 (own := own) (by rw [← o.hown]; exact hf) (mvT (s := C.s.setVm vm0) hZ w) (g := mkF C.m pc L S) rfl (hb o.2.1 d) _ st
theorem g_ldc2L (o : Ok C Z a0 b ml ret nm own rm) {ix : Nat} {v : Int64} (d : decode b pc = .ok (.ldc2_w ix, 3)) (w : (Jvm.Cond.constantLong own ix v).before a0 Z = true) (K : Go C Z n0 Q M h k n (pc + 3) L (.long v :: S)) : Go C Z n0 Q M h k n pc L S :=
  K.by fun T vm0 locs target X hZ hf _ st => X.ldc2Long o.1 (own := own) (by rw [← o.hown]; exact hf) (mvT (s := C.s.setVm vm0) hZ w) (g := mkF C.m pc L S) rfl (hb o.2.1 d) _ st
/-! steps that read the tables or the heap -/
theorem g_getF (o : Ok C Z a0 b ml ret nm own rm) {R0 O f ds : String} {ix : Nat} {a : Addr} {v : Value} (d : decode b pc = .ok (.getfield ix, 3)) (w : (Jvm.Cond.fieldLink own ix R0 f ds).before a0 Z = true) (via : Via Z R0 O f ds) (F : Fld Z h a O f ds v)
    (K : Go C Z n0 Q M h k n (pc + 3) L (v :: S)) : Go C Z n0 Q M h k n pc L (.ref a :: S) := by
  refine Go.via (ι := Unit) (P := fun _ h' => h' = h) (S' := fun _ => v :: S) (fun _ h' e => by have e : h' = h := e; rw [e]; exact K) fun T vm0 locs X hZ hf eT N => ?_
  obtain ⟨T', X', e', st⟩ := getF (host := "") X o.1 (Z := Z) hZ (by rw [← o.hown]; exact hf) (Or.inl w) via eT F (g := mkF C.m pc L (.ref a :: S)) rfl rfl (hb o.2.1 d)
  exact ⟨(), T', locs, h, rfl, X', e', N, Mv.refl, st⟩
theorem g_getS (o : Ok C Z a0 b ml ret nm own rm) {R0 O f ds : String} {ix : Nat} {v : Value} (d : decode b pc = .ok (.getstatic ix, 3)) (w : (Jvm.Cond.fieldLink own ix R0 f ds).before a0 Z = true) (via : Via Z R0 O f ds) (F : Sta Z h O f ds v)
    (K : Go C Z n0 Q M h k n (pc + 3) L (v :: S)) : Go C Z n0 Q M h k n pc L S := by
  refine Go.via (ι := Unit) (P := fun _ h' => h' = h) (S' := fun _ => v :: S) (fun _ h' e => by have e : h' = h := e; rw [e]; exact K) fun T vm0 locs X hZ hf eT N => ?_
  obtain ⟨T', X', e', st⟩ := getS (host := "") X o.1 (Z := Z) hZ (by rw [← o.hown]; exact hf) w via eT F (g := mkF C.m pc L S) rfl (hb o.2.1 d)
  exact ⟨(), T', locs, h, rfl, X', e', N, Mv.refl, st⟩
theorem g_putF (o : Ok C Z a0 b ml ret nm own rm) {R0 O f ds Cn : String} {ix kk : Nat} {ty : FieldType} {a : Addr} {v old : Value} (d : decode b pc = .ok (.putfield ix, 3)) (w : (Jvm.Cond.fieldLink own ix R0 f ds).before a0 Z = true) (via : Via Z R0 O f ds) (F : Fld Z h a O f ds old) (E : Exa Z h a Cn)
    (Lf : (Jvm.Cond.lays Cn O f ds).before a0 Z = true ∨ ((Jvm.Cond.laysFinal Cn O f ds).before a0 Z = true ∧ own = O ∧ nm = "<init>")) (wi : (Jvm.Cond.instantiable Cn kk).before a0 Z = true) (hty : parseFieldDescriptor ds = some ty) (hn' : narrow ty v = v) (hf' : fits ty v = true) (ha : n0 ≤ a) (hs : SafeOk C Z M h a)
    (K : ∀ h', Wr h h' a (Jvm.RoadKit.slotOf Z O f ds) v → Go C Z n0 Q M h' k n (pc + 3) L S) : Go C Z n0 Q M h k n pc L (v :: .ref a :: S) := by
  refine Go.via (ι := Unit) (P := fun _ h' => Wr h h' a (Jvm.RoadKit.slotOf Z O f ds) v) (S' := fun _ => S) (fun _ h' e => K h' e) fun T vm0 locs X hZ hf eT N => ?_
  obtain ⟨T', h', X', e', W, st⟩ := putF (host := "") X o.1 (Z := Z) hZ (by rw [← o.hown]; exact hf) (Or.inl w) via eT F E (Lf.imp id fun q => ⟨q.1, q.2.1, o.2.2.2.2.1.trans q.2.2⟩) wi hty hn' hf' (g := mkF C.m pc L (v :: .ref a :: S)) rfl rfl (hb o.2.1 d)
  exact ⟨(), T', _, h', W, X', e', Fr.snoc X' N ha, Mv.wr W hs, st⟩
theorem g_new (o : Ok C Z a0 b ml ret nm own rm) {Cn : String} {ix nf : Nat} (d : decode b pc = .ok (.new ix, 3)) (w : (Jvm.Cond.classLink own ix Cn).before a0 Z = true) (wi : (Jvm.Cond.instantiable Cn nf).before a0 Z = true) (wz : (Jvm.Cond.initialized Cn).before a0 Z = true) (hc : k + 1 ≤ rm.cells) (hl : n + nf ≤ rm.slots) {M' : Addr → List Addr} (hM : ∀ a, ∀ x ∈ M' a, x ∈ M ∨ x = a)
    (K : ∀ a h', a = h.size → Ext h h' → Exa Z h' a Cn → (∀ {O f ds : String} {ty : FieldType}, Laid Z a0 Cn O f ds → parseFieldDescriptor ds = some ty → Fld Z h' a O f ds (defaultValue ty)) → Go C Z n0 Q (M' a) h' (k + 1) (n + nf) (pc + 3) L (.ref a :: S)) : Go C Z n0 Q M h k n pc L S := by
  refine Go.via (ι := Unit) (P := fun _ h' => Ext h h' ∧ Exa Z h' h.size Cn ∧ (∀ {O f ds : String} {ty : FieldType}, Laid Z a0 Cn O f ds → parseFieldDescriptor ds = some ty → Fld Z h' h.size O f ds (defaultValue ty))) (S' := fun _ => .ref h.size :: S) (fun _ h' e => K h.size h' rfl e.1 e.2.1 (fun {O f ds ty} q r => e.2.2 q r)) fun T vm0 locs X hZ hf eT N => ?_
  obtain ⟨T', h', X', e', E, A, D, -, st⟩ := newO X o.1 (Z := Z) hZ (by rw [← o.hown]; exact hf) w wi wz eT (g := mkF C.m pc L S) rfl (hb o.2.1 d) (by rw [o.R]; exact hc) (by rw [o.R]; exact hl)
  exact ⟨(), T', locs, h', ⟨E, A, fun {O f ds ty} q r => D q r⟩, X', e', N, Mv.new E A.lt (hM _), st⟩
theorem g_newarr (o : Ok C Z a0 b ml ret nm own rm) {aty : ArrayType} {ty : FieldType} {z : Int32} {m : Nat} {dv : Value} (d : decode b pc = .ok (.newarray aty, 2)) (hty : newarray.typeOf aty = ty) (hdv : defaultValue ty = dv) (w : (Jvm.Cond.arrayClass ty).before a0 Z = true) (hz : ¬ z < 0) (hm : z.toNatClampNeg = m) (hbig : m ≤ 67108864) (hc : k + 1 ≤ rm.cells) (hl : n + m ≤ rm.slots) {M' : Addr → List Addr} (hM : ∀ a, ∀ x ∈ M' a, x ∈ M ∨ x = a)
    (K : ∀ a h' kc, a = h.size → Ext h h' → Arv Z h' a kc ty z (List.replicate m dv) dv → Go C Z n0 Q (M' a) h' (k + 1) (n + m) (pc + 2) L (.ref a :: S)) : Go C Z n0 Q M h k n pc L (.int z :: S) := by
  subst hty hdv
  refine Go.via (ι := ClassId) (P := fun kc h' => Ext h h' ∧ Arv Z h' h.size kc (newarray.typeOf aty) z (List.replicate m (defaultValue (newarray.typeOf aty))) (defaultValue (newarray.typeOf aty))) (S' := fun _ => .ref h.size :: S) (fun kc h' e => K h.size h' kc rfl e.1 e.2) fun T vm0 locs X hZ hf eT N => ?_
  obtain ⟨T', h', kc, X', e', E, A, st⟩ := newP X o.1 (Z := Z) hZ w eT (g := mkF C.m pc L (.int z :: S)) rfl (hb o.2.1 d) rfl hz (cap := m) (Nat.le_of_eq hm) (by omega) (by rw [o.R]; exact hc) (by rw [o.R]; exact hl)
  exact ⟨kc, T', locs, h', ⟨E, by simpa using (Arv.new A hz).pad (pad_rep [] _ m)⟩, X', e', N, Mv.new E A.lt (hM _), st⟩
theorem idx_ok {vs : List Value} {z j : Int32} {i : Nat} {c : Cell} (S : c.slots.size = z.toNatClampNeg) (hz : z.toNatClampNeg = vs.length) (h0 : ¬ j < 0) (hj : j.toNatClampNeg = i) (hi : i < vs.length) : ¬ (j < 0 ∨ c.slots.size ≤ j.toNatClampNeg) := fun q => q.elim h0 fun r => by omega
theorem g_castore (o : Ok C Z a0 b ml ret nm own rm) {a : Addr} {kc : ClassId} {z j x y : Int32} {vs : List Value} {dv : Value} {i : Nat} (d : decode b pc = .ok (.castore, 1)) (V : Arv Z h a kc .char z vs dv) (hz : z.toNatClampNeg = vs.length) (h0 : ¬ j < 0) (hj : j.toNatClampNeg = i) (hi : i < vs.length) (hy : nar .char x = y) (ha : n0 ≤ a) (hs : SafeOk C Z M h a)
    (K : ∀ h', Wr h h' a i (.int y) → Arv Z h' a kc .char z (vs.set i (.int y)) dv → Go C Z n0 Q M h' k n (pc + 1) L S) : Go C Z n0 Q M h k n pc L (.int x :: .int j :: .ref a :: S) := by
  obtain ⟨cl, A, q1, q2, q3, H, G⟩ := V
  subst hy hj
  refine Go.via (ι := Unit) (P := fun _ h' => Wr h h' a j.toNatClampNeg (.int (nar .char x))) (S' := fun _ => S) (fun _ h' e => K h' e (Arv.set A q1 q2 q3 H G (fits_nar_char x) e _ rfl hi)) fun T vm0 locs X hZ hf eT N => ?_
  obtain ⟨T', h', X', e', W, st⟩ := stC X o.1 (Z := Z) hZ eT A (idx_ok q2 hz h0 rfl hi) (g := mkF C.m pc L (.int x :: .int j :: .ref a :: S)) rfl rfl (hb o.2.1 d)
  exact ⟨(), T', _, h', W, X', e', Fr.snoc X' N ha, Mv.wr W hs, st⟩
theorem g_iastore (o : Ok C Z a0 b ml ret nm own rm) {a : Addr} {kc : ClassId} {z j x : Int32} {vs : List Value} {dv : Value} {i : Nat} (d : decode b pc = .ok (.iastore, 1)) (V : Arv Z h a kc .int z vs dv) (hz : z.toNatClampNeg = vs.length) (h0 : ¬ j < 0) (hj : j.toNatClampNeg = i) (hi : i < vs.length) (ha : n0 ≤ a) (hs : SafeOk C Z M h a)
    (K : ∀ h', Wr h h' a i (.int x) → Arv Z h' a kc .int z (vs.set i (.int x)) dv → Go C Z n0 Q M h' k n (pc + 1) L S) : Go C Z n0 Q M h k n pc L (.int x :: .int j :: .ref a :: S) := by
  obtain ⟨cl, A, q1, q2, q3, H, G⟩ := V
  subst hj
  refine Go.via (ι := Unit) (P := fun _ h' => Wr h h' a j.toNatClampNeg (.int x)) (S' := fun _ => S) (fun _ h' e => K h' e (Arv.set A q1 q2 q3 H G rfl e _ rfl hi)) fun T vm0 locs X hZ hf eT N => ?_
  obtain ⟨T', h', X', e', W, st⟩ := stI X o.1 (Z := Z) hZ eT A (idx_ok q2 hz h0 rfl hi) (g := mkF C.m pc L (.int x :: .int j :: .ref a :: S)) rfl rfl (hb o.2.1 d)
  exact ⟨(), T', _, h', W, X', e', Fr.snoc X' N ha, Mv.wr W hs, st⟩
theorem g_zastore (o : Ok C Z a0 b ml ret nm own rm) {a : Addr} {kc : ClassId} {z j x y : Int32} {vs : List Value} {dv : Value} {i : Nat} (d : decode b pc = .ok (.bastore, 1)) (V : Arv Z h a kc .boolean z vs dv) (hz : z.toNatClampNeg = vs.length) (h0 : ¬ j < 0) (hj : j.toNatClampNeg = i) (hi : i < vs.length) (hy : nar .boolean x = y) (ha : n0 ≤ a) (hs : SafeOk C Z M h a)
    (K : ∀ h', Wr h h' a i (.int y) → Arv Z h' a kc .boolean z (vs.set i (.int y)) dv → Go C Z n0 Q M h' k n (pc + 1) L S) : Go C Z n0 Q M h k n pc L (.int x :: .int j :: .ref a :: S) := by
  obtain ⟨cl, A, q1, q2, q3, H, G⟩ := V
  subst hy hj
  refine Go.via (ι := Unit) (P := fun _ h' => Wr h h' a j.toNatClampNeg (.int (nar .boolean x))) (S' := fun _ => S) (fun _ h' e => K h' e (Arv.set A q1 q2 q3 H G (fits_nar_bool x) e _ rfl hi)) fun T vm0 locs X hZ hf eT N => ?_
  obtain ⟨T', h', X', e', W, st⟩ := stZ X o.1 (Z := Z) hZ eT A (idx_ok q2 hz h0 rfl hi) (g := mkF C.m pc L (.int x :: .int j :: .ref a :: S)) rfl rfl (hb o.2.1 d)
  exact ⟨(), T', _, h', W, X', e', Fr.snoc X' N ha, Mv.wr W hs, st⟩
theorem g_alen (o : Ok C Z a0 b ml ret nm own rm) {a : Addr} {kc : ClassId} {ty : FieldType} {z : Int32} {vs : List Value} {dv : Value} (d : decode b pc = .ok (.arraylength, 1)) (V : Arv Z h a kc ty z vs dv) (K : Go C Z n0 Q M h k n (pc + 1) L (.int z :: S)) : Go C Z n0 Q M h k n pc L (.ref a :: S) := by
  obtain ⟨cl, A, q1, q2, q3, H, G⟩ := V
  exact K.by fun T vm0 locs target X hZ _ eT st => X.arraylength o.1 (cell := cl) (by rw [eT]; exact A.1) (State.isArrayOf_alike hZ.alike A.2.1) (g := mkF C.m pc L (.ref a :: S)) rfl rfl (hb o.2.1 d) _ (by rw [len_of q2 q3]; exact st)
theorem g_caload (o : Ok C Z a0 b ml ret nm own rm) {a : Addr} {kc : ClassId} {z j : Int32} {vs : List Value} {dv v : Value} {i : Nat} (d : decode b pc = .ok (.caload, 1)) (V : Arv Z h a kc .char z vs dv) (hz : z.toNatClampNeg = vs.length) (h0 : ¬ j < 0) (hj : j.toNatClampNeg = i) (hi : i < vs.length) (hv : vs.getD i dv = v)
    (K : Go C Z n0 Q M h k n (pc + 1) L (v :: S)) : Go C Z n0 Q M h k n pc L (.int j :: .ref a :: S) := by
  obtain ⟨cl, A, q1, q2, q3, H, G⟩ := V
  subst hj
  exact K.by fun T vm0 locs target X hZ _ eT st => X.caload o.1 (cell := cl) (j := j) (v := v) (by rw [eT]; exact A.1) (State.isArrayOf_alike hZ.alike A.2.1) A.2.2 (idx_ok q2 hz h0 rfl hi) (H.at (idx_ok q2 hz h0 rfl hi) hv) (g := mkF C.m pc L (.int j :: .ref a :: S)) rfl rfl (hb o.2.1 d) _ st
theorem g_iaload (o : Ok C Z a0 b ml ret nm own rm) {a : Addr} {kc : ClassId} {z j : Int32} {vs : List Value} {dv v : Value} {i : Nat} (d : decode b pc = .ok (.iaload, 1)) (V : Arv Z h a kc .int z vs dv) (hz : z.toNatClampNeg = vs.length) (h0 : ¬ j < 0) (hj : j.toNatClampNeg = i) (hi : i < vs.length) (hv : vs.getD i dv = v)
    (K : Go C Z n0 Q M h k n (pc + 1) L (v :: S)) : Go C Z n0 Q M h k n pc L (.int j :: .ref a :: S) := by
  obtain ⟨cl, A, q1, q2, q3, H, G⟩ := V
  subst hj
  exact K.by fun T vm0 locs target X hZ _ eT st => X.iaload o.1 (cell := cl) (j := j) (v := v) (by rw [eT]; exact A.1) (State.isArrayOf_alike hZ.alike A.2.1) A.2.2 (idx_ok q2 hz h0 rfl hi) (H.at (idx_ok q2 hz h0 rfl hi) hv) (g := mkF C.m pc L (.int j :: .ref a :: S)) rfl rfl (hb o.2.1 d) _ st
theorem g_zaload (o : Ok C Z a0 b ml ret nm own rm) {a : Addr} {kc : ClassId} {z j : Int32} {vs : List Value} {dv v : Value} {i : Nat} (d : decode b pc = .ok (.baload, 1)) (V : Arv Z h a kc .boolean z vs dv) (hz : z.toNatClampNeg = vs.length) (h0 : ¬ j < 0) (hj : j.toNatClampNeg = i) (hi : i < vs.length) (hv : vs.getD i dv = v)
    (K : Go C Z n0 Q M h k n (pc + 1) L (v :: S)) : Go C Z n0 Q M h k n pc L (.int j :: .ref a :: S) := by
  obtain ⟨cl, A, q1, q2, q3, H, G⟩ := V
  subst hj
  exact K.by fun T vm0 locs target X hZ _ eT st => X.baloadBooleans o.1 (cell := cl) (j := j) (v := v) (by rw [eT]; exact A.1) (State.isArrayOf_alike hZ.alike A.2.1) A.2.2 (idx_ok q2 hz h0 rfl hi) (H.at (idx_ok q2 hz h0 rfl hi) hv) (g := mkF C.m pc L (.int j :: .ref a :: S)) rfl rfl (hb o.2.1 d) _ st
theorem g_instY (o : Ok C Z a0 b ml ret nm own rm) {ix : Nat} {a : Addr} {Kn : String} (d : decode b pc = .ok (.instanceof ix, 3)) (w : (Jvm.Cond.classLink own ix Kn).before a0 Z = true) (F : Ins Z h a Kn true) (K : Go C Z n0 Q M h k n (pc + 3) L (.int 1 :: S)) : Go C Z n0 Q M h k n pc L (.ref a :: S) := by
  refine Go.via (ι := Unit) (P := fun _ h' => h' = h) (S' := fun _ => .int 1 :: S) (fun _ h' e => by have e : h' = h := e; rw [e]; exact K) fun T vm0 locs X hZ hf eT N => ?_
  obtain ⟨T', X', e', st⟩ := instY X o.1 (Z := Z) hZ (by rw [← o.hown]; exact hf) w eT F (g := mkF C.m pc L (.ref a :: S)) rfl rfl (hb o.2.1 d)
  exact ⟨(), T', locs, h, rfl, X', e', N, Mv.refl, st⟩
theorem g_castY (o : Ok C Z a0 b ml ret nm own rm) {ix : Nat} {a : Addr} {Kn : String} (d : decode b pc = .ok (.checkcast ix, 3)) (w : (Jvm.Cond.classLink own ix Kn).before a0 Z = true) (F : Ins Z h a Kn true) (K : Go C Z n0 Q M h k n (pc + 3) L (.ref a :: S)) : Go C Z n0 Q M h k n pc L (.ref a :: S) := by
  refine Go.via (ι := Unit) (P := fun _ h' => h' = h) (S' := fun _ => .ref a :: S) (fun _ h' e => by have e : h' = h := e; rw [e]; exact K) fun T vm0 locs X hZ hf eT N => ?_
  obtain ⟨T', X', e', st⟩ := castY X o.1 (Z := Z) hZ (by rw [← o.hown]; exact hf) w eT F (g := mkF C.m pc L (.ref a :: S)) rfl rfl (hb o.2.1 d)
  exact ⟨(), T', locs, h, rfl, X', e', N, Mv.refl, st⟩
theorem g_initO (o : Ok C Z a0 b ml ret nm own rm) {ix : Nat} {a : Addr} (d : decode b pc = .ok (.invokespecial ix, 3)) (w1 : (Jvm.Cond.methodLink own ix Lib.objectInit).before a0 Z = true) (w2 : (Jvm.Cond.instanceMethod Lib.objectInit).before a0 Z = true) (w3 : (Jvm.Cond.code Lib.objectInit ⟨#[0xb1]⟩ 1 none).before a0 Z = true) (hL : L.size = ml) (hf : 1 ≤ rm.frames) (hl : (S.map fun v => v.category).sum + 12 ≤ rm.locals)
    (K : Go C Z n0 Q M h k n (pc + 3) L S) : Go C Z n0 Q M h k n pc L (.ref a :: S) := by
  refine Go.via (ι := Unit) (P := fun _ h' => h' = h) (S' := fun _ => S) (fun _ h' e => by have e : h' = h := e; rw [e]; exact K) fun T vm0 locs X hZ hfc eT N => ?_
  obtain ⟨T', X', e', st⟩ := initO X o.1 (Z := Z) hZ (by rw [← o.hown]; exact hfc) w1 w2 w3 eT (g := mkF C.m pc L (.ref a :: S)) rfl (hL.trans o.2.2.1.symm) rfl (hb o.2.1 d) (by rw [o.R]; exact hf) (W := (S.map fun v => v.category).sum) (by show 2 * 0 + _ ≤ _; omega) (by rw [o.R]; exact hl)
  exact ⟨(), T', locs, h, rfl, X', e', N, Mv.refl, st⟩
/-! calls -/
abbrev BackQ (C : Cx) (vm0 : Vm) (y : MethodName) (W : Nat) (as : Array Value) (h : Heap) (kc ks : Nat) (P : Option Value → Heap → List Loc → Prop) : Prop :=
  Back C.l C.R C.p C.e C.below (C.s.setVm vm0) C.args y 3 W (fun A a => a = as ∧ A.U.heap = h ∧ A.cells + kc ≤ C.R.cells ∧ A.slots + ks ≤ C.R.slots) (fun A _ v B => ∃ L, P v B.U.heap L ∧ B.locs = A.locs ++ L ∧ B.cells = A.cells + kc ∧ B.slots = A.slots + ks)
abbrev wt (S : List Value) : Nat := (S.map fun v => v.category).sum
theorem g_static (o : Ok C Z a0 b ml ret nm own rm) {ix mL kc ks W : Nat} {y : MethodName} {by' : ByteArray} {rt : Option FieldType} {P : Option Value → Heap → List Loc → Prop} {Q' : Option Value → Heap → Prop} {ps : List FieldType} {r : Option FieldType} (as rest : List Value) (d : decode b pc = .ok (.invokestatic ix, 3))
    (w1 : (Jvm.Cond.methodLink own ix y).before a0 Z = true) (w2 : (Jvm.Cond.static y).before a0 Z = true) (w3 : (Jvm.Cond.initialized y.cls).before a0 Z = true) (w4 : (Jvm.Cond.code y by' mL rt).before a0 Z = true) (hy : y.cls ≠ "java/lang/invoke/MethodHandle" ∧ y.cls ≠ "java/lang/invoke/VarHandle")
    (B : ∀ vm0, Z.Warmed39 vm0 → BackQ C vm0 y W as.toArray h kc ks P) (hP : ∀ v h' L, P v h' L → Q' v h' ∧ Fr n0 L ∧ h.size ≤ h'.size) (hmv : C.EL = [] ∨ ∀ v h', Q' v h' → Mv C Z M M h h') (hpd : parseMethodDescriptor y.desc = some ⟨ps, r⟩) (hlen : as.length = ps.length) (hS : S = as.reverse ++ rest) (hW : wt rest = W) (hL : L.size = ml) (hc : k + kc ≤ rm.cells) (hl : n + ks ≤ rm.slots)
    (K : ∀ v h', Q' v h' → Go C Z n0 Q M h' (k + kc) (n + ks) (pc + 3) L (v.toList ++ rest)) : Go C Z n0 Q M h k n pc L S := by
  subst hS
  refine Go.via (ι := Option Value) (P := Q') (S' := fun v => v.toList ++ rest) K fun T vm0 locs X hZ hf eT N => ?_
  obtain ⟨v, vm₁, ⟨T', L', k', n'⟩, -, X', ⟨Lc, hQ, l1, l2, l3⟩, st⟩ := Jvm.LawKit.callS X o.1 (y := y) (own := own) (by rw [← o.hown]; exact hf) (mvT (s := C.s.setVm vm0) hZ w1) (mvT (s := C.s.setVm vm0) hZ w2) (mvT (s := C.s.setVm vm0) hZ w3) (mvT (s := C.s.setVm vm0) hZ w4) hy (B vm0 hZ) (g := mkF C.m pc L (as.reverse ++ rest)) rfl (hL.trans o.2.2.1.symm) (argsL := as) (rest := rest) (lenOf hpd hlen) rfl (by show 2 * 0 + wt rest ≤ _; omega) (hb o.2.1 d) (fun _ _ => ⟨rfl, eT, by rw [o.R]; exact hc, by rw [o.R]; exact hl⟩)
  dsimp only [Pt.U, Pt.locs, Pt.cells, Pt.slots] at X' hQ l1 l2 l3 st
  subst l1 l2 l3
  obtain ⟨q1, q2, q3⟩ := hP _ _ _ hQ
  exact ⟨v, T', _, _, q1, X', rfl, N.app q2, hmv.elim (fun hE => Mv.triv hE q3) (fun f => f _ _ q1), st⟩
theorem g_special (o : Ok C Z a0 b ml ret nm own rm) {ix mL kc ks W : Nat} {y : MethodName} {by' : ByteArray} {P : Option Value → Heap → List Loc → Prop} {Q' : Option Value → Heap → Prop} {ps : List FieldType} {r : Option FieldType} (a : Addr) (as rest : List Value) (d : decode b pc = .ok (.invokespecial ix, 3)) (hy1 : y.name = "<init>")
    (w1 : (Jvm.Cond.methodLink own ix y).before a0 Z = true) (w2 : (Jvm.Cond.instanceMethod y).before a0 Z = true) (w4 : (Jvm.Cond.code y by' mL none).before a0 Z = true) (hy : y.cls ≠ "java/lang/invoke/MethodHandle" ∧ y.cls ≠ "java/lang/invoke/VarHandle")
    (B : ∀ vm0, Z.Warmed39 vm0 → BackQ C vm0 y W (.ref a :: as).toArray h kc ks P) (hP : ∀ v h' L, P v h' L → Q' v h' ∧ Fr n0 L ∧ h.size ≤ h'.size) (hmv : C.EL = [] ∨ ∀ v h', Q' v h' → Mv C Z M M h h') (hpd : parseMethodDescriptor y.desc = some ⟨ps, r⟩) (hlen : as.length = ps.length) (hS : S = as.reverse ++ .ref a :: rest) (hW : wt rest = W) (hL : L.size = ml) (hc : k + kc ≤ rm.cells) (hl : n + ks ≤ rm.slots)
    (K : ∀ v h', Q' v h' → Go C Z n0 Q M h' (k + kc) (n + ks) (pc + 3) L (v.toList ++ rest)) : Go C Z n0 Q M h k n pc L S := by
  subst hS
  refine Go.via (ι := Option Value) (P := Q') (S' := fun v => v.toList ++ rest) K fun T vm0 locs X hZ hf eT N => ?_
  obtain ⟨v, vm₁, ⟨T', L', k', n'⟩, -, X', ⟨Lc, hQ, l1, l2, l3⟩, st⟩ := X.specialBack o.1 (y := y) (own := own) hy1 (by rw [← o.hown]; exact hf) (mvT (s := C.s.setVm vm0) hZ w1) (mvT (s := C.s.setVm vm0) hZ w2) (mvT (s := C.s.setVm vm0) hZ w4) hy (B vm0 hZ) (g := mkF C.m pc L (as.reverse ++ .ref a :: rest)) rfl (hL.trans o.2.2.1.symm) (Steps.refl _) (a := a) (argsL := as) (rest := rest) (lenOf hpd hlen) rfl (by show 2 * 0 + wt rest ≤ _; omega) (hb o.2.1 d) (fun _ _ => ⟨rfl, eT, by rw [o.R]; exact hc, by rw [o.R]; exact hl⟩)
  dsimp only [Pt.U, Pt.locs, Pt.cells, Pt.slots] at X' hQ l1 l2 l3 st
  subst l1 l2 l3
  obtain ⟨q1, q2, q3⟩ := hP _ _ _ hQ
  exact ⟨v, T', _, _, q1, X', rfl, N.app q2, hmv.elim (fun hE => Mv.triv hE q3) (fun f => f _ _ q1), fun target z => st.trans z⟩
theorem g_virtual (o : Ok C Z a0 b ml ret nm own rm) {ix kc ks W : Nat} {Cn : String} {y z : MethodName} {P : Option Value → Heap → List Loc → Prop} {Q' : Option Value → Heap → Prop} {ps : List FieldType} {r : Option FieldType} (a : Addr) (as rest : List Value) (d : decode b pc = .ok (.invokevirtual ix, 3))
    (w1 : (Jvm.Cond.methodLink own ix y).before a0 Z = true) (w2 : (Jvm.Cond.declares y).before a0 Z = true) (w3 : (Jvm.Cond.selects Cn y z).before a0 Z = true) (w4 : (Jvm.Cond.instanceMethod z).before a0 Z = true) (nf : ∀ s : State, (Jvm.Cond.selects Cn y z).before C.args s = true → NotFace s y) (hy : y.cls ≠ "java/lang/invoke/MethodHandle" ∧ y.cls ≠ "java/lang/invoke/VarHandle") (E : Exa Z h a Cn)
    (B : ∀ vm0, Z.Warmed39 vm0 → BackQ C vm0 z W (.ref a :: as).toArray h kc ks P) (hP : ∀ v h' L, P v h' L → Q' v h' ∧ Fr n0 L ∧ h.size ≤ h'.size) (hmv : C.EL = [] ∨ ∀ v h', Q' v h' → Mv C Z M M h h') (hpd : parseMethodDescriptor y.desc = some ⟨ps, r⟩) (hlen : as.length = ps.length) (hS : S = as.reverse ++ .ref a :: rest) (hW : wt rest = W) (hL : L.size = ml) (hc : k + kc ≤ rm.cells) (hl : n + ks ≤ rm.slots)
    (K : ∀ v h', Q' v h' → Go C Z n0 Q M h' (k + kc) (n + ks) (pc + 3) L (v.toList ++ rest)) : Go C Z n0 Q M h k n pc L S := by
  subst hS
  refine Go.via (ι := Option Value) (P := Q') (S' := fun v => v.toList ++ rest) K fun T vm0 locs X hZ hf eT N => ?_
  obtain ⟨cq, kq, qa, qb, qc⟩ := isOf (s := C.s.setVm vm0) (T := T) hZ eT E
  have hsel := mvT (s := C.s.setVm vm0) (args := C.args) hZ w3
  obtain ⟨v, vm₁, ⟨T', L', k', n'⟩, -, X', ⟨Lc, hQ, l1, l2, l3⟩, st⟩ := X.virtualBack o.1 (y := y) (z := z) (own := own) (by rw [← o.hown]; exact hf) (mvT (s := C.s.setVm vm0) hZ w1) (mvT (s := C.s.setVm vm0) hZ w2) (nf _ hsel) hsel (mvT (s := C.s.setVm vm0) hZ w4) hy (B vm0 hZ) qa qc (g := mkF C.m pc L (as.reverse ++ .ref a :: rest)) rfl (hL.trans o.2.2.1.symm) (Steps.refl _) (argsL := as) (rest := rest) (lenOf hpd hlen) rfl (by show 2 * 0 + wt rest ≤ _; omega) (hb o.2.1 d) (fun _ _ => ⟨rfl, eT, by rw [o.R]; exact hc, by rw [o.R]; exact hl⟩)
  dsimp only [Pt.U, Pt.locs, Pt.cells, Pt.slots] at X' hQ l1 l2 l3 st
  subst l1 l2 l3
  obtain ⟨q1, q2, q3⟩ := hP _ _ _ hQ
  exact ⟨v, T', _, _, q1, X', rfl, N.app q2, hmv.elim (fun hE => Mv.triv hE q3) (fun f => f _ _ q1), fun target z => st.trans z⟩
/-! contracts -/
def Met (l : Launch) (Z : State) (n0 : Nat) (y : MethodName) (b : ByteArray) (ml : Nat) (ret : Option FieldType) (rm : Room) (as : Array Value) (h : Heap) (Q : Option Value → Heap → Prop) : Prop :=
  MetFree l y (head1 [Jvm.Cond.code y b ml ret] rm) (fun a U => a = as ∧ Z.Warmed39 U.vm ∧ U.heap = h) (fun _ _ _ _ _ => True) (fun _ U o U' => ∃ v L, o = .returned v ∧ (Q v U'.heap ∧ Fr n0 L ∧ h.size ≤ U'.heap.size) ∧ FrameEnd U o U' L rm.cells rm.slots)
def MetW (l : Launch) (Z : State) (n0 : Nat) (EL : List (String × Nat)) (y : MethodName) (b : ByteArray) (ml : Nat) (ret : Option FieldType) (rm : Room) (as : Array Value) (h : Heap) (Q : Option Value → Heap → Prop) : Prop :=
  MetFree l y (head1 [Jvm.Cond.code y b ml ret] rm) (fun a U => a = as ∧ Z.Warmed39 U.vm ∧ U.heap = h ∧ CHv Z EL U.vm h) (fun _ _ _ _ _ => True) (fun _ U o U' => ∃ v L, o = .returned v ∧ (Q v U'.heap ∧ Fr n0 L ∧ h.size ≤ U'.heap.size) ∧ CHr Z EL U.vm U.heap U'.vm U'.heap ∧ ReturnedEndW U o U' L rm.cells rm.slots)
theorem go_body {l : Launch} {y : MethodName} {S : Spec} {p : Program} {e : Env} {s : State} {m : MethodId} {args : Array Value} {below : List Frame} {meth : Method} {c : Code} {s₁ : State} (hR : S.room = rm) (Bd : BodyLoose p l y S b ml ret e s m args below meth c s₁) (hml : c.maxLocals = ml) (hw : ∀ d ∈ tables_1, d.before a0 Z = true) (wide : Bool) (EL : List (String × Nat)) (hEW : EW Z a0 EL) (hZ : Z.Warmed39 s.vm) (hh : s.heap = h) (hCH : CHv Z EL s.vm h) (hM : ∀ x ∈ M, x < h.size ∧ Safe Z EL s.vm h x)
    (he : entryFrame m args ml = mkF m 0 L []) (K : ∀ C : Cx, C.l = l → C.wide = wide → C.EL = EL → Ok C Z a0 b ml ret y.name y.cls rm → Go C Z n0 Q M h 0 0 0 L []) :
    ∃ s₂ o, Steps p.tables e below (s₁.setTop (entryFrame m args ml)) s₂ ∧ s₂.status = .running ∧ Ended s₂ below o ∧ ∃ v Lc, o = .returned v ∧ (Q v s₂.heap ∧ Fr n0 Lc ∧ h.size ≤ s₂.heap.size) ∧ CHr Z EL s.vm s.heap s₂.vm s₂.heap ∧ (wide = true → ReturnedEndW s o s₂ Lc rm.cells rm.slots) ∧ (wide = false → FrameEnd s o s₂ Lc rm.cells rm.slots) := by
  have hown : s.vm.findClass y.cls = some m.cls := findClass_of_methodNamed Bd.named
  have hnm := (name_of_methodNamed Bd.named Bd.method).1
  have X0 : Stand p l e rm s m args below meth c s₁ [] 0 0 := by rw [← hR]; exact Stand.of_body Bd
  have e0 : s₁.heap = h := by rw [← hh, Bd.state]; rfl
  obtain ⟨s₂, o, st, r1, r2, v, Lc, r3, r4, r5⟩ := K ((p, l, e, rm), (s, m, args, below), (meth, c), (rm.cells, rm.slots, wide, y.cls, EL)) rfl rfl rfl ⟨Bd.exec, Bd.bytes, hml, Bd.returns, hnm, rfl, rfl, Bd.notSynchronized, rfl, rfl, hEW, hw⟩ s₁
    ⟨s.vm, [], s.heap.size, X0, e0, hZ, hown, ⟨State.Warmed39.refl s, fun j p hj hp => absurd (Array.getElem?_eq_some_iff.mp hp).1 (Nat.not_lt.mpr hj)⟩, by rw [hh]; exact Nat.le_refl _, Fr.nil n0, Or.inr rfl, by rw [← hh] at hCH ⊢; exact CHr.refl hCH, hM⟩
  refine ⟨s₂, o, castTop he st, r1, r2, v, Lc, r3, ⟨r4.1, r4.2.1, by rw [← hh]; exact r4.2.2⟩, r5⟩
theorem met_of {l : Launch} {y : MethodName} {as : Array Value} (hp : plainName y.cls = true) (hw : ∀ d ∈ tables_1, d.before a0 Z = true) (he : ∀ m, entryFrame m as ml = mkF m 0 L [])
    (K : ∀ C : Cx, C.l = l → C.wide = false → C.EL = [] → Ok C Z a0 b ml ret y.name y.cls rm → Go C Z n0 Q [] h 0 0 0 L []) : Met l Z n0 y b ml ret rm as h Q := by
  refine MetFree.of_bodySF (plainFor_of_name hp) hisR ?_
  intro p e s m args below meth c s₁ Bd hml hP _
  obtain ⟨rfl, hZ, hh⟩ := hP
  obtain ⟨s₂, o, r⟩ := go_body rfl Bd hml hw false [] EW.nil hZ hh (fun p hp => by cases hp) (fun x hx => by cases hx) (he m) K
  exact ⟨s₂, o, r.1, r.2.1, r.2.2.1, by obtain ⟨v, Lc, q1, q2, -, q3, q4⟩ := r.2.2.2; exact ⟨v, Lc, q1, q2, q4 rfl⟩⟩
theorem metW_of {l : Launch} {y : MethodName} {as : Array Value} {EL : List (String × Nat)} (hp : plainName y.cls = true) (hw : ∀ d ∈ tables_1, d.before a0 Z = true) (hEW : EW Z a0 EL) (he : ∀ m, entryFrame m as ml = mkF m 0 L [])
    (K : ∀ C : Cx, C.l = l → C.wide = true → C.EL = EL → Ok C Z a0 b ml ret y.name y.cls rm → Go C Z n0 Q [] h 0 0 0 L []) : MetW l Z n0 EL y b ml ret rm as h Q := by
  refine MetFree.of_bodySF (plainFor_of_name hp) hisR ?_
  intro p e s m args below meth c s₁ Bd hml hP _
  obtain ⟨rfl, hZ, hh, hCH⟩ := hP
  obtain ⟨s₂, o, r⟩ := go_body rfl Bd hml hw true EL hEW hZ hh hCH (fun x hx => by cases hx) (he m) K
  exact ⟨s₂, o, r.1, r.2.1, r.2.2.1, by obtain ⟨v, Lc, q1, q2, q5, q3, q4⟩ := r.2.2.2; exact ⟨v, Lc, q1, q2, q5, q3 rfl⟩⟩
theorem Met.back {y : MethodName} {as : Array Value} {mL : Nat} {by' : ByteArray} {rt : Option FieldType} {rm' : Room} {Q' : Option Value → Heap → Prop} {W : Nat} (o : Ok C Z a0 b ml ret nm own rm) (M : Met C.l Z n0 y by' mL rt rm' as h Q') (w4 : (Jvm.Cond.code y by' mL rt).before a0 Z = true) (w3 : (Jvm.Cond.initialized y.cls).before a0 Z = true) (hf : rm'.frames + 1 ≤ rm.frames) (hl : W + (mL + 11) + rm'.locals ≤ rm.locals) :
    ∀ vm0, Z.Warmed39 vm0 → BackQ C vm0 y W as h rm'.cells rm'.slots (fun v h' L => Q' v h' ∧ Fr n0 L ∧ h.size ≤ h'.size) := fun vm0 hZ =>
  backOf (s := C.s.setVm vm0) (Z := Z) (a0 := a0) (h := h) (Q := fun v h' L => Q' v h' ∧ Fr n0 L ∧ h.size ≤ h'.size) M hZ w4 w3 (by rw [o.R]; exact hf) (by rw [o.R]; exact hl)
end Cal
/-! own text: small facts -/
section Ext1
variable {Z : State} {a0 : Array Value} {h h' h0 : Heap} {n0 : Nat} {a b : Addr} {ws : List Addr}
theorem ne_new (hb : b = h.size) (q : a < h.size) : a ≠ b := fun e => Nat.lt_irrefl _ (by rw [e, ← hb] at q; exact q)
theorem Old.sz (X : Old Z n0 h) : n0 ≤ h.size := by rw [← X.1]; exact X.2.1
theorem ge_new (hb : b = h.size) (X : Old Z n0 h) : n0 ≤ b := by rw [hb]; exact Old.sz X
theorem keep_new (hb : b = h.size) (K : Keep h0 h ws) : h0.size ≤ b := by rw [hb]; exact K.1
theorem cat_ref {v : Value} (q : v.isRef = true) : v.category = 1 := by rcases ref_cases q with rfl | ⟨z, rfl⟩ <;> rfl
theorem store_cat {l l' : Array Slot} {i : Nat} {v : Value} {o : Slot} (hold : l[i]? = some o) (ho : o = .unset ∨ ∃ w, o = .val w ∧ w.category = 1) (hv : v.category = 1) (e : l.setIfInBounds i (.val v) = l') : storeLocals l i v = some l' := e ▸ XS.store1 hold ho hv
theorem nref {t : FieldType} {v : Value} (ht : t.isReference = true) (q : v.isRef = true) : narrow t v = v := by rcases ref_cases q with rfl | ⟨z, rfl⟩ <;> cases t <;> first | rfl | (cases ht; done)
theorem fref {t : FieldType} {v : Value} (ht : t.isReference = true) (q : v.isRef = true) : fits t v = true := by rcases ref_cases q with rfl | ⟨z, rfl⟩ <;> cases t <;> first | rfl | (cases ht; done)
theorem nz {x : Int32} (q : nar .boolean x = x) : narrow .boolean (.int x) = .int x := congrArg Value.int q
theorem fz {x : Int32} (q : nar .boolean x = x) : fits .boolean (.int x) = true := by rw [← q]; exact fits_nar_bool x
/-- w is no String and no byte[] of the heap -/
def Off (Z : State) (h : Heap) (w : Addr) : Prop := (∀ x, Exa Z h x "java/lang/String" → x ≠ w) ∧ ∀ (t : Addr) (k : ClassId) (z : Int32) (vs : List Value) (d : Value), Arv Z h t k .byte z vs d → t ≠ w
theorem Off.exa {Cn : String} {nf : Nat} (E : Exa Z h a Cn) (hn : Cn ≠ "java/lang/String") (wi : (Jvm.Cond.instantiable Cn nf).before a0 Z = true) : Off Z h a :=
  ⟨fun x F => F.ne E hn.symm, fun t k z vs d F => (E.neArv F wi).symm⟩
theorem arv_ty {k k' : ClassId} {t t' : FieldType} {z z' : Int32} {vs vs' : List Value} {d d' : Value} (A : Arv Z h a k t z vs d) (B : Arv Z h a k' t' z' vs' d') : t = t' := by
  obtain ⟨c, A1, -⟩ := A
  obtain ⟨c', B1, -⟩ := B
  cases A1.1.symm.trans B1.1
  obtain ⟨-, k1, j1, c1, j2⟩ := A1.2.1
  obtain ⟨-, k2, i1, c2, i2⟩ := B1.2.1
  cases j1.symm.trans i1
  rw [j2] at i2
  cases i2
  rfl
theorem Off.arv {k : ClassId} {t : FieldType} {z : Int32} {vs : List Value} {d : Value} (A : Arv Z h a k t z vs d) (ht : t ≠ .byte) (wi : (Jvm.Cond.instantiable "java/lang/String" 4).before a0 Z = true) : Off Z h a :=
  ⟨fun x F e => F.neArv (b := a) A wi e, fun t' k' z' vs' d' F e => by subst e; exact ht (arv_ty A F)⟩
theorem Off.new (q : h.size ≤ a) : Off Z h a := ⟨fun x F e => by subst e; exact Nat.not_lt.mpr q F.lt, fun t k z vs d F e => by subst e; exact Nat.not_lt.mpr q F.lt⟩
/-- no object of the class C is one of the class K -/
theorem no_inst {Cn Sn Kn : String} {nf : Nat} (w : (Jvm.Cond.superclass Cn Sn).before a0 Z = true) (w0 : (Jvm.Cond.noSuperclass Sn).before a0 Z = true) (wk : (Jvm.Cond.instantiable Kn nf).before a0 Z = true) (h1 : Cn ≠ Kn) (h2 : Sn ≠ Kn) : ∃ c t, Z.vm.findClass Cn = some c ∧ Z.vm.findClass Kn = some t ∧ Z.vm.assignable c t = false := by
  obtain ⟨t, kt, g1, g2, g3, g4⟩ := Cond.instantiable_spec wk
  obtain ⟨cs, ks, s1, s2, s3, -, -⟩ := Cond.noSuperclass_spec w0
  have ne2 := ids_ne s1 g1 h2
  have nroot : NS Z Sn Kn := ⟨cs, t, s1, g1, fun fuel => by
    cases fuel with
    | zero => rfl
    | succ f => simp [Vm.isSubclassAux, ne2, s2, s3]⟩
  have n := NS.step w nroot h1
  obtain ⟨c, t', h0, g0, n3⟩ := n
  cases g1.symm.trans g0
  obtain ⟨p, k, kp, p1, p2, p3, p4, p5, -, p7⟩ := Cond.superclass_spec h0 w
  have ne := ids_ne h0 g1 h1
  refine ⟨c, t, h0, g1, ?_⟩
  show Z.vm.assignableAux (255 + 1) c t = false
  have g5 : kt.isInterface = false := by have q := g4.1; simp only [Bool.or_eq_false_iff] at q; exact q.1
  simp [Vm.assignableAux, ne, p2, g2, p5, g3, g5, Vm.isSubclass, n3]
end Ext1
section Ext2
variable {C : Cx} {Z : State} {a0 : Array Value} {b : ByteArray} {ml : Nat} {ret : Option FieldType} {nm own : String} {rm : Room} {n0 : Nat} {Q : Option Value → Heap → Prop} {M : List Addr} {h : Heap} {k n pc : Nat} {L : Array Slot} {S : List Value}
theorem g_instN (o : Ok C Z a0 b ml ret nm own rm) {ix : Nat} {a : Addr} {Kn Cn : String} (d : decode b pc = .ok (.instanceof ix, 3)) (w : (Jvm.Cond.classLink own ix Kn).before a0 Z = true) (E : Exa Z h a Cn) (F : ∃ c t, Z.vm.findClass Cn = some c ∧ Z.vm.findClass Kn = some t ∧ Z.vm.assignable c t = false) (K : Go C Z n0 Q M h k n (pc + 3) L (.int 0 :: S)) : Go C Z n0 Q M h k n pc L (.ref a :: S) := by
  refine Go.via (ι := Unit) (P := fun _ h' => h' = h) (S' := fun _ => .int 0 :: S) (fun _ h' e => by have e : h' = h := e; rw [e]; exact K) fun T vm0 locs X hZ hf eT N => ?_
  obtain ⟨T', X', e', st⟩ := instNo X o.1 (Z := Z) hZ (by rw [← o.hown]; exact hf) w eT E F (g := mkF C.m pc L (.ref a :: S)) rfl rfl (hb o.2.1 d)
  exact ⟨(), T', locs, h, rfl, X', e', N, Mv.refl, st⟩
theorem g_instNull (o : Ok C Z a0 b ml ret nm own rm) {ix : Nat} (d : decode b pc = .ok (.instanceof ix, 3)) (K : Go C Z n0 Q M h k n (pc + 3) L (.int 0 :: S)) : Go C Z n0 Q M h k n pc L (.null :: S) :=
  K.by fun T vm0 locs target X _ _ _ st => instanceofNull X o.1 (g := mkF C.m pc L (.null :: S)) rfl rfl (hb o.2.1 d) _ st
theorem law_of {l : Launch} {y : MethodName} {as : Array Value} {ws : List Jvm.Cond} (hp : plainName y.cls = true) (hw : ∀ d ∈ tables_1, d.before a0 Z = true) (he : ∀ m, entryFrame m as ml = mkF m 0 L []) (wide : Bool) (EL : List (String × Nat)) (hEW : EW Z a0 EL) (hCH : CHv Z EL Z.vm h)
    (K : ∀ C : Cx, C.l = l → C.wide = wide → C.EL = EL → Ok C Z a0 b ml ret y.name y.cls rm → Go C Z n0 Q [] h 0 0 0 L []) : MetFree l y (head1 (Jvm.Cond.code y b ml ret :: ws) rm) (fun a U => a = as ∧ Z.Warmed39 U.vm ∧ U.vm = Z.vm ∧ U.heap = h) (fun _ _ _ _ _ => True) (fun _ U o U' => ∃ v L, o = .returned v ∧ (Q v U'.heap ∧ Fr n0 L) ∧ (wide = true → ReturnedEndW U o U' L rm.cells rm.slots) ∧ (wide = false → FrameEnd U o U' L rm.cells rm.slots)) := by
  refine MetFree.of_bodySF (plainFor_of_name hp) hisR ?_
  intro p e s m args below meth c s₁ Bd hml hP _
  obtain ⟨rfl, hZ, hvm, hh⟩ := hP
  obtain ⟨s₂, o, r⟩ := go_body rfl Bd hml hw wide EL hEW hZ hh (by rw [hvm]; exact hCH) (fun x hx => by cases hx) (he m) K
  exact ⟨s₂, o, r.1, r.2.1, r.2.2.1, by obtain ⟨v, Lc, q1, q2, -, q3⟩ := r.2.2.2; exact ⟨v, Lc, q1, ⟨q2.1, q2.2.1⟩, q3⟩⟩
end Ext2
theorem d_method_3_0 : decode method_3_code 0 = .ok (.iconst 2, 1) := by decide +kernel
theorem d_method_3_1 : decode method_3_code 1 = .ok (.newarray .char, 2) := by decide +kernel
theorem wd_4 {a0 : Array Value} {Z : State} (hw : ∀ d ∈ tables_1, d.before a0 Z = true) : (Jvm.Cond.arrayClass Jvm.ClassFile.FieldType.char).before a0 Z = true := hw _ (List.mem_of_getElem? (i := 4) rfl)
theorem d_method_3_3 : decode method_3_code 3 = .ok (.astore_n 2, 1) := by decide +kernel
theorem d_method_3_4 : decode method_3_code 4 = .ok (.aload_n 2, 1) := by decide +kernel
theorem d_method_3_5 : decode method_3_code 5 = .ok (.iconst 0, 1) := by decide +kernel
theorem d_method_3_6 : decode method_3_code 6 = .ok (.lload_n 0, 1) := by decide +kernel
theorem d_method_3_7 : decode method_3_code 7 = .ok (.ldc2_w 56, 3) := by decide +kernel
theorem wd_5 {a0 : Array Value} {Z : State} (hw : ∀ d ∈ tables_1, d.before a0 Z = true) : (Jvm.Cond.constantLong "com/example/libpersist/libpersist/core/model/ColumnWithNullablePinLaw" (56 : Nat) (255 : Int64)).before a0 Z = true := hw _ (List.mem_of_getElem? (i := 5) rfl)
theorem d_method_3_10 : decode method_3_code 10 = .ok (.land, 1) := by decide +kernel
theorem d_method_3_11 : decode method_3_code 11 = .ok (.l2i, 1) := by decide +kernel
theorem d_method_3_12 : decode method_3_code 12 = .ok (.i2c, 1) := by decide +kernel
theorem d_method_3_13 : decode method_3_code 13 = .ok (.castore, 1) := by decide +kernel
theorem d_method_3_14 : decode method_3_code 14 = .ok (.aload_n 2, 1) := by decide +kernel
theorem d_method_3_15 : decode method_3_code 15 = .ok (.iconst 1, 1) := by decide +kernel
theorem d_method_3_16 : decode method_3_code 16 = .ok (.lload_n 0, 1) := by decide +kernel
theorem d_method_3_17 : decode method_3_code 17 = .ok (.bipush 8, 2) := by decide +kernel
theorem d_method_3_19 : decode method_3_code 19 = .ok (.lushr, 1) := by decide +kernel
theorem d_method_3_20 : decode method_3_code 20 = .ok (.ldc2_w 56, 3) := by decide +kernel
theorem d_method_3_23 : decode method_3_code 23 = .ok (.land, 1) := by decide +kernel
theorem d_method_3_24 : decode method_3_code 24 = .ok (.l2i, 1) := by decide +kernel
theorem d_method_3_25 : decode method_3_code 25 = .ok (.i2c, 1) := by decide +kernel
theorem d_method_3_26 : decode method_3_code 26 = .ok (.castore, 1) := by decide +kernel
theorem d_method_3_27 : decode method_3_code 27 = .ok (.new 58, 3) := by decide +kernel
theorem wd_6 {a0 : Array Value} {Z : State} (hw : ∀ d ∈ tables_1, d.before a0 Z = true) : (Jvm.Cond.classLink "com/example/libpersist/libpersist/core/model/ColumnWithNullablePinLaw" (58 : Nat) "java/lang/String").before a0 Z = true := hw _ (List.mem_of_getElem? (i := 6) rfl)
theorem wd_7 {a0 : Array Value} {Z : State} (hw : ∀ d ∈ tables_1, d.before a0 Z = true) : (Jvm.Cond.instantiable "java/lang/String" (4 : Nat)).before a0 Z = true := hw _ (List.mem_of_getElem? (i := 7) rfl)
theorem wd_8 {a0 : Array Value} {Z : State} (hw : ∀ d ∈ tables_1, d.before a0 Z = true) : (Jvm.Cond.initialized "java/lang/String").before a0 Z = true := hw _ (List.mem_of_getElem? (i := 8) rfl)
theorem wd_32 {a0 : Array Value} {Z : State} (hw : ∀ d ∈ tables_1, d.before a0 Z = true) : (Jvm.Cond.laysFinal "java/lang/String" "java/lang/String" "coder" "B").before a0 Z = true := hw _ (List.mem_of_getElem? (i := 32) rfl)
theorem wd_34 {a0 : Array Value} {Z : State} (hw : ∀ d ∈ tables_1, d.before a0 Z = true) : (Jvm.Cond.laysFinal "java/lang/String" "java/lang/String" "value" "[B").before a0 Z = true := hw _ (List.mem_of_getElem? (i := 34) rfl)
theorem d_method_3_30 : decode method_3_code 30 = .ok (.dup, 1) := by decide +kernel
theorem d_method_3_31 : decode method_3_code 31 = .ok (.aload_n 2, 1) := by decide +kernel
theorem wd_9 {a0 : Array Value} {Z : State} (hw : ∀ d ∈ tables_1, d.before a0 Z = true) : (Jvm.Cond.methodLink "com/example/libpersist/libpersist/core/model/ColumnWithNullablePinLaw" (60 : Nat) ({ cls := "java/lang/String", name := "<init>", desc := "([C)V" } : Jvm.MethodName)).before a0 Z = true := hw _ (List.mem_of_getElem? (i := 9) rfl)
theorem d_method_3_32 : decode method_3_code 32 = .ok (.invokespecial 60, 3) := by decide +kernel
theorem wd_10 {a0 : Array Value} {Z : State} (hw : ∀ d ∈ tables_1, d.before a0 Z = true) : (Jvm.Cond.instanceMethod ({ cls := "java/lang/String", name := "<init>", desc := "([C)V" } : Jvm.MethodName)).before a0 Z = true := hw _ (List.mem_of_getElem? (i := 10) rfl)
theorem wd_11 {a0 : Array Value} {Z : State} (hw : ∀ d ∈ tables_1, d.before a0 Z = true) : (Jvm.Cond.code ({ cls := "java/lang/String", name := "<init>", desc := "([C)V" } : Jvm.MethodName) jdk_42_method_3_code (2 : Nat) (Option.none : Option Jvm.ClassFile.FieldType)).before a0 Z = true := hw _ (List.mem_of_getElem? (i := 11) rfl)
theorem pd_0 : parseMethodDescriptor "([C)V" = some ⟨[(.array .char)], none⟩ := by decide +kernel
theorem d_method_3_35 : decode method_3_code 35 = .ok (.areturn, 1) := by decide +kernel
theorem pn_0 : plainName "com/example/libpersist/libpersist/core/model/ColumnWithNullablePinLaw" = true := by first | (simp [plainName, overriddenIn]; done) | decide +kernel
theorem d_jdk_30_method_1_0 : decode jdk_30_method_1_code 0 = .ok (.aload_n 0, 1) := by decide +kernel
theorem wd_46 {a0 : Array Value} {Z : State} (hw : ∀ d ∈ tables_1, d.before a0 Z = true) : (Jvm.Cond.methodLink "java/lang/Record" (1 : Nat) ({ cls := "java/lang/Object", name := "<init>", desc := "()V" } : Jvm.MethodName)).before a0 Z = true := hw _ (List.mem_of_getElem? (i := 46) rfl)
theorem d_jdk_30_method_1_1 : decode jdk_30_method_1_code 1 = .ok (.invokespecial 1, 3) := by decide +kernel
theorem wd_17 {a0 : Array Value} {Z : State} (hw : ∀ d ∈ tables_1, d.before a0 Z = true) : (Jvm.Cond.instanceMethod ({ cls := "java/lang/Object", name := "<init>", desc := "()V" } : Jvm.MethodName)).before a0 Z = true := hw _ (List.mem_of_getElem? (i := 17) rfl)
theorem wd_18 {a0 : Array Value} {Z : State} (hw : ∀ d ∈ tables_1, d.before a0 Z = true) : (Jvm.Cond.code ({ cls := "java/lang/Object", name := "<init>", desc := "()V" } : Jvm.MethodName) object_method_1_code (1 : Nat) (Option.none : Option Jvm.ClassFile.FieldType)).before a0 Z = true := hw _ (List.mem_of_getElem? (i := 18) rfl)
theorem d_jdk_30_method_1_4 : decode jdk_30_method_1_code 4 = .ok (.return_, 1) := by decide +kernel
theorem pn_1 : plainName "java/lang/Record" = true := by first | (simp [plainName, overriddenIn]; done) | decide +kernel
theorem d_prog_12_method_2_0 : decode prog_12_method_2_code 0 = .ok (.aload_n 0, 1) := by decide +kernel
theorem wd_41 {a0 : Array Value} {Z : State} (hw : ∀ d ∈ tables_1, d.before a0 Z = true) : (Jvm.Cond.methodLink "com/example/libpersist/libpersist/core/model/Column" (1 : Nat) ({ cls := "java/lang/Record", name := "<init>", desc := "()V" } : Jvm.MethodName)).before a0 Z = true := hw _ (List.mem_of_getElem? (i := 41) rfl)
theorem d_prog_12_method_2_1 : decode prog_12_method_2_code 1 = .ok (.invokespecial 1, 3) := by decide +kernel
theorem wd_45 {a0 : Array Value} {Z : State} (hw : ∀ d ∈ tables_1, d.before a0 Z = true) : (Jvm.Cond.code ({ cls := "java/lang/Record", name := "<init>", desc := "()V" } : Jvm.MethodName) jdk_30_method_1_code (1 : Nat) (Option.none : Option Jvm.ClassFile.FieldType)).before a0 Z = true := hw _ (List.mem_of_getElem? (i := 45) rfl)
theorem wd_44 {a0 : Array Value} {Z : State} (hw : ∀ d ∈ tables_1, d.before a0 Z = true) : (Jvm.Cond.initialized "java/lang/Record").before a0 Z = true := hw _ (List.mem_of_getElem? (i := 44) rfl)
theorem wd_42 {a0 : Array Value} {Z : State} (hw : ∀ d ∈ tables_1, d.before a0 Z = true) : (Jvm.Cond.instanceMethod ({ cls := "java/lang/Record", name := "<init>", desc := "()V" } : Jvm.MethodName)).before a0 Z = true := hw _ (List.mem_of_getElem? (i := 42) rfl)
theorem pd_1 : parseMethodDescriptor "()V" = some ⟨[], none⟩ := by decide +kernel
theorem d_prog_12_method_2_4 : decode prog_12_method_2_code 4 = .ok (.aload_n 0, 1) := by decide +kernel
theorem d_prog_12_method_2_5 : decode prog_12_method_2_code 5 = .ok (.aload_n 1, 1) := by decide +kernel
theorem d_prog_12_method_2_6 : decode prog_12_method_2_code 6 = .ok (.putfield 7, 3) := by decide +kernel
theorem wd_47 {a0 : Array Value} {Z : State} (hw : ∀ d ∈ tables_1, d.before a0 Z = true) : (Jvm.Cond.fieldLink "com/example/libpersist/libpersist/core/model/Column" (7 : Nat) "com/example/libpersist/libpersist/core/model/Column" "name" "Ljava/lang/String;").before a0 Z = true := hw _ (List.mem_of_getElem? (i := 47) rfl)
theorem wd_48 {a0 : Array Value} {Z : State} (hw : ∀ d ∈ tables_1, d.before a0 Z = true) : (Jvm.Cond.laysFinal "com/example/libpersist/libpersist/core/model/Column" "com/example/libpersist/libpersist/core/model/Column" "name" "Ljava/lang/String;").before a0 Z = true := hw _ (List.mem_of_getElem? (i := 48) rfl)
theorem wd_36 {a0 : Array Value} {Z : State} (hw : ∀ d ∈ tables_1, d.before a0 Z = true) : (Jvm.Cond.instantiable "com/example/libpersist/libpersist/core/model/Column" (9 : Nat)).before a0 Z = true := hw _ (List.mem_of_getElem? (i := 36) rfl)
theorem d_prog_12_method_2_9 : decode prog_12_method_2_code 9 = .ok (.aload_n 0, 1) := by decide +kernel
theorem d_prog_12_method_2_10 : decode prog_12_method_2_code 10 = .ok (.iload_n 2, 1) := by decide +kernel
theorem d_prog_12_method_2_11 : decode prog_12_method_2_code 11 = .ok (.putfield 13, 3) := by decide +kernel
theorem wd_49 {a0 : Array Value} {Z : State} (hw : ∀ d ∈ tables_1, d.before a0 Z = true) : (Jvm.Cond.fieldLink "com/example/libpersist/libpersist/core/model/Column" (13 : Nat) "com/example/libpersist/libpersist/core/model/Column" "nullable" "Z").before a0 Z = true := hw _ (List.mem_of_getElem? (i := 49) rfl)
theorem wd_50 {a0 : Array Value} {Z : State} (hw : ∀ d ∈ tables_1, d.before a0 Z = true) : (Jvm.Cond.laysFinal "com/example/libpersist/libpersist/core/model/Column" "com/example/libpersist/libpersist/core/model/Column" "nullable" "Z").before a0 Z = true := hw _ (List.mem_of_getElem? (i := 50) rfl)
theorem d_prog_12_method_2_14 : decode prog_12_method_2_code 14 = .ok (.aload_n 0, 1) := by decide +kernel
theorem d_prog_12_method_2_15 : decode prog_12_method_2_code 15 = .ok (.iload_n 3, 1) := by decide +kernel
theorem d_prog_12_method_2_16 : decode prog_12_method_2_code 16 = .ok (.putfield 17, 3) := by decide +kernel
theorem wd_51 {a0 : Array Value} {Z : State} (hw : ∀ d ∈ tables_1, d.before a0 Z = true) : (Jvm.Cond.fieldLink "com/example/libpersist/libpersist/core/model/Column" (17 : Nat) "com/example/libpersist/libpersist/core/model/Column" "unique" "Z").before a0 Z = true := hw _ (List.mem_of_getElem? (i := 51) rfl)
theorem wd_52 {a0 : Array Value} {Z : State} (hw : ∀ d ∈ tables_1, d.before a0 Z = true) : (Jvm.Cond.laysFinal "com/example/libpersist/libpersist/core/model/Column" "com/example/libpersist/libpersist/core/model/Column" "unique" "Z").before a0 Z = true := hw _ (List.mem_of_getElem? (i := 52) rfl)
theorem d_prog_12_method_2_19 : decode prog_12_method_2_code 19 = .ok (.aload_n 0, 1) := by decide +kernel
theorem d_prog_12_method_2_20 : decode prog_12_method_2_code 20 = .ok (.iload 4, 2) := by decide +kernel
theorem d_prog_12_method_2_22 : decode prog_12_method_2_code 22 = .ok (.putfield 20, 3) := by decide +kernel
theorem wd_53 {a0 : Array Value} {Z : State} (hw : ∀ d ∈ tables_1, d.before a0 Z = true) : (Jvm.Cond.fieldLink "com/example/libpersist/libpersist/core/model/Column" (20 : Nat) "com/example/libpersist/libpersist/core/model/Column" "insertable" "Z").before a0 Z = true := hw _ (List.mem_of_getElem? (i := 53) rfl)
theorem wd_54 {a0 : Array Value} {Z : State} (hw : ∀ d ∈ tables_1, d.before a0 Z = true) : (Jvm.Cond.laysFinal "com/example/libpersist/libpersist/core/model/Column" "com/example/libpersist/libpersist/core/model/Column" "insertable" "Z").before a0 Z = true := hw _ (List.mem_of_getElem? (i := 54) rfl)
theorem d_prog_12_method_2_25 : decode prog_12_method_2_code 25 = .ok (.aload_n 0, 1) := by decide +kernel
theorem d_prog_12_method_2_26 : decode prog_12_method_2_code 26 = .ok (.iload 5, 2) := by decide +kernel
theorem d_prog_12_method_2_28 : decode prog_12_method_2_code 28 = .ok (.putfield 23, 3) := by decide +kernel
theorem wd_55 {a0 : Array Value} {Z : State} (hw : ∀ d ∈ tables_1, d.before a0 Z = true) : (Jvm.Cond.fieldLink "com/example/libpersist/libpersist/core/model/Column" (23 : Nat) "com/example/libpersist/libpersist/core/model/Column" "updatable" "Z").before a0 Z = true := hw _ (List.mem_of_getElem? (i := 55) rfl)
theorem wd_56 {a0 : Array Value} {Z : State} (hw : ∀ d ∈ tables_1, d.before a0 Z = true) : (Jvm.Cond.laysFinal "com/example/libpersist/libpersist/core/model/Column" "com/example/libpersist/libpersist/core/model/Column" "updatable" "Z").before a0 Z = true := hw _ (List.mem_of_getElem? (i := 56) rfl)
theorem d_prog_12_method_2_31 : decode prog_12_method_2_code 31 = .ok (.aload_n 0, 1) := by decide +kernel
theorem d_prog_12_method_2_32 : decode prog_12_method_2_code 32 = .ok (.iload 6, 2) := by decide +kernel
theorem d_prog_12_method_2_34 : decode prog_12_method_2_code 34 = .ok (.putfield 26, 3) := by decide +kernel
theorem wd_57 {a0 : Array Value} {Z : State} (hw : ∀ d ∈ tables_1, d.before a0 Z = true) : (Jvm.Cond.fieldLink "com/example/libpersist/libpersist/core/model/Column" (26 : Nat) "com/example/libpersist/libpersist/core/model/Column" "length" "I").before a0 Z = true := hw _ (List.mem_of_getElem? (i := 57) rfl)
theorem wd_58 {a0 : Array Value} {Z : State} (hw : ∀ d ∈ tables_1, d.before a0 Z = true) : (Jvm.Cond.laysFinal "com/example/libpersist/libpersist/core/model/Column" "com/example/libpersist/libpersist/core/model/Column" "length" "I").before a0 Z = true := hw _ (List.mem_of_getElem? (i := 58) rfl)
theorem d_prog_12_method_2_37 : decode prog_12_method_2_code 37 = .ok (.aload_n 0, 1) := by decide +kernel
theorem d_prog_12_method_2_38 : decode prog_12_method_2_code 38 = .ok (.iload 7, 2) := by decide +kernel
theorem d_prog_12_method_2_40 : decode prog_12_method_2_code 40 = .ok (.putfield 30, 3) := by decide +kernel
theorem wd_59 {a0 : Array Value} {Z : State} (hw : ∀ d ∈ tables_1, d.before a0 Z = true) : (Jvm.Cond.fieldLink "com/example/libpersist/libpersist/core/model/Column" (30 : Nat) "com/example/libpersist/libpersist/core/model/Column" "precision" "I").before a0 Z = true := hw _ (List.mem_of_getElem? (i := 59) rfl)
theorem wd_60 {a0 : Array Value} {Z : State} (hw : ∀ d ∈ tables_1, d.before a0 Z = true) : (Jvm.Cond.laysFinal "com/example/libpersist/libpersist/core/model/Column" "com/example/libpersist/libpersist/core/model/Column" "precision" "I").before a0 Z = true := hw _ (List.mem_of_getElem? (i := 60) rfl)
theorem d_prog_12_method_2_43 : decode prog_12_method_2_code 43 = .ok (.aload_n 0, 1) := by decide +kernel
theorem d_prog_12_method_2_44 : decode prog_12_method_2_code 44 = .ok (.iload 8, 2) := by decide +kernel
theorem d_prog_12_method_2_46 : decode prog_12_method_2_code 46 = .ok (.putfield 33, 3) := by decide +kernel
theorem wd_61 {a0 : Array Value} {Z : State} (hw : ∀ d ∈ tables_1, d.before a0 Z = true) : (Jvm.Cond.fieldLink "com/example/libpersist/libpersist/core/model/Column" (33 : Nat) "com/example/libpersist/libpersist/core/model/Column" "scale" "I").before a0 Z = true := hw _ (List.mem_of_getElem? (i := 61) rfl)
theorem wd_62 {a0 : Array Value} {Z : State} (hw : ∀ d ∈ tables_1, d.before a0 Z = true) : (Jvm.Cond.laysFinal "com/example/libpersist/libpersist/core/model/Column" "com/example/libpersist/libpersist/core/model/Column" "scale" "I").before a0 Z = true := hw _ (List.mem_of_getElem? (i := 62) rfl)
theorem d_prog_12_method_2_49 : decode prog_12_method_2_code 49 = .ok (.aload_n 0, 1) := by decide +kernel
theorem d_prog_12_method_2_50 : decode prog_12_method_2_code 50 = .ok (.aload 9, 2) := by decide +kernel
theorem d_prog_12_method_2_52 : decode prog_12_method_2_code 52 = .ok (.putfield 36, 3) := by decide +kernel
theorem wd_63 {a0 : Array Value} {Z : State} (hw : ∀ d ∈ tables_1, d.before a0 Z = true) : (Jvm.Cond.fieldLink "com/example/libpersist/libpersist/core/model/Column" (36 : Nat) "com/example/libpersist/libpersist/core/model/Column" "definition" "Ljava/lang/String;").before a0 Z = true := hw _ (List.mem_of_getElem? (i := 63) rfl)
theorem wd_64 {a0 : Array Value} {Z : State} (hw : ∀ d ∈ tables_1, d.before a0 Z = true) : (Jvm.Cond.laysFinal "com/example/libpersist/libpersist/core/model/Column" "com/example/libpersist/libpersist/core/model/Column" "definition" "Ljava/lang/String;").before a0 Z = true := hw _ (List.mem_of_getElem? (i := 64) rfl)
theorem d_prog_12_method_2_55 : decode prog_12_method_2_code 55 = .ok (.return_, 1) := by decide +kernel
theorem pn_2 : plainName "com/example/libpersist/libpersist/core/model/Column" = true := by first | (simp [plainName, overriddenIn]; done) | decide +kernel
theorem d_prog_12_method_4_0 : decode prog_12_method_4_code 0 = .ok (.new 8, 3) := by decide +kernel
theorem wd_70 {a0 : Array Value} {Z : State} (hw : ∀ d ∈ tables_1, d.before a0 Z = true) : (Jvm.Cond.classLink "com/example/libpersist/libpersist/core/model/Column" (8 : Nat) "com/example/libpersist/libpersist/core/model/Column").before a0 Z = true := hw _ (List.mem_of_getElem? (i := 70) rfl)
theorem wd_37 {a0 : Array Value} {Z : State} (hw : ∀ d ∈ tables_1, d.before a0 Z = true) : (Jvm.Cond.initialized "com/example/libpersist/libpersist/core/model/Column").before a0 Z = true := hw _ (List.mem_of_getElem? (i := 37) rfl)
theorem d_prog_12_method_4_3 : decode prog_12_method_4_code 3 = .ok (.dup, 1) := by decide +kernel
theorem d_prog_12_method_4_4 : decode prog_12_method_4_code 4 = .ok (.aload_n 0, 1) := by decide +kernel
theorem d_prog_12_method_4_5 : decode prog_12_method_4_code 5 = .ok (.getfield 7, 3) := by decide +kernel
theorem d_prog_12_method_4_8 : decode prog_12_method_4_code 8 = .ok (.iload_n 1, 1) := by decide +kernel
theorem d_prog_12_method_4_9 : decode prog_12_method_4_code 9 = .ok (.aload_n 0, 1) := by decide +kernel
theorem d_prog_12_method_4_10 : decode prog_12_method_4_code 10 = .ok (.getfield 17, 3) := by decide +kernel
theorem d_prog_12_method_4_13 : decode prog_12_method_4_code 13 = .ok (.aload_n 0, 1) := by decide +kernel
theorem d_prog_12_method_4_14 : decode prog_12_method_4_code 14 = .ok (.getfield 20, 3) := by decide +kernel
theorem d_prog_12_method_4_17 : decode prog_12_method_4_code 17 = .ok (.aload_n 0, 1) := by decide +kernel
theorem d_prog_12_method_4_18 : decode prog_12_method_4_code 18 = .ok (.getfield 23, 3) := by decide +kernel
theorem d_prog_12_method_4_21 : decode prog_12_method_4_code 21 = .ok (.aload_n 0, 1) := by decide +kernel
theorem d_prog_12_method_4_22 : decode prog_12_method_4_code 22 = .ok (.getfield 26, 3) := by decide +kernel
theorem d_prog_12_method_4_25 : decode prog_12_method_4_code 25 = .ok (.aload_n 0, 1) := by decide +kernel
theorem d_prog_12_method_4_26 : decode prog_12_method_4_code 26 = .ok (.getfield 30, 3) := by decide +kernel
theorem d_prog_12_method_4_29 : decode prog_12_method_4_code 29 = .ok (.aload_n 0, 1) := by decide +kernel
theorem d_prog_12_method_4_30 : decode prog_12_method_4_code 30 = .ok (.getfield 33, 3) := by decide +kernel
theorem d_prog_12_method_4_33 : decode prog_12_method_4_code 33 = .ok (.aload_n 0, 1) := by decide +kernel
theorem d_prog_12_method_4_34 : decode prog_12_method_4_code 34 = .ok (.getfield 36, 3) := by decide +kernel
theorem wd_71 {a0 : Array Value} {Z : State} (hw : ∀ d ∈ tables_1, d.before a0 Z = true) : (Jvm.Cond.methodLink "com/example/libpersist/libpersist/core/model/Column" (39 : Nat) ({ cls := "com/example/libpersist/libpersist/core/model/Column", name := "<init>", desc := "(Ljava/lang/String;ZZZZIIILjava/lang/String;)V" } : Jvm.MethodName)).before a0 Z = true := hw _ (List.mem_of_getElem? (i := 71) rfl)
theorem d_prog_12_method_4_37 : decode prog_12_method_4_code 37 = .ok (.invokespecial 39, 3) := by decide +kernel
theorem wd_40 {a0 : Array Value} {Z : State} (hw : ∀ d ∈ tables_1, d.before a0 Z = true) : (Jvm.Cond.code ({ cls := "com/example/libpersist/libpersist/core/model/Column", name := "<init>", desc := "(Ljava/lang/String;ZZZZIIILjava/lang/String;)V" } : Jvm.MethodName) prog_12_method_2_code (10 : Nat) (Option.none : Option Jvm.ClassFile.FieldType)).before a0 Z = true := hw _ (List.mem_of_getElem? (i := 40) rfl)
theorem wd_39 {a0 : Array Value} {Z : State} (hw : ∀ d ∈ tables_1, d.before a0 Z = true) : (Jvm.Cond.instanceMethod ({ cls := "com/example/libpersist/libpersist/core/model/Column", name := "<init>", desc := "(Ljava/lang/String;ZZZZIIILjava/lang/String;)V" } : Jvm.MethodName)).before a0 Z = true := hw _ (List.mem_of_getElem? (i := 39) rfl)
theorem pd_2 : parseMethodDescriptor "(Ljava/lang/String;ZZZZIIILjava/lang/String;)V" = some ⟨[(.object "java/lang/String"), .boolean, .boolean, .boolean, .boolean, .int, .int, .int, (.object "java/lang/String")], none⟩ := by decide +kernel
theorem d_prog_12_method_4_40 : decode prog_12_method_4_code 40 = .ok (.areturn, 1) := by decide +kernel
theorem d_prog_12_method_11_0 : decode prog_12_method_11_code 0 = .ok (.aload_n 0, 1) := by decide +kernel
theorem d_prog_12_method_11_1 : decode prog_12_method_11_code 1 = .ok (.getfield 7, 3) := by decide +kernel
theorem d_prog_12_method_11_4 : decode prog_12_method_11_code 4 = .ok (.areturn, 1) := by decide +kernel
theorem d_prog_12_method_12_0 : decode prog_12_method_12_code 0 = .ok (.aload_n 0, 1) := by decide +kernel
theorem d_prog_12_method_12_1 : decode prog_12_method_12_code 1 = .ok (.getfield 13, 3) := by decide +kernel
theorem d_prog_12_method_12_4 : decode prog_12_method_12_code 4 = .ok (.ireturn, 1) := by decide +kernel
theorem d_prog_12_method_13_0 : decode prog_12_method_13_code 0 = .ok (.aload_n 0, 1) := by decide +kernel
theorem d_prog_12_method_13_1 : decode prog_12_method_13_code 1 = .ok (.getfield 17, 3) := by decide +kernel
theorem d_prog_12_method_13_4 : decode prog_12_method_13_code 4 = .ok (.ireturn, 1) := by decide +kernel
theorem d_prog_12_method_14_0 : decode prog_12_method_14_code 0 = .ok (.aload_n 0, 1) := by decide +kernel
theorem d_prog_12_method_14_1 : decode prog_12_method_14_code 1 = .ok (.getfield 20, 3) := by decide +kernel
theorem d_prog_12_method_14_4 : decode prog_12_method_14_code 4 = .ok (.ireturn, 1) := by decide +kernel
theorem d_prog_12_method_15_0 : decode prog_12_method_15_code 0 = .ok (.aload_n 0, 1) := by decide +kernel
theorem d_prog_12_method_15_1 : decode prog_12_method_15_code 1 = .ok (.getfield 23, 3) := by decide +kernel
theorem d_prog_12_method_15_4 : decode prog_12_method_15_code 4 = .ok (.ireturn, 1) := by decide +kernel
theorem d_prog_12_method_16_0 : decode prog_12_method_16_code 0 = .ok (.aload_n 0, 1) := by decide +kernel
theorem d_prog_12_method_16_1 : decode prog_12_method_16_code 1 = .ok (.getfield 26, 3) := by decide +kernel
theorem d_prog_12_method_16_4 : decode prog_12_method_16_code 4 = .ok (.ireturn, 1) := by decide +kernel
theorem d_prog_12_method_17_0 : decode prog_12_method_17_code 0 = .ok (.aload_n 0, 1) := by decide +kernel
theorem d_prog_12_method_17_1 : decode prog_12_method_17_code 1 = .ok (.getfield 30, 3) := by decide +kernel
theorem d_prog_12_method_17_4 : decode prog_12_method_17_code 4 = .ok (.ireturn, 1) := by decide +kernel
theorem d_prog_12_method_18_0 : decode prog_12_method_18_code 0 = .ok (.aload_n 0, 1) := by decide +kernel
theorem d_prog_12_method_18_1 : decode prog_12_method_18_code 1 = .ok (.getfield 33, 3) := by decide +kernel
theorem d_prog_12_method_18_4 : decode prog_12_method_18_code 4 = .ok (.ireturn, 1) := by decide +kernel
theorem d_prog_12_method_19_0 : decode prog_12_method_19_code 0 = .ok (.aload_n 0, 1) := by decide +kernel
theorem d_prog_12_method_19_1 : decode prog_12_method_19_code 1 = .ok (.getfield 36, 3) := by decide +kernel
theorem d_prog_12_method_19_4 : decode prog_12_method_19_code 4 = .ok (.areturn, 1) := by decide +kernel
theorem d_jdk_42_method_66_0 : decode jdk_42_method_66_code 0 = .ok (.aload_n 0, 1) := by decide +kernel
theorem d_jdk_42_method_66_1 : decode jdk_42_method_66_code 1 = .ok (.aload_n 1, 1) := by decide +kernel
theorem d_jdk_42_method_66_2 : decode jdk_42_method_66_code 2 = .ok (.if_acmp .ne 5, 3) := by decide +kernel
theorem d_jdk_42_method_66_5 : decode jdk_42_method_66_code 5 = .ok (.iconst 1, 1) := by decide +kernel
theorem d_jdk_42_method_66_6 : decode jdk_42_method_66_code 6 = .ok (.ireturn, 1) := by decide +kernel
theorem pn_3 : plainName "java/lang/String" = true := by first | (simp [plainName, overriddenIn]; done) | decide +kernel
theorem d_method_4_0 : decode method_4_code 0 = .ok (.aload_n 0, 1) := by decide +kernel
theorem d_method_4_1 : decode method_4_code 1 = .ok (.ifnonnull 13, 3) := by decide +kernel
theorem d_method_4_4 : decode method_4_code 4 = .ok (.aload_n 1, 1) := by decide +kernel
theorem d_method_4_5 : decode method_4_code 5 = .ok (.ifnonnull 7, 3) := by decide +kernel
theorem d_method_4_8 : decode method_4_code 8 = .ok (.iconst 1, 1) := by decide +kernel
theorem d_method_4_9 : decode method_4_code 9 = .ok (.goto 4, 3) := by decide +kernel
theorem d_method_4_13 : decode method_4_code 13 = .ok (.ireturn, 1) := by decide +kernel
theorem d_method_4_14 : decode method_4_code 14 = .ok (.aload_n 0, 1) := by decide +kernel
theorem d_method_4_15 : decode method_4_code 15 = .ok (.aload_n 1, 1) := by decide +kernel
theorem d_method_4_16 : decode method_4_code 16 = .ok (.invokevirtual 63, 3) := by decide +kernel
theorem wd_115 {a0 : Array Value} {Z : State} (hw : ∀ d ∈ tables_1, d.before a0 Z = true) : (Jvm.Cond.methodLink "com/example/libpersist/libpersist/core/model/ColumnWithNullablePinLaw" (63 : Nat) ({ cls := "java/lang/String", name := "equals", desc := "(Ljava/lang/Object;)Z" } : Jvm.MethodName)).before a0 Z = true := hw _ (List.mem_of_getElem? (i := 115) rfl)
theorem wd_119 {a0 : Array Value} {Z : State} (hw : ∀ d ∈ tables_1, d.before a0 Z = true) : (Jvm.Cond.code ({ cls := "java/lang/String", name := "equals", desc := "(Ljava/lang/Object;)Z" } : Jvm.MethodName) jdk_42_method_66_code (3 : Nat) (Option.some Jvm.ClassFile.FieldType.boolean)).before a0 Z = true := hw _ (List.mem_of_getElem? (i := 119) rfl)
theorem wd_116 {a0 : Array Value} {Z : State} (hw : ∀ d ∈ tables_1, d.before a0 Z = true) : (Jvm.Cond.declares ({ cls := "java/lang/String", name := "equals", desc := "(Ljava/lang/Object;)Z" } : Jvm.MethodName)).before a0 Z = true := hw _ (List.mem_of_getElem? (i := 116) rfl)
theorem wd_118 {a0 : Array Value} {Z : State} (hw : ∀ d ∈ tables_1, d.before a0 Z = true) : (Jvm.Cond.selects "java/lang/String" ({ cls := "java/lang/String", name := "equals", desc := "(Ljava/lang/Object;)Z" } : Jvm.MethodName) ({ cls := "java/lang/String", name := "equals", desc := "(Ljava/lang/Object;)Z" } : Jvm.MethodName)).before a0 Z = true := hw _ (List.mem_of_getElem? (i := 118) rfl)
theorem wd_117 {a0 : Array Value} {Z : State} (hw : ∀ d ∈ tables_1, d.before a0 Z = true) : (Jvm.Cond.instanceMethod ({ cls := "java/lang/String", name := "equals", desc := "(Ljava/lang/Object;)Z" } : Jvm.MethodName)).before a0 Z = true := hw _ (List.mem_of_getElem? (i := 117) rfl)
theorem pd_3 : parseMethodDescriptor "(Ljava/lang/Object;)Z" = some ⟨[(.object "java/lang/Object")], some .boolean⟩ := by decide +kernel
theorem d_method_4_19 : decode method_4_code 19 = .ok (.ireturn, 1) := by decide +kernel
theorem wd_35 {a0 : Array Value} {Z : State} (hw : ∀ d ∈ tables_1, d.before a0 Z = true) : (Jvm.Cond.classLink "com/example/libpersist/libpersist/core/model/ColumnWithNullablePinLaw" (13 : Nat) "com/example/libpersist/libpersist/core/model/Column").before a0 Z = true := hw _ (List.mem_of_getElem? (i := 35) rfl)
theorem wd_38 {a0 : Array Value} {Z : State} (hw : ∀ d ∈ tables_1, d.before a0 Z = true) : (Jvm.Cond.methodLink "com/example/libpersist/libpersist/core/model/ColumnWithNullablePinLaw" (15 : Nat) ({ cls := "com/example/libpersist/libpersist/core/model/Column", name := "<init>", desc := "(Ljava/lang/String;ZZZZIIILjava/lang/String;)V" } : Jvm.MethodName)).before a0 Z = true := hw _ (List.mem_of_getElem? (i := 38) rfl)
theorem wd_65 {a0 : Array Value} {Z : State} (hw : ∀ d ∈ tables_1, d.before a0 Z = true) : (Jvm.Cond.methodLink "com/example/libpersist/libpersist/core/model/ColumnWithNullablePinLaw" (18 : Nat) ({ cls := "com/example/libpersist/libpersist/core/model/Column", name := "withNullable", desc := "(Z)Lcom/example/libpersist/libpersist/core/model/Column;" } : Jvm.MethodName)).before a0 Z = true := hw _ (List.mem_of_getElem? (i := 65) rfl)
theorem wd_69 {a0 : Array Value} {Z : State} (hw : ∀ d ∈ tables_1, d.before a0 Z = true) : (Jvm.Cond.code ({ cls := "com/example/libpersist/libpersist/core/model/Column", name := "withNullable", desc := "(Z)Lcom/example/libpersist/libpersist/core/model/Column;" } : Jvm.MethodName) prog_12_method_4_code (2 : Nat) (Option.some (Jvm.ClassFile.FieldType.object "com/example/libpersist/libpersist/core/model/Column"))).before a0 Z = true := hw _ (List.mem_of_getElem? (i := 69) rfl)
theorem wd_66 {a0 : Array Value} {Z : State} (hw : ∀ d ∈ tables_1, d.before a0 Z = true) : (Jvm.Cond.declares ({ cls := "com/example/libpersist/libpersist/core/model/Column", name := "withNullable", desc := "(Z)Lcom/example/libpersist/libpersist/core/model/Column;" } : Jvm.MethodName)).before a0 Z = true := hw _ (List.mem_of_getElem? (i := 66) rfl)
theorem wd_68 {a0 : Array Value} {Z : State} (hw : ∀ d ∈ tables_1, d.before a0 Z = true) : (Jvm.Cond.selects "com/example/libpersist/libpersist/core/model/Column" ({ cls := "com/example/libpersist/libpersist/core/model/Column", name := "withNullable", desc := "(Z)Lcom/example/libpersist/libpersist/core/model/Column;" } : Jvm.MethodName) ({ cls := "com/example/libpersist/libpersist/core/model/Column", name := "withNullable", desc := "(Z)Lcom/example/libpersist/libpersist/core/model/Column;" } : Jvm.MethodName)).before a0 Z = true := hw _ (List.mem_of_getElem? (i := 68) rfl)
theorem wd_67 {a0 : Array Value} {Z : State} (hw : ∀ d ∈ tables_1, d.before a0 Z = true) : (Jvm.Cond.instanceMethod ({ cls := "com/example/libpersist/libpersist/core/model/Column", name := "withNullable", desc := "(Z)Lcom/example/libpersist/libpersist/core/model/Column;" } : Jvm.MethodName)).before a0 Z = true := hw _ (List.mem_of_getElem? (i := 67) rfl)
theorem pd_4 : parseMethodDescriptor "(Z)Lcom/example/libpersist/libpersist/core/model/Column;" = some ⟨[.boolean], some (.object "com/example/libpersist/libpersist/core/model/Column")⟩ := by decide +kernel
theorem wd_72 {a0 : Array Value} {Z : State} (hw : ∀ d ∈ tables_1, d.before a0 Z = true) : (Jvm.Cond.methodLink "com/example/libpersist/libpersist/core/model/ColumnWithNullablePinLaw" (22 : Nat) ({ cls := "com/example/libpersist/libpersist/core/model/Column", name := "nullable", desc := "()Z" } : Jvm.MethodName)).before a0 Z = true := hw _ (List.mem_of_getElem? (i := 72) rfl)
theorem wd_76 {a0 : Array Value} {Z : State} (hw : ∀ d ∈ tables_1, d.before a0 Z = true) : (Jvm.Cond.code ({ cls := "com/example/libpersist/libpersist/core/model/Column", name := "nullable", desc := "()Z" } : Jvm.MethodName) prog_12_method_12_code (1 : Nat) (Option.some Jvm.ClassFile.FieldType.boolean)).before a0 Z = true := hw _ (List.mem_of_getElem? (i := 76) rfl)
theorem wd_73 {a0 : Array Value} {Z : State} (hw : ∀ d ∈ tables_1, d.before a0 Z = true) : (Jvm.Cond.declares ({ cls := "com/example/libpersist/libpersist/core/model/Column", name := "nullable", desc := "()Z" } : Jvm.MethodName)).before a0 Z = true := hw _ (List.mem_of_getElem? (i := 73) rfl)
theorem wd_75 {a0 : Array Value} {Z : State} (hw : ∀ d ∈ tables_1, d.before a0 Z = true) : (Jvm.Cond.selects "com/example/libpersist/libpersist/core/model/Column" ({ cls := "com/example/libpersist/libpersist/core/model/Column", name := "nullable", desc := "()Z" } : Jvm.MethodName) ({ cls := "com/example/libpersist/libpersist/core/model/Column", name := "nullable", desc := "()Z" } : Jvm.MethodName)).before a0 Z = true := hw _ (List.mem_of_getElem? (i := 75) rfl)
theorem wd_74 {a0 : Array Value} {Z : State} (hw : ∀ d ∈ tables_1, d.before a0 Z = true) : (Jvm.Cond.instanceMethod ({ cls := "com/example/libpersist/libpersist/core/model/Column", name := "nullable", desc := "()Z" } : Jvm.MethodName)).before a0 Z = true := hw _ (List.mem_of_getElem? (i := 74) rfl)
theorem pd_5 : parseMethodDescriptor "()Z" = some ⟨[], some .boolean⟩ := by decide +kernel
theorem wd_77 {a0 : Array Value} {Z : State} (hw : ∀ d ∈ tables_1, d.before a0 Z = true) : (Jvm.Cond.methodLink "com/example/libpersist/libpersist/core/model/ColumnWithNullablePinLaw" (26 : Nat) ({ cls := "com/example/libpersist/libpersist/core/model/Column", name := "unique", desc := "()Z" } : Jvm.MethodName)).before a0 Z = true := hw _ (List.mem_of_getElem? (i := 77) rfl)
theorem wd_81 {a0 : Array Value} {Z : State} (hw : ∀ d ∈ tables_1, d.before a0 Z = true) : (Jvm.Cond.code ({ cls := "com/example/libpersist/libpersist/core/model/Column", name := "unique", desc := "()Z" } : Jvm.MethodName) prog_12_method_13_code (1 : Nat) (Option.some Jvm.ClassFile.FieldType.boolean)).before a0 Z = true := hw _ (List.mem_of_getElem? (i := 81) rfl)
theorem wd_78 {a0 : Array Value} {Z : State} (hw : ∀ d ∈ tables_1, d.before a0 Z = true) : (Jvm.Cond.declares ({ cls := "com/example/libpersist/libpersist/core/model/Column", name := "unique", desc := "()Z" } : Jvm.MethodName)).before a0 Z = true := hw _ (List.mem_of_getElem? (i := 78) rfl)
theorem wd_80 {a0 : Array Value} {Z : State} (hw : ∀ d ∈ tables_1, d.before a0 Z = true) : (Jvm.Cond.selects "com/example/libpersist/libpersist/core/model/Column" ({ cls := "com/example/libpersist/libpersist/core/model/Column", name := "unique", desc := "()Z" } : Jvm.MethodName) ({ cls := "com/example/libpersist/libpersist/core/model/Column", name := "unique", desc := "()Z" } : Jvm.MethodName)).before a0 Z = true := hw _ (List.mem_of_getElem? (i := 80) rfl)
theorem wd_79 {a0 : Array Value} {Z : State} (hw : ∀ d ∈ tables_1, d.before a0 Z = true) : (Jvm.Cond.instanceMethod ({ cls := "com/example/libpersist/libpersist/core/model/Column", name := "unique", desc := "()Z" } : Jvm.MethodName)).before a0 Z = true := hw _ (List.mem_of_getElem? (i := 79) rfl)
theorem wd_82 {a0 : Array Value} {Z : State} (hw : ∀ d ∈ tables_1, d.before a0 Z = true) : (Jvm.Cond.methodLink "com/example/libpersist/libpersist/core/model/ColumnWithNullablePinLaw" (29 : Nat) ({ cls := "com/example/libpersist/libpersist/core/model/Column", name := "insertable", desc := "()Z" } : Jvm.MethodName)).before a0 Z = true := hw _ (List.mem_of_getElem? (i := 82) rfl)
theorem wd_86 {a0 : Array Value} {Z : State} (hw : ∀ d ∈ tables_1, d.before a0 Z = true) : (Jvm.Cond.code ({ cls := "com/example/libpersist/libpersist/core/model/Column", name := "insertable", desc := "()Z" } : Jvm.MethodName) prog_12_method_14_code (1 : Nat) (Option.some Jvm.ClassFile.FieldType.boolean)).before a0 Z = true := hw _ (List.mem_of_getElem? (i := 86) rfl)
theorem wd_83 {a0 : Array Value} {Z : State} (hw : ∀ d ∈ tables_1, d.before a0 Z = true) : (Jvm.Cond.declares ({ cls := "com/example/libpersist/libpersist/core/model/Column", name := "insertable", desc := "()Z" } : Jvm.MethodName)).before a0 Z = true := hw _ (List.mem_of_getElem? (i := 83) rfl)
theorem wd_85 {a0 : Array Value} {Z : State} (hw : ∀ d ∈ tables_1, d.before a0 Z = true) : (Jvm.Cond.selects "com/example/libpersist/libpersist/core/model/Column" ({ cls := "com/example/libpersist/libpersist/core/model/Column", name := "insertable", desc := "()Z" } : Jvm.MethodName) ({ cls := "com/example/libpersist/libpersist/core/model/Column", name := "insertable", desc := "()Z" } : Jvm.MethodName)).before a0 Z = true := hw _ (List.mem_of_getElem? (i := 85) rfl)
theorem wd_84 {a0 : Array Value} {Z : State} (hw : ∀ d ∈ tables_1, d.before a0 Z = true) : (Jvm.Cond.instanceMethod ({ cls := "com/example/libpersist/libpersist/core/model/Column", name := "insertable", desc := "()Z" } : Jvm.MethodName)).before a0 Z = true := hw _ (List.mem_of_getElem? (i := 84) rfl)
theorem wd_87 {a0 : Array Value} {Z : State} (hw : ∀ d ∈ tables_1, d.before a0 Z = true) : (Jvm.Cond.methodLink "com/example/libpersist/libpersist/core/model/ColumnWithNullablePinLaw" (32 : Nat) ({ cls := "com/example/libpersist/libpersist/core/model/Column", name := "updatable", desc := "()Z" } : Jvm.MethodName)).before a0 Z = true := hw _ (List.mem_of_getElem? (i := 87) rfl)
theorem wd_91 {a0 : Array Value} {Z : State} (hw : ∀ d ∈ tables_1, d.before a0 Z = true) : (Jvm.Cond.code ({ cls := "com/example/libpersist/libpersist/core/model/Column", name := "updatable", desc := "()Z" } : Jvm.MethodName) prog_12_method_15_code (1 : Nat) (Option.some Jvm.ClassFile.FieldType.boolean)).before a0 Z = true := hw _ (List.mem_of_getElem? (i := 91) rfl)
theorem wd_88 {a0 : Array Value} {Z : State} (hw : ∀ d ∈ tables_1, d.before a0 Z = true) : (Jvm.Cond.declares ({ cls := "com/example/libpersist/libpersist/core/model/Column", name := "updatable", desc := "()Z" } : Jvm.MethodName)).before a0 Z = true := hw _ (List.mem_of_getElem? (i := 88) rfl)
theorem wd_90 {a0 : Array Value} {Z : State} (hw : ∀ d ∈ tables_1, d.before a0 Z = true) : (Jvm.Cond.selects "com/example/libpersist/libpersist/core/model/Column" ({ cls := "com/example/libpersist/libpersist/core/model/Column", name := "updatable", desc := "()Z" } : Jvm.MethodName) ({ cls := "com/example/libpersist/libpersist/core/model/Column", name := "updatable", desc := "()Z" } : Jvm.MethodName)).before a0 Z = true := hw _ (List.mem_of_getElem? (i := 90) rfl)
theorem wd_89 {a0 : Array Value} {Z : State} (hw : ∀ d ∈ tables_1, d.before a0 Z = true) : (Jvm.Cond.instanceMethod ({ cls := "com/example/libpersist/libpersist/core/model/Column", name := "updatable", desc := "()Z" } : Jvm.MethodName)).before a0 Z = true := hw _ (List.mem_of_getElem? (i := 89) rfl)
theorem wd_92 {a0 : Array Value} {Z : State} (hw : ∀ d ∈ tables_1, d.before a0 Z = true) : (Jvm.Cond.methodLink "com/example/libpersist/libpersist/core/model/ColumnWithNullablePinLaw" (35 : Nat) ({ cls := "com/example/libpersist/libpersist/core/model/Column", name := "length", desc := "()I" } : Jvm.MethodName)).before a0 Z = true := hw _ (List.mem_of_getElem? (i := 92) rfl)
theorem wd_96 {a0 : Array Value} {Z : State} (hw : ∀ d ∈ tables_1, d.before a0 Z = true) : (Jvm.Cond.code ({ cls := "com/example/libpersist/libpersist/core/model/Column", name := "length", desc := "()I" } : Jvm.MethodName) prog_12_method_16_code (1 : Nat) (Option.some Jvm.ClassFile.FieldType.int)).before a0 Z = true := hw _ (List.mem_of_getElem? (i := 96) rfl)
theorem wd_93 {a0 : Array Value} {Z : State} (hw : ∀ d ∈ tables_1, d.before a0 Z = true) : (Jvm.Cond.declares ({ cls := "com/example/libpersist/libpersist/core/model/Column", name := "length", desc := "()I" } : Jvm.MethodName)).before a0 Z = true := hw _ (List.mem_of_getElem? (i := 93) rfl)
theorem wd_95 {a0 : Array Value} {Z : State} (hw : ∀ d ∈ tables_1, d.before a0 Z = true) : (Jvm.Cond.selects "com/example/libpersist/libpersist/core/model/Column" ({ cls := "com/example/libpersist/libpersist/core/model/Column", name := "length", desc := "()I" } : Jvm.MethodName) ({ cls := "com/example/libpersist/libpersist/core/model/Column", name := "length", desc := "()I" } : Jvm.MethodName)).before a0 Z = true := hw _ (List.mem_of_getElem? (i := 95) rfl)
theorem wd_94 {a0 : Array Value} {Z : State} (hw : ∀ d ∈ tables_1, d.before a0 Z = true) : (Jvm.Cond.instanceMethod ({ cls := "com/example/libpersist/libpersist/core/model/Column", name := "length", desc := "()I" } : Jvm.MethodName)).before a0 Z = true := hw _ (List.mem_of_getElem? (i := 94) rfl)
theorem pd_6 : parseMethodDescriptor "()I" = some ⟨[], some .int⟩ := by decide +kernel
theorem wd_97 {a0 : Array Value} {Z : State} (hw : ∀ d ∈ tables_1, d.before a0 Z = true) : (Jvm.Cond.methodLink "com/example/libpersist/libpersist/core/model/ColumnWithNullablePinLaw" (39 : Nat) ({ cls := "com/example/libpersist/libpersist/core/model/Column", name := "precision", desc := "()I" } : Jvm.MethodName)).before a0 Z = true := hw _ (List.mem_of_getElem? (i := 97) rfl)
theorem wd_101 {a0 : Array Value} {Z : State} (hw : ∀ d ∈ tables_1, d.before a0 Z = true) : (Jvm.Cond.code ({ cls := "com/example/libpersist/libpersist/core/model/Column", name := "precision", desc := "()I" } : Jvm.MethodName) prog_12_method_17_code (1 : Nat) (Option.some Jvm.ClassFile.FieldType.int)).before a0 Z = true := hw _ (List.mem_of_getElem? (i := 101) rfl)
theorem wd_98 {a0 : Array Value} {Z : State} (hw : ∀ d ∈ tables_1, d.before a0 Z = true) : (Jvm.Cond.declares ({ cls := "com/example/libpersist/libpersist/core/model/Column", name := "precision", desc := "()I" } : Jvm.MethodName)).before a0 Z = true := hw _ (List.mem_of_getElem? (i := 98) rfl)
theorem wd_100 {a0 : Array Value} {Z : State} (hw : ∀ d ∈ tables_1, d.before a0 Z = true) : (Jvm.Cond.selects "com/example/libpersist/libpersist/core/model/Column" ({ cls := "com/example/libpersist/libpersist/core/model/Column", name := "precision", desc := "()I" } : Jvm.MethodName) ({ cls := "com/example/libpersist/libpersist/core/model/Column", name := "precision", desc := "()I" } : Jvm.MethodName)).before a0 Z = true := hw _ (List.mem_of_getElem? (i := 100) rfl)
theorem wd_99 {a0 : Array Value} {Z : State} (hw : ∀ d ∈ tables_1, d.before a0 Z = true) : (Jvm.Cond.instanceMethod ({ cls := "com/example/libpersist/libpersist/core/model/Column", name := "precision", desc := "()I" } : Jvm.MethodName)).before a0 Z = true := hw _ (List.mem_of_getElem? (i := 99) rfl)
theorem wd_102 {a0 : Array Value} {Z : State} (hw : ∀ d ∈ tables_1, d.before a0 Z = true) : (Jvm.Cond.methodLink "com/example/libpersist/libpersist/core/model/ColumnWithNullablePinLaw" (42 : Nat) ({ cls := "com/example/libpersist/libpersist/core/model/Column", name := "scale", desc := "()I" } : Jvm.MethodName)).before a0 Z = true := hw _ (List.mem_of_getElem? (i := 102) rfl)
theorem wd_106 {a0 : Array Value} {Z : State} (hw : ∀ d ∈ tables_1, d.before a0 Z = true) : (Jvm.Cond.code ({ cls := "com/example/libpersist/libpersist/core/model/Column", name := "scale", desc := "()I" } : Jvm.MethodName) prog_12_method_18_code (1 : Nat) (Option.some Jvm.ClassFile.FieldType.int)).before a0 Z = true := hw _ (List.mem_of_getElem? (i := 106) rfl)
theorem wd_103 {a0 : Array Value} {Z : State} (hw : ∀ d ∈ tables_1, d.before a0 Z = true) : (Jvm.Cond.declares ({ cls := "com/example/libpersist/libpersist/core/model/Column", name := "scale", desc := "()I" } : Jvm.MethodName)).before a0 Z = true := hw _ (List.mem_of_getElem? (i := 103) rfl)
theorem wd_105 {a0 : Array Value} {Z : State} (hw : ∀ d ∈ tables_1, d.before a0 Z = true) : (Jvm.Cond.selects "com/example/libpersist/libpersist/core/model/Column" ({ cls := "com/example/libpersist/libpersist/core/model/Column", name := "scale", desc := "()I" } : Jvm.MethodName) ({ cls := "com/example/libpersist/libpersist/core/model/Column", name := "scale", desc := "()I" } : Jvm.MethodName)).before a0 Z = true := hw _ (List.mem_of_getElem? (i := 105) rfl)
theorem wd_104 {a0 : Array Value} {Z : State} (hw : ∀ d ∈ tables_1, d.before a0 Z = true) : (Jvm.Cond.instanceMethod ({ cls := "com/example/libpersist/libpersist/core/model/Column", name := "scale", desc := "()I" } : Jvm.MethodName)).before a0 Z = true := hw _ (List.mem_of_getElem? (i := 104) rfl)
theorem wd_107 {a0 : Array Value} {Z : State} (hw : ∀ d ∈ tables_1, d.before a0 Z = true) : (Jvm.Cond.methodLink "com/example/libpersist/libpersist/core/model/ColumnWithNullablePinLaw" (45 : Nat) ({ cls := "com/example/libpersist/libpersist/core/model/Column", name := "name", desc := "()Ljava/lang/String;" } : Jvm.MethodName)).before a0 Z = true := hw _ (List.mem_of_getElem? (i := 107) rfl)
theorem wd_111 {a0 : Array Value} {Z : State} (hw : ∀ d ∈ tables_1, d.before a0 Z = true) : (Jvm.Cond.code ({ cls := "com/example/libpersist/libpersist/core/model/Column", name := "name", desc := "()Ljava/lang/String;" } : Jvm.MethodName) prog_12_method_11_code (1 : Nat) (Option.some (Jvm.ClassFile.FieldType.object "java/lang/String"))).before a0 Z = true := hw _ (List.mem_of_getElem? (i := 111) rfl)
theorem wd_108 {a0 : Array Value} {Z : State} (hw : ∀ d ∈ tables_1, d.before a0 Z = true) : (Jvm.Cond.declares ({ cls := "com/example/libpersist/libpersist/core/model/Column", name := "name", desc := "()Ljava/lang/String;" } : Jvm.MethodName)).before a0 Z = true := hw _ (List.mem_of_getElem? (i := 108) rfl)
theorem wd_110 {a0 : Array Value} {Z : State} (hw : ∀ d ∈ tables_1, d.before a0 Z = true) : (Jvm.Cond.selects "com/example/libpersist/libpersist/core/model/Column" ({ cls := "com/example/libpersist/libpersist/core/model/Column", name := "name", desc := "()Ljava/lang/String;" } : Jvm.MethodName) ({ cls := "com/example/libpersist/libpersist/core/model/Column", name := "name", desc := "()Ljava/lang/String;" } : Jvm.MethodName)).before a0 Z = true := hw _ (List.mem_of_getElem? (i := 110) rfl)
theorem wd_109 {a0 : Array Value} {Z : State} (hw : ∀ d ∈ tables_1, d.before a0 Z = true) : (Jvm.Cond.instanceMethod ({ cls := "com/example/libpersist/libpersist/core/model/Column", name := "name", desc := "()Ljava/lang/String;" } : Jvm.MethodName)).before a0 Z = true := hw _ (List.mem_of_getElem? (i := 109) rfl)
theorem pd_7 : parseMethodDescriptor "()Ljava/lang/String;" = some ⟨[], some (.object "java/lang/String")⟩ := by decide +kernel
theorem wd_112 {a0 : Array Value} {Z : State} (hw : ∀ d ∈ tables_1, d.before a0 Z = true) : (Jvm.Cond.methodLink "com/example/libpersist/libpersist/core/model/ColumnWithNullablePinLaw" (49 : Nat) ({ cls := "com/example/libpersist/libpersist/core/model/ColumnWithNullablePinLaw", name := "same", desc := "(Ljava/lang/String;Ljava/lang/String;)Z" } : Jvm.MethodName)).before a0 Z = true := hw _ (List.mem_of_getElem? (i := 112) rfl)
theorem wd_114 {a0 : Array Value} {Z : State} (hw : ∀ d ∈ tables_1, d.before a0 Z = true) : (Jvm.Cond.code ({ cls := "com/example/libpersist/libpersist/core/model/ColumnWithNullablePinLaw", name := "same", desc := "(Ljava/lang/String;Ljava/lang/String;)Z" } : Jvm.MethodName) method_4_code (2 : Nat) (Option.some Jvm.ClassFile.FieldType.boolean)).before a0 Z = true := hw _ (List.mem_of_getElem? (i := 114) rfl)
theorem wd_2 {a0 : Array Value} {Z : State} (hw : ∀ d ∈ tables_1, d.before a0 Z = true) : (Jvm.Cond.initialized "com/example/libpersist/libpersist/core/model/ColumnWithNullablePinLaw").before a0 Z = true := hw _ (List.mem_of_getElem? (i := 2) rfl)
theorem wd_113 {a0 : Array Value} {Z : State} (hw : ∀ d ∈ tables_1, d.before a0 Z = true) : (Jvm.Cond.static ({ cls := "com/example/libpersist/libpersist/core/model/ColumnWithNullablePinLaw", name := "same", desc := "(Ljava/lang/String;Ljava/lang/String;)Z" } : Jvm.MethodName)).before a0 Z = true := hw _ (List.mem_of_getElem? (i := 113) rfl)
theorem pd_8 : parseMethodDescriptor "(Ljava/lang/String;Ljava/lang/String;)Z" = some ⟨[(.object "java/lang/String"), (.object "java/lang/String")], some .boolean⟩ := by decide +kernel
theorem wd_120 {a0 : Array Value} {Z : State} (hw : ∀ d ∈ tables_1, d.before a0 Z = true) : (Jvm.Cond.methodLink "com/example/libpersist/libpersist/core/model/ColumnWithNullablePinLaw" (53 : Nat) ({ cls := "com/example/libpersist/libpersist/core/model/Column", name := "definition", desc := "()Ljava/lang/String;" } : Jvm.MethodName)).before a0 Z = true := hw _ (List.mem_of_getElem? (i := 120) rfl)
theorem wd_124 {a0 : Array Value} {Z : State} (hw : ∀ d ∈ tables_1, d.before a0 Z = true) : (Jvm.Cond.code ({ cls := "com/example/libpersist/libpersist/core/model/Column", name := "definition", desc := "()Ljava/lang/String;" } : Jvm.MethodName) prog_12_method_19_code (1 : Nat) (Option.some (Jvm.ClassFile.FieldType.object "java/lang/String"))).before a0 Z = true := hw _ (List.mem_of_getElem? (i := 124) rfl)
theorem wd_121 {a0 : Array Value} {Z : State} (hw : ∀ d ∈ tables_1, d.before a0 Z = true) : (Jvm.Cond.declares ({ cls := "com/example/libpersist/libpersist/core/model/Column", name := "definition", desc := "()Ljava/lang/String;" } : Jvm.MethodName)).before a0 Z = true := hw _ (List.mem_of_getElem? (i := 121) rfl)
theorem wd_123 {a0 : Array Value} {Z : State} (hw : ∀ d ∈ tables_1, d.before a0 Z = true) : (Jvm.Cond.selects "com/example/libpersist/libpersist/core/model/Column" ({ cls := "com/example/libpersist/libpersist/core/model/Column", name := "definition", desc := "()Ljava/lang/String;" } : Jvm.MethodName) ({ cls := "com/example/libpersist/libpersist/core/model/Column", name := "definition", desc := "()Ljava/lang/String;" } : Jvm.MethodName)).before a0 Z = true := hw _ (List.mem_of_getElem? (i := 123) rfl)
theorem wd_122 {a0 : Array Value} {Z : State} (hw : ∀ d ∈ tables_1, d.before a0 Z = true) : (Jvm.Cond.instanceMethod ({ cls := "com/example/libpersist/libpersist/core/model/Column", name := "definition", desc := "()Ljava/lang/String;" } : Jvm.MethodName)).before a0 Z = true := hw _ (List.mem_of_getElem? (i := 122) rfl)
theorem wd_0 {a0 : Array Value} {Z : State} (hw : ∀ d ∈ tables_1, d.before a0 Z = true) : (Jvm.Cond.methodLink "com/example/libpersist/libpersist/core/model/ColumnWithNullablePinLaw" (7 : Nat) ({ cls := "com/example/libpersist/libpersist/core/model/ColumnWithNullablePinLaw", name := "str", desc := "(J)Ljava/lang/String;" } : Jvm.MethodName)).before a0 Z = true := hw _ (List.mem_of_getElem? (i := 0) rfl)
theorem wd_3 {a0 : Array Value} {Z : State} (hw : ∀ d ∈ tables_1, d.before a0 Z = true) : (Jvm.Cond.code ({ cls := "com/example/libpersist/libpersist/core/model/ColumnWithNullablePinLaw", name := "str", desc := "(J)Ljava/lang/String;" } : Jvm.MethodName) method_3_code (3 : Nat) (Option.some (Jvm.ClassFile.FieldType.object "java/lang/String"))).before a0 Z = true := hw _ (List.mem_of_getElem? (i := 3) rfl)
theorem wd_1 {a0 : Array Value} {Z : State} (hw : ∀ d ∈ tables_1, d.before a0 Z = true) : (Jvm.Cond.static ({ cls := "com/example/libpersist/libpersist/core/model/ColumnWithNullablePinLaw", name := "str", desc := "(J)Ljava/lang/String;" } : Jvm.MethodName)).before a0 Z = true := hw _ (List.mem_of_getElem? (i := 1) rfl)
theorem pd_9 : parseMethodDescriptor "(J)Ljava/lang/String;" = some ⟨[.long], some (.object "java/lang/String")⟩ := by decide +kernel

/-- what is left by new String(chars): the String x spells cs -/
def Str (Z : State) (h : Heap) (x : Addr) (cs : List Int32) : Prop := Exa Z h x "java/lang/String" ∧ Fld Z h x "java/lang/String" "coder" "B" (.int 0) ∧ (∀ c ∈ cs, ¬ c < 0 ∧ ¬ (255 : Int32) < c) ∧ ∃ (t : Addr) (kb : ClassId), Fld Z h x "java/lang/String" "value" "[B" (.ref t) ∧ Arv Z h t kb .byte (Int32.ofNat cs.length) ((cs.map fun c => c.toInt8.toInt32).map Value.int) (.int 0)
section StrX
variable {Z : State} {a0 : Array Value} {h h' : Heap} {x w : Addr} {cs : List Int32}
theorem Str.exa (S : Str Z h x cs) : Exa Z h x "java/lang/String" := S.1
theorem Str.lt (S : Str Z h x cs) : x < h.size := S.1.lt
theorem Str.ext (S : Str Z h x cs) (E : Ext h h') : Str Z h' x cs := by
  obtain ⟨A, F, q, t, kb, V, K⟩ := S
  exact ⟨A.ext E, F.ext E, q, t, kb, V.ext E, K.ext E⟩
theorem Str.wr {sl : Nat} {v : Value} (S : Str Z h x cs) (W : Wr h h' w sl v) (o : Off Z h w) : Str Z h' x cs := by
  obtain ⟨A, F, q, t, kb, V, K⟩ := S
  exact ⟨A.wr W, F.other W (Or.inl (o.1 x A)), q, t, kb, V.other W (Or.inl (o.1 x A)), K.other W (o.2 _ _ _ _ _ K)⟩
theorem Str.keep {ws : List Addr} (S : Str Z h x cs) (W : Keep h h' ws) (o : ∀ w ∈ ws, Off Z h w) : Str Z h' x cs := by
  obtain ⟨A, F, q, t, kb, V, K⟩ := S
  have n1 : x ∉ ws := fun m => (o x m).1 x A rfl
  have n2 : t ∉ ws := fun m => (o t m).2 _ _ _ _ _ K rfl
  exact ⟨A.keep W, F.keep W n1, q, t, kb, V.keep W n1, K.keep W n2⟩
def StrOf (Z : State) (n0 : Nat) (h : Heap) (n : Nat) (h' : Heap) (x : Addr) (cs : List Int32) (v : Option Value) : Prop := v = none ∧ Keep h h' [x] ∧ Str Z h' x cs
theorem strOf_of {n0 n : Nat} {v : Option Value} {L : List Loc} (hn : cs.length = n) (hp : ∀ c ∈ cs, ¬ c < 0 ∧ ¬ (255 : Int32) < c) (q : StrChars.Road.QV Z x (Int32.ofNat n) (cs.map fun c => c.toInt8.toInt32) h n0 v h' L) : StrOf Z n0 h n h' x cs v ∧ Fr n0 L ∧ h.size ≤ h'.size := by
  obtain ⟨q1, q2, q3, q4, q5, t, kb, -, -, -, q6, q7⟩ := q
  subst hn
  exact ⟨⟨q1, q3, q4, q5, hp, t, kb, q6, q7⟩, q2, q3.1⟩
theorem and255c (x : Int32) : ¬ (x &&& 255) < 0 ∧ ¬ (255 : Int32) < (x &&& 255) := by
  have h : (x &&& 255).toBitVec.toNat ≤ 255 := by
    rw [Int32.toBitVec_and, BitVec.toNat_and]; exact Nat.and_le_right
  have e : (x &&& 255).toInt = (x &&& 255).toBitVec.toNat := by
    rw [← Int32.toInt_toBitVec, BitVec.toInt_eq_toNat_of_lt (by omega)]
  constructor
  · rw [Int32.lt_iff_toInt_lt, e]; have : (0 : Int32).toInt = 0 := rfl; omega
  · rw [Int32.lt_iff_toInt_lt, e]; have : (255 : Int32).toInt = 255 := rfl; omega
theorem hwS (hw : ∀ d ∈ tables_1, d.before a0 Z = true) : ∀ d ∈ StrChars.Road.words, d.before a0 Z = true := fun d hd => hw d ((by decide +kernel : ∀ d ∈ StrChars.Road.words, d ∈ tables_1) d hd)
end StrX
/-- null, or a String whose chars are known -/
def SV (Z : State) (h : Heap) (x : Value) : Prop := x = .null ∨ ∃ a cs, x = .ref a ∧ Str Z h a cs ∧ cs.length ≤ 4000
theorem SV.isRef {Z : State} {h : Heap} {x : Value} (S : SV Z h x) : x.isRef = true := by rcases S with rfl | ⟨a, cs, rfl, -⟩ <;> rfl
theorem SV.ext {Z : State} {h h' : Heap} {x : Value} (S : SV Z h x) (E : Ext h h') : SV Z h' x := S.imp id fun ⟨a, cs, e, T, l⟩ => ⟨a, cs, e, T.ext E, l⟩
theorem SV.keep {Z : State} {h h' : Heap} {x : Value} {ws : List Addr} (S : SV Z h x) (K : Keep h h' ws) (o : ∀ w ∈ ws, Off Z h w) : SV Z h' x := S.imp id fun ⟨a, cs, e, T, l⟩ => ⟨a, cs, e, T.keep K o, l⟩
theorem l255 (x : Int64) : ((x &&& 255).toInt32).toUInt32.toUInt16.toUInt32.toInt32 = (x.toInt32 &&& 255) := by
  have e : (x &&& 255).toInt32 = x.toInt32 &&& 255 := by
    apply Int32.toBitVec_inj.mp; simp
  rw [e]; exact i2c_mask _
set_option maxRecDepth 65536 in
set_option maxHeartbeats 40000000 in
theorem rm_str (l : Launch) (Z : State) (a0 : Array Value) (hw : ∀ d ∈ tables_1, d.before a0 Z = true) (n0 : Nat) (h0 : Heap) (X0 : Old Z n0 h0) (p : Int64) (zc : Int32) (Sc : Sta Z Z.heap "java/lang/String" "COMPACT_STRINGS" "Z" (.int zc)) (nzc : ¬ zc = 0) :
    Met l Z n0 (⟨"com/example/libpersist/libpersist/core/model/ColumnWithNullablePinLaw", "str", "(J)Ljava/lang/String;"⟩ : MethodName) method_3_code 3 (some (.object "java/lang/String")) ({ frames := 4, cells := 3, slots := 8, locals := 66 } : Room) #[(.long p)] h0 (fun v h => Keep h0 h [] ∧ ∃ a cs, v = some (.ref a) ∧ Str Z h a cs ∧ cs.length ≤ 4000) := by
  refine met_of pn_0 hw (L := #[.val (.long p), .second, .unset]) (fun m => by first | (simp [entryFrame, mkF, argsToLocals, Value.category]; done) | rfl) fun C hl hwd hE o => ?_
  subst hl
  have o : Ok C Z a0 method_3_code 3 (some (.object "java/lang/String")) "str" "com/example/libpersist/libpersist/core/model/ColumnWithNullablePinLaw" ({ frames := 4, cells := 3, slots := 8, locals := 66 } : Room) := o
  refine g_iconst o (pc := 0) d_method_3_0 (v := 2) rfl ?_
  refine g_newarr o (pc := 1) d_method_3_1 (dv := .int 0) rfl rfl (wd_4 hw) (by decide) (m := 2) (by decide) (by decide) (by decide) (by decide) (M' := fun _ => []) (fun _ _ q => nomatch q) fun a1 h2 kc3 ha4 E5 V6 => ?_
  have V7 : Arv Z h2 a1 kc3 .char 2 [.int 0, .int 0] (.int 0) := V6
  refine g_astore_n o (pc := 3) d_method_3_3 rfl (L' := #[.val (.long p), .second, .val (.ref a1)]) rfl ?_
  refine g_aload_n o (pc := 4) d_method_3_4 rfl rfl ?_
  refine g_iconst o (pc := 5) d_method_3_5 (v := 0) rfl ?_
  refine g_lload_n o (pc := 6) d_method_3_6 rfl ?_
  refine g_ldc2L o (pc := 7) d_method_3_7 (wd_5 hw) ?_
  refine g_land o (pc := 10) d_method_3_10 (v := (p &&& 255)) rfl ?_
  refine g_l2i o (pc := 11) d_method_3_11 (v := (p &&& 255).toInt32) rfl ?_
  refine g_i2c o (pc := 12) d_method_3_12 (v := (p.toInt32 &&& 255)) (l255 p) ?_
  refine g_castore o (pc := 13) d_method_3_13 V7 rfl (by decide) (i := 0) rfl (Nat.le_of_ble_eq_true rfl) (y := (p.toInt32 &&& 255)) (i2c_mask p.toInt32) (ge_new ha4 X0) (Or.inl hE) fun h8 W9 V10 => ?_
  have V11 : Arv Z h8 a1 kc3 .char 2 [.int (p.toInt32 &&& 255), .int 0] (.int 0) := V10
  refine g_aload_n o (pc := 14) d_method_3_14 rfl rfl ?_
  refine g_iconst o (pc := 15) d_method_3_15 (v := 1) rfl ?_
  refine g_lload_n o (pc := 16) d_method_3_16 rfl ?_
  refine g_bipush o (pc := 17) d_method_3_17 (v := 8) rfl ?_
  refine g_lushr o (pc := 19) d_method_3_19 (v := (XT.ushrL p 8)) rfl ?_
  refine g_ldc2L o (pc := 20) d_method_3_20 (wd_5 hw) ?_
  refine g_land o (pc := 23) d_method_3_23 (v := ((XT.ushrL p 8) &&& 255)) rfl ?_
  refine g_l2i o (pc := 24) d_method_3_24 (v := ((XT.ushrL p 8) &&& 255).toInt32) rfl ?_
  refine g_i2c o (pc := 25) d_method_3_25 (v := ((XT.ushrL p 8).toInt32 &&& 255)) (l255 (XT.ushrL p 8)) ?_
  refine g_castore o (pc := 26) d_method_3_26 V11 rfl (by decide) (i := 1) rfl (Nat.le_of_ble_eq_true rfl) (y := ((XT.ushrL p 8).toInt32 &&& 255)) (i2c_mask ((XT.ushrL p 8).toInt32)) (ge_new ha4 X0) (Or.inl hE) fun h12 W13 V14 => ?_
  have V15 : Arv Z h12 a1 kc3 .char 2 [.int (p.toInt32 &&& 255), .int ((XT.ushrL p 8).toInt32 &&& 255)] (.int 0) := V14
  refine g_new o (pc := 27) d_method_3_27 (wd_6 hw) (wd_7 hw) (wd_8 hw) (by decide) (by decide) (M' := fun _ => []) (fun _ _ q => nomatch q) fun a16 h17 ha18 E19 A20 D21 => ?_
  have F22 : Fld Z h17 a16 "java/lang/String" "coder" "B" (.int 0) := D21 (Or.inr (wd_32 hw)) (ty := .byte) (by decide)
  have F23 : Fld Z h17 a16 "java/lang/String" "value" "[B" .null := D21 (Or.inr (wd_34 hw)) (ty := (.array .byte)) (by decide)
  refine g_dup o (pc := 30) d_method_3_30 rfl ?_
  refine g_aload_n o (pc := 31) d_method_3_31 rfl rfl ?_
  have q24 := ((((X0.ext E5).wr W9 (ge_new ha4 X0)).wr W13 (ge_new ha4 X0)).ext E19)
  have q25 := (V15.ext E19)
  have hp26 : ∀ c ∈ [((p.toInt32 &&& 255) : Int32), (((XT.ushrL p 8).toInt32 &&& 255) : Int32)], ¬ c < 0 ∧ ¬ (255 : Int32) < c := by
    intro c hc; simp only [List.mem_cons, List.not_mem_nil, or_false] at hc
    rcases hc with rfl | rfl
    · exact and255c p.toInt32
    · exact and255c ((XT.ushrL p 8).toInt32)
  refine g_special o (pc := 32) a16 [(.ref a1)] [(.ref a16)] d_method_3_32 rfl (wd_9 hw) (wd_10 hw) (wd_11 hw) (by decide) (kc := 1) (ks := 2) (fun vm0 hZ => StrChars.Road.backV (W := 1) (s := C.s.setVm vm0) hZ (hwS hw) (kI := 4) (wd_7 hw) (cs := [(p.toInt32 &&& 255), ((XT.ushrL p 8).toInt32 &&& 255)]) (bs := [(p.toInt32 &&& 255), ((XT.ushrL p 8).toInt32 &&& 255)].map fun c => c.toInt8.toInt32) (n := 2) (n0 := n0) (ge_new ha18 (((X0.ext E5).wr W9 (ge_new ha4 X0)).wr W13 (ge_new ha4 X0))) (Old.sz q24) A20 F23 F22 q25 (Sc.ext q24.2) nzc rfl rfl (by decide) (by decide) hp26 rfl (by rw [o.R]; decide) (by rw [o.R]; decide)) (Q' := fun v h' => StrOf Z n0 h17 2 h' a16 [(p.toInt32 &&& 255), ((XT.ushrL p 8).toInt32 &&& 255)] v) (fun v h' L q => strOf_of (n := 2) rfl hp26 q) (Or.inl hE) pd_0 rfl rfl rfl rfl (by decide) (by decide) fun v27 h28 q29 => ?_
  obtain ⟨rfl, K30, St32⟩ := q29
  show Go C Z n0 (fun v h => Keep h0 h [] ∧ ∃ a cs, v = some (.ref a) ∧ Str Z h a cs ∧ cs.length ≤ 4000) [] h28 3 8 35 #[.val (.long p), .second, .val (.ref a1)] [(.ref a16)]
  refine g_areturn o (pc := 35) rfl rfl d_method_3_35 ?_ (by decide) (by decide)
  exact ⟨((((((Keep.refl _ []).ext E5).wr W9 (Or.inr (keep_new ha4 (Keep.refl _ [])))).wr W13 (Or.inr (keep_new ha4 (Keep.refl _ [])))).ext E19).trans K30 (allS (Or.inr (keep_new ha18 ((((Keep.refl _ []).ext E5).wr W9 (Or.inr (keep_new ha4 (Keep.refl _ [])))).wr W13 (Or.inr (keep_new ha4 (Keep.refl _ [])))))) all0)), a16, _, rfl, St32, (Nat.le_of_ble_eq_true rfl)⟩
set_option maxRecDepth 65536 in
set_option maxHeartbeats 40000000 in
theorem rm_rec (l : Launch) (Z : State) (a0 : Array Value) (hw : ∀ d ∈ tables_1, d.before a0 Z = true) (n0 : Nat) (h0 : Heap) (X0 : Old Z n0 h0) (a : Addr)  :
    Met l Z n0 (⟨"java/lang/Record", "<init>", "()V"⟩ : MethodName) jdk_30_method_1_code 1 none ({ frames := 1, cells := 0, slots := 0, locals := 12 } : Room) #[(.ref a)] h0 (fun v h => v = none ∧ h = h0) := by
  refine met_of pn_1 hw (L := #[.val (.ref a)]) (fun m => by first | (simp [entryFrame, mkF, argsToLocals, Value.category]; done) | rfl) fun C hl hwd hE o => ?_
  subst hl
  have o : Ok C Z a0 jdk_30_method_1_code 1 none "<init>" "java/lang/Record" ({ frames := 1, cells := 0, slots := 0, locals := 12 } : Room) := o
  refine g_aload_n o (pc := 0) d_jdk_30_method_1_0 rfl rfl ?_
  refine g_initO o (pc := 1) d_jdk_30_method_1_1 (wd_46 hw) (wd_17 hw) (wd_18 hw) rfl (by decide) (by decide) ?_
  refine g_return o (pc := 4) d_jdk_30_method_1_4 ?_ (by decide) (by decide)
  exact ⟨rfl, rfl⟩
set_option maxRecDepth 65536 in
set_option maxHeartbeats 40000000 in
theorem rm_init (l : Launch) (Z : State) (a0 : Array Value) (hw : ∀ d ∈ tables_1, d.before a0 Z = true) (n0 : Nat) (h0 : Heap) (X0 : Old Z n0 h0) (a : Addr) (x : Value) (b1 : Int32) (b2 : Int32) (b3 : Int32) (b4 : Int32) (p1 : Int32) (p2 : Int32) (p3 : Int32) (y : Value) (hx : x.isRef = true) (hy : y.isRef = true) (z1 : nar .boolean b1 = b1) (z2 : nar .boolean b2 = b2) (z3 : nar .boolean b3 = b3) (z4 : nar .boolean b4 = b4) (A : Exa Z h0 a "com/example/libpersist/libpersist/core/model/Column") (F_name : Fld Z h0 a "com/example/libpersist/libpersist/core/model/Column" "name" "Ljava/lang/String;" .null) (F_nullable : Fld Z h0 a "com/example/libpersist/libpersist/core/model/Column" "nullable" "Z" (.int 0)) (F_unique : Fld Z h0 a "com/example/libpersist/libpersist/core/model/Column" "unique" "Z" (.int 0)) (F_insertable : Fld Z h0 a "com/example/libpersist/libpersist/core/model/Column" "insertable" "Z" (.int 0)) (F_updatable : Fld Z h0 a "com/example/libpersist/libpersist/core/model/Column" "updatable" "Z" (.int 0)) (F_length : Fld Z h0 a "com/example/libpersist/libpersist/core/model/Column" "length" "I" (.int 0)) (F_precision : Fld Z h0 a "com/example/libpersist/libpersist/core/model/Column" "precision" "I" (.int 0)) (F_scale : Fld Z h0 a "com/example/libpersist/libpersist/core/model/Column" "scale" "I" (.int 0)) (F_definition : Fld Z h0 a "com/example/libpersist/libpersist/core/model/Column" "definition" "Ljava/lang/String;" .null) (ga : n0 ≤ a) :
    Met l Z n0 (⟨"com/example/libpersist/libpersist/core/model/Column", "<init>", "(Ljava/lang/String;ZZZZIIILjava/lang/String;)V"⟩ : MethodName) prog_12_method_2_code 10 none ({ frames := 2, cells := 0, slots := 0, locals := 24 } : Room) #[(.ref a), x, (.int b1), (.int b2), (.int b3), (.int b4), (.int p1), (.int p2), (.int p3), y] h0 (fun v h => v = none ∧ Keep h0 h [a] ∧ Exa Z h a "com/example/libpersist/libpersist/core/model/Column" ∧ Fld Z h a "com/example/libpersist/libpersist/core/model/Column" "name" "Ljava/lang/String;" x ∧ Fld Z h a "com/example/libpersist/libpersist/core/model/Column" "nullable" "Z" (.int b1) ∧ Fld Z h a "com/example/libpersist/libpersist/core/model/Column" "unique" "Z" (.int b2) ∧ Fld Z h a "com/example/libpersist/libpersist/core/model/Column" "insertable" "Z" (.int b3) ∧ Fld Z h a "com/example/libpersist/libpersist/core/model/Column" "updatable" "Z" (.int b4) ∧ Fld Z h a "com/example/libpersist/libpersist/core/model/Column" "length" "I" (.int p1) ∧ Fld Z h a "com/example/libpersist/libpersist/core/model/Column" "precision" "I" (.int p2) ∧ Fld Z h a "com/example/libpersist/libpersist/core/model/Column" "scale" "I" (.int p3) ∧ Fld Z h a "com/example/libpersist/libpersist/core/model/Column" "definition" "Ljava/lang/String;" y) := by
  refine met_of pn_2 hw (L := #[.val (.ref a), .val x, .val (.int b1), .val (.int b2), .val (.int b3), .val (.int b4), .val (.int p1), .val (.int p2), .val (.int p3), .val y]) (fun m => by rcases ref_cases hx with rfl | ⟨_, rfl⟩ <;> rcases ref_cases hy with rfl | ⟨_, rfl⟩ <;> first | (simp [entryFrame, mkF, argsToLocals, Value.category]; done) | rfl) fun C hl hwd hE o => ?_
  subst hl
  have o : Ok C Z a0 prog_12_method_2_code 10 none "<init>" "com/example/libpersist/libpersist/core/model/Column" ({ frames := 2, cells := 0, slots := 0, locals := 24 } : Room) := o
  refine g_aload_n o (pc := 0) d_prog_12_method_2_0 rfl rfl ?_
  refine g_special o (pc := 1) a [] [] d_prog_12_method_2_1 rfl (wd_41 hw) (wd_42 hw) (wd_45 hw) (by decide) (Met.back o (W := 0) (rm_rec C.l Z a0 hw n0 h0 X0 a ) (wd_45 hw) (wd_44 hw) (by decide) (by decide)) (fun _ _ _ q => q) (Or.inl hE) pd_1 rfl rfl rfl rfl (by decide) (by decide) fun v1 h2 q3 => ?_
  obtain ⟨rfl, hh⟩ := q3
  obtain rfl := hh.symm
  show Go C Z n0 (fun v h => v = none ∧ Keep h0 h [a] ∧ Exa Z h a "com/example/libpersist/libpersist/core/model/Column" ∧ Fld Z h a "com/example/libpersist/libpersist/core/model/Column" "name" "Ljava/lang/String;" x ∧ Fld Z h a "com/example/libpersist/libpersist/core/model/Column" "nullable" "Z" (.int b1) ∧ Fld Z h a "com/example/libpersist/libpersist/core/model/Column" "unique" "Z" (.int b2) ∧ Fld Z h a "com/example/libpersist/libpersist/core/model/Column" "insertable" "Z" (.int b3) ∧ Fld Z h a "com/example/libpersist/libpersist/core/model/Column" "updatable" "Z" (.int b4) ∧ Fld Z h a "com/example/libpersist/libpersist/core/model/Column" "length" "I" (.int p1) ∧ Fld Z h a "com/example/libpersist/libpersist/core/model/Column" "precision" "I" (.int p2) ∧ Fld Z h a "com/example/libpersist/libpersist/core/model/Column" "scale" "I" (.int p3) ∧ Fld Z h a "com/example/libpersist/libpersist/core/model/Column" "definition" "Ljava/lang/String;" y) [] h0 0 0 4 #[.val (.ref a), .val x, .val (.int b1), .val (.int b2), .val (.int b3), .val (.int b4), .val (.int p1), .val (.int p2), .val (.int p3), .val y] []
  refine g_aload_n o (pc := 4) d_prog_12_method_2_4 rfl rfl ?_
  refine g_aload_n o (pc := 5) d_prog_12_method_2_5 rfl hx ?_
  refine g_putF o (pc := 6) d_prog_12_method_2_6 (wd_47 hw) Via.refl F_name A (Or.inr ⟨(wd_48 hw), rfl, rfl⟩) (wd_36 hw) (ty := (.object "java/lang/String")) (by decide) (nref (by decide) hx) (fref (by decide) hx) ga (Or.inl hE) fun h4 W5 => ?_
  have F6 := F_name.same W5
  refine g_aload_n o (pc := 9) d_prog_12_method_2_9 rfl rfl ?_
  refine g_iload_n o (pc := 10) d_prog_12_method_2_10 rfl ?_
  have q7 := (F_nullable.other W5 (Or.inr (slot_ne (Or.inr (wd_50 hw)) (Or.inr (wd_48 hw)) (by decide) (t := .boolean) (t' := (.object "java/lang/String")) (by decide) (by decide))))
  have q8 := (A.wr W5)
  refine g_putF o (pc := 11) d_prog_12_method_2_11 (wd_49 hw) Via.refl q7 q8 (Or.inr ⟨(wd_50 hw), rfl, rfl⟩) (wd_36 hw) (ty := .boolean) (by decide) (nz z1) (fz z1) ga (Or.inl hE) fun h9 W10 => ?_
  have F11 := q7.same W10
  refine g_aload_n o (pc := 14) d_prog_12_method_2_14 rfl rfl ?_
  refine g_iload_n o (pc := 15) d_prog_12_method_2_15 rfl ?_
  have q12 := ((F_unique.other W5 (Or.inr (slot_ne (Or.inr (wd_52 hw)) (Or.inr (wd_48 hw)) (by decide) (t := .boolean) (t' := (.object "java/lang/String")) (by decide) (by decide)))).other W10 (Or.inr (slot_ne (Or.inr (wd_52 hw)) (Or.inr (wd_50 hw)) (by decide) (t := .boolean) (t' := .boolean) (by decide) (by decide))))
  have q13 := (q8.wr W10)
  refine g_putF o (pc := 16) d_prog_12_method_2_16 (wd_51 hw) Via.refl q12 q13 (Or.inr ⟨(wd_52 hw), rfl, rfl⟩) (wd_36 hw) (ty := .boolean) (by decide) (nz z2) (fz z2) ga (Or.inl hE) fun h14 W15 => ?_
  have F16 := q12.same W15
  refine g_aload_n o (pc := 19) d_prog_12_method_2_19 rfl rfl ?_
  refine g_iload o (pc := 20) d_prog_12_method_2_20 rfl ?_
  have q17 := (((F_insertable.other W5 (Or.inr (slot_ne (Or.inr (wd_54 hw)) (Or.inr (wd_48 hw)) (by decide) (t := .boolean) (t' := (.object "java/lang/String")) (by decide) (by decide)))).other W10 (Or.inr (slot_ne (Or.inr (wd_54 hw)) (Or.inr (wd_50 hw)) (by decide) (t := .boolean) (t' := .boolean) (by decide) (by decide)))).other W15 (Or.inr (slot_ne (Or.inr (wd_54 hw)) (Or.inr (wd_52 hw)) (by decide) (t := .boolean) (t' := .boolean) (by decide) (by decide))))
  have q18 := (q13.wr W15)
  refine g_putF o (pc := 22) d_prog_12_method_2_22 (wd_53 hw) Via.refl q17 q18 (Or.inr ⟨(wd_54 hw), rfl, rfl⟩) (wd_36 hw) (ty := .boolean) (by decide) (nz z3) (fz z3) ga (Or.inl hE) fun h19 W20 => ?_
  have F21 := q17.same W20
  refine g_aload_n o (pc := 25) d_prog_12_method_2_25 rfl rfl ?_
  refine g_iload o (pc := 26) d_prog_12_method_2_26 rfl ?_
  have q22 := ((((F_updatable.other W5 (Or.inr (slot_ne (Or.inr (wd_56 hw)) (Or.inr (wd_48 hw)) (by decide) (t := .boolean) (t' := (.object "java/lang/String")) (by decide) (by decide)))).other W10 (Or.inr (slot_ne (Or.inr (wd_56 hw)) (Or.inr (wd_50 hw)) (by decide) (t := .boolean) (t' := .boolean) (by decide) (by decide)))).other W15 (Or.inr (slot_ne (Or.inr (wd_56 hw)) (Or.inr (wd_52 hw)) (by decide) (t := .boolean) (t' := .boolean) (by decide) (by decide)))).other W20 (Or.inr (slot_ne (Or.inr (wd_56 hw)) (Or.inr (wd_54 hw)) (by decide) (t := .boolean) (t' := .boolean) (by decide) (by decide))))
  have q23 := (q18.wr W20)
  refine g_putF o (pc := 28) d_prog_12_method_2_28 (wd_55 hw) Via.refl q22 q23 (Or.inr ⟨(wd_56 hw), rfl, rfl⟩) (wd_36 hw) (ty := .boolean) (by decide) (nz z4) (fz z4) ga (Or.inl hE) fun h24 W25 => ?_
  have F26 := q22.same W25
  refine g_aload_n o (pc := 31) d_prog_12_method_2_31 rfl rfl ?_
  refine g_iload o (pc := 32) d_prog_12_method_2_32 rfl ?_
  have q27 := (((((F_length.other W5 (Or.inr (slot_ne (Or.inr (wd_58 hw)) (Or.inr (wd_48 hw)) (by decide) (t := .int) (t' := (.object "java/lang/String")) (by decide) (by decide)))).other W10 (Or.inr (slot_ne (Or.inr (wd_58 hw)) (Or.inr (wd_50 hw)) (by decide) (t := .int) (t' := .boolean) (by decide) (by decide)))).other W15 (Or.inr (slot_ne (Or.inr (wd_58 hw)) (Or.inr (wd_52 hw)) (by decide) (t := .int) (t' := .boolean) (by decide) (by decide)))).other W20 (Or.inr (slot_ne (Or.inr (wd_58 hw)) (Or.inr (wd_54 hw)) (by decide) (t := .int) (t' := .boolean) (by decide) (by decide)))).other W25 (Or.inr (slot_ne (Or.inr (wd_58 hw)) (Or.inr (wd_56 hw)) (by decide) (t := .int) (t' := .boolean) (by decide) (by decide))))
  have q28 := (q23.wr W25)
  refine g_putF o (pc := 34) d_prog_12_method_2_34 (wd_57 hw) Via.refl q27 q28 (Or.inr ⟨(wd_58 hw), rfl, rfl⟩) (wd_36 hw) (ty := .int) (by decide) rfl rfl ga (Or.inl hE) fun h29 W30 => ?_
  have F31 := q27.same W30
  refine g_aload_n o (pc := 37) d_prog_12_method_2_37 rfl rfl ?_
  refine g_iload o (pc := 38) d_prog_12_method_2_38 rfl ?_
  have q32 := ((((((F_precision.other W5 (Or.inr (slot_ne (Or.inr (wd_60 hw)) (Or.inr (wd_48 hw)) (by decide) (t := .int) (t' := (.object "java/lang/String")) (by decide) (by decide)))).other W10 (Or.inr (slot_ne (Or.inr (wd_60 hw)) (Or.inr (wd_50 hw)) (by decide) (t := .int) (t' := .boolean) (by decide) (by decide)))).other W15 (Or.inr (slot_ne (Or.inr (wd_60 hw)) (Or.inr (wd_52 hw)) (by decide) (t := .int) (t' := .boolean) (by decide) (by decide)))).other W20 (Or.inr (slot_ne (Or.inr (wd_60 hw)) (Or.inr (wd_54 hw)) (by decide) (t := .int) (t' := .boolean) (by decide) (by decide)))).other W25 (Or.inr (slot_ne (Or.inr (wd_60 hw)) (Or.inr (wd_56 hw)) (by decide) (t := .int) (t' := .boolean) (by decide) (by decide)))).other W30 (Or.inr (slot_ne (Or.inr (wd_60 hw)) (Or.inr (wd_58 hw)) (by decide) (t := .int) (t' := .int) (by decide) (by decide))))
  have q33 := (q28.wr W30)
  refine g_putF o (pc := 40) d_prog_12_method_2_40 (wd_59 hw) Via.refl q32 q33 (Or.inr ⟨(wd_60 hw), rfl, rfl⟩) (wd_36 hw) (ty := .int) (by decide) rfl rfl ga (Or.inl hE) fun h34 W35 => ?_
  have F36 := q32.same W35
  refine g_aload_n o (pc := 43) d_prog_12_method_2_43 rfl rfl ?_
  refine g_iload o (pc := 44) d_prog_12_method_2_44 rfl ?_
  have q37 := (((((((F_scale.other W5 (Or.inr (slot_ne (Or.inr (wd_62 hw)) (Or.inr (wd_48 hw)) (by decide) (t := .int) (t' := (.object "java/lang/String")) (by decide) (by decide)))).other W10 (Or.inr (slot_ne (Or.inr (wd_62 hw)) (Or.inr (wd_50 hw)) (by decide) (t := .int) (t' := .boolean) (by decide) (by decide)))).other W15 (Or.inr (slot_ne (Or.inr (wd_62 hw)) (Or.inr (wd_52 hw)) (by decide) (t := .int) (t' := .boolean) (by decide) (by decide)))).other W20 (Or.inr (slot_ne (Or.inr (wd_62 hw)) (Or.inr (wd_54 hw)) (by decide) (t := .int) (t' := .boolean) (by decide) (by decide)))).other W25 (Or.inr (slot_ne (Or.inr (wd_62 hw)) (Or.inr (wd_56 hw)) (by decide) (t := .int) (t' := .boolean) (by decide) (by decide)))).other W30 (Or.inr (slot_ne (Or.inr (wd_62 hw)) (Or.inr (wd_58 hw)) (by decide) (t := .int) (t' := .int) (by decide) (by decide)))).other W35 (Or.inr (slot_ne (Or.inr (wd_62 hw)) (Or.inr (wd_60 hw)) (by decide) (t := .int) (t' := .int) (by decide) (by decide))))
  have q38 := (q33.wr W35)
  refine g_putF o (pc := 46) d_prog_12_method_2_46 (wd_61 hw) Via.refl q37 q38 (Or.inr ⟨(wd_62 hw), rfl, rfl⟩) (wd_36 hw) (ty := .int) (by decide) rfl rfl ga (Or.inl hE) fun h39 W40 => ?_
  have F41 := q37.same W40
  refine g_aload_n o (pc := 49) d_prog_12_method_2_49 rfl rfl ?_
  refine g_aload o (pc := 50) d_prog_12_method_2_50 rfl hy ?_
  have q42 := ((((((((F_definition.other W5 (Or.inr (slot_ne (Or.inr (wd_64 hw)) (Or.inr (wd_48 hw)) (by decide) (t := (.object "java/lang/String")) (t' := (.object "java/lang/String")) (by decide) (by decide)))).other W10 (Or.inr (slot_ne (Or.inr (wd_64 hw)) (Or.inr (wd_50 hw)) (by decide) (t := (.object "java/lang/String")) (t' := .boolean) (by decide) (by decide)))).other W15 (Or.inr (slot_ne (Or.inr (wd_64 hw)) (Or.inr (wd_52 hw)) (by decide) (t := (.object "java/lang/String")) (t' := .boolean) (by decide) (by decide)))).other W20 (Or.inr (slot_ne (Or.inr (wd_64 hw)) (Or.inr (wd_54 hw)) (by decide) (t := (.object "java/lang/String")) (t' := .boolean) (by decide) (by decide)))).other W25 (Or.inr (slot_ne (Or.inr (wd_64 hw)) (Or.inr (wd_56 hw)) (by decide) (t := (.object "java/lang/String")) (t' := .boolean) (by decide) (by decide)))).other W30 (Or.inr (slot_ne (Or.inr (wd_64 hw)) (Or.inr (wd_58 hw)) (by decide) (t := (.object "java/lang/String")) (t' := .int) (by decide) (by decide)))).other W35 (Or.inr (slot_ne (Or.inr (wd_64 hw)) (Or.inr (wd_60 hw)) (by decide) (t := (.object "java/lang/String")) (t' := .int) (by decide) (by decide)))).other W40 (Or.inr (slot_ne (Or.inr (wd_64 hw)) (Or.inr (wd_62 hw)) (by decide) (t := (.object "java/lang/String")) (t' := .int) (by decide) (by decide))))
  have q43 := (q38.wr W40)
  refine g_putF o (pc := 52) d_prog_12_method_2_52 (wd_63 hw) Via.refl q42 q43 (Or.inr ⟨(wd_64 hw), rfl, rfl⟩) (wd_36 hw) (ty := (.object "java/lang/String")) (by decide) (nref (by decide) hy) (fref (by decide) hy) ga (Or.inl hE) fun h44 W45 => ?_
  have F46 := q42.same W45
  refine g_return o (pc := 55) d_prog_12_method_2_55 ?_ (by decide) (by decide)
  exact ⟨rfl, ((((((((((Keep.refl _ [a]).wr W5 (Or.inl (by simp))).wr W10 (Or.inl (by simp))).wr W15 (Or.inl (by simp))).wr W20 (Or.inl (by simp))).wr W25 (Or.inl (by simp))).wr W30 (Or.inl (by simp))).wr W35 (Or.inl (by simp))).wr W40 (Or.inl (by simp))).wr W45 (Or.inl (by simp))), (q43.wr W45), ((((((((F6.other W10 (Or.inr (slot_ne (Or.inr (wd_48 hw)) (Or.inr (wd_50 hw)) (by decide) (t := (.object "java/lang/String")) (t' := .boolean) (by decide) (by decide)))).other W15 (Or.inr (slot_ne (Or.inr (wd_48 hw)) (Or.inr (wd_52 hw)) (by decide) (t := (.object "java/lang/String")) (t' := .boolean) (by decide) (by decide)))).other W20 (Or.inr (slot_ne (Or.inr (wd_48 hw)) (Or.inr (wd_54 hw)) (by decide) (t := (.object "java/lang/String")) (t' := .boolean) (by decide) (by decide)))).other W25 (Or.inr (slot_ne (Or.inr (wd_48 hw)) (Or.inr (wd_56 hw)) (by decide) (t := (.object "java/lang/String")) (t' := .boolean) (by decide) (by decide)))).other W30 (Or.inr (slot_ne (Or.inr (wd_48 hw)) (Or.inr (wd_58 hw)) (by decide) (t := (.object "java/lang/String")) (t' := .int) (by decide) (by decide)))).other W35 (Or.inr (slot_ne (Or.inr (wd_48 hw)) (Or.inr (wd_60 hw)) (by decide) (t := (.object "java/lang/String")) (t' := .int) (by decide) (by decide)))).other W40 (Or.inr (slot_ne (Or.inr (wd_48 hw)) (Or.inr (wd_62 hw)) (by decide) (t := (.object "java/lang/String")) (t' := .int) (by decide) (by decide)))).other W45 (Or.inr (slot_ne (Or.inr (wd_48 hw)) (Or.inr (wd_64 hw)) (by decide) (t := (.object "java/lang/String")) (t' := (.object "java/lang/String")) (by decide) (by decide)))), (((((((F11.other W15 (Or.inr (slot_ne (Or.inr (wd_50 hw)) (Or.inr (wd_52 hw)) (by decide) (t := .boolean) (t' := .boolean) (by decide) (by decide)))).other W20 (Or.inr (slot_ne (Or.inr (wd_50 hw)) (Or.inr (wd_54 hw)) (by decide) (t := .boolean) (t' := .boolean) (by decide) (by decide)))).other W25 (Or.inr (slot_ne (Or.inr (wd_50 hw)) (Or.inr (wd_56 hw)) (by decide) (t := .boolean) (t' := .boolean) (by decide) (by decide)))).other W30 (Or.inr (slot_ne (Or.inr (wd_50 hw)) (Or.inr (wd_58 hw)) (by decide) (t := .boolean) (t' := .int) (by decide) (by decide)))).other W35 (Or.inr (slot_ne (Or.inr (wd_50 hw)) (Or.inr (wd_60 hw)) (by decide) (t := .boolean) (t' := .int) (by decide) (by decide)))).other W40 (Or.inr (slot_ne (Or.inr (wd_50 hw)) (Or.inr (wd_62 hw)) (by decide) (t := .boolean) (t' := .int) (by decide) (by decide)))).other W45 (Or.inr (slot_ne (Or.inr (wd_50 hw)) (Or.inr (wd_64 hw)) (by decide) (t := .boolean) (t' := (.object "java/lang/String")) (by decide) (by decide)))), ((((((F16.other W20 (Or.inr (slot_ne (Or.inr (wd_52 hw)) (Or.inr (wd_54 hw)) (by decide) (t := .boolean) (t' := .boolean) (by decide) (by decide)))).other W25 (Or.inr (slot_ne (Or.inr (wd_52 hw)) (Or.inr (wd_56 hw)) (by decide) (t := .boolean) (t' := .boolean) (by decide) (by decide)))).other W30 (Or.inr (slot_ne (Or.inr (wd_52 hw)) (Or.inr (wd_58 hw)) (by decide) (t := .boolean) (t' := .int) (by decide) (by decide)))).other W35 (Or.inr (slot_ne (Or.inr (wd_52 hw)) (Or.inr (wd_60 hw)) (by decide) (t := .boolean) (t' := .int) (by decide) (by decide)))).other W40 (Or.inr (slot_ne (Or.inr (wd_52 hw)) (Or.inr (wd_62 hw)) (by decide) (t := .boolean) (t' := .int) (by decide) (by decide)))).other W45 (Or.inr (slot_ne (Or.inr (wd_52 hw)) (Or.inr (wd_64 hw)) (by decide) (t := .boolean) (t' := (.object "java/lang/String")) (by decide) (by decide)))), (((((F21.other W25 (Or.inr (slot_ne (Or.inr (wd_54 hw)) (Or.inr (wd_56 hw)) (by decide) (t := .boolean) (t' := .boolean) (by decide) (by decide)))).other W30 (Or.inr (slot_ne (Or.inr (wd_54 hw)) (Or.inr (wd_58 hw)) (by decide) (t := .boolean) (t' := .int) (by decide) (by decide)))).other W35 (Or.inr (slot_ne (Or.inr (wd_54 hw)) (Or.inr (wd_60 hw)) (by decide) (t := .boolean) (t' := .int) (by decide) (by decide)))).other W40 (Or.inr (slot_ne (Or.inr (wd_54 hw)) (Or.inr (wd_62 hw)) (by decide) (t := .boolean) (t' := .int) (by decide) (by decide)))).other W45 (Or.inr (slot_ne (Or.inr (wd_54 hw)) (Or.inr (wd_64 hw)) (by decide) (t := .boolean) (t' := (.object "java/lang/String")) (by decide) (by decide)))), ((((F26.other W30 (Or.inr (slot_ne (Or.inr (wd_56 hw)) (Or.inr (wd_58 hw)) (by decide) (t := .boolean) (t' := .int) (by decide) (by decide)))).other W35 (Or.inr (slot_ne (Or.inr (wd_56 hw)) (Or.inr (wd_60 hw)) (by decide) (t := .boolean) (t' := .int) (by decide) (by decide)))).other W40 (Or.inr (slot_ne (Or.inr (wd_56 hw)) (Or.inr (wd_62 hw)) (by decide) (t := .boolean) (t' := .int) (by decide) (by decide)))).other W45 (Or.inr (slot_ne (Or.inr (wd_56 hw)) (Or.inr (wd_64 hw)) (by decide) (t := .boolean) (t' := (.object "java/lang/String")) (by decide) (by decide)))), (((F31.other W35 (Or.inr (slot_ne (Or.inr (wd_58 hw)) (Or.inr (wd_60 hw)) (by decide) (t := .int) (t' := .int) (by decide) (by decide)))).other W40 (Or.inr (slot_ne (Or.inr (wd_58 hw)) (Or.inr (wd_62 hw)) (by decide) (t := .int) (t' := .int) (by decide) (by decide)))).other W45 (Or.inr (slot_ne (Or.inr (wd_58 hw)) (Or.inr (wd_64 hw)) (by decide) (t := .int) (t' := (.object "java/lang/String")) (by decide) (by decide)))), ((F36.other W40 (Or.inr (slot_ne (Or.inr (wd_60 hw)) (Or.inr (wd_62 hw)) (by decide) (t := .int) (t' := .int) (by decide) (by decide)))).other W45 (Or.inr (slot_ne (Or.inr (wd_60 hw)) (Or.inr (wd_64 hw)) (by decide) (t := .int) (t' := (.object "java/lang/String")) (by decide) (by decide)))), (F41.other W45 (Or.inr (slot_ne (Or.inr (wd_62 hw)) (Or.inr (wd_64 hw)) (by decide) (t := .int) (t' := (.object "java/lang/String")) (by decide) (by decide)))), F46⟩
set_option maxRecDepth 65536 in
set_option maxHeartbeats 40000000 in
theorem rm_wn (l : Launch) (Z : State) (a0 : Array Value) (hw : ∀ d ∈ tables_1, d.before a0 Z = true) (n0 : Nat) (h0 : Heap) (X0 : Old Z n0 h0) (a : Addr) (c : Int32) (x : Value) (b1 : Int32) (b2 : Int32) (b3 : Int32) (b4 : Int32) (p1 : Int32) (p2 : Int32) (p3 : Int32) (y : Value) (hx : x.isRef = true) (hy : y.isRef = true) (z1 : nar .boolean b1 = b1) (z2 : nar .boolean b2 = b2) (z3 : nar .boolean b3 = b3) (z4 : nar .boolean b4 = b4) (zc : nar .boolean c = c) (F_name : Fld Z h0 a "com/example/libpersist/libpersist/core/model/Column" "name" "Ljava/lang/String;" x) (F_nullable : Fld Z h0 a "com/example/libpersist/libpersist/core/model/Column" "nullable" "Z" (.int b1)) (F_unique : Fld Z h0 a "com/example/libpersist/libpersist/core/model/Column" "unique" "Z" (.int b2)) (F_insertable : Fld Z h0 a "com/example/libpersist/libpersist/core/model/Column" "insertable" "Z" (.int b3)) (F_updatable : Fld Z h0 a "com/example/libpersist/libpersist/core/model/Column" "updatable" "Z" (.int b4)) (F_length : Fld Z h0 a "com/example/libpersist/libpersist/core/model/Column" "length" "I" (.int p1)) (F_precision : Fld Z h0 a "com/example/libpersist/libpersist/core/model/Column" "precision" "I" (.int p2)) (F_scale : Fld Z h0 a "com/example/libpersist/libpersist/core/model/Column" "scale" "I" (.int p3)) (F_definition : Fld Z h0 a "com/example/libpersist/libpersist/core/model/Column" "definition" "Ljava/lang/String;" y) :
    Met l Z n0 (⟨"com/example/libpersist/libpersist/core/model/Column", "withNullable", "(Z)Lcom/example/libpersist/libpersist/core/model/Column;"⟩ : MethodName) prog_12_method_4_code 2 (some (.object "com/example/libpersist/libpersist/core/model/Column")) ({ frames := 3, cells := 1, slots := 9, locals := 46 } : Room) #[(.ref a), (.int c)] h0 (fun v h => Keep h0 h [] ∧ ∃ r, v = some (.ref r) ∧ Exa Z h r "com/example/libpersist/libpersist/core/model/Column" ∧ Fld Z h r "com/example/libpersist/libpersist/core/model/Column" "name" "Ljava/lang/String;" x ∧ Fld Z h r "com/example/libpersist/libpersist/core/model/Column" "nullable" "Z" (.int c) ∧ Fld Z h r "com/example/libpersist/libpersist/core/model/Column" "unique" "Z" (.int b2) ∧ Fld Z h r "com/example/libpersist/libpersist/core/model/Column" "insertable" "Z" (.int b3) ∧ Fld Z h r "com/example/libpersist/libpersist/core/model/Column" "updatable" "Z" (.int b4) ∧ Fld Z h r "com/example/libpersist/libpersist/core/model/Column" "length" "I" (.int p1) ∧ Fld Z h r "com/example/libpersist/libpersist/core/model/Column" "precision" "I" (.int p2) ∧ Fld Z h r "com/example/libpersist/libpersist/core/model/Column" "scale" "I" (.int p3) ∧ Fld Z h r "com/example/libpersist/libpersist/core/model/Column" "definition" "Ljava/lang/String;" y) := by
  refine met_of pn_2 hw (L := #[.val (.ref a), .val (.int c)]) (fun m => by first | (simp [entryFrame, mkF, argsToLocals, Value.category]; done) | rfl) fun C hl hwd hE o => ?_
  subst hl
  have o : Ok C Z a0 prog_12_method_4_code 2 (some (.object "com/example/libpersist/libpersist/core/model/Column")) "withNullable" "com/example/libpersist/libpersist/core/model/Column" ({ frames := 3, cells := 1, slots := 9, locals := 46 } : Room) := o
  refine g_new o (pc := 0) d_prog_12_method_4_0 (wd_70 hw) (wd_36 hw) (wd_37 hw) (by decide) (by decide) (M' := fun _ => []) (fun _ _ q => nomatch q) fun a1 h2 ha3 E4 A5 D6 => ?_
  have F7 : Fld Z h2 a1 "com/example/libpersist/libpersist/core/model/Column" "name" "Ljava/lang/String;" .null := D6 (Or.inr (wd_48 hw)) (ty := (.object "java/lang/String")) (by decide)
  have F8 : Fld Z h2 a1 "com/example/libpersist/libpersist/core/model/Column" "nullable" "Z" (.int 0) := D6 (Or.inr (wd_50 hw)) (ty := .boolean) (by decide)
  have F9 : Fld Z h2 a1 "com/example/libpersist/libpersist/core/model/Column" "unique" "Z" (.int 0) := D6 (Or.inr (wd_52 hw)) (ty := .boolean) (by decide)
  have F10 : Fld Z h2 a1 "com/example/libpersist/libpersist/core/model/Column" "insertable" "Z" (.int 0) := D6 (Or.inr (wd_54 hw)) (ty := .boolean) (by decide)
  have F11 : Fld Z h2 a1 "com/example/libpersist/libpersist/core/model/Column" "updatable" "Z" (.int 0) := D6 (Or.inr (wd_56 hw)) (ty := .boolean) (by decide)
  have F12 : Fld Z h2 a1 "com/example/libpersist/libpersist/core/model/Column" "length" "I" (.int 0) := D6 (Or.inr (wd_58 hw)) (ty := .int) (by decide)
  have F13 : Fld Z h2 a1 "com/example/libpersist/libpersist/core/model/Column" "precision" "I" (.int 0) := D6 (Or.inr (wd_60 hw)) (ty := .int) (by decide)
  have F14 : Fld Z h2 a1 "com/example/libpersist/libpersist/core/model/Column" "scale" "I" (.int 0) := D6 (Or.inr (wd_62 hw)) (ty := .int) (by decide)
  have F15 : Fld Z h2 a1 "com/example/libpersist/libpersist/core/model/Column" "definition" "Ljava/lang/String;" .null := D6 (Or.inr (wd_64 hw)) (ty := (.object "java/lang/String")) (by decide)
  refine g_dup o (pc := 3) d_prog_12_method_4_3 rfl ?_
  refine g_aload_n o (pc := 4) d_prog_12_method_4_4 rfl rfl ?_
  have q16 := (F_name.ext E4)
  refine g_getF o (pc := 5) d_prog_12_method_4_5 (wd_47 hw) Via.refl q16 ?_
  refine g_iload_n o (pc := 8) d_prog_12_method_4_8 rfl ?_
  refine g_aload_n o (pc := 9) d_prog_12_method_4_9 rfl rfl ?_
  have q17 := (F_unique.ext E4)
  refine g_getF o (pc := 10) d_prog_12_method_4_10 (wd_51 hw) Via.refl q17 ?_
  refine g_aload_n o (pc := 13) d_prog_12_method_4_13 rfl rfl ?_
  have q18 := (F_insertable.ext E4)
  refine g_getF o (pc := 14) d_prog_12_method_4_14 (wd_53 hw) Via.refl q18 ?_
  refine g_aload_n o (pc := 17) d_prog_12_method_4_17 rfl rfl ?_
  have q19 := (F_updatable.ext E4)
  refine g_getF o (pc := 18) d_prog_12_method_4_18 (wd_55 hw) Via.refl q19 ?_
  refine g_aload_n o (pc := 21) d_prog_12_method_4_21 rfl rfl ?_
  have q20 := (F_length.ext E4)
  refine g_getF o (pc := 22) d_prog_12_method_4_22 (wd_57 hw) Via.refl q20 ?_
  refine g_aload_n o (pc := 25) d_prog_12_method_4_25 rfl rfl ?_
  have q21 := (F_precision.ext E4)
  refine g_getF o (pc := 26) d_prog_12_method_4_26 (wd_59 hw) Via.refl q21 ?_
  refine g_aload_n o (pc := 29) d_prog_12_method_4_29 rfl rfl ?_
  have q22 := (F_scale.ext E4)
  refine g_getF o (pc := 30) d_prog_12_method_4_30 (wd_61 hw) Via.refl q22 ?_
  refine g_aload_n o (pc := 33) d_prog_12_method_4_33 rfl rfl ?_
  have q23 := (F_definition.ext E4)
  refine g_getF o (pc := 34) d_prog_12_method_4_34 (wd_63 hw) Via.refl q23 ?_
  have q24 := (X0.ext E4)
  refine g_special o (pc := 37) a1 [x, (.int c), (.int b2), (.int b3), (.int b4), (.int p1), (.int p2), (.int p3), y] [(.ref a1)] d_prog_12_method_4_37 rfl (wd_71 hw) (wd_39 hw) (wd_40 hw) (by decide) (Met.back o (W := 1) (rm_init C.l Z a0 hw n0 h2 q24 a1 x c b2 b3 b4 p1 p2 p3 y hx hy zc z2 z3 z4 A5 F7 F8 F9 F10 F11 F12 F13 F14 F15 (ge_new ha3 X0)) (wd_40 hw) (wd_37 hw) (by decide) (by decide)) (fun _ _ _ q => q) (Or.inl hE) pd_2 rfl rfl rfl rfl (by decide) (by decide) fun v25 h26 q27 => ?_
  obtain ⟨rfl, K28, A29, F30, F31, F32, F33, F34, F35, F36, F37, F38⟩ := q27
  show Go C Z n0 (fun v h => Keep h0 h [] ∧ ∃ r, v = some (.ref r) ∧ Exa Z h r "com/example/libpersist/libpersist/core/model/Column" ∧ Fld Z h r "com/example/libpersist/libpersist/core/model/Column" "name" "Ljava/lang/String;" x ∧ Fld Z h r "com/example/libpersist/libpersist/core/model/Column" "nullable" "Z" (.int c) ∧ Fld Z h r "com/example/libpersist/libpersist/core/model/Column" "unique" "Z" (.int b2) ∧ Fld Z h r "com/example/libpersist/libpersist/core/model/Column" "insertable" "Z" (.int b3) ∧ Fld Z h r "com/example/libpersist/libpersist/core/model/Column" "updatable" "Z" (.int b4) ∧ Fld Z h r "com/example/libpersist/libpersist/core/model/Column" "length" "I" (.int p1) ∧ Fld Z h r "com/example/libpersist/libpersist/core/model/Column" "precision" "I" (.int p2) ∧ Fld Z h r "com/example/libpersist/libpersist/core/model/Column" "scale" "I" (.int p3) ∧ Fld Z h r "com/example/libpersist/libpersist/core/model/Column" "definition" "Ljava/lang/String;" y) [] h26 1 9 40 #[.val (.ref a), .val (.int c)] [(.ref a1)]
  refine g_areturn o (pc := 40) rfl rfl d_prog_12_method_4_40 ?_ (by decide) (by decide)
  exact ⟨(((Keep.refl _ []).ext E4).trans K28 (allS (Or.inr (keep_new ha3 (Keep.refl _ []))) all0)), a1, rfl, A29, F30, F31, F32, F33, F34, F35, F36, F37, F38⟩
set_option maxRecDepth 65536 in
set_option maxHeartbeats 40000000 in
theorem rm_g_name (l : Launch) (Z : State) (a0 : Array Value) (hw : ∀ d ∈ tables_1, d.before a0 Z = true) (n0 : Nat) (h0 : Heap) (X0 : Old Z n0 h0) (a : Addr) (x : Value) (hx : x.isRef = true) (F : Fld Z h0 a "com/example/libpersist/libpersist/core/model/Column" "name" "Ljava/lang/String;" x) :
    Met l Z n0 (⟨"com/example/libpersist/libpersist/core/model/Column", "name", "()Ljava/lang/String;"⟩ : MethodName) prog_12_method_11_code 1 (some (.object "java/lang/String")) ({ frames := 0, cells := 0, slots := 0, locals := 0 } : Room) #[(.ref a)] h0 (fun v h => v = some x ∧ h = h0) := by
  refine met_of pn_2 hw (L := #[.val (.ref a)]) (fun m => by first | (simp [entryFrame, mkF, argsToLocals, Value.category]; done) | rfl) fun C hl hwd hE o => ?_
  subst hl
  have o : Ok C Z a0 prog_12_method_11_code 1 (some (.object "java/lang/String")) "name" "com/example/libpersist/libpersist/core/model/Column" ({ frames := 0, cells := 0, slots := 0, locals := 0 } : Room) := o
  refine g_aload_n o (pc := 0) d_prog_12_method_11_0 rfl rfl ?_
  refine g_getF o (pc := 1) d_prog_12_method_11_1 (wd_47 hw) Via.refl F ?_
  refine g_areturn o (pc := 4) rfl hx d_prog_12_method_11_4 ?_ (by decide) (by decide)
  exact ⟨rfl, rfl⟩
set_option maxRecDepth 65536 in
set_option maxHeartbeats 40000000 in
theorem rm_g_nullable (l : Launch) (Z : State) (a0 : Array Value) (hw : ∀ d ∈ tables_1, d.before a0 Z = true) (n0 : Nat) (h0 : Heap) (X0 : Old Z n0 h0) (a : Addr) (b1 : Int32) (z : nar .boolean b1 = b1) (F : Fld Z h0 a "com/example/libpersist/libpersist/core/model/Column" "nullable" "Z" (.int b1)) :
    Met l Z n0 (⟨"com/example/libpersist/libpersist/core/model/Column", "nullable", "()Z"⟩ : MethodName) prog_12_method_12_code 1 (some .boolean) ({ frames := 0, cells := 0, slots := 0, locals := 0 } : Room) #[(.ref a)] h0 (fun v h => v = some (.int b1) ∧ h = h0) := by
  refine met_of pn_2 hw (L := #[.val (.ref a)]) (fun m => by first | (simp [entryFrame, mkF, argsToLocals, Value.category]; done) | rfl) fun C hl hwd hE o => ?_
  subst hl
  have o : Ok C Z a0 prog_12_method_12_code 1 (some .boolean) "nullable" "com/example/libpersist/libpersist/core/model/Column" ({ frames := 0, cells := 0, slots := 0, locals := 0 } : Room) := o
  refine g_aload_n o (pc := 0) d_prog_12_method_12_0 rfl rfl ?_
  refine g_getF o (pc := 1) d_prog_12_method_12_1 (wd_49 hw) Via.refl F ?_
  refine g_nreturn o (pc := 4) (by simp) d_prog_12_method_12_4 (y := b1) z ?_ (by decide) (by decide)
  exact ⟨rfl, rfl⟩
set_option maxRecDepth 65536 in
set_option maxHeartbeats 40000000 in
theorem rm_g_unique (l : Launch) (Z : State) (a0 : Array Value) (hw : ∀ d ∈ tables_1, d.before a0 Z = true) (n0 : Nat) (h0 : Heap) (X0 : Old Z n0 h0) (a : Addr) (b2 : Int32) (z : nar .boolean b2 = b2) (F : Fld Z h0 a "com/example/libpersist/libpersist/core/model/Column" "unique" "Z" (.int b2)) :
    Met l Z n0 (⟨"com/example/libpersist/libpersist/core/model/Column", "unique", "()Z"⟩ : MethodName) prog_12_method_13_code 1 (some .boolean) ({ frames := 0, cells := 0, slots := 0, locals := 0 } : Room) #[(.ref a)] h0 (fun v h => v = some (.int b2) ∧ h = h0) := by
  refine met_of pn_2 hw (L := #[.val (.ref a)]) (fun m => by first | (simp [entryFrame, mkF, argsToLocals, Value.category]; done) | rfl) fun C hl hwd hE o => ?_
  subst hl
  have o : Ok C Z a0 prog_12_method_13_code 1 (some .boolean) "unique" "com/example/libpersist/libpersist/core/model/Column" ({ frames := 0, cells := 0, slots := 0, locals := 0 } : Room) := o
  refine g_aload_n o (pc := 0) d_prog_12_method_13_0 rfl rfl ?_
  refine g_getF o (pc := 1) d_prog_12_method_13_1 (wd_51 hw) Via.refl F ?_
  refine g_nreturn o (pc := 4) (by simp) d_prog_12_method_13_4 (y := b2) z ?_ (by decide) (by decide)
  exact ⟨rfl, rfl⟩
set_option maxRecDepth 65536 in
set_option maxHeartbeats 40000000 in
theorem rm_g_insertable (l : Launch) (Z : State) (a0 : Array Value) (hw : ∀ d ∈ tables_1, d.before a0 Z = true) (n0 : Nat) (h0 : Heap) (X0 : Old Z n0 h0) (a : Addr) (b3 : Int32) (z : nar .boolean b3 = b3) (F : Fld Z h0 a "com/example/libpersist/libpersist/core/model/Column" "insertable" "Z" (.int b3)) :
    Met l Z n0 (⟨"com/example/libpersist/libpersist/core/model/Column", "insertable", "()Z"⟩ : MethodName) prog_12_method_14_code 1 (some .boolean) ({ frames := 0, cells := 0, slots := 0, locals := 0 } : Room) #[(.ref a)] h0 (fun v h => v = some (.int b3) ∧ h = h0) := by
  refine met_of pn_2 hw (L := #[.val (.ref a)]) (fun m => by first | (simp [entryFrame, mkF, argsToLocals, Value.category]; done) | rfl) fun C hl hwd hE o => ?_
  subst hl
  have o : Ok C Z a0 prog_12_method_14_code 1 (some .boolean) "insertable" "com/example/libpersist/libpersist/core/model/Column" ({ frames := 0, cells := 0, slots := 0, locals := 0 } : Room) := o
  refine g_aload_n o (pc := 0) d_prog_12_method_14_0 rfl rfl ?_
  refine g_getF o (pc := 1) d_prog_12_method_14_1 (wd_53 hw) Via.refl F ?_
  refine g_nreturn o (pc := 4) (by simp) d_prog_12_method_14_4 (y := b3) z ?_ (by decide) (by decide)
  exact ⟨rfl, rfl⟩
set_option maxRecDepth 65536 in
set_option maxHeartbeats 40000000 in
theorem rm_g_updatable (l : Launch) (Z : State) (a0 : Array Value) (hw : ∀ d ∈ tables_1, d.before a0 Z = true) (n0 : Nat) (h0 : Heap) (X0 : Old Z n0 h0) (a : Addr) (b4 : Int32) (z : nar .boolean b4 = b4) (F : Fld Z h0 a "com/example/libpersist/libpersist/core/model/Column" "updatable" "Z" (.int b4)) :
    Met l Z n0 (⟨"com/example/libpersist/libpersist/core/model/Column", "updatable", "()Z"⟩ : MethodName) prog_12_method_15_code 1 (some .boolean) ({ frames := 0, cells := 0, slots := 0, locals := 0 } : Room) #[(.ref a)] h0 (fun v h => v = some (.int b4) ∧ h = h0) := by
  refine met_of pn_2 hw (L := #[.val (.ref a)]) (fun m => by first | (simp [entryFrame, mkF, argsToLocals, Value.category]; done) | rfl) fun C hl hwd hE o => ?_
  subst hl
  have o : Ok C Z a0 prog_12_method_15_code 1 (some .boolean) "updatable" "com/example/libpersist/libpersist/core/model/Column" ({ frames := 0, cells := 0, slots := 0, locals := 0 } : Room) := o
  refine g_aload_n o (pc := 0) d_prog_12_method_15_0 rfl rfl ?_
  refine g_getF o (pc := 1) d_prog_12_method_15_1 (wd_55 hw) Via.refl F ?_
  refine g_nreturn o (pc := 4) (by simp) d_prog_12_method_15_4 (y := b4) z ?_ (by decide) (by decide)
  exact ⟨rfl, rfl⟩
set_option maxRecDepth 65536 in
set_option maxHeartbeats 40000000 in
theorem rm_g_length (l : Launch) (Z : State) (a0 : Array Value) (hw : ∀ d ∈ tables_1, d.before a0 Z = true) (n0 : Nat) (h0 : Heap) (X0 : Old Z n0 h0) (a : Addr) (p1 : Int32) (F : Fld Z h0 a "com/example/libpersist/libpersist/core/model/Column" "length" "I" (.int p1)) :
    Met l Z n0 (⟨"com/example/libpersist/libpersist/core/model/Column", "length", "()I"⟩ : MethodName) prog_12_method_16_code 1 (some .int) ({ frames := 0, cells := 0, slots := 0, locals := 0 } : Room) #[(.ref a)] h0 (fun v h => v = some (.int p1) ∧ h = h0) := by
  refine met_of pn_2 hw (L := #[.val (.ref a)]) (fun m => by first | (simp [entryFrame, mkF, argsToLocals, Value.category]; done) | rfl) fun C hl hwd hE o => ?_
  subst hl
  have o : Ok C Z a0 prog_12_method_16_code 1 (some .int) "length" "com/example/libpersist/libpersist/core/model/Column" ({ frames := 0, cells := 0, slots := 0, locals := 0 } : Room) := o
  refine g_aload_n o (pc := 0) d_prog_12_method_16_0 rfl rfl ?_
  refine g_getF o (pc := 1) d_prog_12_method_16_1 (wd_57 hw) Via.refl F ?_
  refine g_ireturn o (pc := 4) d_prog_12_method_16_4 ?_ (by decide) (by decide)
  exact ⟨rfl, rfl⟩
set_option maxRecDepth 65536 in
set_option maxHeartbeats 40000000 in
theorem rm_g_precision (l : Launch) (Z : State) (a0 : Array Value) (hw : ∀ d ∈ tables_1, d.before a0 Z = true) (n0 : Nat) (h0 : Heap) (X0 : Old Z n0 h0) (a : Addr) (p2 : Int32) (F : Fld Z h0 a "com/example/libpersist/libpersist/core/model/Column" "precision" "I" (.int p2)) :
    Met l Z n0 (⟨"com/example/libpersist/libpersist/core/model/Column", "precision", "()I"⟩ : MethodName) prog_12_method_17_code 1 (some .int) ({ frames := 0, cells := 0, slots := 0, locals := 0 } : Room) #[(.ref a)] h0 (fun v h => v = some (.int p2) ∧ h = h0) := by
  refine met_of pn_2 hw (L := #[.val (.ref a)]) (fun m => by first | (simp [entryFrame, mkF, argsToLocals, Value.category]; done) | rfl) fun C hl hwd hE o => ?_
  subst hl
  have o : Ok C Z a0 prog_12_method_17_code 1 (some .int) "precision" "com/example/libpersist/libpersist/core/model/Column" ({ frames := 0, cells := 0, slots := 0, locals := 0 } : Room) := o
  refine g_aload_n o (pc := 0) d_prog_12_method_17_0 rfl rfl ?_
  refine g_getF o (pc := 1) d_prog_12_method_17_1 (wd_59 hw) Via.refl F ?_
  refine g_ireturn o (pc := 4) d_prog_12_method_17_4 ?_ (by decide) (by decide)
  exact ⟨rfl, rfl⟩
set_option maxRecDepth 65536 in
set_option maxHeartbeats 40000000 in
theorem rm_g_scale (l : Launch) (Z : State) (a0 : Array Value) (hw : ∀ d ∈ tables_1, d.before a0 Z = true) (n0 : Nat) (h0 : Heap) (X0 : Old Z n0 h0) (a : Addr) (p3 : Int32) (F : Fld Z h0 a "com/example/libpersist/libpersist/core/model/Column" "scale" "I" (.int p3)) :
    Met l Z n0 (⟨"com/example/libpersist/libpersist/core/model/Column", "scale", "()I"⟩ : MethodName) prog_12_method_18_code 1 (some .int) ({ frames := 0, cells := 0, slots := 0, locals := 0 } : Room) #[(.ref a)] h0 (fun v h => v = some (.int p3) ∧ h = h0) := by
  refine met_of pn_2 hw (L := #[.val (.ref a)]) (fun m => by first | (simp [entryFrame, mkF, argsToLocals, Value.category]; done) | rfl) fun C hl hwd hE o => ?_
  subst hl
  have o : Ok C Z a0 prog_12_method_18_code 1 (some .int) "scale" "com/example/libpersist/libpersist/core/model/Column" ({ frames := 0, cells := 0, slots := 0, locals := 0 } : Room) := o
  refine g_aload_n o (pc := 0) d_prog_12_method_18_0 rfl rfl ?_
  refine g_getF o (pc := 1) d_prog_12_method_18_1 (wd_61 hw) Via.refl F ?_
  refine g_ireturn o (pc := 4) d_prog_12_method_18_4 ?_ (by decide) (by decide)
  exact ⟨rfl, rfl⟩
set_option maxRecDepth 65536 in
set_option maxHeartbeats 40000000 in
theorem rm_g_definition (l : Launch) (Z : State) (a0 : Array Value) (hw : ∀ d ∈ tables_1, d.before a0 Z = true) (n0 : Nat) (h0 : Heap) (X0 : Old Z n0 h0) (a : Addr) (y : Value) (hy : y.isRef = true) (F : Fld Z h0 a "com/example/libpersist/libpersist/core/model/Column" "definition" "Ljava/lang/String;" y) :
    Met l Z n0 (⟨"com/example/libpersist/libpersist/core/model/Column", "definition", "()Ljava/lang/String;"⟩ : MethodName) prog_12_method_19_code 1 (some (.object "java/lang/String")) ({ frames := 0, cells := 0, slots := 0, locals := 0 } : Room) #[(.ref a)] h0 (fun v h => v = some y ∧ h = h0) := by
  refine met_of pn_2 hw (L := #[.val (.ref a)]) (fun m => by first | (simp [entryFrame, mkF, argsToLocals, Value.category]; done) | rfl) fun C hl hwd hE o => ?_
  subst hl
  have o : Ok C Z a0 prog_12_method_19_code 1 (some (.object "java/lang/String")) "definition" "com/example/libpersist/libpersist/core/model/Column" ({ frames := 0, cells := 0, slots := 0, locals := 0 } : Room) := o
  refine g_aload_n o (pc := 0) d_prog_12_method_19_0 rfl rfl ?_
  refine g_getF o (pc := 1) d_prog_12_method_19_1 (wd_63 hw) Via.refl F ?_
  refine g_areturn o (pc := 4) rfl hy d_prog_12_method_19_4 ?_ (by decide) (by decide)
  exact ⟨rfl, rfl⟩
set_option maxRecDepth 65536 in
set_option maxHeartbeats 40000000 in
theorem rm_eqs (l : Launch) (Z : State) (a0 : Array Value) (hw : ∀ d ∈ tables_1, d.before a0 Z = true) (n0 : Nat) (h0 : Heap) (X0 : Old Z n0 h0) (a : Addr)  :
    Met l Z n0 (⟨"java/lang/String", "equals", "(Ljava/lang/Object;)Z"⟩ : MethodName) jdk_42_method_66_code 3 (some .boolean) ({ frames := 0, cells := 0, slots := 0, locals := 0 } : Room) #[(.ref a), (.ref a)] h0 (fun v h => v = some (.int 1) ∧ h = h0) := by
  refine met_of pn_3 hw (L := #[.val (.ref a), .val (.ref a), .unset]) (fun m => by first | (simp [entryFrame, mkF, argsToLocals, Value.category]; done) | rfl) fun C hl hwd hE o => ?_
  subst hl
  have o : Ok C Z a0 jdk_42_method_66_code 3 (some .boolean) "equals" "java/lang/String" ({ frames := 0, cells := 0, slots := 0, locals := 0 } : Room) := o
  refine g_aload_n o (pc := 0) d_jdk_42_method_66_0 rfl rfl ?_
  refine g_aload_n o (pc := 1) d_jdk_42_method_66_1 rfl rfl ?_
  refine g_acmpNe o (pc := 2) d_jdk_42_method_66_2 (t := 7) (by decide) rfl rfl rfl (fun hy1 => absurd rfl hy1) (fun _ => ?_)
  refine g_iconst o (pc := 5) d_jdk_42_method_66_5 (v := 1) rfl ?_
  refine g_nreturn o (pc := 6) (by simp) d_jdk_42_method_66_6 (y := 1) rfl ?_ (by decide) (by decide)
  exact ⟨rfl, rfl⟩
set_option maxRecDepth 65536 in
set_option maxHeartbeats 40000000 in
theorem rm_same0 (l : Launch) (Z : State) (a0 : Array Value) (hw : ∀ d ∈ tables_1, d.before a0 Z = true) (n0 : Nat) (h0 : Heap) (X0 : Old Z n0 h0)   :
    Met l Z n0 (⟨"com/example/libpersist/libpersist/core/model/ColumnWithNullablePinLaw", "same", "(Ljava/lang/String;Ljava/lang/String;)Z"⟩ : MethodName) method_4_code 2 (some .boolean) ({ frames := 0, cells := 0, slots := 0, locals := 0 } : Room) #[.null, .null] h0 (fun v h => v = some (.int 1) ∧ h = h0) := by
  refine met_of pn_0 hw (L := #[.val .null, .val .null]) (fun m => by first | (simp [entryFrame, mkF, argsToLocals, Value.category]; done) | rfl) fun C hl hwd hE o => ?_
  subst hl
  have o : Ok C Z a0 method_4_code 2 (some .boolean) "same" "com/example/libpersist/libpersist/core/model/ColumnWithNullablePinLaw" ({ frames := 0, cells := 0, slots := 0, locals := 0 } : Room) := o
  refine g_aload_n o (pc := 0) d_method_4_0 rfl rfl ?_
  refine g_ifnonnullN o (pc := 1) d_method_4_1 ?_
  refine g_aload_n o (pc := 4) d_method_4_4 rfl rfl ?_
  refine g_ifnonnullN o (pc := 5) d_method_4_5 ?_
  refine g_iconst o (pc := 8) d_method_4_8 (v := 1) rfl ?_
  refine g_goto o (pc := 9) d_method_4_9 (t := 13) (by decide) rfl ?_
  refine g_nreturn o (pc := 13) (by simp) d_method_4_13 (y := 1) rfl ?_ (by decide) (by decide)
  exact ⟨rfl, rfl⟩
set_option maxRecDepth 65536 in
set_option maxHeartbeats 40000000 in
theorem rm_same1 (l : Launch) (Z : State) (a0 : Array Value) (hw : ∀ d ∈ tables_1, d.before a0 Z = true) (n0 : Nat) (h0 : Heap) (X0 : Old Z n0 h0) (a : Addr) (cs : List Int32) (zc : Int32) (Sc : Sta Z Z.heap "java/lang/String" "COMPACT_STRINGS" "Z" (.int zc)) (nzc : ¬ zc = 0) (St : Str Z h0 a cs) (Ea : Exa Z h0 a "java/lang/String") (ll : cs.length ≤ 4000) :
    Met l Z n0 (⟨"com/example/libpersist/libpersist/core/model/ColumnWithNullablePinLaw", "same", "(Ljava/lang/String;Ljava/lang/String;)Z"⟩ : MethodName) method_4_code 2 (some .boolean) ({ frames := 1, cells := 0, slots := 0, locals := 14 } : Room) #[(.ref a), (.ref a)] h0 (fun v h => v = some (.int 1) ∧ h = h0) := by
  refine met_of pn_0 hw (L := #[.val (.ref a), .val (.ref a)]) (fun m => by first | (simp [entryFrame, mkF, argsToLocals, Value.category]; done) | rfl) fun C hl hwd hE o => ?_
  subst hl
  have o : Ok C Z a0 method_4_code 2 (some .boolean) "same" "com/example/libpersist/libpersist/core/model/ColumnWithNullablePinLaw" ({ frames := 1, cells := 0, slots := 0, locals := 14 } : Room) := o
  refine g_aload_n o (pc := 0) d_method_4_0 rfl rfl ?_
  refine g_ifnonnullY o (pc := 1) d_method_4_1 (t := 14) (by decide) rfl ?_
  refine g_aload_n o (pc := 14) d_method_4_14 rfl rfl ?_
  refine g_aload_n o (pc := 15) d_method_4_15 rfl rfl ?_
  refine g_virtual o (pc := 16) a [(.ref a)] [] d_method_4_16 (wd_115 hw) (wd_116 hw) (wd_118 hw) (wd_117 hw) (fun _ q => notFace_of_selects q) (by decide) Ea (Met.back o (W := 0) (rm_eqs C.l Z a0 hw n0 h0 X0 a ) (wd_119 hw) (wd_8 hw) (by decide) (by decide)) (fun _ _ _ q => q) (Or.inl hE) pd_3 rfl rfl rfl rfl (by decide) (by decide) fun v1 h2 q3 => ?_
  obtain ⟨rfl, hh⟩ := q3
  obtain rfl := hh.symm
  show Go C Z n0 (fun v h => v = some (.int 1) ∧ h = h0) [] h0 0 0 19 #[.val (.ref a), .val (.ref a)] [(.int 1)]
  refine g_nreturn o (pc := 19) (by simp) d_method_4_19 (y := 1) rfl ?_ (by decide) (by decide)
  exact ⟨rfl, rfl⟩
set_option maxRecDepth 65536 in
set_option maxHeartbeats 40000000 in
theorem bl_101 {C : Cx} {Z : State} {a0 : Array Value} (hw : ∀ d ∈ tables_1, d.before a0 Z = true) (hE : C.EL = []) (hwd : C.wide = false) (n0 : Nat) (o : Ok C Z a0 code 17 (some .boolean) "law" "com/example/libpersist/libpersist/core/model/ColumnWithNullablePinLaw" ({ frames := 8, cells := 24, slots := 192, locals := 208 } : Room)) (h0 : Heap) (X0 : Old Z n0 h0) (p0 : Int32) (p1 : Int32) (p2 : Int32) (p3 : Int32) (q4 : Int64) (q5 : Int64) (b1 : Int32) (b2 : Int32) (b3 : Int32) (b4 : Int32) (c : Int32) (zc : Int32) (x : Value) (y : Value) (Sc : Sta Z Z.heap "java/lang/String" "COMPACT_STRINGS" "Z" (.int zc)) (nzc : ¬ zc = 0) (z_b1 : nar .boolean b1 = b1) (z_b2 : nar .boolean b2 = b2) (z_b3 : nar .boolean b3 = b3) (z_b4 : nar .boolean b4 = b4) (z_c : nar .boolean c = c) (hx : x.isRef = true) (hy : y.isRef = true) (Sx : SV Z h0 x) (Sy : SV Z h0 y) :
    Go C Z n0 (fun v _ => v = some (.int 1)) [] h0 6 16 101 #[.val (.int p0), .val (.int p1), .val (.int p2), .val (.int p3), .val (.long q4), .second, .val (.long q5), .second, .val (.int b1), .val (.int b2), .val (.int b3), .val (.int b4), .val (.int c), .val x, .unset, .unset, .unset] [y] := by
  refine g_astore o (pc := 101) at_101 hy (L' := #[.val (.int p0), .val (.int p1), .val (.int p2), .val (.int p3), .val (.long q4), .second, .val (.long q5), .second, .val (.int b1), .val (.int b2), .val (.int b3), .val (.int b4), .val (.int c), .val x, .val y, .unset, .unset]) (store_cat rfl (Or.inl rfl) (cat_ref hy) rfl) ?_
  refine g_new o (pc := 103) at_103 (wd_35 hw) (wd_36 hw) (wd_37 hw) (by decide) (by decide) (M' := fun _ => []) (fun _ _ q => nomatch q) fun a1 h2 ha3 E4 A5 D6 => ?_
  have F7 : Fld Z h2 a1 "com/example/libpersist/libpersist/core/model/Column" "name" "Ljava/lang/String;" .null := D6 (Or.inr (wd_48 hw)) (ty := (.object "java/lang/String")) (by decide)
  have F8 : Fld Z h2 a1 "com/example/libpersist/libpersist/core/model/Column" "nullable" "Z" (.int 0) := D6 (Or.inr (wd_50 hw)) (ty := .boolean) (by decide)
  have F9 : Fld Z h2 a1 "com/example/libpersist/libpersist/core/model/Column" "unique" "Z" (.int 0) := D6 (Or.inr (wd_52 hw)) (ty := .boolean) (by decide)
  have F10 : Fld Z h2 a1 "com/example/libpersist/libpersist/core/model/Column" "insertable" "Z" (.int 0) := D6 (Or.inr (wd_54 hw)) (ty := .boolean) (by decide)
  have F11 : Fld Z h2 a1 "com/example/libpersist/libpersist/core/model/Column" "updatable" "Z" (.int 0) := D6 (Or.inr (wd_56 hw)) (ty := .boolean) (by decide)
  have F12 : Fld Z h2 a1 "com/example/libpersist/libpersist/core/model/Column" "length" "I" (.int 0) := D6 (Or.inr (wd_58 hw)) (ty := .int) (by decide)
  have F13 : Fld Z h2 a1 "com/example/libpersist/libpersist/core/model/Column" "precision" "I" (.int 0) := D6 (Or.inr (wd_60 hw)) (ty := .int) (by decide)
  have F14 : Fld Z h2 a1 "com/example/libpersist/libpersist/core/model/Column" "scale" "I" (.int 0) := D6 (Or.inr (wd_62 hw)) (ty := .int) (by decide)
  have F15 : Fld Z h2 a1 "com/example/libpersist/libpersist/core/model/Column" "definition" "Ljava/lang/String;" .null := D6 (Or.inr (wd_64 hw)) (ty := (.object "java/lang/String")) (by decide)
  refine g_dup o (pc := 106) at_106 rfl ?_
  refine g_aload o (pc := 107) at_107 rfl hx ?_
  refine g_iload o (pc := 109) at_109 rfl ?_
  refine g_iload o (pc := 111) at_111 rfl ?_
  refine g_iload o (pc := 113) at_113 rfl ?_
  refine g_iload o (pc := 115) at_115 rfl ?_
  refine g_iload_n o (pc := 117) at_117 rfl ?_
  refine g_iload_n o (pc := 118) at_118 rfl ?_
  refine g_iload_n o (pc := 119) at_119 rfl ?_
  refine g_aload o (pc := 120) at_120 rfl hy ?_
  have q16 := (X0.ext E4)
  refine g_special o (pc := 122) a1 [x, (.int b1), (.int b2), (.int b3), (.int b4), (.int p1), (.int p2), (.int p3), y] [(.ref a1)] at_122 rfl (wd_38 hw) (wd_39 hw) (wd_40 hw) (by decide) (Met.back o (W := 1) (rm_init C.l Z a0 hw n0 h2 q16 a1 x b1 b2 b3 b4 p1 p2 p3 y hx hy z_b1 z_b2 z_b3 z_b4 A5 F7 F8 F9 F10 F11 F12 F13 F14 F15 (ge_new ha3 X0)) (wd_40 hw) (wd_37 hw) (by decide) (by decide)) (fun _ _ _ q => q) (Or.inl hE) pd_2 rfl rfl rfl rfl (by decide) (by decide) fun v17 h18 q19 => ?_
  obtain ⟨rfl, K20, A21, F22, F23, F24, F25, F26, F27, F28, F29, F30⟩ := q19
  show Go C Z n0 (fun v _ => v = some (.int 1)) [] h18 7 25 125 #[.val (.int p0), .val (.int p1), .val (.int p2), .val (.int p3), .val (.long q4), .second, .val (.long q5), .second, .val (.int b1), .val (.int b2), .val (.int b3), .val (.int b4), .val (.int c), .val x, .val y, .unset, .unset] [(.ref a1)]
  refine g_astore o (pc := 125) at_125 rfl (L' := #[.val (.int p0), .val (.int p1), .val (.int p2), .val (.int p3), .val (.long q4), .second, .val (.long q5), .second, .val (.int b1), .val (.int b2), .val (.int b3), .val (.int b4), .val (.int c), .val x, .val y, .val (.ref a1), .unset]) rfl ?_
  refine g_aload o (pc := 127) at_127 rfl rfl ?_
  refine g_iload o (pc := 129) at_129 rfl ?_
  have q31 := (q16.keep K20 (allS (ge_new ha3 X0) all0))
  refine g_virtual o (pc := 131) a1 [(.int c)] [] at_131 (wd_65 hw) (wd_66 hw) (wd_68 hw) (wd_67 hw) (fun _ q => notFace_of_selects q) (by decide) A21 (Met.back o (W := 0) (rm_wn C.l Z a0 hw n0 h18 q31 a1 c x b1 b2 b3 b4 p1 p2 p3 y hx hy z_b1 z_b2 z_b3 z_b4 z_c F22 F23 F24 F25 F26 F27 F28 F29 F30) (wd_69 hw) (wd_37 hw) (by decide) (by decide)) (fun _ _ _ q => q) (Or.inl hE) pd_4 rfl rfl rfl rfl (by decide) (by decide) fun v32 h33 q34 => ?_
  obtain ⟨K35, r37, rfl, A36, F38, F39, F40, F41, F42, F43, F44, F45, F46⟩ := q34
  show Go C Z n0 (fun v _ => v = some (.int 1)) [] h33 8 34 134 #[.val (.int p0), .val (.int p1), .val (.int p2), .val (.int p3), .val (.long q4), .second, .val (.long q5), .second, .val (.int b1), .val (.int b2), .val (.int b3), .val (.int b4), .val (.int c), .val x, .val y, .val (.ref a1), .unset] [(.ref r37)]
  refine g_astore o (pc := 134) at_134 rfl (L' := #[.val (.int p0), .val (.int p1), .val (.int p2), .val (.int p3), .val (.long q4), .second, .val (.long q5), .second, .val (.int b1), .val (.int b2), .val (.int b3), .val (.int b4), .val (.int c), .val x, .val y, .val (.ref a1), .val (.ref r37)]) rfl ?_
  refine g_aload o (pc := 136) at_136 rfl rfl ?_
  have q47 := (q31.keep K35 all0)
  refine g_virtual o (pc := 138) r37 [] [] at_138 (wd_72 hw) (wd_73 hw) (wd_75 hw) (wd_74 hw) (fun _ q => notFace_of_selects q) (by decide) A36 (Met.back o (W := 0) (rm_g_nullable C.l Z a0 hw n0 h33 q47 r37 c z_c F39) (wd_76 hw) (wd_37 hw) (by decide) (by decide)) (fun _ _ _ q => q) (Or.inl hE) pd_5 rfl rfl rfl rfl (by decide) (by decide) fun v48 h49 q50 => ?_
  obtain ⟨rfl, hh⟩ := q50
  obtain rfl := hh.symm
  show Go C Z n0 (fun v _ => v = some (.int 1)) [] h33 8 34 141 #[.val (.int p0), .val (.int p1), .val (.int p2), .val (.int p3), .val (.long q4), .second, .val (.long q5), .second, .val (.int b1), .val (.int b2), .val (.int b3), .val (.int b4), .val (.int c), .val x, .val y, .val (.ref a1), .val (.ref r37)] [(.int c)]
  refine g_iload o (pc := 141) at_141 rfl ?_
  refine g_icmpN o (pc := 143) at_143 (t := 233) (by decide) rfl c_ne (fun hy51 => absurd rfl hy51) (fun _ => ?_)
  refine g_aload o (pc := 146) at_146 rfl rfl ?_
  refine g_virtual o (pc := 148) r37 [] [] at_148 (wd_77 hw) (wd_78 hw) (wd_80 hw) (wd_79 hw) (fun _ q => notFace_of_selects q) (by decide) A36 (Met.back o (W := 0) (rm_g_unique C.l Z a0 hw n0 h33 q47 r37 b2 z_b2 F40) (wd_81 hw) (wd_37 hw) (by decide) (by decide)) (fun _ _ _ q => q) (Or.inl hE) pd_5 rfl rfl rfl rfl (by decide) (by decide) fun v52 h53 q54 => ?_
  obtain ⟨rfl, hh⟩ := q54
  obtain rfl := hh.symm
  show Go C Z n0 (fun v _ => v = some (.int 1)) [] h33 8 34 151 #[.val (.int p0), .val (.int p1), .val (.int p2), .val (.int p3), .val (.long q4), .second, .val (.long q5), .second, .val (.int b1), .val (.int b2), .val (.int b3), .val (.int b4), .val (.int c), .val x, .val y, .val (.ref a1), .val (.ref r37)] [(.int b2)]
  refine g_iload o (pc := 151) at_151 rfl ?_
  refine g_icmpN o (pc := 153) at_153 (t := 233) (by decide) rfl c_ne (fun hy55 => absurd rfl hy55) (fun _ => ?_)
  refine g_aload o (pc := 156) at_156 rfl rfl ?_
  refine g_virtual o (pc := 158) r37 [] [] at_158 (wd_82 hw) (wd_83 hw) (wd_85 hw) (wd_84 hw) (fun _ q => notFace_of_selects q) (by decide) A36 (Met.back o (W := 0) (rm_g_insertable C.l Z a0 hw n0 h33 q47 r37 b3 z_b3 F41) (wd_86 hw) (wd_37 hw) (by decide) (by decide)) (fun _ _ _ q => q) (Or.inl hE) pd_5 rfl rfl rfl rfl (by decide) (by decide) fun v56 h57 q58 => ?_
  obtain ⟨rfl, hh⟩ := q58
  obtain rfl := hh.symm
  show Go C Z n0 (fun v _ => v = some (.int 1)) [] h33 8 34 161 #[.val (.int p0), .val (.int p1), .val (.int p2), .val (.int p3), .val (.long q4), .second, .val (.long q5), .second, .val (.int b1), .val (.int b2), .val (.int b3), .val (.int b4), .val (.int c), .val x, .val y, .val (.ref a1), .val (.ref r37)] [(.int b3)]
  refine g_iload o (pc := 161) at_161 rfl ?_
  refine g_icmpN o (pc := 163) at_163 (t := 233) (by decide) rfl c_ne (fun hy59 => absurd rfl hy59) (fun _ => ?_)
  refine g_aload o (pc := 166) at_166 rfl rfl ?_
  refine g_virtual o (pc := 168) r37 [] [] at_168 (wd_87 hw) (wd_88 hw) (wd_90 hw) (wd_89 hw) (fun _ q => notFace_of_selects q) (by decide) A36 (Met.back o (W := 0) (rm_g_updatable C.l Z a0 hw n0 h33 q47 r37 b4 z_b4 F42) (wd_91 hw) (wd_37 hw) (by decide) (by decide)) (fun _ _ _ q => q) (Or.inl hE) pd_5 rfl rfl rfl rfl (by decide) (by decide) fun v60 h61 q62 => ?_
  obtain ⟨rfl, hh⟩ := q62
  obtain rfl := hh.symm
  show Go C Z n0 (fun v _ => v = some (.int 1)) [] h33 8 34 171 #[.val (.int p0), .val (.int p1), .val (.int p2), .val (.int p3), .val (.long q4), .second, .val (.long q5), .second, .val (.int b1), .val (.int b2), .val (.int b3), .val (.int b4), .val (.int c), .val x, .val y, .val (.ref a1), .val (.ref r37)] [(.int b4)]
  refine g_iload o (pc := 171) at_171 rfl ?_
  refine g_icmpN o (pc := 173) at_173 (t := 233) (by decide) rfl c_ne (fun hy63 => absurd rfl hy63) (fun _ => ?_)
  refine g_aload o (pc := 176) at_176 rfl rfl ?_
  refine g_virtual o (pc := 178) r37 [] [] at_178 (wd_92 hw) (wd_93 hw) (wd_95 hw) (wd_94 hw) (fun _ q => notFace_of_selects q) (by decide) A36 (Met.back o (W := 0) (rm_g_length C.l Z a0 hw n0 h33 q47 r37 p1 F43) (wd_96 hw) (wd_37 hw) (by decide) (by decide)) (fun _ _ _ q => q) (Or.inl hE) pd_6 rfl rfl rfl rfl (by decide) (by decide) fun v64 h65 q66 => ?_
  obtain ⟨rfl, hh⟩ := q66
  obtain rfl := hh.symm
  show Go C Z n0 (fun v _ => v = some (.int 1)) [] h33 8 34 181 #[.val (.int p0), .val (.int p1), .val (.int p2), .val (.int p3), .val (.long q4), .second, .val (.long q5), .second, .val (.int b1), .val (.int b2), .val (.int b3), .val (.int b4), .val (.int c), .val x, .val y, .val (.ref a1), .val (.ref r37)] [(.int p1)]
  refine g_iload_n o (pc := 181) at_181 rfl ?_
  refine g_icmpN o (pc := 182) at_182 (t := 233) (by decide) rfl c_ne (fun hy67 => absurd rfl hy67) (fun _ => ?_)
  refine g_aload o (pc := 185) at_185 rfl rfl ?_
  refine g_virtual o (pc := 187) r37 [] [] at_187 (wd_97 hw) (wd_98 hw) (wd_100 hw) (wd_99 hw) (fun _ q => notFace_of_selects q) (by decide) A36 (Met.back o (W := 0) (rm_g_precision C.l Z a0 hw n0 h33 q47 r37 p2 F44) (wd_101 hw) (wd_37 hw) (by decide) (by decide)) (fun _ _ _ q => q) (Or.inl hE) pd_6 rfl rfl rfl rfl (by decide) (by decide) fun v68 h69 q70 => ?_
  obtain ⟨rfl, hh⟩ := q70
  obtain rfl := hh.symm
  show Go C Z n0 (fun v _ => v = some (.int 1)) [] h33 8 34 190 #[.val (.int p0), .val (.int p1), .val (.int p2), .val (.int p3), .val (.long q4), .second, .val (.long q5), .second, .val (.int b1), .val (.int b2), .val (.int b3), .val (.int b4), .val (.int c), .val x, .val y, .val (.ref a1), .val (.ref r37)] [(.int p2)]
  refine g_iload_n o (pc := 190) at_190 rfl ?_
  refine g_icmpN o (pc := 191) at_191 (t := 233) (by decide) rfl c_ne (fun hy71 => absurd rfl hy71) (fun _ => ?_)
  refine g_aload o (pc := 194) at_194 rfl rfl ?_
  refine g_virtual o (pc := 196) r37 [] [] at_196 (wd_102 hw) (wd_103 hw) (wd_105 hw) (wd_104 hw) (fun _ q => notFace_of_selects q) (by decide) A36 (Met.back o (W := 0) (rm_g_scale C.l Z a0 hw n0 h33 q47 r37 p3 F45) (wd_106 hw) (wd_37 hw) (by decide) (by decide)) (fun _ _ _ q => q) (Or.inl hE) pd_6 rfl rfl rfl rfl (by decide) (by decide) fun v72 h73 q74 => ?_
  obtain ⟨rfl, hh⟩ := q74
  obtain rfl := hh.symm
  show Go C Z n0 (fun v _ => v = some (.int 1)) [] h33 8 34 199 #[.val (.int p0), .val (.int p1), .val (.int p2), .val (.int p3), .val (.long q4), .second, .val (.long q5), .second, .val (.int b1), .val (.int b2), .val (.int b3), .val (.int b4), .val (.int c), .val x, .val y, .val (.ref a1), .val (.ref r37)] [(.int p3)]
  refine g_iload_n o (pc := 199) at_199 rfl ?_
  refine g_icmpN o (pc := 200) at_200 (t := 233) (by decide) rfl c_ne (fun hy75 => absurd rfl hy75) (fun _ => ?_)
  refine g_aload o (pc := 203) at_203 rfl rfl ?_
  refine g_virtual o (pc := 205) r37 [] [] at_205 (wd_107 hw) (wd_108 hw) (wd_110 hw) (wd_109 hw) (fun _ q => notFace_of_selects q) (by decide) A36 (Met.back o (W := 0) (rm_g_name C.l Z a0 hw n0 h33 q47 r37 x hx F38) (wd_111 hw) (wd_37 hw) (by decide) (by decide)) (fun _ _ _ q => q) (Or.inl hE) pd_7 rfl rfl rfl rfl (by decide) (by decide) fun v76 h77 q78 => ?_
  obtain ⟨rfl, hh⟩ := q78
  obtain rfl := hh.symm
  show Go C Z n0 (fun v _ => v = some (.int 1)) [] h33 8 34 208 #[.val (.int p0), .val (.int p1), .val (.int p2), .val (.int p3), .val (.long q4), .second, .val (.long q5), .second, .val (.int b1), .val (.int b2), .val (.int b3), .val (.int b4), .val (.int c), .val x, .val y, .val (.ref a1), .val (.ref r37)] [x]
  refine g_aload o (pc := 208) at_208 rfl hx ?_
  have q84 := (((Sx.ext E4).keep K20 (allS (Off.exa A5 (by decide) (wd_36 hw)) all0)).keep K35 all0)
  rcases q84 with hv81 | ⟨sa79, cs80, hv81, T82, ll83⟩
  · rw [hv81]
    show Go C Z n0 (fun v _ => v = some (.int 1)) [] h33 8 34 210 #[.val (.int p0), .val (.int p1), .val (.int p2), .val (.int p3), .val (.long q4), .second, .val (.long q5), .second, .val (.int b1), .val (.int b2), .val (.int b3), .val (.int b4), .val (.int c), .val .null, .val y, .val (.ref a1), .val (.ref r37)] [.null, .null]
    refine g_static o (pc := 210) [.null, .null] [] at_210 (wd_112 hw) (wd_113 hw) (wd_2 hw) (wd_114 hw) (by decide) (Met.back o (W := 0) (rm_same0 C.l Z a0 hw n0 h33 q47  ) (wd_114 hw) (wd_2 hw) (by decide) (by decide)) (fun _ _ _ q => q) (Or.inl hE) pd_8 rfl rfl rfl rfl (by decide) (by decide) fun v85 h86 q87 => ?_
    obtain ⟨rfl, hh⟩ := q87
    obtain rfl := hh.symm
    show Go C Z n0 (fun v _ => v = some (.int 1)) [] h33 8 34 213 #[.val (.int p0), .val (.int p1), .val (.int p2), .val (.int p3), .val (.long q4), .second, .val (.long q5), .second, .val (.int b1), .val (.int b2), .val (.int b3), .val (.int b4), .val (.int c), .val .null, .val y, .val (.ref a1), .val (.ref r37)] [(.int 1)]
    refine g_ifC o (pc := 213) at_213 (t := 233) (by decide) rfl c_eq (fun hy88 => absurd hy88 (by decide)) (fun _ => ?_)
    refine g_aload o (pc := 216) at_216 rfl rfl ?_
    refine g_virtual o (pc := 218) r37 [] [] at_218 (wd_120 hw) (wd_121 hw) (wd_123 hw) (wd_122 hw) (fun _ q => notFace_of_selects q) (by decide) A36 (Met.back o (W := 0) (rm_g_definition C.l Z a0 hw n0 h33 q47 r37 y hy F46) (wd_124 hw) (wd_37 hw) (by decide) (by decide)) (fun _ _ _ q => q) (Or.inl hE) pd_7 rfl rfl rfl rfl (by decide) (by decide) fun v89 h90 q91 => ?_
    obtain ⟨rfl, hh⟩ := q91
    obtain rfl := hh.symm
    show Go C Z n0 (fun v _ => v = some (.int 1)) [] h33 8 34 221 #[.val (.int p0), .val (.int p1), .val (.int p2), .val (.int p3), .val (.long q4), .second, .val (.long q5), .second, .val (.int b1), .val (.int b2), .val (.int b3), .val (.int b4), .val (.int c), .val .null, .val y, .val (.ref a1), .val (.ref r37)] [y]
    refine g_aload o (pc := 221) at_221 rfl hy ?_
    have q97 := (((Sy.ext E4).keep K20 (allS (Off.exa A5 (by decide) (wd_36 hw)) all0)).keep K35 all0)
    rcases q97 with hv94 | ⟨sa92, cs93, hv94, T95, ll96⟩
    · rw [hv94]
      show Go C Z n0 (fun v _ => v = some (.int 1)) [] h33 8 34 223 #[.val (.int p0), .val (.int p1), .val (.int p2), .val (.int p3), .val (.long q4), .second, .val (.long q5), .second, .val (.int b1), .val (.int b2), .val (.int b3), .val (.int b4), .val (.int c), .val .null, .val .null, .val (.ref a1), .val (.ref r37)] [.null, .null]
      refine g_static o (pc := 223) [.null, .null] [] at_223 (wd_112 hw) (wd_113 hw) (wd_2 hw) (wd_114 hw) (by decide) (Met.back o (W := 0) (rm_same0 C.l Z a0 hw n0 h33 q47  ) (wd_114 hw) (wd_2 hw) (by decide) (by decide)) (fun _ _ _ q => q) (Or.inl hE) pd_8 rfl rfl rfl rfl (by decide) (by decide) fun v98 h99 q100 => ?_
      obtain ⟨rfl, hh⟩ := q100
      obtain rfl := hh.symm
      show Go C Z n0 (fun v _ => v = some (.int 1)) [] h33 8 34 226 #[.val (.int p0), .val (.int p1), .val (.int p2), .val (.int p3), .val (.long q4), .second, .val (.long q5), .second, .val (.int b1), .val (.int b2), .val (.int b3), .val (.int b4), .val (.int c), .val .null, .val .null, .val (.ref a1), .val (.ref r37)] [(.int 1)]
      refine g_ifC o (pc := 226) at_226 (t := 233) (by decide) rfl c_eq (fun hy101 => absurd hy101 (by decide)) (fun _ => ?_)
      refine g_iconst o (pc := 229) at_229 (v := 1) rfl ?_
      refine g_goto o (pc := 230) at_230 (t := 234) (by decide) rfl ?_
      refine g_nreturn o (pc := 234) (by simp) at_234 (y := 1) rfl ?_ (by decide) (by decide)
      exact rfl
    · rw [hv94]
      show Go C Z n0 (fun v _ => v = some (.int 1)) [] h33 8 34 223 #[.val (.int p0), .val (.int p1), .val (.int p2), .val (.int p3), .val (.long q4), .second, .val (.long q5), .second, .val (.int b1), .val (.int b2), .val (.int b3), .val (.int b4), .val (.int c), .val .null, .val (.ref sa92), .val (.ref a1), .val (.ref r37)] [(.ref sa92), (.ref sa92)]
      refine g_static o (pc := 223) [(.ref sa92), (.ref sa92)] [] at_223 (wd_112 hw) (wd_113 hw) (wd_2 hw) (wd_114 hw) (by decide) (Met.back o (W := 0) (rm_same1 C.l Z a0 hw n0 h33 q47 sa92 cs93 zc Sc nzc T95 T95.exa ll96) (wd_114 hw) (wd_2 hw) (by decide) (by decide)) (fun _ _ _ q => q) (Or.inl hE) pd_8 rfl rfl rfl rfl (by decide) (by decide) fun v102 h103 q104 => ?_
      obtain ⟨rfl, hh⟩ := q104
      obtain rfl := hh.symm
      show Go C Z n0 (fun v _ => v = some (.int 1)) [] h33 8 34 226 #[.val (.int p0), .val (.int p1), .val (.int p2), .val (.int p3), .val (.long q4), .second, .val (.long q5), .second, .val (.int b1), .val (.int b2), .val (.int b3), .val (.int b4), .val (.int c), .val .null, .val (.ref sa92), .val (.ref a1), .val (.ref r37)] [(.int 1)]
      refine g_ifC o (pc := 226) at_226 (t := 233) (by decide) rfl c_eq (fun hy105 => absurd hy105 (by decide)) (fun _ => ?_)
      refine g_iconst o (pc := 229) at_229 (v := 1) rfl ?_
      refine g_goto o (pc := 230) at_230 (t := 234) (by decide) rfl ?_
      refine g_nreturn o (pc := 234) (by simp) at_234 (y := 1) rfl ?_ (by decide) (by decide)
      exact rfl
  · rw [hv81]
    show Go C Z n0 (fun v _ => v = some (.int 1)) [] h33 8 34 210 #[.val (.int p0), .val (.int p1), .val (.int p2), .val (.int p3), .val (.long q4), .second, .val (.long q5), .second, .val (.int b1), .val (.int b2), .val (.int b3), .val (.int b4), .val (.int c), .val (.ref sa79), .val y, .val (.ref a1), .val (.ref r37)] [(.ref sa79), (.ref sa79)]
    refine g_static o (pc := 210) [(.ref sa79), (.ref sa79)] [] at_210 (wd_112 hw) (wd_113 hw) (wd_2 hw) (wd_114 hw) (by decide) (Met.back o (W := 0) (rm_same1 C.l Z a0 hw n0 h33 q47 sa79 cs80 zc Sc nzc T82 T82.exa ll83) (wd_114 hw) (wd_2 hw) (by decide) (by decide)) (fun _ _ _ q => q) (Or.inl hE) pd_8 rfl rfl rfl rfl (by decide) (by decide) fun v106 h107 q108 => ?_
    obtain ⟨rfl, hh⟩ := q108
    obtain rfl := hh.symm
    show Go C Z n0 (fun v _ => v = some (.int 1)) [] h33 8 34 213 #[.val (.int p0), .val (.int p1), .val (.int p2), .val (.int p3), .val (.long q4), .second, .val (.long q5), .second, .val (.int b1), .val (.int b2), .val (.int b3), .val (.int b4), .val (.int c), .val (.ref sa79), .val y, .val (.ref a1), .val (.ref r37)] [(.int 1)]
    refine g_ifC o (pc := 213) at_213 (t := 233) (by decide) rfl c_eq (fun hy109 => absurd hy109 (by decide)) (fun _ => ?_)
    refine g_aload o (pc := 216) at_216 rfl rfl ?_
    refine g_virtual o (pc := 218) r37 [] [] at_218 (wd_120 hw) (wd_121 hw) (wd_123 hw) (wd_122 hw) (fun _ q => notFace_of_selects q) (by decide) A36 (Met.back o (W := 0) (rm_g_definition C.l Z a0 hw n0 h33 q47 r37 y hy F46) (wd_124 hw) (wd_37 hw) (by decide) (by decide)) (fun _ _ _ q => q) (Or.inl hE) pd_7 rfl rfl rfl rfl (by decide) (by decide) fun v110 h111 q112 => ?_
    obtain ⟨rfl, hh⟩ := q112
    obtain rfl := hh.symm
    show Go C Z n0 (fun v _ => v = some (.int 1)) [] h33 8 34 221 #[.val (.int p0), .val (.int p1), .val (.int p2), .val (.int p3), .val (.long q4), .second, .val (.long q5), .second, .val (.int b1), .val (.int b2), .val (.int b3), .val (.int b4), .val (.int c), .val (.ref sa79), .val y, .val (.ref a1), .val (.ref r37)] [y]
    refine g_aload o (pc := 221) at_221 rfl hy ?_
    have q118 := (((Sy.ext E4).keep K20 (allS (Off.exa A5 (by decide) (wd_36 hw)) all0)).keep K35 all0)
    rcases q118 with hv115 | ⟨sa113, cs114, hv115, T116, ll117⟩
    · rw [hv115]
      show Go C Z n0 (fun v _ => v = some (.int 1)) [] h33 8 34 223 #[.val (.int p0), .val (.int p1), .val (.int p2), .val (.int p3), .val (.long q4), .second, .val (.long q5), .second, .val (.int b1), .val (.int b2), .val (.int b3), .val (.int b4), .val (.int c), .val (.ref sa79), .val .null, .val (.ref a1), .val (.ref r37)] [.null, .null]
      refine g_static o (pc := 223) [.null, .null] [] at_223 (wd_112 hw) (wd_113 hw) (wd_2 hw) (wd_114 hw) (by decide) (Met.back o (W := 0) (rm_same0 C.l Z a0 hw n0 h33 q47  ) (wd_114 hw) (wd_2 hw) (by decide) (by decide)) (fun _ _ _ q => q) (Or.inl hE) pd_8 rfl rfl rfl rfl (by decide) (by decide) fun v119 h120 q121 => ?_
      obtain ⟨rfl, hh⟩ := q121
      obtain rfl := hh.symm
      show Go C Z n0 (fun v _ => v = some (.int 1)) [] h33 8 34 226 #[.val (.int p0), .val (.int p1), .val (.int p2), .val (.int p3), .val (.long q4), .second, .val (.long q5), .second, .val (.int b1), .val (.int b2), .val (.int b3), .val (.int b4), .val (.int c), .val (.ref sa79), .val .null, .val (.ref a1), .val (.ref r37)] [(.int 1)]
      refine g_ifC o (pc := 226) at_226 (t := 233) (by decide) rfl c_eq (fun hy122 => absurd hy122 (by decide)) (fun _ => ?_)
      refine g_iconst o (pc := 229) at_229 (v := 1) rfl ?_
      refine g_goto o (pc := 230) at_230 (t := 234) (by decide) rfl ?_
      refine g_nreturn o (pc := 234) (by simp) at_234 (y := 1) rfl ?_ (by decide) (by decide)
      exact rfl
    · rw [hv115]
      show Go C Z n0 (fun v _ => v = some (.int 1)) [] h33 8 34 223 #[.val (.int p0), .val (.int p1), .val (.int p2), .val (.int p3), .val (.long q4), .second, .val (.long q5), .second, .val (.int b1), .val (.int b2), .val (.int b3), .val (.int b4), .val (.int c), .val (.ref sa79), .val (.ref sa113), .val (.ref a1), .val (.ref r37)] [(.ref sa113), (.ref sa113)]
      refine g_static o (pc := 223) [(.ref sa113), (.ref sa113)] [] at_223 (wd_112 hw) (wd_113 hw) (wd_2 hw) (wd_114 hw) (by decide) (Met.back o (W := 0) (rm_same1 C.l Z a0 hw n0 h33 q47 sa113 cs114 zc Sc nzc T116 T116.exa ll117) (wd_114 hw) (wd_2 hw) (by decide) (by decide)) (fun _ _ _ q => q) (Or.inl hE) pd_8 rfl rfl rfl rfl (by decide) (by decide) fun v123 h124 q125 => ?_
      obtain ⟨rfl, hh⟩ := q125
      obtain rfl := hh.symm
      show Go C Z n0 (fun v _ => v = some (.int 1)) [] h33 8 34 226 #[.val (.int p0), .val (.int p1), .val (.int p2), .val (.int p3), .val (.long q4), .second, .val (.long q5), .second, .val (.int b1), .val (.int b2), .val (.int b3), .val (.int b4), .val (.int c), .val (.ref sa79), .val (.ref sa113), .val (.ref a1), .val (.ref r37)] [(.int 1)]
      refine g_ifC o (pc := 226) at_226 (t := 233) (by decide) rfl c_eq (fun hy126 => absurd hy126 (by decide)) (fun _ => ?_)
      refine g_iconst o (pc := 229) at_229 (v := 1) rfl ?_
      refine g_goto o (pc := 230) at_230 (t := 234) (by decide) rfl ?_
      refine g_nreturn o (pc := 234) (by simp) at_234 (y := 1) rfl ?_ (by decide) (by decide)
      exact rfl
set_option maxRecDepth 65536 in
set_option maxHeartbeats 40000000 in
theorem bl_83 {C : Cx} {Z : State} {a0 : Array Value} (hw : ∀ d ∈ tables_1, d.before a0 Z = true) (hE : C.EL = []) (hwd : C.wide = false) (n0 : Nat) (o : Ok C Z a0 code 17 (some .boolean) "law" "com/example/libpersist/libpersist/core/model/ColumnWithNullablePinLaw" ({ frames := 8, cells := 24, slots := 192, locals := 208 } : Room)) (h0 : Heap) (X0 : Old Z n0 h0) (p0 : Int32) (p1 : Int32) (p2 : Int32) (p3 : Int32) (q4 : Int64) (q5 : Int64) (b1 : Int32) (b2 : Int32) (b3 : Int32) (b4 : Int32) (c : Int32) (zc : Int32) (x : Value) (Sc : Sta Z Z.heap "java/lang/String" "COMPACT_STRINGS" "Z" (.int zc)) (nzc : ¬ zc = 0) (z_b1 : nar .boolean b1 = b1) (z_b2 : nar .boolean b2 = b2) (z_b3 : nar .boolean b3 = b3) (z_b4 : nar .boolean b4 = b4) (z_c : nar .boolean c = c) (hx : x.isRef = true) (Sx : SV Z h0 x) :
    Go C Z n0 (fun v _ => v = some (.int 1)) [] h0 3 8 83 #[.val (.int p0), .val (.int p1), .val (.int p2), .val (.int p3), .val (.long q4), .second, .val (.long q5), .second, .val (.int b1), .val (.int b2), .val (.int b3), .val (.int b4), .val (.int c), .unset, .unset, .unset, .unset] [x] := by
  refine g_astore o (pc := 83) at_83 hx (L' := #[.val (.int p0), .val (.int p1), .val (.int p2), .val (.int p3), .val (.long q4), .second, .val (.long q5), .second, .val (.int b1), .val (.int b2), .val (.int b3), .val (.int b4), .val (.int c), .val x, .unset, .unset, .unset]) (store_cat rfl (Or.inl rfl) (cat_ref hx) rfl) ?_
  refine g_iload_n o (pc := 85) at_85 rfl ?_
  refine g_bipush o (pc := 86) at_86 (v := 64) rfl ?_
  refine g_iand o (pc := 88) at_88 (v := (p0 &&& 64)) rfl ?_
  refine g_ifC o (pc := 89) at_89 (t := 96) (by decide) rfl c_eq (fun hy1 => ?_) (fun hn2 => ?_)
  · refine g_lload o (pc := 96) at_96 rfl ?_
    refine g_static o (pc := 98) [(.long q5)] [] at_98 (wd_0 hw) (wd_1 hw) (wd_2 hw) (wd_3 hw) (by decide) (Met.back o (W := 0) (rm_str C.l Z a0 hw n0 h0 X0 q5 zc Sc nzc) (wd_3 hw) (wd_2 hw) (by decide) (by decide)) (fun _ _ _ q => q) (Or.inl hE) pd_9 rfl rfl rfl rfl (by decide) (by decide) fun v3 h4 q5 => ?_
    obtain ⟨K6, a7, cs8, rfl, T9, l10⟩ := q5
    show Go C Z n0 (fun v _ => v = some (.int 1)) [] h4 6 16 101 #[.val (.int p0), .val (.int p1), .val (.int p2), .val (.int p3), .val (.long q4), .second, .val (.long q5), .second, .val (.int b1), .val (.int b2), .val (.int b3), .val (.int b4), .val (.int c), .val x, .unset, .unset, .unset] [(.ref a7)]
    have q11 := (X0.keep K6 all0)
    exact bl_101 hw hE hwd n0 o h4 q11 p0 p1 p2 p3 q4 q5 b1 b2 b3 b4 c zc x (.ref a7) Sc nzc z_b1 z_b2 z_b3 z_b4 z_c hx rfl (Sx.keep K6 all0) (Or.inr ⟨a7, cs8, rfl, T9, l10⟩)
  · refine g_aconst_null o (pc := 92) at_92 ?_
    refine g_goto o (pc := 93) at_93 (t := 101) (by decide) rfl ?_
    refine Go.mono (k' := 6) (n' := 16) (by decide) (by decide) ?_
    exact bl_101 hw hE hwd n0 o h0 X0 p0 p1 p2 p3 q4 q5 b1 b2 b3 b4 c zc x .null Sc nzc z_b1 z_b2 z_b3 z_b4 z_c hx rfl Sx (Or.inl rfl)
set_option maxRecDepth 65536 in
set_option maxHeartbeats 40000000 in
theorem rm_law (l : Launch) (Z : State) (a0 : Array Value) (hw : ∀ d ∈ tables_1, d.before a0 Z = true) (ws : List Jvm.Cond) (n0 : Nat) (h0 : Heap) (X0 : Old Z n0 h0) (p0 : Int32) (p1 : Int32) (p2 : Int32) (p3 : Int32) (q4 : Int64) (q5 : Int64) (zc : Int32) (Sc : Sta Z Z.heap "java/lang/String" "COMPACT_STRINGS" "Z" (.int zc)) (nzc : ¬ zc = 0) :
    MetFree l x (head1 (Jvm.Cond.code x code maxLocals ret :: ws) room_1) (fun a U => a = #[(.int p0), (.int p1), (.int p2), (.int p3), (.long q4), (.long q5)] ∧ Z.Warmed39 U.vm ∧ U.vm = Z.vm ∧ U.heap = h0) (fun _ _ _ _ _ => True) (fun _ U o U' => ∃ v L, o = .returned v ∧ (v = some (.int 1) ∧ Fr n0 L) ∧ (false = true → ReturnedEndW U o U' L room_1.cells room_1.slots) ∧ (false = false → FrameEnd U o U' L room_1.cells room_1.slots)) := by
  refine law_of (Q := fun v _ => v = some (.int 1)) pn_0 hw (L := #[.val (.int p0), .val (.int p1), .val (.int p2), .val (.int p3), .val (.long q4), .second, .val (.long q5), .second, .unset, .unset, .unset, .unset, .unset, .unset, .unset, .unset, .unset]) (fun m => by first | (simp [entryFrame, mkF, argsToLocals, Value.category, maxLocals]; done) | rfl) false [] (EW.nil) (fun p hp => by cases hp) fun C hl hwd hE o => ?_
  subst hl
  have o : Ok C Z a0 code 17 (some .boolean) "law" "com/example/libpersist/libpersist/core/model/ColumnWithNullablePinLaw" ({ frames := 8, cells := 24, slots := 192, locals := 208 } : Room) := o
  refine g_iload_n o (pc := 0) at_0 rfl ?_
  refine g_iconst o (pc := 1) at_1 (v := 1) rfl ?_
  refine g_iand o (pc := 2) at_2 (v := (p0 &&& 1)) rfl ?_
  have K2 : ∀ b1 : Int32, b1 = (if (p0 &&& 1) = 0 then (0 : Int32) else 1) → Go C Z n0 (fun v _ => v = some (.int 1)) [] h0 0 0 11 #[.val (.int p0), .val (.int p1), .val (.int p2), .val (.int p3), .val (.long q4), .second, .val (.long q5), .second, .unset, .unset, .unset, .unset, .unset, .unset, .unset, .unset, .unset] [(.int b1)] := fun b1 hb3 => by
    have fz4 : nar .boolean b1 = b1 := by rw [hb3]; split <;> rfl
    refine g_istore o (pc := 11) at_11 (L' := #[.val (.int p0), .val (.int p1), .val (.int p2), .val (.int p3), .val (.long q4), .second, .val (.long q5), .second, .val (.int b1), .unset, .unset, .unset, .unset, .unset, .unset, .unset, .unset]) rfl ?_
    refine g_iload_n o (pc := 13) at_13 rfl ?_
    refine g_iconst o (pc := 14) at_14 (v := 2) rfl ?_
    refine g_iand o (pc := 15) at_15 (v := (p0 &&& 2)) rfl ?_
    have K6 : ∀ b5 : Int32, b5 = (if (p0 &&& 2) = 0 then (0 : Int32) else 1) → Go C Z n0 (fun v _ => v = some (.int 1)) [] h0 0 0 24 #[.val (.int p0), .val (.int p1), .val (.int p2), .val (.int p3), .val (.long q4), .second, .val (.long q5), .second, .val (.int b1), .unset, .unset, .unset, .unset, .unset, .unset, .unset, .unset] [(.int b5)] := fun b5 hb7 => by
      have fz8 : nar .boolean b5 = b5 := by rw [hb7]; split <;> rfl
      refine g_istore o (pc := 24) at_24 (L' := #[.val (.int p0), .val (.int p1), .val (.int p2), .val (.int p3), .val (.long q4), .second, .val (.long q5), .second, .val (.int b1), .val (.int b5), .unset, .unset, .unset, .unset, .unset, .unset, .unset]) rfl ?_
      refine g_iload_n o (pc := 26) at_26 rfl ?_
      refine g_iconst o (pc := 27) at_27 (v := 4) rfl ?_
      refine g_iand o (pc := 28) at_28 (v := (p0 &&& 4)) rfl ?_
      have K10 : ∀ b9 : Int32, b9 = (if (p0 &&& 4) = 0 then (0 : Int32) else 1) → Go C Z n0 (fun v _ => v = some (.int 1)) [] h0 0 0 37 #[.val (.int p0), .val (.int p1), .val (.int p2), .val (.int p3), .val (.long q4), .second, .val (.long q5), .second, .val (.int b1), .val (.int b5), .unset, .unset, .unset, .unset, .unset, .unset, .unset] [(.int b9)] := fun b9 hb11 => by
        have fz12 : nar .boolean b9 = b9 := by rw [hb11]; split <;> rfl
        refine g_istore o (pc := 37) at_37 (L' := #[.val (.int p0), .val (.int p1), .val (.int p2), .val (.int p3), .val (.long q4), .second, .val (.long q5), .second, .val (.int b1), .val (.int b5), .val (.int b9), .unset, .unset, .unset, .unset, .unset, .unset]) rfl ?_
        refine g_iload_n o (pc := 39) at_39 rfl ?_
        refine g_bipush o (pc := 40) at_40 (v := 8) rfl ?_
        refine g_iand o (pc := 42) at_42 (v := (p0 &&& 8)) rfl ?_
        have K14 : ∀ b13 : Int32, b13 = (if (p0 &&& 8) = 0 then (0 : Int32) else 1) → Go C Z n0 (fun v _ => v = some (.int 1)) [] h0 0 0 51 #[.val (.int p0), .val (.int p1), .val (.int p2), .val (.int p3), .val (.long q4), .second, .val (.long q5), .second, .val (.int b1), .val (.int b5), .val (.int b9), .unset, .unset, .unset, .unset, .unset, .unset] [(.int b13)] := fun b13 hb15 => by
          have fz16 : nar .boolean b13 = b13 := by rw [hb15]; split <;> rfl
          refine g_istore o (pc := 51) at_51 (L' := #[.val (.int p0), .val (.int p1), .val (.int p2), .val (.int p3), .val (.long q4), .second, .val (.long q5), .second, .val (.int b1), .val (.int b5), .val (.int b9), .val (.int b13), .unset, .unset, .unset, .unset, .unset]) rfl ?_
          refine g_iload_n o (pc := 53) at_53 rfl ?_
          refine g_bipush o (pc := 54) at_54 (v := 16) rfl ?_
          refine g_iand o (pc := 56) at_56 (v := (p0 &&& 16)) rfl ?_
          have K18 : ∀ b17 : Int32, b17 = (if (p0 &&& 16) = 0 then (0 : Int32) else 1) → Go C Z n0 (fun v _ => v = some (.int 1)) [] h0 0 0 65 #[.val (.int p0), .val (.int p1), .val (.int p2), .val (.int p3), .val (.long q4), .second, .val (.long q5), .second, .val (.int b1), .val (.int b5), .val (.int b9), .val (.int b13), .unset, .unset, .unset, .unset, .unset] [(.int b17)] := fun b17 hb19 => by
            have fz20 : nar .boolean b17 = b17 := by rw [hb19]; split <;> rfl
            refine g_istore o (pc := 65) at_65 (L' := #[.val (.int p0), .val (.int p1), .val (.int p2), .val (.int p3), .val (.long q4), .second, .val (.long q5), .second, .val (.int b1), .val (.int b5), .val (.int b9), .val (.int b13), .val (.int b17), .unset, .unset, .unset, .unset]) rfl ?_
            refine g_iload_n o (pc := 67) at_67 rfl ?_
            refine g_bipush o (pc := 68) at_68 (v := 32) rfl ?_
            refine g_iand o (pc := 70) at_70 (v := (p0 &&& 32)) rfl ?_
            refine g_ifC o (pc := 71) at_71 (t := 78) (by decide) rfl c_eq (fun hy21 => ?_) (fun hn22 => ?_)
            · refine g_lload o (pc := 78) at_78 rfl ?_
              refine g_static o (pc := 80) [(.long q4)] [] at_80 (wd_0 hw) (wd_1 hw) (wd_2 hw) (wd_3 hw) (by decide) (Met.back o (W := 0) (rm_str C.l Z a0 hw n0 h0 X0 q4 zc Sc nzc) (wd_3 hw) (wd_2 hw) (by decide) (by decide)) (fun _ _ _ q => q) (Or.inl hE) pd_9 rfl rfl rfl rfl (by decide) (by decide) fun v23 h24 q25 => ?_
              obtain ⟨K26, a27, cs28, rfl, T29, l30⟩ := q25
              show Go C Z n0 (fun v _ => v = some (.int 1)) [] h24 3 8 83 #[.val (.int p0), .val (.int p1), .val (.int p2), .val (.int p3), .val (.long q4), .second, .val (.long q5), .second, .val (.int b1), .val (.int b5), .val (.int b9), .val (.int b13), .val (.int b17), .unset, .unset, .unset, .unset] [(.ref a27)]
              have q31 := (X0.keep K26 all0)
              exact bl_83 hw hE hwd n0 o h24 q31 p0 p1 p2 p3 q4 q5 b1 b5 b9 b13 b17 zc (.ref a27) Sc nzc fz4 fz8 fz12 fz16 fz20 rfl (Or.inr ⟨a27, cs28, rfl, T29, l30⟩)
            · refine g_aconst_null o (pc := 74) at_74 ?_
              refine g_goto o (pc := 75) at_75 (t := 83) (by decide) rfl ?_
              refine Go.mono (k' := 3) (n' := 8) (by decide) (by decide) ?_
              exact bl_83 hw hE hwd n0 o h0 X0 p0 p1 p2 p3 q4 q5 b1 b5 b9 b13 b17 zc .null Sc nzc fz4 fz8 fz12 fz16 fz20 rfl (Or.inl rfl)
          refine g_ifC o (pc := 57) at_57 (t := 64) (by decide) rfl c_eq (fun hp => ?_) (fun hp => ?_)
          · refine g_iconst o (pc := 64) at_64 (v := 0) rfl ?_
            exact K18 _ (if_pos hp).symm
          · refine g_iconst o (pc := 60) at_60 (v := 1) rfl ?_
            refine g_goto o (pc := 61) at_61 (t := 65) (by decide) rfl ?_
            exact K18 _ (if_neg hp).symm
        refine g_ifC o (pc := 43) at_43 (t := 50) (by decide) rfl c_eq (fun hp => ?_) (fun hp => ?_)
        · refine g_iconst o (pc := 50) at_50 (v := 0) rfl ?_
          exact K14 _ (if_pos hp).symm
        · refine g_iconst o (pc := 46) at_46 (v := 1) rfl ?_
          refine g_goto o (pc := 47) at_47 (t := 51) (by decide) rfl ?_
          exact K14 _ (if_neg hp).symm
      refine g_ifC o (pc := 29) at_29 (t := 36) (by decide) rfl c_eq (fun hp => ?_) (fun hp => ?_)
      · refine g_iconst o (pc := 36) at_36 (v := 0) rfl ?_
        exact K10 _ (if_pos hp).symm
      · refine g_iconst o (pc := 32) at_32 (v := 1) rfl ?_
        refine g_goto o (pc := 33) at_33 (t := 37) (by decide) rfl ?_
        exact K10 _ (if_neg hp).symm
    refine g_ifC o (pc := 16) at_16 (t := 23) (by decide) rfl c_eq (fun hp => ?_) (fun hp => ?_)
    · refine g_iconst o (pc := 23) at_23 (v := 0) rfl ?_
      exact K6 _ (if_pos hp).symm
    · refine g_iconst o (pc := 19) at_19 (v := 1) rfl ?_
      refine g_goto o (pc := 20) at_20 (t := 24) (by decide) rfl ?_
      exact K6 _ (if_neg hp).symm
  refine g_ifC o (pc := 3) at_3 (t := 10) (by decide) rfl c_eq (fun hp => ?_) (fun hp => ?_)
  · refine g_iconst o (pc := 10) at_10 (v := 0) rfl ?_
    exact K2 _ (if_pos hp).symm
  · refine g_iconst o (pc := 6) at_6 (v := 1) rfl ?_
    refine g_goto o (pc := 7) at_7 (t := 11) (by decide) rfl ?_
    exact K2 _ (if_neg hp).symm
set_option maxRecDepth 65536 in
set_option maxHeartbeats 40000000 in
theorem comes_1 {Post : Tables → Env → Array Value → State → Outcome → State → Prop} (hpost : ∀ tb e args s v u, (limb_1_1.after args s (.returned v) u = true ∧ limb_1_2.after args s (.returned v) u = true ∧ True) → FrameEnd s (.returned v) u (Jvm.fieldLocs frame_1_writes args s ++ Jvm.arrayLocs frame_1_arrays args s ++ Jvm.staticLocs frame_1_statics s) 24 192 → Post tb e args s (.returned v) u) :
    ArmFor flags0 classFile x code maxLocals ret World_1 tables_1 room_1 Calls_1 rest_1 Pre_1 Post := by
  intro l hfl _ _ p e ha hc hk s m args below hf hA hF happ hP
  obtain ⟨hcalls, hrest, hpre⟩ := hP
  obtain ⟨-, -, -, hnamed, -, -, -, hat⟩ := (Spec.applies_iff hf).mp happ
  obtain ⟨hg, hn⟩ := and_e (Cond.before_iff.mp (show (Jvm.Cond.and given_1 narrow_1).before args s = true from hpre))
  obtain ⟨h1, g0⟩ := and_e hg
  obtain ⟨f0, g1⟩ := and_e g0
  obtain ⟨f1, g2⟩ := and_e g1
  obtain ⟨f2, g3⟩ := and_e g2
  obtain ⟨f3, g4⟩ := and_e g3
  obtain ⟨f4, g5⟩ := and_e g4
  have f5 := g5
  obtain ⟨w0, w1, w2, w3, w4, w5, rfl⟩ : ∃ w0 w1 w2 w3 w4 w5 : Value, args = #[w0, w1, w2, w3, w4, w5] := by
    have hs : args.size = 6 := by simpa [Cond.value, given_1] using h1
    obtain ⟨L⟩ := args
    match L, hs with
    | [w0, w1, w2, w3, w4, w5], _ => exact ⟨w0, w1, w2, w3, w4, w5, rfl⟩
  have hw := fun d (hd : d ∈ tables_1) => atoms_spec (ws := Jvm.Cond.code x code maxLocals ret :: tables_1) hat d (List.mem_cons_of_mem _ hd)
  obtain ⟨hsets, hown0⟩ := atoms_of _ (rest_1_c_eq ▸ (show rest_1_c.before _ s = true from hrest))
  have hfit : Fit s := fun {y c} hc i hi => by
    obtain ⟨ha, rfl⟩ := Array.getElem?_eq_some_iff.mp hc
    have q := List.all_eq_true.mp ((Array.all_eq_true_iff_forall_mem.mp hF) _ (Array.getElem_mem ha)) i (List.mem_range.mpr hi)
    simpa [Array.getElem?_eq_getElem hi] using q
  obtain ⟨i0, e0⟩ := is_v f0
  obtain rfl : w0 = (.int i0) := Option.some.inj e0
  obtain ⟨i1, e1⟩ := is_v f1
  obtain rfl : w1 = (.int i1) := Option.some.inj e1
  obtain ⟨i2, e2⟩ := is_v f2
  obtain rfl : w2 = (.int i2) := Option.some.inj e2
  obtain ⟨i3, e3⟩ := is_v f3
  obtain rfl : w3 = (.int i3) := Option.some.inj e3
  obtain ⟨i4, e4⟩ := isL_v f4
  obtain rfl : w4 = (.long i4) := Option.some.inj e4
  obtain ⟨i5, e5⟩ := isL_v f5
  obtain rfl : w5 = (.long i5) := Option.some.inj e5
  have n5 := not_v (Cond.before_iff.mp (hsets _ (List.mem_of_getElem? (i := 2) rfl)))
  obtain ⟨zc, ezc⟩ := is_v (Cond.before_iff.mp (hsets _ (List.mem_of_getElem? (i := 1) rfl)))
  have Sc : Sta s s.heap "java/lang/String" "COMPACT_STRINGS" "Z" (.int zc) := Sta.start ezc (Or.inl (hsets _ (List.mem_of_getElem? (i := 0) rfl)))
  have nzc : ¬ (zc = (0 : Int32)) := gotF (Cond.eq_ints ezc (Term.int_eval (0))) n5
  obtain ⟨n, o, h1, h2, h3, _, L, rfl, ⟨rfl, N⟩, hqw, hqn⟩ := rm_law l s _ hw tables_1 s.heap.size s.heap (Old.start s) i0 i1 i2 i3 i4 i5 zc Sc nzc p e ha hc hk s m _ below hf ((Spec.applies_iff_loose hf).mp happ).1 ⟨rfl, State.Warmed39.refl s, rfl, rfl⟩ trivial
  have hq := hqn rfl
  refine ⟨n, _, h1, h2, h3, hpost _ _ _ _ _ _ ⟨Cond.after_iff.mpr rfl, Cond.after_iff.mpr (eq_i res_at (Term.int_eval (1)) rfl), trivial⟩ ⟨hq.1, hq.2.1, (hq.2.2.sift fun y hy => Or.inr (N y hy)).mono (by decide) (by decide)⟩⟩
theorem main_1_1 : Claimed_1_1 := comes_1 fun _ _ _ _ _ _ h hF => ⟨h.1, hF⟩
theorem main_1_2 : Claimed_1_2 := comes_1 fun _ _ _ _ _ _ h hF => ⟨h.2.1, hF⟩
end Jvm.Pilot.@@N@@
namespace Jvm.Pilot.@@N@@
open Jvm Jvm.ClassFile Sem Op Lib Jvm.Free Jvm.Stand Jvm.Pilot.@@N@@.Jvm.D
/-! MADE BY PROGRAM (witnessworld.py) out of the Statement's table words and the real class files: 21 classes; the members and pool entries that the words name. The judged class is class 1, her method 1. -/
namespace start1
open Jvm.ClassFile
def u (s : String) : CpInfo := .utf8 (stringToUtf16 s)
/-- a pool by its gaps: so many unusable entries, then the entry; so many at the end -/
def gap : Nat → List CpInfo → List CpInfo
  | 0, r => r
  | n + 1, r => .unusable :: gap n r
def poolList (es : List (Nat × CpInfo)) (last : Nat) : List CpInfo := es.foldr (fun e r => gap e.1 (e.2 :: r)) (gap last [])
def pool (es : List (Nat × CpInfo)) (last : Nat) : Array CpInfo := ⟨poolList es last⟩
def fileOf (pool : Array CpInfo) (this : Nat) (attrs : Array Attribute := #[]) (ms : Array MethodInfo := #[]) (fl : Nat := 33) (sup : Nat := 0) (ifs : Array Nat := #[]) (fds : Array FieldInfo := #[]) : ClassFile where
  minorVersion := 0
  majorVersion := 65
  constantPool := pool
  accessFlags := fl
  thisClass := this
  superClass := sup
  interfaces := ifs
  fields := fds
  methods := ms
  attributes := attrs
def plain (name : String) (sup : Option ClassId) : Class where
  name := name
  kind := .ordinary
  loader := none
  accessFlags := 33
  super := sup
  interfaces := #[]
  cf := none
  fields := #[]
  methods := #[]
  instanceTypes := #[]
  staticTypes := #[]
  resolved := #[]
  callSites := []
  init := .initialized
  statics := none
  mirror := none

def pool0 : Array CpInfo := pool [(5, u "<init>"), (0, u "()V"), (1, .class_ 10), (1, u "java/lang/Object")] 113

def k0c0 : Code := { maxStack := 0, maxLocals := 1, code := object_method_1_code, exceptionTable := #[], attributes := #[] }
def k0m0 : Method := { name := "<init>", desc := "()V", sig := { parameters := [], returnType := none }, accessFlags := 1, code := some k0c0 }
/-- java/lang/Object -/
def k0 : Class := { plain "java/lang/Object" none with
  accessFlags := 33
  interfaces := #[]
  cf := some (fileOf pool0 8 #[] #[{ accessFlags := 1, nameIndex := 5, descriptorIndex := 6, attributes := #[] }] 33 0 #[] #[])
  fields := #[]
  methods := #[k0m0]
  instanceTypes := #[]
  staticTypes := #[]
  resolved := Array.replicate 124 none
  statics := none }

def pool1 : Array CpInfo := pool [(2, .class_ 4), (1, u "java/lang/Object"), (0, u "<init>"), (0, u "()V"), (0, .methodref 8 9), (0, .class_ 10), (0, .nameAndType 11 12), (0, u "com/example/libpersist/libpersist/core/model/ColumnWithNullablePinLaw"), (0, u "str"), (0, u "(J)Ljava/lang/String;"), (0, .class_ 14), (0, u "com/example/libpersist/libpersist/core/model/Column"), (0, .methodref 13 16), (0, .nameAndType 5 17), (0, u "(Ljava/lang/String;ZZZZIIILjava/lang/String;)V"), (0, .methodref 13 19), (0, .nameAndType 20 21), (0, u "withNullable"), (0, u "(Z)Lcom/example/libpersist/libpersist/core/model/Column;"), (0, .methodref 13 23), (0, .nameAndType 24 25), (0, u "nullable"), (0, u "()Z"), (0, .methodref 13 27), (0, .nameAndType 28 25), (0, u "unique"), (0, .methodref 13 30), (0, .nameAndType 31 25), (0, u "insertable"), (0, .methodref 13 33), (0, .nameAndType 34 25), (0, u "updatable"), (0, .methodref 13 36), (0, .nameAndType 37 38), (0, u "length"), (0, u "()I"), (0, .methodref 13 40), (0, .nameAndType 41 38), (0, u "precision"), (0, .methodref 13 43), (0, .nameAndType 44 38), (0, u "scale"), (0, .methodref 13 46), (0, .nameAndType 47 48), (0, u "name"), (0, u "()Ljava/lang/String;"), (0, .methodref 8 50), (0, .nameAndType 51 52), (0, u "same"), (0, u "(Ljava/lang/String;Ljava/lang/String;)Z"), (0, .methodref 13 54), (0, .nameAndType 55 48), (0, u "definition"), (0, .long 255), (1, .class_ 59), (0, u "java/lang/String"), (0, .methodref 58 61), (0, .nameAndType 5 62), (0, u "([C)V"), (0, .methodref 58 64), (0, .nameAndType 65 66), (0, u "equals"), (0, u "(Ljava/lang/Object;)Z"), (2, u "law"), (0, u "(IIIIJJ)Z")] 3

def k1m0 : Method := { name := "<init>", desc := "()V", sig := { parameters := [], returnType := none }, accessFlags := 1, code := none }
def k1c1 : Code := { maxStack := 11, maxLocals := 17, code := code, exceptionTable := #[], attributes := #[] }
def k1m1 : Method := { name := "law", desc := "(IIIIJJ)Z", sig := { parameters := [.int, .int, .int, .int, .long, .long], returnType := some .boolean }, accessFlags := 9, code := some k1c1 }
def k1c2 : Code := { maxStack := 6, maxLocals := 3, code := method_3_code, exceptionTable := #[], attributes := #[] }
def k1m2 : Method := { name := "str", desc := "(J)Ljava/lang/String;", sig := { parameters := [.long], returnType := some (.object "java/lang/String") }, accessFlags := 10, code := some k1c2 }
def k1c3 : Code := { maxStack := 2, maxLocals := 2, code := method_4_code, exceptionTable := #[], attributes := #[] }
def k1m3 : Method := { name := "same", desc := "(Ljava/lang/String;Ljava/lang/String;)Z", sig := { parameters := [(.object "java/lang/String"), (.object "java/lang/String")], returnType := some .boolean }, accessFlags := 10, code := some k1c3 }
/-- com/example/libpersist/libpersist/core/model/ColumnWithNullablePinLaw -/
def k1 : Class := { plain "com/example/libpersist/libpersist/core/model/ColumnWithNullablePinLaw" (some 0) with
  accessFlags := 49
  interfaces := #[]
  cf := some (fileOf pool1 8 #[] #[{ accessFlags := 1, nameIndex := 5, descriptorIndex := 6, attributes := #[] }, { accessFlags := 9, nameIndex := 69, descriptorIndex := 70, attributes := #[] }, { accessFlags := 10, nameIndex := 11, descriptorIndex := 12, attributes := #[] }, { accessFlags := 10, nameIndex := 51, descriptorIndex := 52, attributes := #[] }] 49 2 #[] #[])
  fields := #[]
  methods := #[k1m0, k1m1, k1m2, k1m3]
  instanceTypes := #[]
  staticTypes := #[]
  resolved := Array.replicate 74 none
  statics := none }

def pool2 : Array CpInfo := pool [(1, .class_ 2), (0, u "java/io/Serializable"), (0, .class_ 4), (0, u "java/lang/Object")] 2

/-- java/io/Serializable -/
def k2 : Class := { plain "java/io/Serializable" (some 0) with
  accessFlags := 1537
  interfaces := #[]
  cf := some (fileOf pool2 1 #[] #[] 1537 3 #[] #[])
  fields := #[]
  methods := #[]
  instanceTypes := #[]
  staticTypes := #[]
  resolved := Array.replicate 7 none
  statics := none }

def pool3 : Array CpInfo := pool [(1, .class_ 2), (0, u "java/lang/Comparable"), (0, .class_ 4), (0, u "java/lang/Object")] 7

/-- java/lang/Comparable -/
def k3 : Class := { plain "java/lang/Comparable" (some 0) with
  accessFlags := 1537
  interfaces := #[]
  cf := some (fileOf pool3 1 #[] #[] 1537 3 #[] #[])
  fields := #[]
  methods := #[]
  instanceTypes := #[]
  staticTypes := #[]
  resolved := Array.replicate 12 none
  statics := none }

def pool4 : Array CpInfo := pool [(2, .class_ 4), (1, u "java/lang/CharSequence"), (42, .class_ 48), (0, u "java/lang/CharSequence$1CodePointIterator"), (10, .class_ 60), (0, u "java/lang/CharSequence$1CharIterator"), (5, .class_ 67), (0, u "java/lang/Object")] 63

/-- java/lang/CharSequence -/
def k4 : Class := { plain "java/lang/CharSequence" (some 0) with
  accessFlags := 1537
  interfaces := #[]
  cf := some (fileOf pool4 2 #[.nestMembers #[47, 59]] #[] 1537 66 #[] #[])
  fields := #[]
  methods := #[]
  instanceTypes := #[]
  staticTypes := #[]
  resolved := Array.replicate 131 none
  statics := none }

def pool5 : Array CpInfo := pool [(1, .class_ 2), (0, u "java/lang/constant/Constable"), (0, .class_ 4), (0, u "java/lang/Object")] 6

/-- java/lang/constant/Constable -/
def k5 : Class := { plain "java/lang/constant/Constable" (some 0) with
  accessFlags := 1537
  interfaces := #[]
  cf := some (fileOf pool5 1 #[] #[] 1537 3 #[] #[])
  fields := #[]
  methods := #[]
  instanceTypes := #[]
  staticTypes := #[]
  resolved := Array.replicate 11 none
  statics := none }

def pool6 : Array CpInfo := pool [(1, .class_ 2), (0, u "java/lang/constant/ConstantDesc"), (0, .class_ 4), (0, u "java/lang/Object")] 32

/-- java/lang/constant/ConstantDesc -/
def k6 : Class := { plain "java/lang/constant/ConstantDesc" (some 0) with
  accessFlags := 1537
  interfaces := #[]
  cf := some (fileOf pool6 1 #[] #[] 1537 3 #[] #[])
  fields := #[]
  methods := #[]
  instanceTypes := #[]
  staticTypes := #[]
  resolved := Array.replicate 37 none
  statics := none }

def pool7 : Array CpInfo := pool [(1, .methodref 2 3), (0, .class_ 4), (0, .nameAndType 5 6), (0, u "java/lang/Object"), (0, u "<init>"), (0, u "()V"), (2, .fieldref 10 11), (0, .class_ 12), (0, .nameAndType 13 14), (0, u "java/lang/String"), (0, u "value"), (0, u "[B"), (0, .fieldref 10 16), (0, .nameAndType 17 18), (0, u "coder"), (0, u "B"), (2, u "hash"), (0, u "I"), (2, u "hashIsZero"), (0, u "Z"), (0, .methodref 10 28), (0, .nameAndType 5 29), (0, u "([CIILjava/lang/Void;)V"), (8, .fieldref 10 39), (0, .nameAndType 40 26), (0, u "COMPACT_STRINGS"), (1, .class_ 44), (1, u "java/lang/StringUTF16"), (0, u "compress"), (1, .methodref 42 48), (0, .nameAndType 49 50), (0, u "coderFromArrayLen"), (0, u "([BI)B"), (126, .methodref 42 178), (0, .nameAndType 45 179), (0, u "([CII)[B"), (363, u "equals"), (29, u "(Ljava/lang/Object;)Z"), (1, .class_ 576), (0, u "java/lang/CharSequence"), (22, u "CASE_INSENSITIVE_ORDER"), (0, u "Ljava/util/Comparator;"), (409, u "([C)V"), (90, u "serialPersistentFields"), (0, u "[Ljava/io/ObjectStreamField;"), (0, .class_ 1104), (0, u "java/lang/String$CaseInsensitiveComparator"), (1, .class_ 1107), (0, u "java/io/Serializable"), (0, .class_ 1109), (0, u "java/lang/Comparable"), (0, .class_ 1111), (0, u "java/lang/constant/Constable"), (0, .class_ 1113), (0, u "java/lang/constant/ConstantDesc"), (2, u "serialVersionUID"), (0, u "J"), (3, u "REPL"), (0, u "C"), (2, u "LATIN1"), (1, u "UTF16")] 323

def k7m0 : Method := { name := "<init>", desc := "()V", sig := { parameters := [], returnType := none }, accessFlags := 1, code := none }
def k7c1 : Code := { maxStack := 5, maxLocals := 2, code := jdk_42_method_3_code, exceptionTable := #[], attributes := #[] }
def k7m1 : Method := { name := "<init>", desc := "([C)V", sig := { parameters := [(.array .char)], returnType := none }, accessFlags := 1, code := some k7c1 }
def k7c2 : Code := { maxStack := 2, maxLocals := 3, code := jdk_42_method_66_code, exceptionTable := #[], attributes := #[] }
def k7m2 : Method := { name := "equals", desc := "(Ljava/lang/Object;)Z", sig := { parameters := [(.object "java/lang/Object")], returnType := some .boolean }, accessFlags := 1, code := some k7c2 }
def k7c3 : Code := { maxStack := 4, maxLocals := 6, code := jdk_42_method_149_code, exceptionTable := #[], attributes := #[] }
def k7m3 : Method := { name := "<init>", desc := "([CIILjava/lang/Void;)V", sig := { parameters := [(.array .char), .int, .int, (.object "java/lang/Void")], returnType := none }, accessFlags := 2, code := some k7c3 }
/-- java/lang/String -/
def k7 : Class := { plain "java/lang/String" (some 0) with
  accessFlags := 49
  interfaces := #[2, 3, 4, 5, 6]
  cf := some (fileOf pool7 10 #[.nestMembers #[1103]] #[{ accessFlags := 1, nameIndex := 5, descriptorIndex := 6, attributes := #[] }, { accessFlags := 1, nameIndex := 5, descriptorIndex := 1010, attributes := #[] }, { accessFlags := 1, nameIndex := 543, descriptorIndex := 573, attributes := #[] }, { accessFlags := 2, nameIndex := 5, descriptorIndex := 29, attributes := #[] }] 49 2 #[1106, 1108, 575, 1110, 1112] #[{ accessFlags := 18, nameIndex := 13, descriptorIndex := 14, attributes := #[] }, { accessFlags := 18, nameIndex := 17, descriptorIndex := 18, attributes := #[] }, { accessFlags := 2, nameIndex := 21, descriptorIndex := 22, attributes := #[] }, { accessFlags := 2, nameIndex := 25, descriptorIndex := 26, attributes := #[] }, { accessFlags := 26, nameIndex := 1116, descriptorIndex := 1117, attributes := #[] }, { accessFlags := 24, nameIndex := 40, descriptorIndex := 26, attributes := #[] }, { accessFlags := 26, nameIndex := 1101, descriptorIndex := 1102, attributes := #[] }, { accessFlags := 26, nameIndex := 1121, descriptorIndex := 1122, attributes := #[] }, { accessFlags := 25, nameIndex := 599, descriptorIndex := 600, attributes := #[] }, { accessFlags := 24, nameIndex := 1125, descriptorIndex := 18, attributes := #[] }, { accessFlags := 24, nameIndex := 1127, descriptorIndex := 18, attributes := #[] }])
  fields := #[{ name := "value", type := (.array .byte), accessFlags := 18, slot := 0, constantValue := 0 }, { name := "coder", type := .byte, accessFlags := 18, slot := 1, constantValue := 0 }, { name := "hash", type := .int, accessFlags := 2, slot := 2, constantValue := 0 }, { name := "hashIsZero", type := .boolean, accessFlags := 2, slot := 3, constantValue := 0 }, { name := "serialVersionUID", type := .long, accessFlags := 26, slot := 0, constantValue := 0 }, { name := "COMPACT_STRINGS", type := .boolean, accessFlags := 24, slot := 1, constantValue := 0 }, { name := "serialPersistentFields", type := (.array (.object "java/io/ObjectStreamField")), accessFlags := 26, slot := 2, constantValue := 0 }, { name := "REPL", type := .char, accessFlags := 26, slot := 3, constantValue := 0 }, { name := "CASE_INSENSITIVE_ORDER", type := (.object "java/util/Comparator"), accessFlags := 25, slot := 4, constantValue := 0 }, { name := "LATIN1", type := .byte, accessFlags := 24, slot := 5, constantValue := 0 }, { name := "UTF16", type := .byte, accessFlags := 24, slot := 6, constantValue := 0 }]
  methods := #[k7m0, k7m1, k7m2, k7m3]
  instanceTypes := #[(.array .byte), .byte, .int, .boolean]
  staticTypes := #[.long, .boolean, (.array (.object "java/io/ObjectStreamField")), .char, (.object "java/util/Comparator"), .byte, .byte]
  resolved := Array.replicate 1451 none
  statics := some 0 }

def pool8 : Array CpInfo := pool [(6, .class_ 8), (1, u "java/lang/Object"), (0, u "<init>"), (0, u "()V"), (1, .class_ 14), (1, u "java/lang/StringUTF16"), (31, u "$assertionsDisabled"), (0, u "Z"), (13, u "HI_BYTE_SHIFT"), (0, u "I"), (2, u "LO_BYTE_SHIFT"), (49, .methodref 12 116), (0, .nameAndType 117 118), (0, u "compress"), (0, u "([CI[BII)I"), (3, u "([CII)[B"), (138, u "coderFromArrayLen"), (0, u "([BI)B"), (106, .class_ 371), (1, u "java/lang/StringUTF16$LinesSpliterator"), (58, u "MAX_LENGTH"), (196, .class_ 628), (0, u "java/lang/StringUTF16$CodePointsSpliterator"), (0, .class_ 630), (0, u "java/lang/StringUTF16$CharsSpliterator")] 4

def k8m0 : Method := { name := "<init>", desc := "()V", sig := { parameters := [], returnType := none }, accessFlags := 0, code := none }
def k8c1 : Code := { maxStack := 2, maxLocals := 2, code := jdk_52_method_15_code, exceptionTable := #[], attributes := #[] }
def k8m1 : Method := { name := "coderFromArrayLen", desc := "([BI)B", sig := { parameters := [(.array .byte), .int], returnType := some .byte }, accessFlags := 8, code := some k8c1 }
def k8c2 : Code := { maxStack := 5, maxLocals := 6, code := jdk_52_method_16_code, exceptionTable := #[], attributes := #[] }
def k8m2 : Method := { name := "compress", desc := "([CII)[B", sig := { parameters := [(.array .char), .int, .int], returnType := some (.array .byte) }, accessFlags := 9, code := some k8c2 }
def k8c3 : Code := { maxStack := 3, maxLocals := 7, code := jdk_52_method_21_code, exceptionTable := #[], attributes := #[] }
def k8m3 : Method := { name := "compress", desc := "([CI[BII)I", sig := { parameters := [(.array .char), .int, (.array .byte), .int, .int], returnType := some .int }, accessFlags := 9, code := some k8c3 }
/-- java/lang/StringUTF16 -/
def k8 : Class := { plain "java/lang/StringUTF16" (some 0) with
  accessFlags := 48
  interfaces := #[]
  cf := some (fileOf pool8 12 #[.nestMembers #[627, 629, 369]] #[{ accessFlags := 0, nameIndex := 9, descriptorIndex := 10, attributes := #[] }, { accessFlags := 8, nameIndex := 261, descriptorIndex := 262, attributes := #[] }, { accessFlags := 9, nameIndex := 117, descriptorIndex := 122, attributes := #[] }, { accessFlags := 9, nameIndex := 117, descriptorIndex := 118, attributes := #[] }] 48 6 #[] #[{ accessFlags := 26, nameIndex := 61, descriptorIndex := 62, attributes := #[] }, { accessFlags := 26, nameIndex := 65, descriptorIndex := 62, attributes := #[] }, { accessFlags := 24, nameIndex := 430, descriptorIndex := 62, attributes := #[] }, { accessFlags := 4120, nameIndex := 46, descriptorIndex := 47, attributes := #[] }])
  fields := #[{ name := "HI_BYTE_SHIFT", type := .int, accessFlags := 26, slot := 0, constantValue := 0 }, { name := "LO_BYTE_SHIFT", type := .int, accessFlags := 26, slot := 1, constantValue := 0 }, { name := "MAX_LENGTH", type := .int, accessFlags := 24, slot := 2, constantValue := 0 }, { name := "$assertionsDisabled", type := .boolean, accessFlags := 4120, slot := 3, constantValue := 0 }]
  methods := #[k8m0, k8m1, k8m2, k8m3]
  instanceTypes := #[]
  staticTypes := #[.int, .int, .int, .boolean]
  resolved := Array.replicate 635 none
  statics := none }

def pool9 : Array CpInfo := pool [(1, .methodref 2 3), (0, .class_ 4), (0, .nameAndType 5 6), (0, u "java/lang/Object"), (0, u "<init>"), (0, u "()V"), (0, .class_ 8), (0, u "java/lang/Record")] 13

def k9c0 : Code := { maxStack := 1, maxLocals := 1, code := jdk_30_method_1_code, exceptionTable := #[], attributes := #[] }
def k9m0 : Method := { name := "<init>", desc := "()V", sig := { parameters := [], returnType := none }, accessFlags := 4, code := some k9c0 }
/-- java/lang/Record -/
def k9 : Class := { plain "java/lang/Record" (some 0) with
  accessFlags := 1057
  interfaces := #[]
  cf := some (fileOf pool9 7 #[] #[{ accessFlags := 4, nameIndex := 5, descriptorIndex := 6, attributes := #[] }] 1057 2 #[] #[])
  fields := #[]
  methods := #[k9m0]
  instanceTypes := #[]
  staticTypes := #[]
  resolved := Array.replicate 22 none
  statics := none }

def pool10 : Array CpInfo := pool [(1, .methodref 2 3), (0, .class_ 4), (0, .nameAndType 5 6), (0, u "java/lang/Record"), (0, u "<init>"), (0, u "()V"), (0, .fieldref 8 9), (0, .class_ 10), (0, .nameAndType 11 12), (0, u "com/example/libpersist/libpersist/core/model/Column"), (0, u "name"), (0, u "Ljava/lang/String;"), (0, .fieldref 8 14), (0, .nameAndType 15 16), (0, u "nullable"), (0, u "Z"), (0, .fieldref 8 18), (0, .nameAndType 19 16), (0, u "unique"), (0, .fieldref 8 21), (0, .nameAndType 22 16), (0, u "insertable"), (0, .fieldref 8 24), (0, .nameAndType 25 16), (0, u "updatable"), (0, .fieldref 8 27), (0, .nameAndType 28 29), (0, u "length"), (0, u "I"), (0, .fieldref 8 31), (0, .nameAndType 32 29), (0, u "precision"), (0, .fieldref 8 34), (0, .nameAndType 35 29), (0, u "scale"), (0, .fieldref 8 37), (0, .nameAndType 38 12), (0, u "definition"), (0, .methodref 8 40), (0, .nameAndType 5 41), (0, u "(Ljava/lang/String;ZZZZIIILjava/lang/String;)V"), (21, u "(Z)Lcom/example/libpersist/libpersist/core/model/Column;"), (0, u "withNullable"), (4, u "()Ljava/lang/String;"), (0, u "()I"), (1, u "()Z")] 28

def k10c0 : Code := { maxStack := 2, maxLocals := 10, code := prog_12_method_2_code, exceptionTable := #[], attributes := #[] }
def k10m0 : Method := { name := "<init>", desc := "(Ljava/lang/String;ZZZZIIILjava/lang/String;)V", sig := { parameters := [(.object "java/lang/String"), .boolean, .boolean, .boolean, .boolean, .int, .int, .int, (.object "java/lang/String")], returnType := none }, accessFlags := 1, code := some k10c0 }
def k10c1 : Code := { maxStack := 11, maxLocals := 2, code := prog_12_method_4_code, exceptionTable := #[], attributes := #[] }
def k10m1 : Method := { name := "withNullable", desc := "(Z)Lcom/example/libpersist/libpersist/core/model/Column;", sig := { parameters := [.boolean], returnType := some (.object "com/example/libpersist/libpersist/core/model/Column") }, accessFlags := 1, code := some k10c1 }
def k10c2 : Code := { maxStack := 1, maxLocals := 1, code := prog_12_method_11_code, exceptionTable := #[], attributes := #[] }
def k10m2 : Method := { name := "name", desc := "()Ljava/lang/String;", sig := { parameters := [], returnType := some (.object "java/lang/String") }, accessFlags := 1, code := some k10c2 }
def k10c3 : Code := { maxStack := 1, maxLocals := 1, code := prog_12_method_12_code, exceptionTable := #[], attributes := #[] }
def k10m3 : Method := { name := "nullable", desc := "()Z", sig := { parameters := [], returnType := some .boolean }, accessFlags := 1, code := some k10c3 }
def k10c4 : Code := { maxStack := 1, maxLocals := 1, code := prog_12_method_13_code, exceptionTable := #[], attributes := #[] }
def k10m4 : Method := { name := "unique", desc := "()Z", sig := { parameters := [], returnType := some .boolean }, accessFlags := 1, code := some k10c4 }
def k10c5 : Code := { maxStack := 1, maxLocals := 1, code := prog_12_method_14_code, exceptionTable := #[], attributes := #[] }
def k10m5 : Method := { name := "insertable", desc := "()Z", sig := { parameters := [], returnType := some .boolean }, accessFlags := 1, code := some k10c5 }
def k10c6 : Code := { maxStack := 1, maxLocals := 1, code := prog_12_method_15_code, exceptionTable := #[], attributes := #[] }
def k10m6 : Method := { name := "updatable", desc := "()Z", sig := { parameters := [], returnType := some .boolean }, accessFlags := 1, code := some k10c6 }
def k10c7 : Code := { maxStack := 1, maxLocals := 1, code := prog_12_method_16_code, exceptionTable := #[], attributes := #[] }
def k10m7 : Method := { name := "length", desc := "()I", sig := { parameters := [], returnType := some .int }, accessFlags := 1, code := some k10c7 }
def k10c8 : Code := { maxStack := 1, maxLocals := 1, code := prog_12_method_17_code, exceptionTable := #[], attributes := #[] }
def k10m8 : Method := { name := "precision", desc := "()I", sig := { parameters := [], returnType := some .int }, accessFlags := 1, code := some k10c8 }
def k10c9 : Code := { maxStack := 1, maxLocals := 1, code := prog_12_method_18_code, exceptionTable := #[], attributes := #[] }
def k10m9 : Method := { name := "scale", desc := "()I", sig := { parameters := [], returnType := some .int }, accessFlags := 1, code := some k10c9 }
def k10c10 : Code := { maxStack := 1, maxLocals := 1, code := prog_12_method_19_code, exceptionTable := #[], attributes := #[] }
def k10m10 : Method := { name := "definition", desc := "()Ljava/lang/String;", sig := { parameters := [], returnType := some (.object "java/lang/String") }, accessFlags := 1, code := some k10c10 }
/-- com/example/libpersist/libpersist/core/model/Column -/
def k10 : Class := { plain "com/example/libpersist/libpersist/core/model/Column" (some 9) with
  accessFlags := 49
  interfaces := #[]
  cf := some (fileOf pool10 8 #[] #[{ accessFlags := 1, nameIndex := 5, descriptorIndex := 41, attributes := #[] }, { accessFlags := 1, nameIndex := 64, descriptorIndex := 63, attributes := #[] }, { accessFlags := 1, nameIndex := 11, descriptorIndex := 69, attributes := #[] }, { accessFlags := 1, nameIndex := 15, descriptorIndex := 72, attributes := #[] }, { accessFlags := 1, nameIndex := 19, descriptorIndex := 72, attributes := #[] }, { accessFlags := 1, nameIndex := 22, descriptorIndex := 72, attributes := #[] }, { accessFlags := 1, nameIndex := 25, descriptorIndex := 72, attributes := #[] }, { accessFlags := 1, nameIndex := 28, descriptorIndex := 70, attributes := #[] }, { accessFlags := 1, nameIndex := 32, descriptorIndex := 70, attributes := #[] }, { accessFlags := 1, nameIndex := 35, descriptorIndex := 70, attributes := #[] }, { accessFlags := 1, nameIndex := 38, descriptorIndex := 69, attributes := #[] }] 49 2 #[] #[{ accessFlags := 18, nameIndex := 11, descriptorIndex := 12, attributes := #[] }, { accessFlags := 18, nameIndex := 15, descriptorIndex := 16, attributes := #[] }, { accessFlags := 18, nameIndex := 19, descriptorIndex := 16, attributes := #[] }, { accessFlags := 18, nameIndex := 22, descriptorIndex := 16, attributes := #[] }, { accessFlags := 18, nameIndex := 25, descriptorIndex := 16, attributes := #[] }, { accessFlags := 18, nameIndex := 28, descriptorIndex := 29, attributes := #[] }, { accessFlags := 18, nameIndex := 32, descriptorIndex := 29, attributes := #[] }, { accessFlags := 18, nameIndex := 35, descriptorIndex := 29, attributes := #[] }, { accessFlags := 18, nameIndex := 38, descriptorIndex := 12, attributes := #[] }])
  fields := #[{ name := "name", type := (.object "java/lang/String"), accessFlags := 18, slot := 0, constantValue := 0 }, { name := "nullable", type := .boolean, accessFlags := 18, slot := 1, constantValue := 0 }, { name := "unique", type := .boolean, accessFlags := 18, slot := 2, constantValue := 0 }, { name := "insertable", type := .boolean, accessFlags := 18, slot := 3, constantValue := 0 }, { name := "updatable", type := .boolean, accessFlags := 18, slot := 4, constantValue := 0 }, { name := "length", type := .int, accessFlags := 18, slot := 5, constantValue := 0 }, { name := "precision", type := .int, accessFlags := 18, slot := 6, constantValue := 0 }, { name := "scale", type := .int, accessFlags := 18, slot := 7, constantValue := 0 }, { name := "definition", type := (.object "java/lang/String"), accessFlags := 18, slot := 8, constantValue := 0 }]
  methods := #[k10m0, k10m1, k10m2, k10m3, k10m4, k10m5, k10m6, k10m7, k10m8, k10m9, k10m10]
  instanceTypes := #[(.object "java/lang/String"), .boolean, .boolean, .boolean, .boolean, .int, .int, .int, (.object "java/lang/String")]
  staticTypes := #[]
  resolved := Array.replicate 101 none
  statics := none }

def pool11 : Array CpInfo := pool [(4, .class_ 6), (1, u "java/lang/Object"), (0, u "<init>"), (0, u "()V"), (5, .class_ 16), (1, u "java/lang/StringLatin1"), (104, u "$assertionsDisabled"), (0, u "Z"), (98, .class_ 223), (1, u "java/lang/StringLatin1$LinesSpliterator"), (166, .class_ 391), (0, u "java/lang/StringLatin1$CharsSpliterator")] 3

def k11m0 : Method := { name := "<init>", desc := "()V", sig := { parameters := [], returnType := none }, accessFlags := 0, code := none }
/-- java/lang/StringLatin1 -/
def k11 : Class := { plain "java/lang/StringLatin1" (some 0) with
  accessFlags := 48
  interfaces := #[]
  cf := some (fileOf pool11 14 #[.nestMembers #[390, 221]] #[{ accessFlags := 0, nameIndex := 7, descriptorIndex := 8, attributes := #[] }] 48 4 #[] #[{ accessFlags := 4120, nameIndex := 121, descriptorIndex := 122, attributes := #[] }])
  fields := #[{ name := "$assertionsDisabled", type := .boolean, accessFlags := 4120, slot := 0, constantValue := 0 }]
  methods := #[k11m0]
  instanceTypes := #[]
  staticTypes := #[.boolean]
  resolved := Array.replicate 395 none
  statics := none }

def pool12 : Array CpInfo := pool [(2, .class_ 4), (1, u "java/lang/Object"), (0, u "<init>"), (0, u "()V"), (17, .class_ 26), (1, u "jdk/internal/util/Preconditions"), (28, .class_ 56), (0, u "jdk/internal/util/Preconditions$4"), (57, .class_ 115), (0, u "jdk/internal/util/Preconditions$1"), (7, u "SIOOBE_FORMATTER"), (0, u "Ljava/util/function/BiFunction;"), (0, .class_ 126), (0, u "jdk/internal/util/Preconditions$2"), (3, u "AIOOBE_FORMATTER"), (0, .class_ 132), (0, u "jdk/internal/util/Preconditions$3"), (3, u "IOOBE_FORMATTER")] 57

def k12m0 : Method := { name := "<init>", desc := "()V", sig := { parameters := [], returnType := none }, accessFlags := 1, code := none }
/-- jdk/internal/util/Preconditions -/
def k12 : Class := { plain "jdk/internal/util/Preconditions" (some 0) with
  accessFlags := 33
  interfaces := #[]
  cf := some (fileOf pool12 24 #[.nestMembers #[55, 131, 125, 114]] #[{ accessFlags := 1, nameIndex := 5, descriptorIndex := 6, attributes := #[] }] 33 2 #[] #[{ accessFlags := 25, nameIndex := 123, descriptorIndex := 124, attributes := #[] }, { accessFlags := 25, nameIndex := 130, descriptorIndex := 124, attributes := #[] }, { accessFlags := 25, nameIndex := 136, descriptorIndex := 124, attributes := #[] }])
  fields := #[{ name := "SIOOBE_FORMATTER", type := (.object "java/util/function/BiFunction"), accessFlags := 25, slot := 0, constantValue := 0 }, { name := "AIOOBE_FORMATTER", type := (.object "java/util/function/BiFunction"), accessFlags := 25, slot := 1, constantValue := 0 }, { name := "IOOBE_FORMATTER", type := (.object "java/util/function/BiFunction"), accessFlags := 25, slot := 2, constantValue := 0 }]
  methods := #[k12m0]
  instanceTypes := #[]
  staticTypes := #[(.object "java/util/function/BiFunction"), (.object "java/util/function/BiFunction"), (.object "java/util/function/BiFunction")]
  resolved := Array.replicate 194 none
  statics := some 1 }

def pool13 : Array CpInfo := pool [(9, u "<init>"), (6, .class_ 18), (1, u "java/lang/Object"), (0, u "()V"), (1, .class_ 23), (1, u "jdk/internal/util/ArraysSupport"), (0, u "LOG2_ARRAY_LONG_INDEX_SCALE"), (0, u "I"), (2, u "U"), (0, u "Ljdk/internal/misc/Unsafe;"), (8, u "BIG_ENDIAN"), (0, u "Z"), (8, u "LOG2_BYTE_BIT_SIZE"), (4, u "LOG2_ARRAY_INT_INDEX_SCALE"), (54, u "JLA"), (0, u "Ljdk/internal/access/JavaLangAccess;"), (11, u "LOG2_ARRAY_BOOLEAN_INDEX_SCALE"), (9, u "LOG2_ARRAY_BYTE_INDEX_SCALE"), (5, u "LOG2_ARRAY_CHAR_INDEX_SCALE"), (5, u "LOG2_ARRAY_SHORT_INDEX_SCALE"), (18, u "LOG2_ARRAY_FLOAT_INDEX_SCALE"), (24, u "LOG2_ARRAY_DOUBLE_INDEX_SCALE"), (89, u "T_BOOLEAN"), (2, u "T_CHAR"), (1, u "T_FLOAT"), (1, u "T_DOUBLE"), (1, u "T_BYTE"), (1, u "T_SHORT"), (1, u "T_INT"), (1, u "T_LONG"), (1, u "SOFT_MAX_ARRAY_LENGTH")] 83

def k13m0 : Method := { name := "<init>", desc := "()V", sig := { parameters := [], returnType := none }, accessFlags := 2, code := none }
/-- jdk/internal/util/ArraysSupport -/
def k13 : Class := { plain "jdk/internal/util/ArraysSupport" (some 0) with
  accessFlags := 33
  interfaces := #[]
  cf := some (fileOf pool13 21 #[] #[{ accessFlags := 2, nameIndex := 9, descriptorIndex := 19, attributes := #[] }] 33 16 #[] #[{ accessFlags := 24, nameIndex := 28, descriptorIndex := 29, attributes := #[] }, { accessFlags := 26, nameIndex := 38, descriptorIndex := 39, attributes := #[] }, { accessFlags := 25, nameIndex := 121, descriptorIndex := 25, attributes := #[] }, { accessFlags := 25, nameIndex := 131, descriptorIndex := 25, attributes := #[] }, { accessFlags := 25, nameIndex := 137, descriptorIndex := 25, attributes := #[] }, { accessFlags := 25, nameIndex := 143, descriptorIndex := 25, attributes := #[] }, { accessFlags := 25, nameIndex := 53, descriptorIndex := 25, attributes := #[] }, { accessFlags := 25, nameIndex := 24, descriptorIndex := 25, attributes := #[] }, { accessFlags := 25, nameIndex := 162, descriptorIndex := 25, attributes := #[] }, { accessFlags := 25, nameIndex := 187, descriptorIndex := 25, attributes := #[] }, { accessFlags := 26, nameIndex := 48, descriptorIndex := 25, attributes := #[] }, { accessFlags := 25, nameIndex := 277, descriptorIndex := 25, attributes := #[] }, { accessFlags := 25, nameIndex := 280, descriptorIndex := 25, attributes := #[] }, { accessFlags := 25, nameIndex := 282, descriptorIndex := 25, attributes := #[] }, { accessFlags := 25, nameIndex := 284, descriptorIndex := 25, attributes := #[] }, { accessFlags := 25, nameIndex := 286, descriptorIndex := 25, attributes := #[] }, { accessFlags := 25, nameIndex := 288, descriptorIndex := 25, attributes := #[] }, { accessFlags := 25, nameIndex := 290, descriptorIndex := 25, attributes := #[] }, { accessFlags := 25, nameIndex := 292, descriptorIndex := 25, attributes := #[] }, { accessFlags := 26, nameIndex := 108, descriptorIndex := 109, attributes := #[] }, { accessFlags := 25, nameIndex := 294, descriptorIndex := 25, attributes := #[] }])
  fields := #[{ name := "U", type := (.object "jdk/internal/misc/Unsafe"), accessFlags := 24, slot := 0, constantValue := 0 }, { name := "BIG_ENDIAN", type := .boolean, accessFlags := 26, slot := 1, constantValue := 0 }, { name := "LOG2_ARRAY_BOOLEAN_INDEX_SCALE", type := .int, accessFlags := 25, slot := 2, constantValue := 0 }, { name := "LOG2_ARRAY_BYTE_INDEX_SCALE", type := .int, accessFlags := 25, slot := 3, constantValue := 0 }, { name := "LOG2_ARRAY_CHAR_INDEX_SCALE", type := .int, accessFlags := 25, slot := 4, constantValue := 0 }, { name := "LOG2_ARRAY_SHORT_INDEX_SCALE", type := .int, accessFlags := 25, slot := 5, constantValue := 0 }, { name := "LOG2_ARRAY_INT_INDEX_SCALE", type := .int, accessFlags := 25, slot := 6, constantValue := 0 }, { name := "LOG2_ARRAY_LONG_INDEX_SCALE", type := .int, accessFlags := 25, slot := 7, constantValue := 0 }, { name := "LOG2_ARRAY_FLOAT_INDEX_SCALE", type := .int, accessFlags := 25, slot := 8, constantValue := 0 }, { name := "LOG2_ARRAY_DOUBLE_INDEX_SCALE", type := .int, accessFlags := 25, slot := 9, constantValue := 0 }, { name := "LOG2_BYTE_BIT_SIZE", type := .int, accessFlags := 26, slot := 10, constantValue := 0 }, { name := "T_BOOLEAN", type := .int, accessFlags := 25, slot := 11, constantValue := 0 }, { name := "T_CHAR", type := .int, accessFlags := 25, slot := 12, constantValue := 0 }, { name := "T_FLOAT", type := .int, accessFlags := 25, slot := 13, constantValue := 0 }, { name := "T_DOUBLE", type := .int, accessFlags := 25, slot := 14, constantValue := 0 }, { name := "T_BYTE", type := .int, accessFlags := 25, slot := 15, constantValue := 0 }, { name := "T_SHORT", type := .int, accessFlags := 25, slot := 16, constantValue := 0 }, { name := "T_INT", type := .int, accessFlags := 25, slot := 17, constantValue := 0 }, { name := "T_LONG", type := .int, accessFlags := 25, slot := 18, constantValue := 0 }, { name := "JLA", type := (.object "jdk/internal/access/JavaLangAccess"), accessFlags := 26, slot := 19, constantValue := 0 }, { name := "SOFT_MAX_ARRAY_LENGTH", type := .int, accessFlags := 25, slot := 20, constantValue := 0 }]
  methods := #[k13m0]
  instanceTypes := #[]
  staticTypes := #[(.object "jdk/internal/misc/Unsafe"), .boolean, .int, .int, .int, .int, .int, .int, .int, .int, .int, .int, .int, .int, .int, .int, .int, .int, .int, (.object "jdk/internal/access/JavaLangAccess"), .int]
  resolved := Array.replicate 378 none
  statics := none }

def pool14 : Array CpInfo := pool [(1, u "java/lang/Cloneable"), (0, .class_ 1), (0, u "java/lang/Object"), (0, .class_ 3)] 3

/-- java/lang/Cloneable -/
def k14 : Class := { plain "java/lang/Cloneable" (some 0) with
  accessFlags := 1537
  interfaces := #[]
  cf := some (fileOf pool14 2 #[] #[] 1537 4 #[] #[])
  fields := #[]
  methods := #[]
  instanceTypes := #[]
  staticTypes := #[]
  resolved := Array.replicate 8 none
  statics := none }

/-- the primitive byte -/
def k15 : Class := { plain "byte" none with kind := .primitive 'B', accessFlags := 0x411 }
/-- [B -/
def k16 : Class := { plain "[B" (some 0) with kind := .array 15 .byte, interfaces := #[14, 2], accessFlags := 1041 }

/-- the primitive char -/
def k17 : Class := { plain "char" none with kind := .primitive 'C', accessFlags := 0x411 }
/-- [C -/
def k18 : Class := { plain "[C" (some 0) with kind := .array 17 .char, interfaces := #[14, 2], accessFlags := 1041 }

/-- the primitive int -/
def k19 : Class := { plain "int" none with kind := .primitive 'I', accessFlags := 0x411 }
/-- [I -/
def k20 : Class := { plain "[I" (some 0) with kind := .array 19 .int, interfaces := #[14, 2], accessFlags := 1041 }

def heap : Heap := #[{ cls := 7, slots := #[.long 0, .int 1, .null, .int 0, .null, .int 0, .int 0], vm := .statics 7 },
  { cls := 12, slots := #[.null, .null, .null], vm := .statics 12 }]
def classes : Array Class := #[k0, k1, k2, k3, k4, k5, k6, k7, k8, k9, k10, k11, k12, k13, k14, k15, k16, k17, k18, k19, k20]
def interned : List (Array UInt16 × Addr) := []
def slotsUsed : Nat := 10
def theMethod : MethodId := ⟨1, 1⟩
def args0 : Array Value := #[.int 5, .int 6, .int 7, .int 8, .long 9, .long 10]
def aboutOver (below : List Frame) : State where
  vm := { classes := classes, interned := interned.toArray }
  heap := heap
  slotsUsed := slotsUsed
  threads := #[{ frames := .invoking theMethod args0 :: below }]
def below0 : List Frame := [.native { method := ⟨0, 0⟩, args := #[] }]
def about1 : State := aboutOver below0
def p0 : Program := .bare "" "" ""
def e0 : Env := launch0.env 0 0 0
theorem w_frames : about1.frames = Frame.invoking theMethod args0 :: below0 := rfl
set_option maxRecDepth 65536 in
theorem w_args : argsFit about1.vm theMethod args0 = true := by decide +kernel
set_option maxRecDepth 65536 in
theorem w_heap : heapFits about1 = true := by decide +kernel
set_option maxRecDepth 65536 in
theorem w_runnable : about1.curStatus? = some .runnable := by decide +kernel
set_option maxRecDepth 65536 in
theorem w_alone : about1.alone = true := by decide +kernel
set_option maxRecDepth 65536 in
theorem w_named : about1.methodNamed? x = some theMethod := by decide +kernel
set_option maxRecDepth 65536 in
theorem w_hears : about1.hears theMethod below0 = true := by decide +kernel
set_option maxRecDepth 65536 in
theorem w_ripe : about1.ripe theMethod args0 below0 = true := by decide +kernel
theorem w_running : about1.status = .running := rfl
set_option maxRecDepth 65536 in
theorem w_room : about1.hasRoom e0.platform room_1 = true :=
  launch0.hasRoom_least _ room_1 (by decide +kernel) (by decide +kernel) (by decide +kernel) (by decide +kernel) (by decide +kernel) (by decide +kernel)
theorem allAtoms_all (ts : List Jvm.Cond) (a : Array Jvm.Value) (st : Jvm.State) : (allAtoms ts).before a st = ts.all (fun c => c.before a st) := by
  induction ts with
  | nil => rfl
  | cons c t ih =>
    show (Jvm.Cond.and c (allAtoms t)).before a st = _
    rw [Jvm.Cond.before_and, ih, List.all_cons]
def words1 : List Jvm.Cond := Jvm.Cond.code x code maxLocals ret :: tables_1
/-- a 'code' word, met by the world's own term for the bytes: nothing is compared byte by byte -/
theorem code_word {y : MethodName} {bytes : ByteArray} {mx : Nat} {rt : Option FieldType} {a : Array Value} {s : State} {m : MethodId} {meth : Method} {c : Code} (h1 : s.methodNamed? y = some m) (h2 : s.vm.method? m = some meth) (h3 : meth.code = some c) (h4 : c.code = bytes)
    (h5 : (c.maxLocals == mx && c.exceptionTable.isEmpty && decide (c.maxStack ≤ mostOperands) && decide (meth.sig.returnType = rt) && !meth.locks && decide (parseMethodDescriptor y.desc = some meth.sig)) = true) : (Jvm.Cond.code y bytes mx rt).before a s = true := by
  simp only [Bool.and_eq_true, beq_iff_eq, Bool.not_eq_true', decide_eq_true_eq] at h5
  obtain ⟨⟨⟨⟨⟨g1, g2⟩, g3⟩, g4⟩, g5⟩, g6⟩ := h5
  simp [Cond.before, Cond.holds, Cond.value, h1, h2, h3, h4, g1, g2, g3, g4, g5, g6]
def isCode : Jvm.Cond → Bool
  | .code _ _ _ _ => true
  | _ => false
theorem all_split {L : List Jvm.Cond} {P : Jvm.Cond → Bool} (h1 : L.all (fun c => isCode c || P c) = true) (h2 : ∀ c ∈ L.filter isCode, P c = true) : L.all P = true := by
  refine List.all_eq_true.mpr fun c hc => ?_
  have h := List.all_eq_true.mp h1 c hc
  rcases Bool.eq_false_or_eq_true (isCode c) with hi | hi
  · exact h2 c (List.mem_filter.mpr ⟨hc, hi⟩)
  · simpa [hi] using h
set_option maxRecDepth 65536 in
theorem w_c0 : (Jvm.Cond.code x code maxLocals ret).before args0 about1 = true := code_word (m := ⟨1, 1⟩) (meth := k1m1) (c := k1c1) (by decide +kernel) rfl rfl rfl (by decide +kernel)
set_option maxRecDepth 65536 in
theorem w_c1 : (Jvm.Cond.code ({ cls := "com/example/libpersist/libpersist/core/model/ColumnWithNullablePinLaw", name := "str", desc := "(J)Ljava/lang/String;" } : Jvm.MethodName) method_3_code (3 : Nat) (Option.some (Jvm.ClassFile.FieldType.object "java/lang/String"))).before args0 about1 = true := code_word (m := ⟨1, 2⟩) (meth := k1m2) (c := k1c2) (by decide +kernel) rfl rfl rfl (by decide +kernel)
set_option maxRecDepth 65536 in
theorem w_c2 : (Jvm.Cond.code ({ cls := "java/lang/String", name := "<init>", desc := "([C)V" } : Jvm.MethodName) jdk_42_method_3_code (2 : Nat) (Option.none : Option Jvm.ClassFile.FieldType)).before args0 about1 = true := code_word (m := ⟨7, 1⟩) (meth := k7m1) (c := k7c1) (by decide +kernel) rfl rfl rfl (by decide +kernel)
set_option maxRecDepth 65536 in
theorem w_c3 : (Jvm.Cond.code ({ cls := "java/lang/String", name := "<init>", desc := "([CIILjava/lang/Void;)V" } : Jvm.MethodName) jdk_42_method_149_code (6 : Nat) (Option.none : Option Jvm.ClassFile.FieldType)).before args0 about1 = true := code_word (m := ⟨7, 3⟩) (meth := k7m3) (c := k7c3) (by decide +kernel) rfl rfl rfl (by decide +kernel)
set_option maxRecDepth 65536 in
theorem w_c4 : (Jvm.Cond.code ({ cls := "java/lang/Object", name := "<init>", desc := "()V" } : Jvm.MethodName) object_method_1_code (1 : Nat) (Option.none : Option Jvm.ClassFile.FieldType)).before args0 about1 = true := code_word (m := ⟨0, 0⟩) (meth := k0m0) (c := k0c0) (by decide +kernel) rfl rfl rfl (by decide +kernel)
set_option maxRecDepth 65536 in
theorem w_c5 : (Jvm.Cond.code ({ cls := "java/lang/StringUTF16", name := "compress", desc := "([CII)[B" } : Jvm.MethodName) jdk_52_method_16_code (6 : Nat) (Option.some (Jvm.ClassFile.FieldType.array Jvm.ClassFile.FieldType.byte))).before args0 about1 = true := code_word (m := ⟨8, 2⟩) (meth := k8m2) (c := k8c2) (by decide +kernel) rfl rfl rfl (by decide +kernel)
set_option maxRecDepth 65536 in
theorem w_c6 : (Jvm.Cond.code ({ cls := "java/lang/StringUTF16", name := "compress", desc := "([CI[BII)I" } : Jvm.MethodName) jdk_52_method_21_code (7 : Nat) (Option.some Jvm.ClassFile.FieldType.int)).before args0 about1 = true := code_word (m := ⟨8, 3⟩) (meth := k8m3) (c := k8c3) (by decide +kernel) rfl rfl rfl (by decide +kernel)
set_option maxRecDepth 65536 in
theorem w_c7 : (Jvm.Cond.code ({ cls := "java/lang/StringUTF16", name := "coderFromArrayLen", desc := "([BI)B" } : Jvm.MethodName) jdk_52_method_15_code (2 : Nat) (Option.some Jvm.ClassFile.FieldType.byte)).before args0 about1 = true := code_word (m := ⟨8, 1⟩) (meth := k8m1) (c := k8c1) (by decide +kernel) rfl rfl rfl (by decide +kernel)
set_option maxRecDepth 65536 in
theorem w_c8 : (Jvm.Cond.code ({ cls := "com/example/libpersist/libpersist/core/model/Column", name := "<init>", desc := "(Ljava/lang/String;ZZZZIIILjava/lang/String;)V" } : Jvm.MethodName) prog_12_method_2_code (10 : Nat) (Option.none : Option Jvm.ClassFile.FieldType)).before args0 about1 = true := code_word (m := ⟨10, 0⟩) (meth := k10m0) (c := k10c0) (by decide +kernel) rfl rfl rfl (by decide +kernel)
set_option maxRecDepth 65536 in
theorem w_c9 : (Jvm.Cond.code ({ cls := "java/lang/Record", name := "<init>", desc := "()V" } : Jvm.MethodName) jdk_30_method_1_code (1 : Nat) (Option.none : Option Jvm.ClassFile.FieldType)).before args0 about1 = true := code_word (m := ⟨9, 0⟩) (meth := k9m0) (c := k9c0) (by decide +kernel) rfl rfl rfl (by decide +kernel)
set_option maxRecDepth 65536 in
theorem w_c10 : (Jvm.Cond.code ({ cls := "com/example/libpersist/libpersist/core/model/Column", name := "withNullable", desc := "(Z)Lcom/example/libpersist/libpersist/core/model/Column;" } : Jvm.MethodName) prog_12_method_4_code (2 : Nat) (Option.some (Jvm.ClassFile.FieldType.object "com/example/libpersist/libpersist/core/model/Column"))).before args0 about1 = true := code_word (m := ⟨10, 1⟩) (meth := k10m1) (c := k10c1) (by decide +kernel) rfl rfl rfl (by decide +kernel)
set_option maxRecDepth 65536 in
theorem w_c11 : (Jvm.Cond.code ({ cls := "com/example/libpersist/libpersist/core/model/Column", name := "nullable", desc := "()Z" } : Jvm.MethodName) prog_12_method_12_code (1 : Nat) (Option.some Jvm.ClassFile.FieldType.boolean)).before args0 about1 = true := code_word (m := ⟨10, 3⟩) (meth := k10m3) (c := k10c3) (by decide +kernel) rfl rfl rfl (by decide +kernel)
set_option maxRecDepth 65536 in
theorem w_c12 : (Jvm.Cond.code ({ cls := "com/example/libpersist/libpersist/core/model/Column", name := "unique", desc := "()Z" } : Jvm.MethodName) prog_12_method_13_code (1 : Nat) (Option.some Jvm.ClassFile.FieldType.boolean)).before args0 about1 = true := code_word (m := ⟨10, 4⟩) (meth := k10m4) (c := k10c4) (by decide +kernel) rfl rfl rfl (by decide +kernel)
set_option maxRecDepth 65536 in
theorem w_c13 : (Jvm.Cond.code ({ cls := "com/example/libpersist/libpersist/core/model/Column", name := "insertable", desc := "()Z" } : Jvm.MethodName) prog_12_method_14_code (1 : Nat) (Option.some Jvm.ClassFile.FieldType.boolean)).before args0 about1 = true := code_word (m := ⟨10, 5⟩) (meth := k10m5) (c := k10c5) (by decide +kernel) rfl rfl rfl (by decide +kernel)
set_option maxRecDepth 65536 in
theorem w_c14 : (Jvm.Cond.code ({ cls := "com/example/libpersist/libpersist/core/model/Column", name := "updatable", desc := "()Z" } : Jvm.MethodName) prog_12_method_15_code (1 : Nat) (Option.some Jvm.ClassFile.FieldType.boolean)).before args0 about1 = true := code_word (m := ⟨10, 6⟩) (meth := k10m6) (c := k10c6) (by decide +kernel) rfl rfl rfl (by decide +kernel)
set_option maxRecDepth 65536 in
theorem w_c15 : (Jvm.Cond.code ({ cls := "com/example/libpersist/libpersist/core/model/Column", name := "length", desc := "()I" } : Jvm.MethodName) prog_12_method_16_code (1 : Nat) (Option.some Jvm.ClassFile.FieldType.int)).before args0 about1 = true := code_word (m := ⟨10, 7⟩) (meth := k10m7) (c := k10c7) (by decide +kernel) rfl rfl rfl (by decide +kernel)
set_option maxRecDepth 65536 in
theorem w_c16 : (Jvm.Cond.code ({ cls := "com/example/libpersist/libpersist/core/model/Column", name := "precision", desc := "()I" } : Jvm.MethodName) prog_12_method_17_code (1 : Nat) (Option.some Jvm.ClassFile.FieldType.int)).before args0 about1 = true := code_word (m := ⟨10, 8⟩) (meth := k10m8) (c := k10c8) (by decide +kernel) rfl rfl rfl (by decide +kernel)
set_option maxRecDepth 65536 in
theorem w_c17 : (Jvm.Cond.code ({ cls := "com/example/libpersist/libpersist/core/model/Column", name := "scale", desc := "()I" } : Jvm.MethodName) prog_12_method_18_code (1 : Nat) (Option.some Jvm.ClassFile.FieldType.int)).before args0 about1 = true := code_word (m := ⟨10, 9⟩) (meth := k10m9) (c := k10c9) (by decide +kernel) rfl rfl rfl (by decide +kernel)
set_option maxRecDepth 65536 in
theorem w_c18 : (Jvm.Cond.code ({ cls := "com/example/libpersist/libpersist/core/model/Column", name := "name", desc := "()Ljava/lang/String;" } : Jvm.MethodName) prog_12_method_11_code (1 : Nat) (Option.some (Jvm.ClassFile.FieldType.object "java/lang/String"))).before args0 about1 = true := code_word (m := ⟨10, 2⟩) (meth := k10m2) (c := k10c2) (by decide +kernel) rfl rfl rfl (by decide +kernel)
set_option maxRecDepth 65536 in
theorem w_c19 : (Jvm.Cond.code ({ cls := "com/example/libpersist/libpersist/core/model/ColumnWithNullablePinLaw", name := "same", desc := "(Ljava/lang/String;Ljava/lang/String;)Z" } : Jvm.MethodName) method_4_code (2 : Nat) (Option.some Jvm.ClassFile.FieldType.boolean)).before args0 about1 = true := code_word (m := ⟨1, 3⟩) (meth := k1m3) (c := k1c3) (by decide +kernel) rfl rfl rfl (by decide +kernel)
set_option maxRecDepth 65536 in
theorem w_c20 : (Jvm.Cond.code ({ cls := "java/lang/String", name := "equals", desc := "(Ljava/lang/Object;)Z" } : Jvm.MethodName) jdk_42_method_66_code (3 : Nat) (Option.some Jvm.ClassFile.FieldType.boolean)).before args0 about1 = true := code_word (m := ⟨7, 2⟩) (meth := k7m2) (c := k7c2) (by decide +kernel) rfl rfl rfl (by decide +kernel)
set_option maxRecDepth 65536 in
theorem w_c21 : (Jvm.Cond.code ({ cls := "com/example/libpersist/libpersist/core/model/Column", name := "definition", desc := "()Ljava/lang/String;" } : Jvm.MethodName) prog_12_method_19_code (1 : Nat) (Option.some (Jvm.ClassFile.FieldType.object "java/lang/String"))).before args0 about1 = true := code_word (m := ⟨10, 10⟩) (meth := k10m10) (c := k10c10) (by decide +kernel) rfl rfl rfl (by decide +kernel)
def codes1 : List Jvm.Cond := [Jvm.Cond.code x code maxLocals ret, Jvm.Cond.code ({ cls := "com/example/libpersist/libpersist/core/model/ColumnWithNullablePinLaw", name := "str", desc := "(J)Ljava/lang/String;" } : Jvm.MethodName) method_3_code (3 : Nat) (Option.some (Jvm.ClassFile.FieldType.object "java/lang/String")), Jvm.Cond.code ({ cls := "java/lang/String", name := "<init>", desc := "([C)V" } : Jvm.MethodName) jdk_42_method_3_code (2 : Nat) (Option.none : Option Jvm.ClassFile.FieldType), Jvm.Cond.code ({ cls := "java/lang/String", name := "<init>", desc := "([CIILjava/lang/Void;)V" } : Jvm.MethodName) jdk_42_method_149_code (6 : Nat) (Option.none : Option Jvm.ClassFile.FieldType), Jvm.Cond.code ({ cls := "java/lang/Object", name := "<init>", desc := "()V" } : Jvm.MethodName) object_method_1_code (1 : Nat) (Option.none : Option Jvm.ClassFile.FieldType), Jvm.Cond.code ({ cls := "java/lang/StringUTF16", name := "compress", desc := "([CII)[B" } : Jvm.MethodName) jdk_52_method_16_code (6 : Nat) (Option.some (Jvm.ClassFile.FieldType.array Jvm.ClassFile.FieldType.byte)), Jvm.Cond.code ({ cls := "java/lang/StringUTF16", name := "compress", desc := "([CI[BII)I" } : Jvm.MethodName) jdk_52_method_21_code (7 : Nat) (Option.some Jvm.ClassFile.FieldType.int), Jvm.Cond.code ({ cls := "java/lang/StringUTF16", name := "coderFromArrayLen", desc := "([BI)B" } : Jvm.MethodName) jdk_52_method_15_code (2 : Nat) (Option.some Jvm.ClassFile.FieldType.byte), Jvm.Cond.code ({ cls := "com/example/libpersist/libpersist/core/model/Column", name := "<init>", desc := "(Ljava/lang/String;ZZZZIIILjava/lang/String;)V" } : Jvm.MethodName) prog_12_method_2_code (10 : Nat) (Option.none : Option Jvm.ClassFile.FieldType), Jvm.Cond.code ({ cls := "java/lang/Record", name := "<init>", desc := "()V" } : Jvm.MethodName) jdk_30_method_1_code (1 : Nat) (Option.none : Option Jvm.ClassFile.FieldType), Jvm.Cond.code ({ cls := "com/example/libpersist/libpersist/core/model/Column", name := "withNullable", desc := "(Z)Lcom/example/libpersist/libpersist/core/model/Column;" } : Jvm.MethodName) prog_12_method_4_code (2 : Nat) (Option.some (Jvm.ClassFile.FieldType.object "com/example/libpersist/libpersist/core/model/Column")), Jvm.Cond.code ({ cls := "com/example/libpersist/libpersist/core/model/Column", name := "nullable", desc := "()Z" } : Jvm.MethodName) prog_12_method_12_code (1 : Nat) (Option.some Jvm.ClassFile.FieldType.boolean), Jvm.Cond.code ({ cls := "com/example/libpersist/libpersist/core/model/Column", name := "unique", desc := "()Z" } : Jvm.MethodName) prog_12_method_13_code (1 : Nat) (Option.some Jvm.ClassFile.FieldType.boolean), Jvm.Cond.code ({ cls := "com/example/libpersist/libpersist/core/model/Column", name := "insertable", desc := "()Z" } : Jvm.MethodName) prog_12_method_14_code (1 : Nat) (Option.some Jvm.ClassFile.FieldType.boolean), Jvm.Cond.code ({ cls := "com/example/libpersist/libpersist/core/model/Column", name := "updatable", desc := "()Z" } : Jvm.MethodName) prog_12_method_15_code (1 : Nat) (Option.some Jvm.ClassFile.FieldType.boolean), Jvm.Cond.code ({ cls := "com/example/libpersist/libpersist/core/model/Column", name := "length", desc := "()I" } : Jvm.MethodName) prog_12_method_16_code (1 : Nat) (Option.some Jvm.ClassFile.FieldType.int), Jvm.Cond.code ({ cls := "com/example/libpersist/libpersist/core/model/Column", name := "precision", desc := "()I" } : Jvm.MethodName) prog_12_method_17_code (1 : Nat) (Option.some Jvm.ClassFile.FieldType.int), Jvm.Cond.code ({ cls := "com/example/libpersist/libpersist/core/model/Column", name := "scale", desc := "()I" } : Jvm.MethodName) prog_12_method_18_code (1 : Nat) (Option.some Jvm.ClassFile.FieldType.int), Jvm.Cond.code ({ cls := "com/example/libpersist/libpersist/core/model/Column", name := "name", desc := "()Ljava/lang/String;" } : Jvm.MethodName) prog_12_method_11_code (1 : Nat) (Option.some (Jvm.ClassFile.FieldType.object "java/lang/String")), Jvm.Cond.code ({ cls := "com/example/libpersist/libpersist/core/model/ColumnWithNullablePinLaw", name := "same", desc := "(Ljava/lang/String;Ljava/lang/String;)Z" } : Jvm.MethodName) method_4_code (2 : Nat) (Option.some Jvm.ClassFile.FieldType.boolean), Jvm.Cond.code ({ cls := "java/lang/String", name := "equals", desc := "(Ljava/lang/Object;)Z" } : Jvm.MethodName) jdk_42_method_66_code (3 : Nat) (Option.some Jvm.ClassFile.FieldType.boolean), Jvm.Cond.code ({ cls := "com/example/libpersist/libpersist/core/model/Column", name := "definition", desc := "()Ljava/lang/String;" } : Jvm.MethodName) prog_12_method_19_code (1 : Nat) (Option.some (Jvm.ClassFile.FieldType.object "java/lang/String"))]
set_option maxRecDepth 65536 in
theorem codes_eq : words1.filter isCode = codes1 := rfl
theorem w_codes : ∀ c ∈ words1.filter isCode, c.before args0 about1 = true := by
  rw [codes_eq]
  intro c hc
  simp only [codes1, List.mem_cons, List.not_mem_nil, or_false] at hc
  rcases hc with rfl | rfl | rfl | rfl | rfl | rfl | rfl | rfl | rfl | rfl | rfl | rfl | rfl | rfl | rfl | rfl | rfl | rfl | rfl | rfl | rfl | rfl
  · exact w_c0
  · exact w_c1
  · exact w_c2
  · exact w_c3
  · exact w_c4
  · exact w_c5
  · exact w_c6
  · exact w_c7
  · exact w_c8
  · exact w_c9
  · exact w_c10
  · exact w_c11
  · exact w_c12
  · exact w_c13
  · exact w_c14
  · exact w_c15
  · exact w_c16
  · exact w_c17
  · exact w_c18
  · exact w_c19
  · exact w_c20
  · exact w_c21
set_option maxRecDepth 65536 in
theorem w_t1 : (words1.take 24).all (fun c => isCode c || c.before args0 about1) = true := by decide +kernel
set_option maxRecDepth 65536 in
theorem w_t2 : ((words1.drop 24).take 24).all (fun c => isCode c || c.before args0 about1) = true := by decide +kernel
set_option maxRecDepth 65536 in
theorem w_t3 : (((words1.drop 24).drop 24).take 24).all (fun c => isCode c || c.before args0 about1) = true := by decide +kernel
set_option maxRecDepth 65536 in
theorem w_t4 : ((((words1.drop 24).drop 24).drop 24).take 24).all (fun c => isCode c || c.before args0 about1) = true := by decide +kernel
set_option maxRecDepth 65536 in
theorem w_t5 : (((((words1.drop 24).drop 24).drop 24).drop 24).take 24).all (fun c => isCode c || c.before args0 about1) = true := by decide +kernel
set_option maxRecDepth 65536 in
theorem w_t6 : (((((words1.drop 24).drop 24).drop 24).drop 24).drop 24).all (fun c => isCode c || c.before args0 about1) = true := by decide +kernel
theorem w_tables : (allAtoms (Jvm.Cond.code x code maxLocals ret :: tables_1)).before args0 about1 = true := by
  rw [allAtoms_all]
  show words1.all (fun c => c.before args0 about1) = true
  refine all_split ?_ w_codes
  rw [← List.take_append_drop 24 words1, List.all_append, w_t1, ← List.take_append_drop 24 (words1.drop 24), List.all_append, w_t2, ← List.take_append_drop 24 ((words1.drop 24).drop 24), List.all_append, w_t3, ← List.take_append_drop 24 (((words1.drop 24).drop 24).drop 24), List.all_append, w_t4, ← List.take_append_drop 24 ((((words1.drop 24).drop 24).drop 24).drop 24), List.all_append, w_t5, w_t6]
  rfl
set_option maxRecDepth 65536 in
theorem w_rest : rest_1_c.before args0 about1 = true := by decide +kernel
set_option maxRecDepth 65536 in
theorem w_case : (Jvm.Cond.and given_1 narrow_1).before args0 about1 = true := by decide +kernel
theorem w_applies : (headSpec (Jvm.Cond.code x code maxLocals ret :: tables_1) room_1).applies x e0.platform about1 = true :=
  (Spec.applies_iff w_frames).mpr ⟨w_running, w_runnable, w_alone, w_named, w_hears, w_ripe, w_room, w_tables⟩
theorem atStart : AtStart classFile x code maxLocals ret World_1 tables_1 room_1 Calls_1 rest_1 Pre_1 launch0 p0 e0 about1 theMethod args0 below0 :=
  ⟨lists_1, trivial, launch0.admits_env _ _ _, launch0.least_env, fairChoices_fair.cas, fairChoices_fair.clock, w_frames, w_args, w_heap, w_applies, trivial, w_rest, w_case⟩
end start1
theorem witness_1 : WitnessClaimed_1 := ⟨start1.p0, start1.e0, start1.about1, start1.theMethod, start1.args0, start1.below0, start1.atStart⟩
end Jvm.Pilot.@@N@@
