import JvmDerived
import JvmDerived.Pilot.@@N@@Statement
import JvmDerived.Pilot.@@N@@Code
set_option linter.unusedVariables false
set_option linter.unusedSimpArgs false
/- laws to paste: Road.backV, Road.eqW, Road.codOf (cut by pick.py; bodies as the Statement names them) -/
namespace Jvm.Pilot.@@N@@
namespace StrChars
open Jvm Sem ClassFile Op Lib Jvm.Stand Jvm.Free.XT Jvm.Free.ALB Jvm.Free.JM Jvm.Free
open Jvm.Lib.Cold (StaticIs)
/-- a char array whose places are chars -/
def Ch (a : Addr) (A : Cell) (U : State) : Prop := Arr .char a A U ∧ Typed .char A
theorem Ch.mv {a : Addr} {A : Cell} {U U' : State} (h : Ch a A U) (hal : U.vm.Alike U'.vm) (hh : U'.heap = U.heap) : Ch a A U' := ⟨h.1.mv hal hh, h.2⟩
theorem Ch.keep {a : Addr} {A : Cell} {U U' : State} (h : Ch a A U) (hal : U.vm.Alike U'.vm) (hk : U'.heap[a]? = some A) : Ch a A U' := ⟨h.1.keep hal hk, h.2⟩
/-- what place i of a char[]'s cell holds -/
def cv (A : Cell) (i : Nat) : Int32 := match A.slots[i]? with | some (.int x) => x | _ => 0
theorem Ch.get {a : Addr} {A : Cell} {U : State} (h : Ch a A U) {i : Nat} (hi : i < A.slots.size) : A.slots[i]? = some (.int (cv A i)) := by
  have e := Array.getElem?_eq_getElem hi
  have f := h.2 i _ e
  unfold cv; rw [e]
  generalize A.slots[i] = v at f
  cases v <;> simp [fits] at f ⊢
/-- the byte that i2b leaves of a char -/
def lo8 (x : Int32) : Int32 := x.toInt8.toInt32
theorem fits_lo8 (y : Int32) : fits .byte (.int (lo8 y)) = true := by
  have h1 := y.toInt8.le_toInt
  have h2 := y.toInt8.toInt_lt
  simp only [lo8, fits, Bool.and_eq_true, decide_eq_true_eq, Int32.le_iff_toInt_le, Int8.toInt_toInt32, show (-128 : Int32).toInt = -128 from by decide, show (127 : Int32).toInt = 127 from by decide]
  omega
/-- A' is A but that each place j of lo .. hi - 1 holds f j -/
def Laid (A A' : Cell) (lo hi : Nat) (f : Nat → Value) : Prop := A'.cls = A.cls ∧ A'.vm = A.vm ∧ A'.slots.size = A.slots.size ∧ ∀ i, A'.slots[i]? = if lo ≤ i ∧ i < hi then some (f i) else A.slots[i]?
theorem Laid.zero (A : Cell) (lo : Nat) (f : Nat → Value) : Laid A A lo (lo + 0) f := ⟨rfl, rfl, rfl, fun i => by rw [if_neg (by omega)]⟩
theorem Laid.step {A Ak : Cell} {lo k : Nat} {f : Nat → Value} {v : Value} (h : Laid A Ak lo k f) (hlo : lo ≤ k) (hk : k < Ak.slots.size) (hv : v = f k) : Laid A (Ak.setSlot k v) lo (k + 1) f := by
  refine ⟨h.1, h.2.1, by simpa [Cell.setSlot] using h.2.2.1, fun i => ?_⟩
  by_cases e : k = i
  · subst e; rw [Cell.slots_setSlot_self v hk, if_pos (by omega), hv]
  · rw [Cell.slots_setSlot_ne v e, h.2.2.2 i]
    by_cases q : lo ≤ i ∧ i < k
    · rw [if_pos q, if_pos (by omega)]
    · rw [if_neg q, if_neg (by omega)]
def U16 : String := "java/lang/StringUTF16"
namespace Cmp5
def yN : MethodName := ⟨"java/lang/StringUTF16", "compress", "([CI[BII)I"⟩
abbrev yB : ByteArray := jdk_52_method_21_code
theorem d0 : decode yB 0 = .ok (.iconst 0, 1) := by decide +kernel
theorem d1 : decode yB 1 = .ok (.istore 5, 2) := by decide +kernel
theorem d3 : decode yB 3 = .ok (.iload 5, 2) := by decide +kernel
theorem d5 : decode yB 5 = .ok (.iload 4, 2) := by decide +kernel
theorem d7 : decode yB 7 = .ok (.if_icmp (.ge) 37, 3) := by decide +kernel
theorem d10 : decode yB 10 = .ok (.aload_n 0, 1) := by decide +kernel
theorem d11 : decode yB 11 = .ok (.iload_n 1, 1) := by decide +kernel
theorem d12 : decode yB 12 = .ok (.caload, 1) := by decide +kernel
theorem d13 : decode yB 13 = .ok (.istore 6, 2) := by decide +kernel
theorem d15 : decode yB 15 = .ok (.iload 6, 2) := by decide +kernel
theorem d17 : decode yB 17 = .ok (.sipush 255, 3) := by decide +kernel
theorem d20 : decode yB 20 = .ok (.if_icmp (.le) 6, 3) := by decide +kernel
theorem d26 : decode yB 26 = .ok (.aload_n 2, 1) := by decide +kernel
theorem d27 : decode yB 27 = .ok (.iload_n 3, 1) := by decide +kernel
theorem d28 : decode yB 28 = .ok (.iload 6, 2) := by decide +kernel
theorem d30 : decode yB 30 = .ok (.i2b, 1) := by decide +kernel
theorem d31 : decode yB 31 = .ok (.bastore, 1) := by decide +kernel
theorem d32 : decode yB 32 = .ok (.iinc 1 1, 3) := by decide +kernel
theorem d35 : decode yB 35 = .ok (.iinc 3 1, 3) := by decide +kernel
theorem d38 : decode yB 38 = .ok (.iinc 5 1, 3) := by decide +kernel
theorem d41 : decode yB 41 = .ok (.goto (-38), 3) := by decide +kernel
theorem d44 : decode yB 44 = .ok (.iload 4, 2) := by decide +kernel
theorem d46 : decode yB 46 = .ok (.ireturn, 1) := by decide +kernel
def site : List Cond := []
def tab : Cond := tabOf yN yB 7 (some .int) site
def P (b : Addr) (A : Cell) (d : Addr) (B : Cell) (o q len : Nat) (args : Array Value) (s : State) : Prop := args = #[.ref b, .int (Int32.ofNat o), .ref d, .int (Int32.ofNat q), .int (Int32.ofNat len)] ∧ Ch b A s ∧ Arr .byte d B s ∧ b ≠ d ∧ o + len ≤ A.slots.size ∧ q + len ≤ B.slots.size ∧ ∀ i, i < len → ¬ 255 < cv A (o + i)
def E (b : Addr) (A : Cell) (d : Addr) (B : Cell) (o q len : Nat) (r : Option Value) (s u : State) : Prop := r = some (.int (Int32.ofNat len)) ∧ ∃ B', Put d B' s u ∧ Laid B B' q (q + len) (fun j => Value.int (lo8 (cv A (o + (j - q)))))
/-- no char of the range above 255: len; the places written hold each char's low byte -/
theorem law (l : Launch) (b : Addr) (A : Cell) (d : Addr) (B : Cell) (o q len : Nat) : Law l yN 5 5 0 0 yB 7 (some .int) site (P b A d B o q len) (E b A d B o q len) (copyLocs d q len) 0 0 := by
  refine Law.of_walk (plainFor_of_name (by decide +kernel)) (by decide +kernel) (by decide +kernel) (by decide) (fun _ _ h => by rw [h.1]; rfl) (fun _ U U' hal hh h => ⟨h.1, h.2.1.mv hal hh, h.2.2.1.mv hal hh, h.2.2.2⟩) (fun r U U' V V' h1 hal h2 h => ⟨h.1, h.2.elim fun B' q => ⟨B', q.1.mv h1 h2, q.2⟩⟩) ?_
  intro p e s m args below meth c s₁ X0 hexec hbytes hml hret hlk hnm hown hh0 W hP
  obtain ⟨rfl, hA, hB, hne, l1, l2, hp⟩ := hP
  have c1 : Steps p.tables e below (s₁.setTop (entryFrame m #[.ref b, .int (Int32.ofNat o), .ref d, .int (Int32.ofNat q), .int (Int32.ofNat len)] 7)) (s₁.setTop (mkF m 0 #[.val (.ref b), .val (.int (Int32.ofNat o)), .val (.ref d), .val (.int (Int32.ofNat q)), .val (.int (Int32.ofNat len)), .unset, .unset] [])) := entry rfl
  have hA0 := hA.1.mv X0.warmed.alike hh0
  have hB0 := hB.mv X0.warmed.alike hh0
  have a31 := hA.1.2.2.2
  have c2 : Steps p.tables e below (s₁.setTop (entryFrame m #[.ref b, .int (Int32.ofNat o), .ref d, .int (Int32.ofNat q), .int (Int32.ofNat len)] 7)) (s₁.setTop (mkF m 3 #[.val (.ref b), .val (.int (Int32.ofNat o)), .val (.ref d), .val (.int (Int32.ofNat q)), .val (.int (Int32.ofNat len)), .val (.int 0), .unset] [])) := c1.trans (by
    refine iconstV X0.here hexec rfl 0 (hb hbytes d0) (by decide) ?_
    refine XS.istore X0.here hexec rfl (hb hbytes d1) rfl rfl ?_
    exact Steps.refl _)
  have loop : ∀ (r i : Nat), i + r = len → ∀ (z : Slot), (z = .unset ∨ ∃ w, z = .val w ∧ w.category = 1) → ∀ (Tl : State) (Bk : Cell), Stand p l e { frames := 0, locals := 0, cells := 0, slots := 0 } s m #[.ref b, .int (Int32.ofNat o), .ref d, .int (Int32.ofNat q), .int (Int32.ofNat len)] below meth c Tl ([] ++ copyLocs d q i) 0 0 → Put d Bk s₁ Tl → Laid B Bk q (q + i) (fun j => Value.int (lo8 (cv A (o + (j - q))))) →
      Steps p.tables e below (s₁.setTop (entryFrame m #[.ref b, .int (Int32.ofNat o), .ref d, .int (Int32.ofNat q), .int (Int32.ofNat len)] 7)) (Tl.setTop (mkF m 3 #[.val (.ref b), .val (.int (Int32.ofNat (o + i))), .val (.ref d), .val (.int (Int32.ofNat (q + i))), .val (.int (Int32.ofNat len)), .val (.int (Int32.ofNat i)), z] [])) → ∃ (T' : State) (B' : Cell) (z' : Slot), Stand p l e { frames := 0, locals := 0, cells := 0, slots := 0 } s m #[.ref b, .int (Int32.ofNat o), .ref d, .int (Int32.ofNat q), .int (Int32.ofNat len)] below meth c T' ([] ++ copyLocs d q len) 0 0 ∧ Put d B' s₁ T' ∧ Laid B B' q (q + len) (fun j => Value.int (lo8 (cv A (o + (j - q))))) ∧
      Steps p.tables e below (s₁.setTop (entryFrame m #[.ref b, .int (Int32.ofNat o), .ref d, .int (Int32.ofNat q), .int (Int32.ofNat len)] 7)) (T'.setTop (mkF m 3 #[.val (.ref b), .val (.int (Int32.ofNat (o + len))), .val (.ref d), .val (.int (Int32.ofNat (q + len))), .val (.int (Int32.ofNat len)), .val (.int (Int32.ofNat len)), z'] [])) := by
    intro r
    induction r with
    | zero =>
      intro i hi z hz Tl Bk Xl pl fl cl
      have hil : i = len := by omega
      rw [hil] at Xl fl cl
      exact ⟨Tl, Bk, z, Xl, pl, fl, cl⟩
    | succ r ih =>
      intro i hi z hz Tl Bk Xl pl fl cl
      have all := X0.warmed.alike.symm.trans Xl.warmed.alike
      have hAl := hA0.keep all (pl.other hne hA0.1)
      have hBk := hB0.like all pl.1 fl.1 fl.2.1 fl.2.2.1
      have hlt : q + i < Bk.slots.size := by rw [fl.2.2.1]; omega
      have c3 : Steps p.tables e below (s₁.setTop (entryFrame m #[.ref b, .int (Int32.ofNat o), .ref d, .int (Int32.ofNat q), .int (Int32.ofNat len)] 7)) (Tl.setTop (mkF m 12 #[.val (.ref b), .val (.int (Int32.ofNat (o + i))), .val (.ref d), .val (.int (Int32.ofNat (q + i))), .val (.int (Int32.ofNat len)), .val (.int (Int32.ofNat i)), z] [.int (Int32.ofNat (o + i)), .ref b])) := cl.trans (by
        refine XS.iload Xl.here hexec rfl (hb hbytes d3) rfl ?_
        refine XS.iload Xl.here hexec rfl (hb hbytes d5) rfl ?_
        refine XS.icmpNo Xl.here hexec rfl (hb hbytes d7) rfl (ii_ge_f (lt32 (by omega) (by omega))) ?_
        refine XS.aloadN Xl.here hexec rfl (hb hbytes d10) rfl rfl ?_
        refine XS.iloadN Xl.here hexec rfl (hb hbytes d11) rfl ?_
        exact Steps.refl _)
      have c4 : Steps p.tables e below (s₁.setTop (entryFrame m #[.ref b, .int (Int32.ofNat o), .ref d, .int (Int32.ofNat q), .int (Int32.ofNat len)] 7)) (Tl.setTop (mkF m 13 #[.val (.ref b), .val (.int (Int32.ofNat (o + i))), .val (.ref d), .val (.int (Int32.ofNat (q + i))), .val (.int (Int32.ofNat len)), .val (.int (Int32.ofNat i)), z] [.int (cv A (o + i))])) := c3.trans (by
        refine Xl.aget hexec hAl rfl (hA.get (i := o + i) (by omega)) rfl rfl (hb hbytes d12) ?_
        exact Steps.refl _)
      have c5 : Steps p.tables e below (s₁.setTop (entryFrame m #[.ref b, .int (Int32.ofNat o), .ref d, .int (Int32.ofNat q), .int (Int32.ofNat len)] 7)) (Tl.setTop (mkF m 15 #[.val (.ref b), .val (.int (Int32.ofNat (o + i))), .val (.ref d), .val (.int (Int32.ofNat (q + i))), .val (.int (Int32.ofNat len)), .val (.int (Int32.ofNat i)), .val (.int (cv A (o + i)))] [])) := c4.trans (by
        refine XS.istoreS Xl.here hexec rfl (hb hbytes d13) rfl rfl hz ?_
        exact Steps.refl _)
      have c6 : Steps p.tables e below (s₁.setTop (entryFrame m #[.ref b, .int (Int32.ofNat o), .ref d, .int (Int32.ofNat q), .int (Int32.ofNat len)] 7)) (Tl.setTop (mkF m 31 #[.val (.ref b), .val (.int (Int32.ofNat (o + i))), .val (.ref d), .val (.int (Int32.ofNat (q + i))), .val (.int (Int32.ofNat len)), .val (.int (Int32.ofNat i)), .val (.int (cv A (o + i)))] [.int (lo8 (cv A (o + i))), .int (Int32.ofNat (q + i)), .ref d])) := c5.trans (by
        refine XS.iload Xl.here hexec rfl (hb hbytes d15) rfl ?_
        refine sipushV Xl.here hexec rfl 255 (hb hbytes d17) (by decide) ?_
        refine XS.icmpYes Xl.here hexec rfl (pc0 := 20) rfl (hb hbytes d20) rfl (ii_le_t (hp i (by omega))) (by decide) rfl ?_
        refine XS.aloadN Xl.here hexec rfl (hb hbytes d26) rfl rfl ?_
        refine XS.iloadN Xl.here hexec rfl (hb hbytes d27) rfl ?_
        refine XS.iload Xl.here hexec rfl (hb hbytes d28) rfl ?_
        refine i2b Xl.here hexec rfl (hb hbytes d30) rfl ?_
        exact Steps.refl _)
      obtain ⟨T7, X7, p7, st7⟩ := Xl.aput hexec hBk rfl hlt rfl (fits_lo8 (cv A (o + i))) (g := (mkF m 31 #[.val (.ref b), .val (.int (Int32.ofNat (o + i))), .val (.ref d), .val (.int (Int32.ofNat (q + i))), .val (.int (Int32.ofNat len)), .val (.int (Int32.ofNat i)), .val (.int (cv A (o + i)))] [.int (lo8 (cv A (o + i))), .int (Int32.ofNat (q + i)), .ref d])) rfl (rest := []) rfl (hb hbytes d31)
      have c8 : Steps p.tables e below (s₁.setTop (entryFrame m #[.ref b, .int (Int32.ofNat o), .ref d, .int (Int32.ofNat q), .int (Int32.ofNat len)] 7)) (T7.setTop (mkF m 32 #[.val (.ref b), .val (.int (Int32.ofNat (o + i))), .val (.ref d), .val (.int (Int32.ofNat (q + i))), .val (.int (Int32.ofNat len)), .val (.int (Int32.ofNat i)), .val (.int (cv A (o + i)))] [])) := c6.trans (st7 _ (Steps.refl _))
      have c9 : Steps p.tables e below (s₁.setTop (entryFrame m #[.ref b, .int (Int32.ofNat o), .ref d, .int (Int32.ofNat q), .int (Int32.ofNat len)] 7)) (T7.setTop (mkF m 3 #[.val (.ref b), .val (.int (Int32.ofNat (o + i) + 1)), .val (.ref d), .val (.int (Int32.ofNat (q + i) + 1)), .val (.int (Int32.ofNat len)), .val (.int (Int32.ofNat i + 1)), .val (.int (cv A (o + i)))] [])) := c8.trans (by
        refine iincV X7.here hexec rfl 1 (hb hbytes d32) (by decide) rfl rfl ?_
        refine iincV X7.here hexec rfl 1 (hb hbytes d35) (by decide) rfl rfl ?_
        refine iincV X7.here hexec rfl 1 (hb hbytes d38) (by decide) rfl rfl ?_
        refine XS.goto X7.here hexec rfl (pc0 := 41) rfl (hb hbytes d41) (by decide) rfl ?_
        exact Steps.refl _)
      have c10 : Steps p.tables e below (s₁.setTop (entryFrame m #[.ref b, .int (Int32.ofNat o), .ref d, .int (Int32.ofNat q), .int (Int32.ofNat len)] 7)) (T7.setTop (mkF m 3 #[.val (.ref b), .val (.int (Int32.ofNat (o + (i + 1)))), .val (.ref d), .val (.int (Int32.ofNat (q + (i + 1)))), .val (.int (Int32.ofNat len)), .val (.int (Int32.ofNat (i + 1))), .val (.int (cv A (o + i)))] [])) := by
        have := c9
        rw [succ32, succ32, succ32] at this
        exact this
      exact ih (i + 1) (by omega) _ (Or.inr ⟨_, rfl, rfl⟩) T7 _ (by rw [copyLocs_step, ← List.append_assoc]; exact X7) (pl.trans p7) (fl.step (by omega) hlt (by simp)) c10
  obtain ⟨T9, B9, z9, X9, p9, f9, g9⟩ := loop len 0 (by omega) .unset (Or.inl rfl) s₁ B (by simpa [copyLocs] using X0) ⟨hB0.1, fun _ _ => rfl, rfl⟩ (Laid.zero _ _ _) c2
  have c11 : Steps p.tables e below (s₁.setTop (entryFrame m #[.ref b, .int (Int32.ofNat o), .ref d, .int (Int32.ofNat q), .int (Int32.ofNat len)] 7)) (T9.setTop (mkF m 46 #[.val (.ref b), .val (.int (Int32.ofNat (o + len))), .val (.ref d), .val (.int (Int32.ofNat (q + len))), .val (.int (Int32.ofNat len)), .val (.int (Int32.ofNat len)), z9] [.int (Int32.ofNat len)])) := g9.trans (by
    refine XS.iload X9.here hexec rfl (hb hbytes d3) rfl ?_
    refine XS.iload X9.here hexec rfl (hb hbytes d5) rfl ?_
    refine XS.icmpYes X9.here hexec rfl (pc0 := 7) rfl (hb hbytes d7) rfl (ii_ge_t (nlt32 (by omega) (Nat.le_refl _))) (by decide) rfl ?_
    refine XS.iload X9.here hexec rfl (hb hbytes d44) rfl ?_
    exact Steps.refl _)
  exact ⟨T9, some (.int (Int32.ofNat len)), _, _, _, X9, by simp, rfl, rfl, (fun h => by cases h), ⟨rfl, B9, p9.from hh0, f9⟩, fun fs hl => c11.trans (X9.ireturnOut hexec hret rfl (Or.inl rfl) (hb hbytes d46) hl)⟩
end Cmp5
namespace Cmp3
def yN : MethodName := ⟨"java/lang/StringUTF16", "compress", "([CII)[B"⟩
abbrev yB : ByteArray := jdk_52_method_16_code
theorem d0 : decode yB 0 = .ok (.iload_n 2, 1) := by decide +kernel
theorem d1 : decode yB 1 = .ok (.newarray .byte, 2) := by decide +kernel
theorem d3 : decode yB 3 = .ok (.astore_n 3, 1) := by decide +kernel
theorem d4 : decode yB 4 = .ok (.aload_n 0, 1) := by decide +kernel
theorem d5 : decode yB 5 = .ok (.iload_n 1, 1) := by decide +kernel
theorem d6 : decode yB 6 = .ok (.aload_n 3, 1) := by decide +kernel
theorem d7 : decode yB 7 = .ok (.iconst 0, 1) := by decide +kernel
theorem d8 : decode yB 8 = .ok (.iload_n 2, 1) := by decide +kernel
theorem d9 : decode yB 9 = .ok (.invokestatic 115, 3) := by decide +kernel
theorem d12 : decode yB 12 = .ok (.istore 4, 2) := by decide +kernel
theorem d14 : decode yB 14 = .ok (.iload 4, 2) := by decide +kernel
theorem d16 : decode yB 16 = .ok (.iload_n 2, 1) := by decide +kernel
theorem d17 : decode yB 17 = .ok (.if_icmp (.eq) 40, 3) := by decide +kernel
theorem d57 : decode yB 57 = .ok (.aload_n 3, 1) := by decide +kernel
theorem d58 : decode yB 58 = .ok (.areturn, 1) := by decide +kernel
def site : List Cond := [.arrayClass .byte, Cmp5.tab] ++ staticW U16 115 Cmp5.yN
def tab : Cond := tabOf yN yB 6 (some (.array .byte)) site
def P (b : Addr) (A : Cell) (o len : Nat) (args : Array Value) (s : State) : Prop := args = #[.ref b, .int (Int32.ofNat o), .int (Int32.ofNat len)] ∧ Ch b A s ∧ o + len ≤ A.slots.size ∧ len ≤ 536870912 ∧ ∀ i, i < len → ¬ 255 < cv A (o + i)
def E (b : Addr) (A : Cell) (o len : Nat) (r : Option Value) (s u : State) : Prop := NewArr .byte "[B" len (fun j => .int (lo8 (cv A (o + j)))) r s u ∧ u.heap.size = s.heap.size + 1
/-- no char of the range above 255: a new byte[] of their low bytes -/
theorem law (l : Launch) (b : Addr) (A : Cell) (o len : Nat) : Law l yN 3 3 1 18 yB 6 (some (.array .byte)) site (P b A o len) (E b A o len) [] 1 len := by
  refine Law.of_walk (plainFor_of_name (by decide +kernel)) (by decide +kernel) (by decide +kernel) (by decide) (fun _ _ h => by rw [h.1]; rfl) (fun _ U U' hal hh h => ⟨h.1, h.2.1.mv hal hh, h.2.2⟩) (fun r U U' V V' h1 hal h2 h => ⟨NewArr.mv r U U' V V' h1 hal h2 h.1, by rw [h1, h2]; exact h.2⟩) ?_
  intro p e s m args below meth c s₁ X0 hexec hbytes hml hret hlk hnm hown hh0 W hP
  obtain ⟨rfl, hA, l1, l2, hp⟩ := hP
  have a31 := hA.1.2.2.2
  have c1 : Steps p.tables e below (s₁.setTop (entryFrame m #[.ref b, .int (Int32.ofNat o), .int (Int32.ofNat len)] 6)) (s₁.setTop (mkF m 0 #[.val (.ref b), .val (.int (Int32.ofNat o)), .val (.int (Int32.ofNat len)), .unset, .unset, .unset] [])) := entry rfl
  have c2 : Steps p.tables e below (s₁.setTop (entryFrame m #[.ref b, .int (Int32.ofNat o), .int (Int32.ofNat len)] 6)) (s₁.setTop (mkF m 1 #[.val (.ref b), .val (.int (Int32.ofNat o)), .val (.int (Int32.ofNat len)), .unset, .unset, .unset] [.int (Int32.ofNat len)])) := c1.trans (by
    refine XS.iloadN X0.here hexec rfl (hb hbytes d0) rfl ?_
    exact Steps.refl _)
  obtain ⟨T3, B3, X3, ba3, bs3, bv3, bh3, bf3, st3⟩ := X0.anew hexec (atype := .byte) (wk W (.arrayClass .byte)) rfl (by show len * 1 ≤ _; omega) (by omega) (g := (mkF m 1 #[.val (.ref b), .val (.int (Int32.ofNat o)), .val (.int (Int32.ofNat len)), .unset, .unset, .unset] [.int (Int32.ofNat len)])) rfl (hb hbytes d1) (rest := []) rfl (Nat.le_refl _) (by show 0 + len ≤ len; omega)
  rw [hh0] at ba3 st3
  have kp3 : XT.Kept s T3 := (XT.Kept.of_eq hh0).push bh3
  have hA3 := hA.keep X3.warmed.alike (kp3 _ _ hA.1.1)
  have hne : b ≠ s.heap.size := hA.1.ne
  have c4 : Steps p.tables e below (s₁.setTop (entryFrame m #[.ref b, .int (Int32.ofNat o), .int (Int32.ofNat len)] 6)) (T3.setTop (mkF m 3 #[.val (.ref b), .val (.int (Int32.ofNat o)), .val (.int (Int32.ofNat len)), .unset, .unset, .unset] [.ref s.heap.size])) := c2.trans (st3 _ (Steps.refl _))
  have c5 : Steps p.tables e below (s₁.setTop (entryFrame m #[.ref b, .int (Int32.ofNat o), .int (Int32.ofNat len)] 6)) (T3.setTop (mkF m 9 #[.val (.ref b), .val (.int (Int32.ofNat o)), .val (.int (Int32.ofNat len)), .val (.ref s.heap.size), .unset, .unset] [.int (Int32.ofNat len), .int 0, .ref s.heap.size, .int (Int32.ofNat o), .ref b])) := c4.trans (by
    refine XS.astoreN X3.here hexec rfl (hb hbytes d3) rfl rfl rfl ?_
    refine XS.aloadN X3.here hexec rfl (hb hbytes d4) rfl rfl ?_
    refine XS.iloadN X3.here hexec rfl (hb hbytes d5) rfl ?_
    refine XS.aloadN X3.here hexec rfl (hb hbytes d6) rfl rfl ?_
    refine iconstV X3.here hexec rfl 0 (hb hbytes d7) (by decide) ?_
    refine XS.iloadN X3.here hexec rfl (hb hbytes d8) rfl ?_
    exact Steps.refl _)
  obtain ⟨v6, T6, X6, E6, g6⟩ := X3.callS hexec (Cmp5.law l b A s.heap.size B3 o 0 len) hown (wks W (staticW U16 115 Cmp5.yN)) (wk W Cmp5.tab) (W := 0) (Nat.le_of_ble_eq_true rfl) (Nat.le_of_ble_eq_true rfl) (Nat.le_refl _) (by show 0 + len + 0 ≤ len; omega) (g := (mkF m 9 #[.val (.ref b), .val (.int (Int32.ofNat o)), .val (.int (Int32.ofNat len)), .val (.ref s.heap.size), .unset, .unset] [.int (Int32.ofNat len), .int (Int32.ofNat 0), .ref s.heap.size, .int (Int32.ofNat o), .ref b])) rfl (by rw [hml]; rfl) c5 (argsL := [.ref b, .int (Int32.ofNat o), .ref s.heap.size, .int (Int32.ofNat 0), .int (Int32.ofNat len)]) (rest := []) rfl rfl (by show 2 * 0 + 0 ≤ _; decide) (hb hbytes d9) (⟨rfl, hA3, ba3, hne, l1, by rw [bs3]; simp, hp⟩)
  obtain ⟨rfl, B6, p6, f6⟩ := E6
  have c7 : Steps p.tables e below (s₁.setTop (entryFrame m #[.ref b, .int (Int32.ofNat o), .int (Int32.ofNat len)] 6)) (T6.setTop (mkF m 12 #[.val (.ref b), .val (.int (Int32.ofNat o)), .val (.int (Int32.ofNat len)), .val (.ref s.heap.size), .unset, .unset] [.int (Int32.ofNat len)])) := g6
  have c8 : Steps p.tables e below (s₁.setTop (entryFrame m #[.ref b, .int (Int32.ofNat o), .int (Int32.ofNat len)] 6)) (T6.setTop (mkF m 58 #[.val (.ref b), .val (.int (Int32.ofNat o)), .val (.int (Int32.ofNat len)), .val (.ref s.heap.size), .val (.int (Int32.ofNat len)), .unset] [.ref s.heap.size])) := c7.trans (by
    refine XS.istore X6.here hexec rfl (hb hbytes d12) rfl rfl ?_
    refine XS.iload X6.here hexec rfl (hb hbytes d14) rfl ?_
    refine XS.iloadN X6.here hexec rfl (hb hbytes d16) rfl ?_
    refine XS.icmpYes X6.here hexec rfl (pc0 := 17) rfl (hb hbytes d17) rfl (ii_eq_t rfl) (by decide) rfl ?_
    refine XS.aloadN X6.here hexec rfl (hb hbytes d57) rfl rfl ?_
    exact Steps.refl _)
  have X8 := X6.wide (L' := []) (cells' := 1) (slots' := len) (fun x hx hlt => by
    simp only [List.nil_append, copyLocs, List.mem_map, List.mem_range] at hx
    obtain ⟨i, -, rfl⟩ := hx
    exact absurd hlt (Nat.lt_irrefl _)) (Nat.le_refl _) (by omega)
  exact ⟨T6, some (.ref s.heap.size), _, _, _, X8, rfl, rfl, rfl, (fun h => by cases h), ⟨⟨rfl, B6, ba3.like (X3.warmed.alike.symm.trans X6.warmed.alike) p6.1 f6.1 f6.2.1 f6.2.2.1, f6.2.1.trans bv3, by rw [X6.warmed.alike.findClass, f6.1]; exact bf3, by rw [f6.2.2.1, bs3]; simp, fun j hj => by rw [f6.2.2.2 j, if_pos (by omega)]; rfl, kp3.put p6 (Nat.le_refl _)⟩, by rw [p6.2.2, bh3, hh0]; simp⟩, fun fs hl => c8.trans (X8.areturnOut hexec rfl hret rfl (hb hbytes d58) hl)⟩
end Cmp3
namespace CodL
def yN : MethodName := ⟨"java/lang/StringUTF16", "coderFromArrayLen", "([BI)B"⟩
abbrev yB : ByteArray := jdk_52_method_15_code
theorem d0 : decode yB 0 = .ok (.iload_n 1, 1) := by decide +kernel
theorem d1 : decode yB 1 = .ok (.aload_n 0, 1) := by decide +kernel
theorem d2 : decode yB 2 = .ok (.arraylength, 1) := by decide +kernel
theorem d3 : decode yB 3 = .ok (.isub, 1) := by decide +kernel
theorem d4 : decode yB 4 = .ok (.bipush 31, 2) := by decide +kernel
theorem d6 : decode yB 6 = .ok (.iushr, 1) := by decide +kernel
theorem d7 : decode yB 7 = .ok (.i2b, 1) := by decide +kernel
theorem d8 : decode yB 8 = .ok (.ireturn, 1) := by decide +kernel
def site : List Cond := []
def tab : Cond := tabOf yN yB 2 (some .byte) site
def P (d : Addr) (B : Cell) (args : Array Value) (s : State) : Prop := args = #[.ref d, .int (Int32.ofNat B.slots.size)] ∧ Arr .byte d B s
def E (r : Option Value) (s u : State) : Prop := XT.PureE (some (.int 0)) r s u
/-- an array as long as the number of chars: LATIN1 -/
theorem law (l : Launch) (d : Addr) (B : Cell) : Law l yN 2 2 0 0 yB 2 (some .byte) site (P d B) E [] 0 0 := by
  refine Law.of_walk (plainFor_of_name (by decide +kernel)) (by decide +kernel) (by decide +kernel) (by decide) (fun _ _ h => by rw [h.1]; rfl) (fun _ U U' hal hh h => ⟨h.1, h.2.mv hal hh⟩) (fun r U U' V V' h1 hal h2 h => XT.PureE.mv r U U' V V' h1 hal h2 h) ?_
  intro p e s m args below meth c s₁ X0 hexec hbytes hml hret hlk hnm hown hh0 W hP
  obtain ⟨rfl, hB⟩ := hP
  have hB0 := hB.mv X0.warmed.alike hh0
  have c1 : Steps p.tables e below (s₁.setTop (entryFrame m #[.ref d, .int (Int32.ofNat B.slots.size)] 2)) (s₁.setTop (mkF m 0 #[.val (.ref d), .val (.int (Int32.ofNat B.slots.size))] [])) := entry rfl
  have c2 : Steps p.tables e below (s₁.setTop (entryFrame m #[.ref d, .int (Int32.ofNat B.slots.size)] 2)) (s₁.setTop (mkF m 2 #[.val (.ref d), .val (.int (Int32.ofNat B.slots.size))] [.ref d, .int (Int32.ofNat B.slots.size)])) := c1.trans (by
    refine XS.iloadN X0.here hexec rfl (hb hbytes d0) rfl ?_
    refine XS.aloadN X0.here hexec rfl (hb hbytes d1) rfl rfl ?_
    exact Steps.refl _)
  have c3 : Steps p.tables e below (s₁.setTop (entryFrame m #[.ref d, .int (Int32.ofNat B.slots.size)] 2)) (s₁.setTop (mkF m 8 #[.val (.ref d), .val (.int (Int32.ofNat B.slots.size))] [.int (lo8 (ushr (Int32.ofNat B.slots.size - Int32.ofNat B.slots.size) 31))])) := c2.trans (by
    refine X0.alen hexec hB0 rfl rfl (hb hbytes d2) ?_
    refine XS.isub X0.here hexec rfl (hb hbytes d3) rfl ?_
    refine bipushV X0.here hexec rfl 31 (hb hbytes d4) (by decide) ?_
    refine iushr X0.here hexec rfl (hb hbytes d6) rfl ?_
    refine i2b X0.here hexec rfl (hb hbytes d7) rfl ?_
    exact Steps.refl _)
  have e0 : lo8 (ushr (Int32.ofNat B.slots.size - Int32.ofNat B.slots.size) 31) = 0 := by rw [Int32.sub_self]; decide
  rw [e0] at c3
  exact ⟨s₁, some (.int 0), _, _, _, X0, rfl, rfl, rfl, (fun h => by cases h), ⟨rfl, hh0⟩, fun fs hl => c3.trans (X0.ireturnOut hexec hret rfl (Or.inr (Or.inr (Or.inl rfl))) (hb hbytes d8) hl)⟩
end CodL
/-- the String at a is Latin-1 over a new byte[] (the heap's one new cell): the low bytes of the len chars of A from o on; every cell but a is kept -/
def Got (a : Addr) (D : Cell) (fV fC : Field) (A : Cell) (o len : Nat) (r : Option Value) (s u : State) : Prop := r = none ∧ ∃ D' V : Cell, Blank "java/lang/String" a D' u ∧ Same D D' [fV.slot, fC.slot] ∧ D'.slots[fV.slot]? = some (.ref s.heap.size) ∧ D'.slots[fC.slot]? = some (.int 0) ∧ Arr .byte s.heap.size V u ∧ V.vm = .none ∧ u.vm.findClass "[B" = some V.cls ∧ V.slots.size = len ∧ (∀ j, j < len → V.slots[j]? = some (.int (lo8 (cv A (o + j))))) ∧ (∀ (y : Addr) (c : Cell), y ≠ a → s.heap[y]? = some c → u.heap[y]? = some c) ∧ u.heap.size = s.heap.size + 1
theorem Got.mv {a : Addr} {D A : Cell} {fV fC : Field} {o len : Nat} : ∀ r (U U' V V' : State), U'.heap = U.heap → V.vm.Alike V'.vm → V'.heap = V.heap → Got a D fV fC A o len r U V → Got a D fV fC A o len r U' V' :=
  fun r U U' V V' h1 hal h2 ⟨e0, D', X, a1, a2, a3, a4, a5, a6, a7, a8, a9, a10, a11⟩ => ⟨e0, D', X, a1.mv hal h2, a2, by rw [h1]; exact a3, a4, by rw [h1]; exact a5.mv hal h2, a6, by rw [hal.findClass]; exact a7, a8, a9, by rw [h1, h2]; exact a10, by rw [h1, h2]; exact a11⟩
namespace New4
def yN : MethodName := ⟨"java/lang/String", "<init>", "([CIILjava/lang/Void;)V"⟩
abbrev yB : ByteArray := jdk_42_method_149_code
theorem d0 : decode yB 0 = .ok (.aload_n 0, 1) := by decide +kernel
theorem d1 : decode yB 1 = .ok (.invokespecial 1, 3) := by decide +kernel
theorem d4 : decode yB 4 = .ok (.iload_n 3, 1) := by decide +kernel
theorem d5 : decode yB 5 = .ok (.ifCond (.ne) 22, 3) := by decide +kernel
theorem d27 : decode yB 27 = .ok (.getstatic 38, 3) := by decide +kernel
theorem d30 : decode yB 30 = .ok (.ifCond (.eq) 28, 3) := by decide +kernel
theorem d33 : decode yB 33 = .ok (.aload_n 1, 1) := by decide +kernel
theorem d34 : decode yB 34 = .ok (.iload_n 2, 1) := by decide +kernel
theorem d35 : decode yB 35 = .ok (.iload_n 3, 1) := by decide +kernel
theorem d36 : decode yB 36 = .ok (.invokestatic 177, 3) := by decide +kernel
theorem d39 : decode yB 39 = .ok (.astore 5, 2) := by decide +kernel
theorem d41 : decode yB 41 = .ok (.aload_n 0, 1) := by decide +kernel
theorem d42 : decode yB 42 = .ok (.aload 5, 2) := by decide +kernel
theorem d44 : decode yB 44 = .ok (.iload_n 3, 1) := by decide +kernel
theorem d45 : decode yB 45 = .ok (.invokestatic 47, 3) := by decide +kernel
theorem d48 : decode yB 48 = .ok (.putfield 15, 3) := by decide +kernel
theorem d51 : decode yB 51 = .ok (.aload_n 0, 1) := by decide +kernel
theorem d52 : decode yB 52 = .ok (.aload 5, 2) := by decide +kernel
theorem d54 : decode yB 54 = .ok (.putfield 9, 3) := by decide +kernel
theorem d57 : decode yB 57 = .ok (.return_, 1) := by decide +kernel
def site : List Cond := [.fieldLink "java/lang/String" 38 "java/lang/String" "COMPACT_STRINGS" "Z", Cmp3.tab, CodL.tab, .laysFinal "java/lang/String" "java/lang/String" "value" "[B", .fieldLink "java/lang/String" 9 "java/lang/String" "value" "[B", .laysFinal "java/lang/String" "java/lang/String" "coder" "B", .fieldLink "java/lang/String" 15 "java/lang/String" "coder" "B"] ++ objW "java/lang/String" 1 ++ staticW "java/lang/String" 177 Cmp3.yN ++ staticW "java/lang/String" 47 CodL.yN
def tab : Cond := tabOf yN yB 6 none site
def P (a : Addr) (D : Cell) (fV fC : Field) (b : Addr) (A : Cell) (z : Int32) (o len : Nat) (args : Array Value) (s : State) : Prop := args = #[.ref a, .ref b, .int (Int32.ofNat o), .int (Int32.ofNat len), .null] ∧ Blank "java/lang/String" a D s ∧ Found "java/lang/String" "value" "[B" fV s ∧ Found "java/lang/String" "coder" "B" fC s ∧ Ch b A s ∧ StaticIs s "java/lang/String" "COMPACT_STRINGS" "Z" (.int z) ∧ ¬ z = 0 ∧ 0 < len ∧ o + len ≤ A.slots.size ∧ len ≤ 536870912 ∧ ∀ i, i < len → ¬ 255 < cv A (o + i)
def E (a : Addr) (D : Cell) (fV fC : Field) (A : Cell) (o len : Nat) (r : Option Value) (s u : State) : Prop := Got a D fV fC A o len r s u
/-- len > 0, no char of the range above 255: a Latin-1 String of their low bytes -/
theorem law (l : Launch) (a : Addr) (D : Cell) (fV fC : Field) (b : Addr) (A : Cell) (z : Int32) (o len : Nat) : Law l yN 5 4 2 35 yB 6 none site (P a D fV fC b A z o len) (E a D fV fC A o len) [⟨a, fC.slot⟩, ⟨a, fV.slot⟩] 1 len := by
  refine Law.of_walk (plainFor_of_name (by decide +kernel)) (by decide +kernel) (by decide +kernel) (by decide) (fun _ _ h => by rw [h.1]; rfl) (fun _ U U' hal hh h => ⟨h.1, h.2.1.mv hal hh, h.2.2.1.al hal, h.2.2.2.1.al hal, h.2.2.2.2.1.mv hal hh, h.2.2.2.2.2.1.there hal hh, h.2.2.2.2.2.2⟩) (fun r U U' V V' h1 hal h2 h => Got.mv r U U' V V' h1 hal h2 h) ?_
  intro p e s m args below meth c s₁ X0 hexec hbytes hml hret hlk hnm hown hh0 W hP
  obtain ⟨rfl, hB, f1, f2, hA, s1, hz, l0, l1, l2, hp⟩ := hP
  have a31 := hA.1.2.2.2
  have c1 : Steps p.tables e below (s₁.setTop (entryFrame m #[.ref a, .ref b, .int (Int32.ofNat o), .int (Int32.ofNat len), .null] 6)) (s₁.setTop (mkF m 0 #[.val (.ref a), .val (.ref b), .val (.int (Int32.ofNat o)), .val (.int (Int32.ofNat len)), .val .null, .unset] [])) := entry rfl
  have c2 : Steps p.tables e below (s₁.setTop (entryFrame m #[.ref a, .ref b, .int (Int32.ofNat o), .int (Int32.ofNat len), .null] 6)) (s₁.setTop (mkF m 1 #[.val (.ref a), .val (.ref b), .val (.int (Int32.ofNat o)), .val (.int (Int32.ofNat len)), .val .null, .unset] [.ref a])) := c1.trans (by
    refine XS.aloadN X0.here hexec rfl (hb hbytes d0) rfl rfl ?_
    exact Steps.refl _)
  obtain ⟨T3, X3, q3, st3⟩ := X0.oinit hexec hown (wks W (objW "java/lang/String" 1)) (g := (mkF m 1 #[.val (.ref a), .val (.ref b), .val (.int (Int32.ofNat o)), .val (.int (Int32.ofNat len)), .val .null, .unset] [.ref a])) rfl (by rw [hml]; rfl) (rest := []) rfl (hb hbytes d1) (W := 0) (by show 2 * 0 + 0 ≤ _; decide) (Nat.le_of_ble_eq_true rfl) (Nat.le_of_ble_eq_true rfl)
  have hh3 := q3.trans hh0
  have c4 : Steps p.tables e below (s₁.setTop (entryFrame m #[.ref a, .ref b, .int (Int32.ofNat o), .int (Int32.ofNat len), .null] 6)) (T3.setTop (mkF m 27 #[.val (.ref a), .val (.ref b), .val (.int (Int32.ofNat o)), .val (.int (Int32.ofNat len)), .val .null, .unset] [])) := (c2.trans (st3 _ (Steps.refl _))).trans (by
    refine XS.iloadN X3.here hexec rfl (hb hbytes d4) rfl ?_
    refine XS.ifYes X3.here hexec rfl (pc0 := 5) rfl (hb hbytes d5) rfl (i0_ne_t (nz32 (by omega) l0)) (by decide) rfl ?_
    exact Steps.refl _)
  obtain ⟨T5, X5, q5, st5⟩ := X3.sget hexec hown (wk W (.fieldLink "java/lang/String" 38 "java/lang/String" "COMPACT_STRINGS" "Z")) s1 (fun _ _ h => by rw [hh3]; exact h) (g := (mkF m 27 #[.val (.ref a), .val (.ref b), .val (.int (Int32.ofNat o)), .val (.int (Int32.ofNat len)), .val .null, .unset] [])) rfl (hb hbytes d27)
  have hh5 := q5.trans hh3
  have c6 : Steps p.tables e below (s₁.setTop (entryFrame m #[.ref a, .ref b, .int (Int32.ofNat o), .int (Int32.ofNat len), .null] 6)) (T5.setTop (mkF m 30 #[.val (.ref a), .val (.ref b), .val (.int (Int32.ofNat o)), .val (.int (Int32.ofNat len)), .val .null, .unset] [.int z])) := c4.trans (st5 _ (Steps.refl _))
  have c7 : Steps p.tables e below (s₁.setTop (entryFrame m #[.ref a, .ref b, .int (Int32.ofNat o), .int (Int32.ofNat len), .null] 6)) (T5.setTop (mkF m 36 #[.val (.ref a), .val (.ref b), .val (.int (Int32.ofNat o)), .val (.int (Int32.ofNat len)), .val .null, .unset] [.int (Int32.ofNat len), .int (Int32.ofNat o), .ref b])) := c6.trans (by
    refine XS.ifNo X5.here hexec rfl (hb hbytes d30) rfl (i0_eq_f hz) ?_
    refine XS.aloadN X5.here hexec rfl (hb hbytes d33) rfl rfl ?_
    refine XS.iloadN X5.here hexec rfl (hb hbytes d34) rfl ?_
    refine XS.iloadN X5.here hexec rfl (hb hbytes d35) rfl ?_
    exact Steps.refl _)
  obtain ⟨v8, T8, X8, E8, g8⟩ := X5.callS hexec (Cmp3.law l b A o len) hown (wks W (staticW "java/lang/String" 177 Cmp3.yN)) (wk W Cmp3.tab) (W := 0) (Nat.le_of_ble_eq_true rfl) (Nat.le_of_ble_eq_true rfl) (Nat.le_refl _) (by show 0 + len ≤ len; omega) (g := (mkF m 36 #[.val (.ref a), .val (.ref b), .val (.int (Int32.ofNat o)), .val (.int (Int32.ofNat len)), .val .null, .unset] [.int (Int32.ofNat len), .int (Int32.ofNat o), .ref b])) rfl (by rw [hml]; rfl) c7 (argsL := [.ref b, .int (Int32.ofNat o), .int (Int32.ofNat len)]) (rest := []) rfl rfl (by show 2 * 0 + 0 ≤ _; decide) (hb hbytes d36) (⟨rfl, hA.mv X5.warmed.alike hh5, l1, l2, hp⟩)
  obtain ⟨e8, z8⟩ := E8
  obtain ⟨rfl, N, n1, n2, n3, n4, n5, n6⟩ := NewArr.mv _ T5 s _ _ hh5.symm (Vm.Alike.refl _) rfl e8
  rw [hh5] at z8
  have hB1 := hB.keep X8.warmed.alike (n6 _ _ hB.1)
  have hne : s.heap.size ≠ a := (Nat.ne_of_lt (Array.getElem?_eq_some_iff.mp hB.1).1).symm
  have c9 : Steps p.tables e below (s₁.setTop (entryFrame m #[.ref a, .ref b, .int (Int32.ofNat o), .int (Int32.ofNat len), .null] 6)) (T8.setTop (mkF m 39 #[.val (.ref a), .val (.ref b), .val (.int (Int32.ofNat o)), .val (.int (Int32.ofNat len)), .val .null, .unset] [.ref s.heap.size])) := g8
  have c10 : Steps p.tables e below (s₁.setTop (entryFrame m #[.ref a, .ref b, .int (Int32.ofNat o), .int (Int32.ofNat len), .null] 6)) (T8.setTop (mkF m 45 #[.val (.ref a), .val (.ref b), .val (.int (Int32.ofNat o)), .val (.int (Int32.ofNat len)), .val .null, .val (.ref s.heap.size)] [.int (Int32.ofNat N.slots.size), .ref s.heap.size, .ref a])) := by
    have hc : Steps p.tables e below (s₁.setTop (entryFrame m #[.ref a, .ref b, .int (Int32.ofNat o), .int (Int32.ofNat len), .null] 6)) (T8.setTop (mkF m 45 #[.val (.ref a), .val (.ref b), .val (.int (Int32.ofNat o)), .val (.int (Int32.ofNat len)), .val .null, .val (.ref s.heap.size)] [.int (Int32.ofNat len), .ref s.heap.size, .ref a])) := c9.trans (by
      refine XS.astore X8.here hexec rfl (hb hbytes d39) rfl rfl rfl ?_
      refine XS.aloadN X8.here hexec rfl (hb hbytes d41) rfl rfl ?_
      refine XS.aload X8.here hexec rfl (hb hbytes d42) rfl rfl ?_
      refine XS.iloadN X8.here hexec rfl (hb hbytes d44) rfl ?_
      exact Steps.refl _)
    rw [n4]; exact hc
  obtain ⟨v11, T11, X11, E11, g11⟩ := X8.callS hexec (CodL.law l s.heap.size N) hown (wks W (staticW "java/lang/String" 47 CodL.yN)) (wk W CodL.tab) (W := 1) (Nat.le_of_ble_eq_true rfl) (Nat.le_of_ble_eq_true rfl) (Nat.le_refl _) (by show 0 + len + 0 ≤ len; omega) (g := (mkF m 45 #[.val (.ref a), .val (.ref b), .val (.int (Int32.ofNat o)), .val (.int (Int32.ofNat len)), .val .null, .val (.ref s.heap.size)] [.int (Int32.ofNat N.slots.size), .ref s.heap.size, .ref a])) rfl (by rw [hml]; rfl) c10 (argsL := [.ref s.heap.size, .int (Int32.ofNat N.slots.size)]) (rest := [.ref a]) rfl rfl (by show 2 * 0 + (1 + 0) ≤ _; decide) (hb hbytes d45) (⟨rfl, n1⟩)
  obtain ⟨rfl, q11⟩ := E11
  have hB11 := hB1.mv (X8.warmed.alike.symm.trans X11.warmed.alike) q11
  have c12 : Steps p.tables e below (s₁.setTop (entryFrame m #[.ref a, .ref b, .int (Int32.ofNat o), .int (Int32.ofNat len), .null] 6)) (T11.setTop (mkF m 48 #[.val (.ref a), .val (.ref b), .val (.int (Int32.ofNat o)), .val (.int (Int32.ofNat len)), .val .null, .val (.ref s.heap.size)] [.int 0, .ref a])) := g11
  obtain ⟨T13, X13, p13, bl13, sl13, st13⟩ := X11.finit hexec hown (wk W (.fieldLink "java/lang/String" 15 "java/lang/String" "coder" "B")) (Or.inr ⟨_, (wk W (.laysFinal "java/lang/String" "java/lang/String" "coder" "B"))⟩) (Or.inl ⟨rfl, hnm⟩) f2 (Or.inl rfl) hB11 (t := .byte) (by decide +kernel) rfl (g := (mkF m 48 #[.val (.ref a), .val (.ref b), .val (.int (Int32.ofNat o)), .val (.int (Int32.ofNat len)), .val .null, .val (.ref s.heap.size)] [.int 0, .ref a])) rfl (rest := []) rfl (hb hbytes d48)
  have c14 : Steps p.tables e below (s₁.setTop (entryFrame m #[.ref a, .ref b, .int (Int32.ofNat o), .int (Int32.ofNat len), .null] 6)) (T13.setTop (mkF m 54 #[.val (.ref a), .val (.ref b), .val (.int (Int32.ofNat o)), .val (.int (Int32.ofNat len)), .val .null, .val (.ref s.heap.size)] [.ref s.heap.size, .ref a])) := (c12.trans (st13 _ (Steps.refl _))).trans (by
    refine XS.aloadN X13.here hexec rfl (hb hbytes d51) rfl rfl ?_
    refine XS.aload X13.here hexec rfl (hb hbytes d52) rfl rfl ?_
    exact Steps.refl _)
  obtain ⟨T15, X15, p15, bl15, sl15, st15⟩ := X13.finit hexec hown (wk W (.fieldLink "java/lang/String" 9 "java/lang/String" "value" "[B")) (Or.inr ⟨_, (wk W (.laysFinal "java/lang/String" "java/lang/String" "value" "[B"))⟩) (Or.inl ⟨rfl, hnm⟩) f1 (Or.inl rfl) bl13 (t := (.array .byte)) (by decide +kernel) rfl (g := (mkF m 54 #[.val (.ref a), .val (.ref b), .val (.int (Int32.ofNat o)), .val (.int (Int32.ofNat len)), .val .null, .val (.ref s.heap.size)] [.ref s.heap.size, .ref a])) rfl (rest := []) rfl (hb hbytes d54)
  have c16 : Steps p.tables e below (s₁.setTop (entryFrame m #[.ref a, .ref b, .int (Int32.ofNat o), .int (Int32.ofNat len), .null] 6)) (T15.setTop (mkF m 57 #[.val (.ref a), .val (.ref b), .val (.int (Int32.ofNat o)), .val (.int (Int32.ofNat len)), .val .null, .val (.ref s.heap.size)] [])) := c14.trans (st15 _ (Steps.refl _))
  have ap := apart (Or.inr ⟨_, (wk W (.laysFinal "java/lang/String" "java/lang/String" "value" "[B"))⟩) (Or.inr ⟨_, (wk W (.laysFinal "java/lang/String" "java/lang/String" "coder" "B"))⟩) f1 f2 (t₁ := .array .byte) (t₂ := .byte) (by decide +kernel) (by decide +kernel) (by decide)
  have al := X8.warmed.alike.symm.trans X15.warmed.alike
  have n7 : T11.heap[s.heap.size]? = some N := by rw [q11]; exact n1.1
  exact ⟨T15, none, _, _, _, X15, by simp, rfl, by omega, (fun _ => rfl), ⟨rfl, _, N, bl15, ((Same.refl D _).set _ (by simp)).set _ (by simp), sl15, (Cell.slots_setSlot_ne _ ap).trans sl13, n1.keep al (p15.other hne (p13.other hne n7)), n2, by rw [al.findClass]; exact n3, n4, n5, fun y c h1 h2 => p15.other h1 (p13.other h1 (by rw [q11]; exact n6 y c h2)), by rw [p15.2.2, p13.2.2, q11]; exact z8⟩, fun fs hl => c16.trans (X15.returnOut hexec hret (hb hbytes d57) hl)⟩
end New4
namespace New1
def yN : MethodName := ⟨"java/lang/String", "<init>", "([C)V"⟩
abbrev yB : ByteArray := jdk_42_method_3_code
theorem d0 : decode yB 0 = .ok (.aload_n 0, 1) := by decide +kernel
theorem d1 : decode yB 1 = .ok (.aload_n 1, 1) := by decide +kernel
theorem d2 : decode yB 2 = .ok (.iconst 0, 1) := by decide +kernel
theorem d3 : decode yB 3 = .ok (.aload_n 1, 1) := by decide +kernel
theorem d4 : decode yB 4 = .ok (.arraylength, 1) := by decide +kernel
theorem d5 : decode yB 5 = .ok (.aconst_null, 1) := by decide +kernel
theorem d6 : decode yB 6 = .ok (.invokespecial 27, 3) := by decide +kernel
theorem d9 : decode yB 9 = .ok (.return_, 1) := by decide +kernel
def site : List Cond := [New4.tab] ++ initW "java/lang/String" 27 New4.yN
def tab : Cond := tabOf yN yB 2 none site
def P (a : Addr) (D : Cell) (fV fC : Field) (b : Addr) (A : Cell) (z : Int32) (args : Array Value) (s : State) : Prop := args = #[.ref a, .ref b] ∧ Blank "java/lang/String" a D s ∧ Found "java/lang/String" "value" "[B" fV s ∧ Found "java/lang/String" "coder" "B" fC s ∧ Ch b A s ∧ StaticIs s "java/lang/String" "COMPACT_STRINGS" "Z" (.int z) ∧ ¬ z = 0 ∧ 0 < A.slots.size ∧ A.slots.size ≤ 536870912 ∧ ∀ i, i < A.slots.size → ¬ 255 < cv A i
def E (a : Addr) (D : Cell) (fV fC : Field) (A : Cell) (r : Option Value) (s u : State) : Prop := Got a D fV fC A 0 A.slots.size r s u
/-- new String(chars), not empty, no char above 255: a Latin-1 String of their low bytes -/
theorem law (l : Launch) (a : Addr) (D : Cell) (fV fC : Field) (b : Addr) (A : Cell) (z : Int32) : Law l yN 2 1 3 52 yB 2 none site (P a D fV fC b A z) (E a D fV fC A) [⟨a, fC.slot⟩, ⟨a, fV.slot⟩] 1 A.slots.size := by
  refine Law.of_walk (plainFor_of_name (by decide +kernel)) (by decide +kernel) (by decide +kernel) (by decide) (fun _ _ h => by rw [h.1]; rfl) (fun _ U U' hal hh h => ⟨h.1, h.2.1.mv hal hh, h.2.2.1.al hal, h.2.2.2.1.al hal, h.2.2.2.2.1.mv hal hh, h.2.2.2.2.2.1.there hal hh, h.2.2.2.2.2.2⟩) (fun r U U' V V' h1 hal h2 h => Got.mv r U U' V V' h1 hal h2 h) ?_
  intro p e s m args below meth c s₁ X0 hexec hbytes hml hret hlk hnm hown hh0 W hP
  obtain ⟨rfl, hB, f1, f2, hA, s1, hz, l0, l2, hp⟩ := hP
  have c1 : Steps p.tables e below (s₁.setTop (entryFrame m #[.ref a, .ref b] 2)) (s₁.setTop (mkF m 0 #[.val (.ref a), .val (.ref b)] [])) := entry rfl
  have c2 : Steps p.tables e below (s₁.setTop (entryFrame m #[.ref a, .ref b] 2)) (s₁.setTop (mkF m 6 #[.val (.ref a), .val (.ref b)] [.null, .int (Int32.ofNat A.slots.size), .int 0, .ref b, .ref a])) := c1.trans (by
    refine XS.aloadN X0.here hexec rfl (hb hbytes d0) rfl rfl ?_
    refine XS.aloadN X0.here hexec rfl (hb hbytes d1) rfl rfl ?_
    refine iconstV X0.here hexec rfl 0 (hb hbytes d2) (by decide) ?_
    refine XS.aloadN X0.here hexec rfl (hb hbytes d3) rfl rfl ?_
    refine X0.alen hexec (hA.1.mv X0.warmed.alike hh0) rfl rfl (hb hbytes d4) ?_
    refine XS.aconstNull X0.here hexec rfl (hb hbytes d5) ?_
    exact Steps.refl _)
  obtain ⟨v3, T3, X3, E3, g3⟩ := X0.callN hexec (New4.law l a D fV fC b A z 0 A.slots.size) rfl hown (wks W (initW "java/lang/String" 27 New4.yN)) (W New4.tab (by simp only [site, List.mem_cons, List.mem_append, true_or, or_true])) (W := 0) (Nat.le_of_ble_eq_true rfl) (Nat.le_of_ble_eq_true rfl) (Nat.le_refl _) (by show 0 + A.slots.size ≤ A.slots.size; omega) (g := (mkF m 6 #[.val (.ref a), .val (.ref b)] [.null, .int (Int32.ofNat A.slots.size), .int (Int32.ofNat 0), .ref b, .ref a])) rfl (by rw [hml]; rfl) c2 (argsL := [.ref b, .int (Int32.ofNat 0), .int (Int32.ofNat A.slots.size), .null]) (rest := []) rfl rfl (by show 2 * 0 + 0 ≤ _; decide) (hb hbytes d6) (⟨rfl, hB.mv X0.warmed.alike hh0, f1.al X0.warmed.alike, f2.al X0.warmed.alike, hA.mv X0.warmed.alike hh0, s1.there X0.warmed.alike hh0, hz, l0, by omega, l2, fun i hi => by rw [Nat.zero_add]; exact hp i hi⟩)
  have e0 := Got.mv _ s₁ s _ _ hh0.symm (Vm.Alike.refl _) rfl E3
  obtain rfl := e0.1
  have c4 : Steps p.tables e below (s₁.setTop (entryFrame m #[.ref a, .ref b] 2)) (T3.setTop (mkF m 9 #[.val (.ref a), .val (.ref b)] [])) := g3
  exact ⟨T3, none, _, _, _, X3, by simp, rfl, by omega, (fun _ => rfl), e0, fun fs hl => c4.trans (X3.returnOut hexec hret (hb hbytes d9) hl)⟩
theorem pays {l : Launch} {R : Room} {p : Program} {e : Env} {below : List Frame} {s : State} {sargs : Array Value} {len W : Nat} (a : Addr) (D : Cell) (fV fC : Field) (b : Addr) (A : Cell) (z : Int32) (htab : tab.before sargs s = true) (hfr : 4 ≤ R.frames) (hlo : W + 65 ≤ R.locals) :
    Back l R p e below s sargs yN len W (fun A₁ a₁ => A₁.cells + 1 ≤ R.cells ∧ A₁.slots + A.slots.size ≤ R.slots ∧ P a D fV fC b A z a₁ A₁.U) (fun A₁ _ v₁ B₁ => E a D fV fC A v₁ A₁.U B₁.U ∧ B₁.locs = A₁.locs ++ [⟨a, fC.slot⟩, ⟨a, fV.slot⟩] ∧ B₁.cells = A₁.cells + 1 ∧ B₁.slots = A₁.slots + A.slots.size) :=
  (law l a D fV fC b A z).pays htab hfr (by omega)
end New1
/-- the byte, read back as charAt reads it, is the char -/
theorem lo8_mask {x : Int32} (h0 : ¬ x < 0) (h1 : ¬ 255 < x) : lo8 x &&& 255 = x := by
  have t : ∀ k : Fin 256, lo8 (Int32.ofNat k.val) &&& 255 = Int32.ofNat k.val := by decide +kernel
  rw [Int32.lt_iff_toInt_lt] at h0 h1
  have e0 : (0 : Int32).toInt = 0 := rfl
  have e1 : (255 : Int32).toInt = 255 := rfl
  obtain ⟨k, hk⟩ : ∃ k : Nat, x.toInt = k := ⟨x.toInt.toNat, by omega⟩
  have hx : x = Int32.ofNat k := Int32.toInt_inj.mp (by rw [hk, Int32.toInt_ofNat_small (by omega)])
  rw [hx]
  exact t ⟨k, by omega⟩
end StrChars
namespace StrChars.Road
open Jvm Sem ClassFile Op Lib Jvm.Stand Jvm.Free Jvm.Free.XT
open Jvm.Lib.Cold (StaticIs)
abbrev ST : String := "java/lang/String"
/-- every table word that New1's law asks, flat -/
abbrev words : List Jvm.Cond := [.code New1.yN New1.yB 2 none, .initialized ST, .methodLink ST 27 New4.yN, .instanceMethod New4.yN,
  .code New4.yN New4.yB 6 none, .fieldLink ST 38 ST "COMPACT_STRINGS" "Z", .laysFinal ST ST "value" "[B", .fieldLink ST 9 ST "value" "[B", .laysFinal ST ST "coder" "B", .fieldLink ST 15 ST "coder" "B",
  .methodLink ST 1 Lib.objectInit, .instanceMethod Lib.objectInit, .code Lib.objectInit ⟨#[0xb1]⟩ 1 none, .methodLink ST 177 Cmp3.yN, .static Cmp3.yN, .methodLink ST 47 CodL.yN, .static CodL.yN,
  .code Cmp3.yN Cmp3.yB 6 (some (.array .byte)), .initialized U16, .arrayClass .byte, .methodLink U16 115 Cmp5.yN, .static Cmp5.yN, .code Cmp5.yN Cmp5.yB 7 (some .int), .code CodL.yN CodL.yB 2 (some .byte)]
theorem tab_of {a : Array Value} {s : State} (h : ∀ w ∈ words, w.before a s = true) : New1.tab.before a s = true := by
  have h5 : Cmp5.tab.before a s = true := unparts (wk h (.code Cmp5.yN Cmp5.yB 7 (some .int))) (wks h (.initialized Cmp5.yN.cls :: Cmp5.site))
  have hc : CodL.tab.before a s = true := unparts (wk h (.code CodL.yN CodL.yB 2 (some .byte))) (wks h (.initialized CodL.yN.cls :: CodL.site))
  have q5 : ∀ w ∈ Cmp5.tab :: words, w.before a s = true := fun w hw => (List.mem_cons.mp hw).elim (fun e => e ▸ h5) (h w)
  have h3 : Cmp3.tab.before a s = true := unparts (wk q5 (.code Cmp3.yN Cmp3.yB 6 (some (.array .byte)))) (wks q5 (.initialized Cmp3.yN.cls :: Cmp3.site))
  have q3 : ∀ w ∈ Cmp3.tab :: CodL.tab :: words, w.before a s = true := fun w hw => (List.mem_cons.mp hw).elim (fun e => e ▸ h3) fun hw => (List.mem_cons.mp hw).elim (fun e => e ▸ hc) (h w)
  have h4 : New4.tab.before a s = true := unparts (wk q3 (.code New4.yN New4.yB 6 none)) (wks q3 (.initialized New4.yN.cls :: New4.site))
  have q4 : ∀ w ∈ New4.tab :: words, w.before a s = true := fun w hw => (List.mem_cons.mp hw).elim (fun e => e ▸ h4) (h w)
  exact unparts (wk q4 (.code New1.yN New1.yB 2 none)) (wks q4 (.initialized New1.yN.cls :: New1.site))
/-- the words ride from the start Z to the walk's own state -/
theorem moved {Z s : State} {a0 args : Array Value} (hZ : Z.Warmed39 s.vm) (hw : ∀ d ∈ words, d.before a0 Z = true) : ∀ d ∈ words, d.before args s = true := fun d hd => by
  have q := hw d hd
  have t : ∀ d ∈ words, d = .arrayClass .byte ∨ (d.onTables && d.keepsFace) = true := by decide +kernel
  rcases t d hd with rfl | t
  · exact RoadKit.mvA hZ q
  · exact RoadKit.mv hZ q t
/-- WHAT COMES BACK, over the tables of the start Z: h the heap at the call, h' behind it -/
def Q (Z : State) (x : Addr) (A : Cell) (h : Heap) (v : Option Value) (h' : Heap) (L : List Loc) : Prop := v = none ∧ (∀ y ∈ L, y.base = x) ∧ RoadKit.Keep h h' [x] ∧ h'.size = h.size + 1 ∧ RoadKit.Exa Z h' x ST ∧ RoadKit.Fld Z h' x ST "value" "[B" (.ref h.size) ∧ RoadKit.Fld Z h' x ST "coder" "B" (.int 0) ∧
  (∃ V : Cell, RoadKit.Arr Z h' h.size V .byte ∧ V.vm = .none ∧ Z.vm.findClass "[B" = some V.cls ∧ V.slots.size = A.slots.size ∧ ∀ j, j < A.slots.size → V.slots[j]? = some (.int (lo8 (cv A j)))) ∧
  ∀ (O n d : String) (w : Value), RoadKit.Fld Z h x O n d w → RoadKit.slotOf Z O n d ≠ RoadKit.slotOf Z ST "value" "[B" → RoadKit.slotOf Z O n d ≠ RoadKit.slotOf Z ST "coder" "B" → RoadKit.Fld Z h' x O n d w
/-- **new String(chars) AT A CALL, IN THE ROAD'S FORM**: for specialBack behind newO: x the fresh String, b the char[] with the cell A -/
theorem back {p : Program} {l : Launch} {e : Env} {R : Room} {s : State} {args : Array Value} {below : List Frame} {len W : Nat} {Z : State} {a0 : Array Value} {h : Heap} (hZ : Z.Warmed39 s.vm) (hw : ∀ d ∈ words, d.before a0 Z = true) {kI : Nat} (wi : (Jvm.Cond.instantiable ST kI).before a0 Z = true)
    {x b : Addr} {A : Cell} {z : Int32} {v0 c0 : Value} (E : RoadKit.Exa Z h x ST) (V : RoadKit.Fld Z h x ST "value" "[B" v0) (C : RoadKit.Fld Z h x ST "coder" "B" c0) (K : RoadKit.Arr Z h b A .char) (hty : Typed .char A) (S : RoadKit.Sta Z h ST "COMPACT_STRINGS" "Z" (.int z)) (hz : ¬ z = 0)
    (l0 : 0 < A.slots.size) (l2 : A.slots.size ≤ 536870912) (hp : ∀ i, i < A.slots.size → ¬ 255 < cv A i) (hfr : 4 ≤ R.frames) (hlo : W + 65 ≤ R.locals) :
    Back l R p e below s args New1.yN len W (fun P a => a = #[.ref x, .ref b] ∧ P.U.heap = h ∧ P.cells + 1 ≤ R.cells ∧ P.slots + A.slots.size ≤ R.slots)
      (fun P _ v B => ∃ L, Q Z x A h v B.U.heap L ∧ B.locs = P.locs ++ L ∧ B.cells = P.cells + 1 ∧ B.slots = P.slots + A.slots.size) := by
  intro m meth c P g ig mk a X hg hsize hdg hW hn hp'
  obtain ⟨rfl, rfl, r1, r2⟩ := hp'
  have al : Z.vm.Alike P.U.vm := hZ.alike.trans X.warmed.alike
  obtain ⟨D, cfV, kV, iV, fV, hD, gV, stV, knV, obV, asV, slV⟩ := id V
  obtain ⟨D', cfC, kC, iC, fC, hD', gC, stC, -, -, asC, slC⟩ := id C
  cases hD.symm.trans hD'
  obtain ⟨D2, kD, e1, e2, e3, e4, e5⟩ := id E
  cases hD.symm.trans e1
  obtain ⟨c2, k2, i1, i2, i3, -⟩ := Cond.instantiable_spec wi
  cases e2.symm.trans i1
  cases e3.symm.trans i2
  obtain ⟨kU, u1, u2⟩ := al.2.2 _ _ e3
  have hB : Blank ST x D P.U := ⟨hD, ⟨knV, fun q hq => by rw [hq] at obV; cases obV⟩, by rw [al.findClass]; exact e2, kU, u1, by rw [u2]; exact i3, by rw [u2]; exact e5 i3⟩
  have F1 : Found ST "value" "[B" fV P.U := ⟨SBG.found_only al ⟨cfV, kV, iV, gV⟩, stV⟩
  have F2 : Found ST "coder" "B" fC P.U := ⟨SBG.found_only al ⟨cfC, kC, iC, gC⟩, stC⟩
  have hA : Ch b A P.U := ⟨⟨K.1, State.isArrayOf_alike al K.2.1, K.2.2, by omega⟩, hty⟩
  have hS : StaticIs P.U ST "COMPACT_STRINGS" "Z" (.int z) := by
    obtain ⟨cfS, iS, kS, fS, st, cS, t1, t2, t3, t4, t5, t6, t7⟩ := S
    exact StaticIs.there (s := { Z with heap := P.U.heap }) ⟨cfS, iS, kS, fS, st, cS, t1, t2, t3, t4, t5, (fun q => by rw [q] at t6; cases t6), t7⟩ al rfl
  obtain ⟨v, B, X', ⟨⟨hv, E', V', q1, q2, q3, q4, q5, q6, q7, q8, q9, q10, q11⟩, hl, hc, hs⟩, st⟩ := New1.pays x D fV fC b A z (tab_of (moved hZ hw)) hfr hlo m meth c P g ig mk _ X hg hsize hdg hW hn ⟨r1, r2, rfl, hB, F1, F2, hA, hS, hz, l0, l2, hp⟩
  have al' : Z.vm.Alike B.U.vm := hZ.alike.trans X'.warmed.alike
  have hsz : E'.slots.size = D.slots.size := by
    obtain ⟨-, -, -, kB, w1, w2, w3⟩ := q1
    obtain ⟨kB', y1, y2⟩ := al'.2.2 _ _ e3
    rw [q2.2.1] at w1
    cases w1.symm.trans y1
    rw [w3, e5 i3, y2]
  refine ⟨v, B, X', ⟨_, ⟨hv, ?_, ⟨by omega, fun y cy hy hn' => q10 y cy (by simpa using hn') hy, fun y cy hy => ?_⟩, q11, ⟨E', _, q1.1, by rw [q2.2.1]; exact e2, by rw [q2.2.1]; exact e3, by rw [q2.1]; exact obV, fun _ => by rw [hsz]; exact e5 i3⟩,
    ⟨E', cfV, kV, iV, fV, q1.1, gV, stV, by rw [q2.1]; exact knV, by rw [q2.1]; exact obV, by rw [q2.2.1]; exact asV, q3⟩, ⟨E', cfC, kC, iC, fC, q1.1, gC, stC, by rw [q2.1]; exact knV, by rw [q2.1]; exact obV, by rw [q2.2.1]; exact asC, q4⟩,
    ⟨V', ⟨q5.1, State.isArrayOf_alike al'.symm q5.2.1, q5.2.2.1⟩, q6, by rw [← al'.findClass]; exact q7, q8, fun j hj => by have := q9 j hj; rwa [Nat.zero_add] at this⟩, fun O n d w F n1 n2 => ?_⟩, hl, hc, hs⟩, st⟩
  · intro y hy
    simp only [List.mem_cons, List.not_mem_nil, or_false] at hy
    rcases hy with rfl | rfl <;> rfl
  · by_cases q : y = x
    · subst q
      cases hD.symm.trans hy
      exact ⟨E', q1.1, q2.2.1, q2.1, hsz⟩
    · exact ⟨cy, q10 y cy q hy, rfl, rfl, rfl⟩
  · obtain ⟨D3, cf, k, i, f, g1, g2, g3, g4, g5, g6, g7⟩ := F
    cases hD.symm.trans g1
    simp only [RoadKit.slotOf, g2, gV, gC, Option.map_some, Option.getD_some] at n1 n2
    exact ⟨E', cf, k, i, f, q1.1, g2, g3, by rw [q2.1]; exact g4, by rw [q2.1]; exact g5, by rw [q2.2.1]; exact g6, by rw [q2.2.2 f.slot (by simp [n1, n2])]; exact g7⟩
end StrChars.Road
namespace StrChars.Road
open Jvm Sem ClassFile Op Lib Jvm.Stand Jvm.Free Jvm.Free.XT
/-- WHAT COMES BACK, the byte[] as a list of values -/
def QA (Z : State) (x : Addr) (zn : Int32) (cs : List Int32) (h : Heap) (v : Option Value) (h' : Heap) (L : List Loc) : Prop := v = none ∧ (∀ y ∈ L, y.base = x) ∧ RoadKit.Keep h h' [x] ∧ h'.size = h.size + 1 ∧ RoadKit.Exa Z h' x ST ∧ RoadKit.Fld Z h' x ST "value" "[B" (.ref h.size) ∧ RoadKit.Fld Z h' x ST "coder" "B" (.int 0) ∧
  (∃ kb, Z.vm.findClass "[B" = some kb ∧ RoadKit.Arv Z h' h.size kb .byte zn (cs.map fun c => .int (lo8 c)) (.int 0)) ∧
  ∀ (O n d : String) (w : Value), RoadKit.Fld Z h x O n d w → RoadKit.slotOf Z O n d ≠ RoadKit.slotOf Z ST "value" "[B" → RoadKit.slotOf Z O n d ≠ RoadKit.slotOf Z ST "coder" "B" → RoadKit.Fld Z h' x O n d w
/-- **new String(chars) AT A CALL, THE ARRAYS AS LISTS**: the char[] at b holds cs, not empty, no char above 255 -/
theorem backArv {p : Program} {l : Launch} {e : Env} {R : Room} {s : State} {args : Array Value} {below : List Frame} {len W : Nat} {Z : State} {a0 : Array Value} {h : Heap} (hZ : Z.Warmed39 s.vm) (hw : ∀ d ∈ words, d.before a0 Z = true) {kI : Nat} (wi : (Jvm.Cond.instantiable ST kI).before a0 Z = true)
    {x b : Addr} {k : ClassId} {zn z : Int32} {cs : List Int32} {dv v0 c0 : Value} (E : RoadKit.Exa Z h x ST) (V : RoadKit.Fld Z h x ST "value" "[B" v0) (C : RoadKit.Fld Z h x ST "coder" "B" c0) (K : RoadKit.Arv Z h b k .char zn (cs.map Value.int) dv) (S : RoadKit.Sta Z h ST "COMPACT_STRINGS" "Z" (.int z)) (hz : ¬ z = 0)
    (hlen : zn.toNatClampNeg = cs.length) (h0 : 0 < cs.length) (hbig : cs.length ≤ 536870912) (hall : ∀ c ∈ cs, ¬ 255 < c) (hfr : 4 ≤ R.frames) (hlo : W + 65 ≤ R.locals) :
    Back l R p e below s args New1.yN len W (fun P a => a = #[.ref x, .ref b] ∧ P.U.heap = h ∧ P.cells + 1 ≤ R.cells ∧ P.slots + cs.length ≤ R.slots)
      (fun P _ v B => ∃ L, QA Z x zn cs h v B.U.heap L ∧ B.locs = P.locs ++ L ∧ B.cells = P.cells + 1 ∧ B.slots = P.slots + cs.length) := by
  obtain ⟨A, K1, K2, K3, K4, K5, K6⟩ := K
  have e : A.slots.size = cs.length := K3.trans hlen
  have hat : ∀ (i : Nat) (hi : i < cs.length), A.slots[i]? = some (.int cs[i]) := fun i hi => by rw [K5 i (by omega)]; simp [List.getD_eq_getElem?_getD, hi]
  have hcv : ∀ (i : Nat) (hi : i < cs.length), cv A i = cs[i] := fun i hi => by unfold cv; rw [hat i hi]
  have hty : Typed .char A := fun i v hv => by
    have hi : i < A.slots.size := (Array.getElem?_eq_some_iff.mp hv).1
    have q := K5 i hi
    rw [hv] at q
    rw [Option.some.inj q]
    exact K6 i hi
  refine Back.mono (back hZ hw wi E V C K1 hty S hz (by omega) (by omega) (fun i hi => by rw [hcv i (by omega)]; exact hall _ (List.getElem_mem _)) hfr hlo) (fun P a hp => ⟨hp.1, hp.2.1, hp.2.2.1, by rw [e]; exact hp.2.2.2⟩) (fun P a v B hp hq => ?_)
  obtain ⟨L, ⟨q1, q2, q3, q4, q5, q6, q7, ⟨V', v1, v2, v3, v4, v5⟩, q9⟩, hl, hc, hs⟩ := hq
  refine ⟨L, ⟨q1, q2, q3, q4, q5, q6, q7, ⟨V'.cls, v3, V', v1, rfl, by rw [v4, e, hlen], K4, fun i hi => ?_, fun i hi => ?_⟩, q9⟩, hl, hc, by rw [hs, e]⟩
  · have hi' : i < cs.length := by omega
    rw [v5 i (by omega), hcv i hi']; simp [List.getD_eq_getElem?_getD, hi']
  · have hi' : i < cs.length := by omega
    simp only [List.getD_eq_getElem?_getD, List.getElem?_map, List.getElem?_eq_getElem hi', Option.map_some, Option.getD_some]
    exact fits_lo8 _
end StrChars.Road
namespace StrChars.Road
open Jvm Sem ClassFile Op Lib Jvm.Stand Jvm.Free Jvm.Free.XT
/-- WHAT COMES BACK, in the writer's own shape -/
def QV (Z : State) (x : Addr) (N : Int32) (bs : List Int32) (h : Heap) (n0 : Nat) (v : Option Value) (h' : Heap) (L : List Loc) : Prop := v = none ∧ RoadKit.Fr n0 L ∧ RoadKit.Keep h h' [x] ∧ RoadKit.Exa Z h' x ST ∧ RoadKit.Fld Z h' x ST "coder" "B" (.int 0) ∧
  ∃ (t : Addr) (kb : ClassId), n0 ≤ t ∧ h.size ≤ t ∧ ¬ t = x ∧ RoadKit.Fld Z h' x ST "value" "[B" (.ref t) ∧ RoadKit.Arv Z h' t kb .byte N (bs.map Value.int) (.int 0)
/-- **new String(chars) AT A CALL, FOR THE WRITER**: a char[] of n known ints, each 0 to 255 -/
theorem backV {p : Program} {l : Launch} {e : Env} {R : Room} {s : State} {args : Array Value} {below : List Frame} {len W : Nat} {Z : State} {a0 : Array Value} {h : Heap} (hZ : Z.Warmed39 s.vm) (hw : ∀ d ∈ words, d.before a0 Z = true) {kI : Nat} (wi : (Jvm.Cond.instantiable ST kI).before a0 Z = true)
    {x b : Addr} {kC : ClassId} {cs bs : List Int32} {d v0 c0 : Value} {z N : Int32} {n n0 : Nat} (hx0 : n0 ≤ x) (hh0 : n0 ≤ h.size) (E : RoadKit.Exa Z h x ST) (V : RoadKit.Fld Z h x ST "value" "[B" v0) (C : RoadKit.Fld Z h x ST "coder" "B" c0) (K : RoadKit.Arv Z h b kC .char N (cs.map Value.int) d) (S : RoadKit.Sta Z h ST "COMPACT_STRINGS" "Z" (.int z)) (hz : ¬ z = 0)
    (hn : cs.length = n) (hN : N = Int32.ofNat n) (l0 : 0 < n) (l2 : n ≤ 4000) (hp : ∀ c ∈ cs, ¬ c < 0 ∧ ¬ (255 : Int32) < c) (hb : bs = cs.map (fun c => c.toInt8.toInt32)) (hfr : 4 ≤ R.frames) (hlo : W + 65 ≤ R.locals) :
    Back l R p e below s args (⟨"java/lang/String", "<init>", "([C)V"⟩ : MethodName) len W (fun P a => a = #[.ref x, .ref b] ∧ P.U.heap = h ∧ P.cells + 1 ≤ R.cells ∧ P.slots + n ≤ R.slots)
      (fun P _ v B => ∃ L, QV Z x N bs h n0 v B.U.heap L ∧ B.locs = P.locs ++ L ∧ B.cells = P.cells + 1 ∧ B.slots = P.slots + n) := by
  subst hn hN hb
  refine Back.mono (backArv hZ hw wi E V C K S hz (n32 (by omega)) l0 (by omega) (fun c hc => (hp c hc).2) hfr hlo) (fun P a hp => hp) (fun P a v B hp hq => ?_)
  obtain ⟨L, ⟨q1, q2, q3, q4, q5, q6, q7, ⟨kb, v1, v2⟩, q9⟩, hl, hc, hs⟩ := hq
  exact ⟨L, ⟨q1, fun y hy => by rw [q2 y hy]; exact hx0, q3, q5, q7, h.size, kb, hh0, Nat.le_refl _, Nat.ne_of_gt E.lt, q6, by rw [List.map_map]; exact v2⟩, hl, hc, hs⟩
end StrChars.Road
namespace StrChars
open Jvm Sem ClassFile Op Lib Jvm.Stand Jvm.Free.XT Jvm.Free.ALB Jvm.Free.JM Jvm.Free
open Jvm.Lib.Cold (StaticIs)
def hi8 (x : Int32) : Int32 := lo8 (x >>> ((8 : Int32) &&& 31))
/-- what StringUTF16.getChar makes of two bytes -/
def pairCh (u v : Int32) : Int32 := (((u &&& 255) <<< ((0 : Int32) &&& 31)) ||| ((v &&& 255) <<< ((8 : Int32) &&& 31))).toUInt32.toUInt16.toUInt32.toInt32
theorem lo8_and (x : Int32) : (lo8 x &&& 255).toBitVec.toNat = x.toBitVec.toNat % 256 := by
  have h : (lo8 x).toBitVec = (x.toBitVec.signExtend 8).signExtend 32 := by rw [lo8, Int8.toBitVec_toInt32, Int32.toBitVec_toInt8]
  rw [Int32.toBitVec_and, BitVec.toNat_and, h]
  have e : ((x.toBitVec.signExtend 8).signExtend 32).toNat % 256 = x.toBitVec.toNat % 256 := by
    rw [BitVec.toNat_signExtend]
    have hlt := x.toBitVec.isLt
    simp only [BitVec.toNat_setWidth, BitVec.toNat_signExtend]
    split <;> split <;> omega
  rw [← e]
  exact Nat.and_two_pow_sub_one_eq_mod _ 8
theorem pair_says {c : Int32} (h0 : ¬ c < 0) (h1 : ¬ 65535 < c) : pairCh (lo8 c) (hi8 c) = c := by
  rw [Int32.lt_iff_toInt_lt] at h0 h1
  have e0 : (0 : Int32).toInt = 0 := rfl
  have e1 : (65535 : Int32).toInt = 65535 := rfl
  have hc : c.toInt = c.toBitVec.toNat := by
    have := c.toBitVec.isLt
    have e : c.toInt = c.toBitVec.toInt := rfl
    rw [e] at h0 h1
    rw [e]
    rw [BitVec.toInt_eq_toNat_cond] at h0 h1 ⊢
    split at h0 <;> split <;> omega
  have hn : c.toBitVec.toNat < 65536 := by omega
  have a1 := lo8_and c
  have a2 : (hi8 c &&& 255).toBitVec.toNat = c.toBitVec.toNat / 256 := by
    rw [hi8, lo8_and]
    have e : ((8 : Int32) &&& 31) = 8 := by decide
    rw [e, Int32.toBitVec_shiftRight]
    have e2 : ((8 : Int32).toBitVec.smod 32) = 8#32 := by decide
    rw [e2, BitVec.sshiftRight_eq', BitVec.toNat_sshiftRight_of_msb_false (by rw [BitVec.msb_eq_false_iff_two_mul_lt]; omega)]
    show c.toBitVec.toNat >>> 8 % 256 = _
    rw [Nat.shiftRight_eq_div_pow]
    omega
  unfold pairCh
  apply Int32.toBitVec_inj.mp
  apply BitVec.eq_of_toNat_eq
  have f0 : ((0 : Int32) &&& 31) = 0 := by decide
  have f8 : ((8 : Int32) &&& 31) = 8 := by decide
  rw [f0, f8]
  have g : (((lo8 c &&& 255) <<< (0 : Int32)) ||| ((hi8 c &&& 255) <<< (8 : Int32))).toBitVec.toNat = c.toBitVec.toNat := by
    rw [Int32.toBitVec_or, Int32.toBitVec_shiftLeft, Int32.toBitVec_shiftLeft]
    have s0 : ((0 : Int32).toBitVec.smod 32) = 0#32 := by decide
    have s8 : ((8 : Int32).toBitVec.smod 32) = 8#32 := by decide
    rw [s0, s8, BitVec.toNat_or]
    simp only [BitVec.shiftLeft_eq', BitVec.toNat_shiftLeft, a1, a2]
    show (c.toBitVec.toNat % 256) <<< 0 % 2 ^ 32 ||| (c.toBitVec.toNat / 256) <<< 8 % 2 ^ 32 = _
    rw [Nat.shiftLeft_zero, Nat.mod_eq_of_lt (show c.toBitVec.toNat % 256 < 2 ^ 32 by omega), Nat.mod_eq_of_lt (show (c.toBitVec.toNat / 256) <<< 8 < 2 ^ 32 by rw [Nat.shiftLeft_eq]; omega), Nat.or_comm, ← Nat.shiftLeft_add_eq_or_of_lt (by omega), Nat.shiftLeft_eq]
    omega
  show BitVec.toNat (((((lo8 c &&& 255) <<< (0 : Int32)) ||| ((hi8 c &&& 255) <<< (8 : Int32))).toBitVec.setWidth 16).setWidth 32) = _
  rw [BitVec.toNat_setWidth, BitVec.toNat_setWidth, g]
  omega
end StrChars
namespace StrChars
open Jvm Sem ClassFile Op Lib Jvm.Stand Jvm.Free.XT Jvm.Free.ALB Jvm.Free.JM Jvm.Free
open Jvm.Lib.Cold (StaticIs)
/-- the array's cell V codes the n chars f 0 .. f (n - 1) by the coder cd, as the JDK does: coder 1 just where some char is above 255 -/
def Cod (cd : Int32) (n : Nat) (f : Nat → Int32) (V : Cell) : Prop := (cd = 0 ∧ V.slots.size = n ∧ ∀ j, j < n → V.slots[j]? = some (.int (lo8 (f j))) ∧ ¬ 255 < f j) ∨ (cd = 1 ∧ V.slots.size = 2 * n ∧ (∀ j, j < n → V.slots[2 * j]? = some (.int (lo8 (f j))) ∧ V.slots[2 * j + 1]? = some (.int (hi8 (f j)))) ∧ ∃ j, j < n ∧ 255 < f j)
/-- **x is a String of the n chars f 0 .. f (n - 1)**, Latin-1 or UTF-16; its array at t has the cell V -/
def Txt (x t : Addr) (V : Cell) (cd : Int32) (n : Nat) (f : Nat → Int32) (U : State) : Prop := Exact "java/lang/String" x U ∧ Has x "java/lang/String" "value" "[B" (.ref t) U ∧ Has x "java/lang/String" "coder" "B" (.int cd) U ∧ XT.Arr .byte t V U ∧ Cod cd n f V ∧ ∀ j, j < n → ¬ f j < 0 ∧ ¬ 65535 < f j
theorem Txt.mv {x t : Addr} {V : Cell} {cd : Int32} {n : Nat} {f : Nat → Int32} {U U' : State} (h : Txt x t V cd n f U) (hal : U.vm.Alike U'.vm) (hh : U'.heap = U.heap) : Txt x t V cd n f U' := ⟨h.1.mv hal hh, h.2.1.mv hal hh, h.2.2.1.mv hal hh, h.2.2.2.1.mv hal hh, h.2.2.2.2⟩
end StrChars
namespace StrChars.Road
open Jvm Sem ClassFile Op Lib Jvm.Stand Jvm.Free Jvm.Free.XT
open Jvm.Lib.Cold (StaticIs)
theorem consq {a : Array Value} {s : State} {c : Jvm.Cond} {L : List Jvm.Cond} (h0 : c.before a s = true) (h : ∀ w ∈ L, w.before a s = true) : ∀ w ∈ c :: L, w.before a s = true := fun w hw => (List.mem_cons.mp hw).elim (fun e => e ▸ h0) (h w)
/-- the bytes of the chars cs, low before high -/
def wideBytes : List Int32 → List Value
  | [] => []
  | c :: cs => .int (lo8 c) :: .int (hi8 c) :: wideBytes cs
theorem wide_lo (d : Value) : ∀ (cs : List Int32) (j : Nat), j < cs.length → (wideBytes cs).getD (2 * j) d = .int (lo8 (cs.getD j 0))
  | [], j, h => absurd h (Nat.not_lt_zero j)
  | c :: cs, 0, _ => rfl
  | c :: cs, j + 1, h => by
    have q := wide_lo d cs j (by simpa using h)
    rw [show 2 * (j + 1) = 2 * j + 1 + 1 from by omega]
    simpa [wideBytes] using q
theorem wide_hi (d : Value) : ∀ (cs : List Int32) (j : Nat), j < cs.length → (wideBytes cs).getD (2 * j + 1) d = .int (hi8 (cs.getD j 0))
  | [], j, h => absurd h (Nat.not_lt_zero j)
  | c :: cs, 0, _ => rfl
  | c :: cs, j + 1, h => by
    have q := wide_hi d cs j (by simpa using h)
    rw [show 2 * (j + 1) + 1 = 2 * j + 1 + 1 + 1 from by omega]
    simpa [wideBytes] using q
theorem low_at (d : Value) (cs : List Int32) (j : Nat) (h : j < cs.length) : (cs.map fun c => Value.int (lo8 c)).getD j d = .int (lo8 (cs.getD j 0)) := by
  simp [List.getD_eq_getElem?_getD, h]
/-- an array of N2 bytes vs codes the chars cs by the coder cd -/
def CodA (cs : List Int32) (cd N2 : Int32) (vs : List Value) : Prop := (cd = 0 ∧ N2 = Int32.ofNat cs.length ∧ vs = (cs.map fun c => Value.int (lo8 c)) ∧ ∀ c ∈ cs, ¬ 255 < c) ∨ (cd = 1 ∧ N2 = Int32.ofNat (2 * cs.length) ∧ vs = wideBytes cs ∧ ∃ c ∈ cs, 255 < c)
theorem CodA.cod {cs : List Int32} {cd N2 : Int32} {vs : List Value} {V : Cell} (h : CodA cs cd N2 vs) (hn : 2 * cs.length < 2 ^ 31) (hs : V.slots.size = N2.toNatClampNeg) (hv : RoadKit.Has V vs (.int 0)) : Cod cd cs.length (fun j => cs.getD j 0) V := by
  rcases h with ⟨rfl, rfl, rfl, h⟩ | ⟨rfl, rfl, rfl, c, hc, hw⟩
  · rw [n32 (by omega)] at hs
    exact Or.inl ⟨rfl, hs, fun j hj => ⟨by rw [hv j (by omega), low_at _ _ _ hj], by
      have e : cs.getD j 0 = cs[j] := by simp [List.getD_eq_getElem?_getD, hj]
      show ¬ 255 < cs.getD j 0
      rw [e]; exact h _ (List.getElem_mem _)⟩⟩
  · rw [n32 (by omega)] at hs
    obtain ⟨j, hj, rfl⟩ := List.getElem_of_mem hc
    exact Or.inr ⟨rfl, hs, fun j hj => ⟨by rw [hv _ (by omega), wide_lo _ _ _ hj], by rw [hv _ (by omega), wide_hi _ _ _ hj]⟩, j, hj, by
      have e : cs.getD j 0 = cs[j] := by simp [List.getD_eq_getElem?_getD, hj]
      show 255 < cs.getD j 0
      rw [e]; exact hw⟩
/-- an object of exactly java/lang/String, its two fields found: as the laws ask it -/
theorem strObj {Z U : State} {a0 : Array Value} {kI : Nat} (wi : (Jvm.Cond.instantiable ST kI).before a0 Z = true) (al : Z.vm.Alike U.vm) {x : Addr} {v0 c0 : Value} (E : RoadKit.Exa Z U.heap x ST) (V : RoadKit.Fld Z U.heap x ST "value" "[B" v0) (C : RoadKit.Fld Z U.heap x ST "coder" "B" c0) :
    ∃ (D : Cell) (fV fC : Field), Blank ST x D U ∧ Found ST "value" "[B" fV U ∧ Found ST "coder" "B" fC U ∧ D.slots[fV.slot]? = some v0 ∧ D.slots[fC.slot]? = some c0 ∧ RoadKit.slotOf Z ST "value" "[B" = fV.slot ∧ RoadKit.slotOf Z ST "coder" "B" = fC.slot := by
  obtain ⟨D, cfV, kV, iV, fV, hD, gV, stV, knV, obV, asV, slV⟩ := V
  obtain ⟨D', cfC, kC, iC, fC, hD', gC, stC, -, -, asC, slC⟩ := C
  cases hD.symm.trans hD'
  obtain ⟨D2, kD, e1, e2, e3, e4, e5⟩ := E
  cases hD.symm.trans e1
  obtain ⟨c2, k2, i1, i2, i3, -⟩ := Cond.instantiable_spec wi
  cases e2.symm.trans i1
  cases e3.symm.trans i2
  obtain ⟨kU, u1, u2⟩ := al.2.2 _ _ e3
  exact ⟨D, fV, fC, ⟨hD, ⟨knV, fun q hq => by rw [hq] at obV; cases obV⟩, by rw [al.findClass]; exact e2, kU, u1, by rw [u2]; exact i3, by rw [u2]; exact e5 i3⟩, ⟨SBG.found_only al ⟨cfV, kV, iV, gV⟩, stV⟩, ⟨SBG.found_only al ⟨cfC, kC, iC, gC⟩, stC⟩, slV, slC, by simp [RoadKit.slotOf, gV], by simp [RoadKit.slotOf, gC]⟩
theorem sta_is {Z U : State} (al : Z.vm.Alike U.vm) {C n d : String} {v : Value} (S : RoadKit.Sta Z U.heap C n d v) : StaticIs U C n d v := by
  obtain ⟨cfS, iS, kS, fS, st, cS, t1, t2, t3, t4, t5, t6, t7⟩ := S
  exact StaticIs.there (s := { Z with heap := U.heap }) ⟨cfS, iS, kS, fS, st, cS, t1, t2, t3, t4, t5, (fun q => by rw [q] at t6; cases t6), t7⟩ al rfl
end StrChars.Road
namespace StrChars
open Jvm Sem ClassFile Op Lib Jvm.Stand Jvm.Free.XT Jvm.Free.ALB Jvm.Free.JM Jvm.Free
open Jvm.Lib.Cold (StaticIs)
/-- what place i of a byte[]'s cell holds -/
def yv (A : Cell) (i : Nat) : Int32 := match A.slots[i]? with | some (.int x) => x | _ => 0
theorem yv_get {a : Addr} {A : Cell} {U : State} (h : XT.Arr .byte a A U) (ht : Typed .byte A) {i : Nat} (hi : i < A.slots.size) : A.slots[i]? = some (.int (yv A i)) := by
  have e := Array.getElem?_eq_getElem hi
  have f := ht i _ e
  unfold yv; rw [e]
  generalize A.slots[i] = v at f
  cases v <;> simp [fits] at f ⊢
/-- the two arrays are equal, place for place -/
def EqC (A B : Cell) : Prop := A.slots.size = B.slots.size ∧ ∀ i, i < A.slots.size → yv A i = yv B i
/-- a boolean that says whether p -/
def Says01 (q : Prop) (r : Option Value) (s u : State) : Prop := ∃ v : Int32, r = some (.int v) ∧ u.heap = s.heap ∧ ((v = 1 ∧ q) ∨ (v = 0 ∧ ¬ q))
theorem Says01.mv {q : Prop} : ∀ r (U U' V V' : State), U'.heap = U.heap → V.vm.Alike V'.vm → V'.heap = V.heap → Says01 q r U V → Says01 q r U' V' :=
  fun r U U' V V' h1 _ h2 ⟨v, a, b, c⟩ => ⟨v, a, by rw [h1, h2]; exact b, c⟩
namespace LEq
def yN : MethodName := ⟨"java/lang/StringLatin1", "equals", "([B[B)Z"⟩
abbrev yB : ByteArray := jdk_43_method_13_code
theorem d0 : decode yB 0 = .ok (.aload_n 0, 1) := by decide +kernel
theorem d1 : decode yB 1 = .ok (.arraylength, 1) := by decide +kernel
theorem d2 : decode yB 2 = .ok (.aload_n 1, 1) := by decide +kernel
theorem d3 : decode yB 3 = .ok (.arraylength, 1) := by decide +kernel
theorem d4 : decode yB 4 = .ok (.if_icmp (.ne) 30, 3) := by decide +kernel
theorem d7 : decode yB 7 = .ok (.iconst 0, 1) := by decide +kernel
theorem d8 : decode yB 8 = .ok (.istore_n 2, 1) := by decide +kernel
theorem d9 : decode yB 9 = .ok (.iload_n 2, 1) := by decide +kernel
theorem d10 : decode yB 10 = .ok (.aload_n 0, 1) := by decide +kernel
theorem d11 : decode yB 11 = .ok (.arraylength, 1) := by decide +kernel
theorem d12 : decode yB 12 = .ok (.if_icmp (.ge) 20, 3) := by decide +kernel
theorem d15 : decode yB 15 = .ok (.aload_n 0, 1) := by decide +kernel
theorem d16 : decode yB 16 = .ok (.iload_n 2, 1) := by decide +kernel
theorem d17 : decode yB 17 = .ok (.baload, 1) := by decide +kernel
theorem d18 : decode yB 18 = .ok (.aload_n 1, 1) := by decide +kernel
theorem d19 : decode yB 19 = .ok (.iload_n 2, 1) := by decide +kernel
theorem d20 : decode yB 20 = .ok (.baload, 1) := by decide +kernel
theorem d21 : decode yB 21 = .ok (.if_icmp (.eq) 5, 3) := by decide +kernel
theorem d24 : decode yB 24 = .ok (.iconst 0, 1) := by decide +kernel
theorem d25 : decode yB 25 = .ok (.ireturn, 1) := by decide +kernel
theorem d26 : decode yB 26 = .ok (.iinc 2 1, 3) := by decide +kernel
theorem d29 : decode yB 29 = .ok (.goto (-20), 3) := by decide +kernel
theorem d32 : decode yB 32 = .ok (.iconst 1, 1) := by decide +kernel
theorem d33 : decode yB 33 = .ok (.ireturn, 1) := by decide +kernel
theorem d34 : decode yB 34 = .ok (.iconst 0, 1) := by decide +kernel
theorem d35 : decode yB 35 = .ok (.ireturn, 1) := by decide +kernel
def site : List Cond := []
def tab : Cond := tabOf yN yB 3 (some .boolean) site
def P (a : Addr) (A : Cell) (b : Addr) (B : Cell) (args : Array Value) (s : State) : Prop := args = #[.ref a, .ref b] ∧ XT.Arr .byte a A s ∧ Typed .byte A ∧ XT.Arr .byte b B s ∧ Typed .byte B
/-- whether two byte[] are equal, place for place -/
theorem law (l : Launch) (a : Addr) (A : Cell) (b : Addr) (B : Cell) : Law l yN 2 2 0 0 yB 3 (some .boolean) site (P a A b B) (Says01 (EqC A B)) [] 0 0 := by
  refine Law.of_walk (plainFor_of_name (by decide +kernel)) (by decide +kernel) (by decide +kernel) (by decide) (fun _ _ h => by rw [h.1]; rfl) (fun _ U U' hal hh h => ⟨h.1, h.2.1.mv hal hh, h.2.2.1, h.2.2.2.1.mv hal hh, h.2.2.2.2⟩) (fun r U U' V V' h1 hal h2 h => Says01.mv r U U' V V' h1 hal h2 h) ?_
  intro p e s m args below meth c s₁ X0 hexec hbytes hml hret hlk hnm hown hh0 W hP
  obtain ⟨rfl, hA, tA, hB, tB⟩ := hP
  have a31 := hA.2.2.2
  have b31 := hB.2.2.2
  have hA0 := hA.mv X0.warmed.alike hh0
  have hB0 := hB.mv X0.warmed.alike hh0
  have c1 : Steps p.tables e below (s₁.setTop (entryFrame m #[.ref a, .ref b] 3)) (s₁.setTop (mkF m 0 #[.val (.ref a), .val (.ref b), .unset] [])) := entry rfl
  have c2 : Steps p.tables e below (s₁.setTop (entryFrame m #[.ref a, .ref b] 3)) (s₁.setTop (mkF m 4 #[.val (.ref a), .val (.ref b), .unset] [.int (Int32.ofNat B.slots.size), .int (Int32.ofNat A.slots.size)])) := c1.trans (by
    refine XS.aloadN X0.here hexec rfl (hb hbytes d0) rfl rfl ?_
    refine X0.alen hexec hA0 rfl rfl (hb hbytes d1) ?_
    refine XS.aloadN X0.here hexec rfl (hb hbytes d2) rfl rfl ?_
    refine X0.alen hexec hB0 rfl rfl (hb hbytes d3) ?_
    exact Steps.refl _)
  by_cases hs : A.slots.size = B.slots.size
  · have c3 : Steps p.tables e below (s₁.setTop (entryFrame m #[.ref a, .ref b] 3)) (s₁.setTop (mkF m 9 #[.val (.ref a), .val (.ref b), .val (.int 0)] [])) := c2.trans (by
      refine XS.icmpNo X0.here hexec rfl (hb hbytes d4) rfl (ii_ne_f (by rw [hs])) ?_
      refine iconstV X0.here hexec rfl 0 (hb hbytes d7) (by decide) ?_
      refine XS.istoreN X0.here hexec rfl (hb hbytes d8) rfl rfl ?_
      exact Steps.refl _)
    have loop : ∀ (r i : Nat), i + r = A.slots.size → (∀ j, j < i → yv A j = yv B j) → Steps p.tables e below (s₁.setTop (entryFrame m #[.ref a, .ref b] 3)) (s₁.setTop (mkF m 9 #[.val (.ref a), .val (.ref b), .val (.int (Int32.ofNat i))] [])) → ∃ (pc : Nat) (Ls : Array Slot) (v : Int32), (pc = 25 ∨ pc = 33) ∧ ((v = 1 ∧ EqC A B) ∨ (v = 0 ∧ ¬ EqC A B)) ∧ Steps p.tables e below (s₁.setTop (entryFrame m #[.ref a, .ref b] 3)) (s₁.setTop (mkF m pc Ls [.int v])) := by
      intro r
      induction r with
      | zero =>
        intro i hi he cl
        exact ⟨33, _, 1, Or.inr rfl, Or.inl ⟨rfl, hs, fun j hj => he j (by omega)⟩, cl.trans (by
          refine XS.iloadN X0.here hexec rfl (hb hbytes d9) rfl ?_
          refine XS.aloadN X0.here hexec rfl (hb hbytes d10) rfl rfl ?_
          refine X0.alen hexec hA0 rfl rfl (hb hbytes d11) ?_
          refine XS.icmpYes X0.here hexec rfl (pc0 := 12) rfl (hb hbytes d12) rfl (ii_ge_t (nlt32 (by omega) (by omega))) (by decide) rfl ?_
          refine iconstV X0.here hexec rfl 1 (hb hbytes d32) (by decide) ?_
          exact Steps.refl _)⟩
      | succ r ih =>
        intro i hi he cl
        have c4 : Steps p.tables e below (s₁.setTop (entryFrame m #[.ref a, .ref b] 3)) (s₁.setTop (mkF m 21 #[.val (.ref a), .val (.ref b), .val (.int (Int32.ofNat i))] [.int (yv B i), .int (yv A i)])) := cl.trans (by
          refine XS.iloadN X0.here hexec rfl (hb hbytes d9) rfl ?_
          refine XS.aloadN X0.here hexec rfl (hb hbytes d10) rfl rfl ?_
          refine X0.alen hexec hA0 rfl rfl (hb hbytes d11) ?_
          refine XS.icmpNo X0.here hexec rfl (hb hbytes d12) rfl (ii_ge_f (lt32 (by omega) (by omega))) ?_
          refine XS.aloadN X0.here hexec rfl (hb hbytes d15) rfl rfl ?_
          refine XS.iloadN X0.here hexec rfl (hb hbytes d16) rfl ?_
          refine X0.aget hexec hA0 rfl (yv_get hA tA (i := i) (by omega)) rfl rfl (hb hbytes d17) ?_
          refine XS.aloadN X0.here hexec rfl (hb hbytes d18) rfl rfl ?_
          refine XS.iloadN X0.here hexec rfl (hb hbytes d19) rfl ?_
          refine X0.aget hexec hB0 rfl (yv_get hB tB (i := i) (by omega)) rfl rfl (hb hbytes d20) ?_
          exact Steps.refl _)
        by_cases hv : yv A i = yv B i
        · have c5 : Steps p.tables e below (s₁.setTop (entryFrame m #[.ref a, .ref b] 3)) (s₁.setTop (mkF m 9 #[.val (.ref a), .val (.ref b), .val (.int (Int32.ofNat i + 1))] [])) := c4.trans (by
            refine XS.icmpYes X0.here hexec rfl (pc0 := 21) rfl (hb hbytes d21) rfl (ii_eq_t hv) (by decide) rfl ?_
            refine iincV X0.here hexec rfl 1 (hb hbytes d26) (by decide) rfl rfl ?_
            refine XS.goto X0.here hexec rfl (pc0 := 29) rfl (hb hbytes d29) (by decide) rfl ?_
            exact Steps.refl _)
          rw [succ32] at c5
          exact ih (i + 1) (by omega) (fun j hj => by
            by_cases e : j = i
            · rw [e]; exact hv
            · exact he j (by omega)) c5
        · exact ⟨25, _, 0, Or.inl rfl, Or.inr ⟨rfl, fun q => hv (q.2 i (by omega))⟩, c4.trans (by
            refine XS.icmpNo X0.here hexec rfl (hb hbytes d21) rfl (ii_eq_f hv) ?_
            refine iconstV X0.here hexec rfl 0 (hb hbytes d24) (by decide) ?_
            exact Steps.refl _)⟩
    obtain ⟨pc, Ls, v, hpc, hv, cz⟩ := loop A.slots.size 0 (by omega) (fun j hj => absurd hj (Nat.not_lt_zero j)) c3
    have nv : narrow .boolean (.int v) = .int v := by rcases hv with ⟨rfl, -⟩ | ⟨rfl, -⟩ <;> rfl
    rcases hpc with rfl | rfl
    · exact ⟨s₁, some (.int v), _, _, _, X0, rfl, rfl, rfl, (fun h => by cases h), ⟨v, rfl, hh0, hv⟩, fun fs hl => cz.trans (X0.ireturnOut hexec hret nv (Or.inr (Or.inl rfl)) (hb hbytes d25) hl)⟩
    · exact ⟨s₁, some (.int v), _, _, _, X0, rfl, rfl, rfl, (fun h => by cases h), ⟨v, rfl, hh0, hv⟩, fun fs hl => cz.trans (X0.ireturnOut hexec hret nv (Or.inr (Or.inl rfl)) (hb hbytes d33) hl)⟩
  · have c3 : Steps p.tables e below (s₁.setTop (entryFrame m #[.ref a, .ref b] 3)) (s₁.setTop (mkF m 35 #[.val (.ref a), .val (.ref b), .unset] [.int 0])) := c2.trans (by
      refine XS.icmpYes X0.here hexec rfl (pc0 := 4) rfl (hb hbytes d4) rfl (ii_ne_t (ne32 a31 b31 hs)) (by decide) rfl ?_
      refine iconstV X0.here hexec rfl 0 (hb hbytes d34) (by decide) ?_
      exact Steps.refl _)
    exact ⟨s₁, some (.int 0), _, _, _, X0, rfl, rfl, rfl, (fun h => by cases h), ⟨0, rfl, hh0, Or.inr ⟨rfl, fun q => hs q.1⟩⟩, fun fs hl => c3.trans (X0.ireturnOut hexec hret rfl (Or.inr (Or.inl rfl)) (hb hbytes d35) hl)⟩
end LEq
theorem Cod.ty {cd : Int32} {n : Nat} {f : Nat → Int32} {V : Cell} (h : Cod cd n f V) : Typed .byte V := fun i v hv => by
  have hi : i < V.slots.size := (Array.getElem?_eq_some_iff.mp hv).1
  rcases h with ⟨-, k1, k2⟩ | ⟨-, k1, k2, -⟩
  · rw [(k2 i (by omega)).1] at hv; cases hv; exact fits_lo8 _
  · rcases Nat.mod_two_eq_zero_or_one i with e | e
    · obtain ⟨j, rfl⟩ : ∃ j, i = 2 * j := ⟨i / 2, by omega⟩
      rw [(k2 j (by omega)).1] at hv; cases hv; exact fits_lo8 _
    · obtain ⟨j, rfl⟩ : ∃ j, i = 2 * j + 1 := ⟨i / 2, by omega⟩
      rw [(k2 j (by omega)).2] at hv; cases hv; exact fits_lo8 _
/-- the same text -/
def SameT (n : Nat) (f : Nat → Int32) (k : Nat) (g : Nat → Int32) : Prop := n = k ∧ ∀ j, j < n → f j = g j
theorem lo8_inj {x y : Int32} (h0 : ¬ x < 0) (h1 : ¬ 255 < x) (k0 : ¬ y < 0) (k1 : ¬ 255 < y) (h : lo8 x = lo8 y) : x = y := by
  rw [← lo8_mask h0 h1, ← lo8_mask k0 k1, h]
/-- arrays coded by one coder are equal just where the texts are -/
theorem Cod.eqv {cd : Int32} {n k : Nat} {f g : Nat → Int32} {V V' : Cell} (h : Cod cd n f V) (h' : Cod cd k g V') (hf : ∀ j, j < n → ¬ f j < 0 ∧ ¬ 65535 < f j) (hg : ∀ j, j < k → ¬ g j < 0 ∧ ¬ 65535 < g j) : EqC V V' ↔ SameT n f k g := by
  have yvv : ∀ {W : Cell} {i : Nat} {x : Int32}, W.slots[i]? = some (.int x) → yv W i = x := fun q => by unfold yv; rw [q]
  rcases h with ⟨rfl, k1, k2⟩ | ⟨rfl, k1, k2, -⟩
  · rcases h' with ⟨-, m1, m2⟩ | ⟨e, -⟩
    · constructor
      · rintro ⟨e1, e2⟩
        refine ⟨by omega, fun j hj => ?_⟩
        have q := e2 j (by omega)
        rw [yvv (k2 j hj).1, yvv (m2 j (by omega)).1] at q
        exact lo8_inj (hf j hj).1 (k2 j hj).2 (hg j (by omega)).1 (m2 j (by omega)).2 q
      · rintro ⟨rfl, e2⟩
        refine ⟨by omega, fun j hj => ?_⟩
        rw [yvv (k2 j (by omega)).1, yvv (m2 j (by omega)).1, e2 j (by omega)]
    · exact absurd e (by decide)
  · rcases h' with ⟨e, -⟩ | ⟨-, m1, m2, -⟩
    · exact absurd e (by decide)
    · constructor
      · rintro ⟨e1, e2⟩
        refine ⟨by omega, fun j hj => ?_⟩
        have q1 := e2 (2 * j) (by omega)
        have q2 := e2 (2 * j + 1) (by omega)
        rw [yvv (k2 j hj).1, yvv (m2 j (by omega)).1] at q1
        rw [yvv (k2 j hj).2, yvv (m2 j (by omega)).2] at q2
        rw [← pair_says (hf j hj).1 (hf j hj).2, ← pair_says (hg j (by omega)).1 (hg j (by omega)).2, q1, q2]
      · rintro ⟨rfl, e2⟩
        refine ⟨by omega, fun i hi => ?_⟩
        rcases Nat.mod_two_eq_zero_or_one i with e | e
        · obtain ⟨j, rfl⟩ : ∃ j, i = 2 * j := ⟨i / 2, by omega⟩
          rw [yvv (k2 j (by omega)).1, yvv (m2 j (by omega)).1, e2 j (by omega)]
        · obtain ⟨j, rfl⟩ : ∃ j, i = 2 * j + 1 := ⟨i / 2, by omega⟩
          rw [yvv (k2 j (by omega)).2, yvv (m2 j (by omega)).2, e2 j (by omega)]
/-- two codings differ: so do the texts -/
theorem Cod.dif {cd cd' : Int32} {n k : Nat} {f g : Nat → Int32} {V V' : Cell} (h : Cod cd n f V) (h' : Cod cd' k g V') (hne : ¬ cd = cd') : ¬ SameT n f k g := by
  rintro ⟨rfl, e⟩
  rcases h with ⟨rfl, -, k2⟩ | ⟨rfl, -, -, j, hj, hw⟩
  · rcases h' with ⟨rfl, -⟩ | ⟨-, -, -, j, hj, hw⟩
    · exact hne rfl
    · exact (k2 j hj).2 (by rw [e j hj]; exact hw)
  · rcases h' with ⟨-, -, m2⟩ | ⟨rfl, -⟩
    · exact (m2 j hj).2 (by rw [← e j hj]; exact hw)
    · exact hne rfl
/-- an object of exactly C is an instance of C -/
theorem cinst {p : Program} {l : Launch} {e : Env} {R : Room} {s : State} {m : MethodId} {args : Array Value} {below : List Frame} {meth : Method} {c : Code} {T : State} {locs : List Loc} {cells slots : Nat} (X : Stand p l e R s m args below meth c T locs cells slots) (hexec : p.tables.exec = Jvm.exec) {own C : String} {index : Nat} (hown : s.vm.findClass own = some m.cls) (hlink : (Cond.classLink own index C).before args s = true) {a : Addr} (hE : Exact C a T)
    {g : JFrame} (hg : g.method = m) {rest : List Value} (hstack : g.stack = .ref a :: rest) (hdg : decode c.code g.pc = .ok (.instanceof index, 3)) :
    ∃ T', Stand p l e R s m args below meth c T' locs cells slots ∧ T'.heap = T.heap ∧ ∀ target, Steps p.tables e below (T'.setTop { g with pc := g.pc + 3, stack := .int 1 :: rest }) target → Steps p.tables e below (T.setTop g) target := by
  obtain ⟨cB, h1, D, h2, h3, h4⟩ := hE
  have h1' : s.vm.findClass C = some cB := by rw [← X.warmed.alike.findClass]; exact h1
  obtain ⟨vm', X', st⟩ := X.instanceofYes hexec hown hlink h2 h4 h1' (by rw [h3]; exact Jvm.Free.SB.assignable_self _ _) hg hstack hdg
  exact ⟨_, X', rfl, st⟩
theorem cself {p : Program} {l : Launch} {e : Env} {R : Room} {s : State} {m : MethodId} {args : Array Value} {below : List Frame} {meth : Method} {c : Code} {T : State} {locs : List Loc} {cells slots : Nat} (X : Stand p l e R s m args below meth c T locs cells slots) (hexec : p.tables.exec = Jvm.exec) {own C : String} {index : Nat} (hown : s.vm.findClass own = some m.cls) (hlink : (Cond.classLink own index C).before args s = true) {a : Addr} (hE : Exact C a T)
    {g : JFrame} (hg : g.method = m) {rest : List Value} (hstack : g.stack = .ref a :: rest) (hdg : decode c.code g.pc = .ok (.checkcast index, 3)) :
    ∃ T', Stand p l e R s m args below meth c T' locs cells slots ∧ T'.heap = T.heap ∧ ∀ target, Steps p.tables e below (T'.setTop { g with pc := g.pc + 3, stack := .ref a :: rest }) target → Steps p.tables e below (T.setTop g) target := by
  obtain ⟨cB, h1, D, h2, h3, h4⟩ := hE
  have h1' : s.vm.findClass C = some cB := by rw [← X.warmed.alike.findClass]; exact h1
  obtain ⟨vm', X', st⟩ := X.checkcastYes hexec hown hlink h2 h4 h1' (by rw [h3]; exact Jvm.Free.SB.assignable_self _ _) hg hstack hdg
  exact ⟨_, X', rfl, fun t h => st t (by rw [← hstack] at h; exact h)⟩
namespace SEq
def yN : MethodName := ⟨"java/lang/String", "equals", "(Ljava/lang/Object;)Z"⟩
abbrev yB : ByteArray := jdk_42_method_66_code
theorem d0 : decode yB 0 = .ok (.aload_n 0, 1) := by decide +kernel
theorem d1 : decode yB 1 = .ok (.aload_n 1, 1) := by decide +kernel
theorem d2 : decode yB 2 = .ok (.if_acmp (.ne) 5, 3) := by decide +kernel
theorem d5 : decode yB 5 = .ok (.iconst 1, 1) := by decide +kernel
theorem d6 : decode yB 6 = .ok (.ireturn, 1) := by decide +kernel
theorem d7 : decode yB 7 = .ok (.aload_n 1, 1) := by decide +kernel
theorem d8 : decode yB 8 = .ok (.instanceof 10, 3) := by decide +kernel
theorem d11 : decode yB 11 = .ok (.ifCond (.eq) 43, 3) := by decide +kernel
theorem d14 : decode yB 14 = .ok (.aload_n 1, 1) := by decide +kernel
theorem d15 : decode yB 15 = .ok (.checkcast 10, 3) := by decide +kernel
theorem d18 : decode yB 18 = .ok (.astore_n 2, 1) := by decide +kernel
theorem d19 : decode yB 19 = .ok (.getstatic 38, 3) := by decide +kernel
theorem d22 : decode yB 22 = .ok (.ifCond (.eq) 14, 3) := by decide +kernel
theorem d25 : decode yB 25 = .ok (.aload_n 0, 1) := by decide +kernel
theorem d26 : decode yB 26 = .ok (.getfield 15, 3) := by decide +kernel
theorem d29 : decode yB 29 = .ok (.aload_n 2, 1) := by decide +kernel
theorem d30 : decode yB 30 = .ok (.getfield 15, 3) := by decide +kernel
theorem d33 : decode yB 33 = .ok (.if_icmp (.ne) 21, 3) := by decide +kernel
theorem d36 : decode yB 36 = .ok (.aload_n 0, 1) := by decide +kernel
theorem d37 : decode yB 37 = .ok (.getfield 9, 3) := by decide +kernel
theorem d40 : decode yB 40 = .ok (.aload_n 2, 1) := by decide +kernel
theorem d41 : decode yB 41 = .ok (.getfield 9, 3) := by decide +kernel
theorem d44 : decode yB 44 = .ok (.invokestatic 541, 3) := by decide +kernel
theorem d47 : decode yB 47 = .ok (.ifCond (.eq) 7, 3) := by decide +kernel
theorem d50 : decode yB 50 = .ok (.iconst 1, 1) := by decide +kernel
theorem d51 : decode yB 51 = .ok (.goto 4, 3) := by decide +kernel
theorem d54 : decode yB 54 = .ok (.iconst 0, 1) := by decide +kernel
theorem d55 : decode yB 55 = .ok (.ireturn, 1) := by decide +kernel
def site : List Cond := [.classLink "java/lang/String" 10 "java/lang/String", .fieldLink "java/lang/String" 38 "java/lang/String" "COMPACT_STRINGS" "Z", .fieldLink "java/lang/String" 15 "java/lang/String" "coder" "B", .fieldLink "java/lang/String" 9 "java/lang/String" "value" "[B", LEq.tab] ++ staticW "java/lang/String" 541 LEq.yN
def tab : Cond := tabOf yN yB 3 (some .boolean) site
def P (x t : Addr) (V : Cell) (cd : Int32) (n : Nat) (f : Nat → Int32) (y t' : Addr) (V' : Cell) (cd' : Int32) (k : Nat) (g : Nat → Int32) (z : Int32) (args : Array Value) (s : State) : Prop := args = #[.ref x, .ref y] ∧ Txt x t V cd n f s ∧ Txt y t' V' cd' k g s ∧ StaticIs s "java/lang/String" "COMPACT_STRINGS" "Z" (.int z) ∧ ¬ z = 0
/-- equals(Object) of two Strings: whether the texts are the same -/
theorem law (l : Launch) (x t : Addr) (V : Cell) (cd : Int32) (n : Nat) (f : Nat → Int32) (y t' : Addr) (V' : Cell) (cd' : Int32) (k : Nat) (g : Nat → Int32) (z : Int32) : Law l yN 2 1 1 14 yB 3 (some .boolean) site (P x t V cd n f y t' V' cd' k g z) (Says01 (SameT n f k g)) [] 0 0 := by
  refine Law.of_walk (plainFor_of_name (by decide +kernel)) (by decide +kernel) (by decide +kernel) (by decide) (fun _ _ h => by rw [h.1]; rfl) (fun _ U U' hal hh h => ⟨h.1, h.2.1.mv hal hh, h.2.2.1.mv hal hh, h.2.2.2.1.there hal hh, h.2.2.2.2⟩) (fun r U U' V V' h1 hal h2 h => Says01.mv r U U' V V' h1 hal h2 h) ?_
  intro p e s m args below meth c s₁ X0 hexec hbytes hml hret hlk hnm hown hh0 W hP
  obtain ⟨rfl, hx, hy, s1, hz⟩ := hP
  have c1 : Steps p.tables e below (s₁.setTop (entryFrame m #[.ref x, .ref y] 3)) (s₁.setTop (mkF m 2 #[.val (.ref x), .val (.ref y), .unset] [.ref y, .ref x])) := Steps.trans (entry rfl) (by
    show Steps p.tables e below (s₁.setTop (mkF m 0 #[.val (.ref x), .val (.ref y), .unset] [])) _
    refine XS.aloadN X0.here hexec rfl (hb hbytes d0) rfl rfl ?_
    refine XS.aloadN X0.here hexec rfl (hb hbytes d1) rfl rfl ?_
    exact Steps.refl _)
  by_cases hxy : x = y
  · have c2 : Steps p.tables e below (s₁.setTop (entryFrame m #[.ref x, .ref y] 3)) (s₁.setTop (mkF m 6 #[.val (.ref x), .val (.ref y), .unset] [.int 1])) := c1.trans (by
      refine acmpNo X0.here hexec rfl (hb hbytes d2) rfl rfl rfl (by simp [acmp, hxy]) ?_
      refine iconstV X0.here hexec rfl 1 (hb hbytes d5) (by decide) ?_
      exact Steps.refl _)
    subst hxy
    have ec : cd = cd' := by
      obtain ⟨D, fd, a1, a2, a3⟩ := hx.2.2.1
      obtain ⟨D', fd', b1, b2, b3⟩ := hy.2.2.1
      cases a1.symm.trans b1
      obtain ⟨q1, q2, q3, q4⟩ := a2.1
      obtain ⟨r1, r2, r3, r4⟩ := b2.1
      cases q4.symm.trans r4
      cases a3.symm.trans b3; rfl
    have et : t = t' := by
      obtain ⟨D, fd, a1, a2, a3⟩ := hx.2.1
      obtain ⟨D', fd', b1, b2, b3⟩ := hy.2.1
      cases a1.symm.trans b1
      obtain ⟨q1, q2, q3, q4⟩ := a2.1
      obtain ⟨r1, r2, r3, r4⟩ := b2.1
      cases q4.symm.trans r4
      cases a3.symm.trans b3; rfl
    subst ec et
    have ev : V = V' := by cases hx.2.2.2.1.1.symm.trans hy.2.2.2.1.1; rfl
    subst ev
    have hs : SameT n f k g := (Cod.eqv hx.2.2.2.2.1 hy.2.2.2.2.1 hx.2.2.2.2.2 hy.2.2.2.2.2).mp ⟨rfl, fun _ _ => rfl⟩
    exact ⟨s₁, some (.int 1), _, _, _, X0, rfl, rfl, rfl, (fun h => by cases h), ⟨1, rfl, hh0, Or.inl ⟨rfl, hs⟩⟩, fun fs hl => c2.trans (X0.ireturnOut hexec hret rfl (Or.inr (Or.inl rfl)) (hb hbytes d6) hl)⟩
  · have c2 : Steps p.tables e below (s₁.setTop (entryFrame m #[.ref x, .ref y] 3)) (s₁.setTop (mkF m 8 #[.val (.ref x), .val (.ref y), .unset] [.ref y])) := c1.trans (by
      refine acmpYes X0.here hexec rfl (pc0 := 2) rfl (hb hbytes d2) rfl rfl rfl (by simp [acmp, hxy]) (by decide) rfl ?_
      refine XS.aloadN X0.here hexec rfl (hb hbytes d7) rfl rfl ?_
      exact Steps.refl _)
    obtain ⟨T3, X3, q3, st3⟩ := cinst X0 hexec hown (wk W (.classLink "java/lang/String" 10 "java/lang/String")) (hy.mv X0.warmed.alike hh0).1 (g := (mkF m 8 #[.val (.ref x), .val (.ref y), .unset] [.ref y])) rfl (rest := []) rfl (hb hbytes d8)
    have hh3 := q3.trans hh0
    have c4 : Steps p.tables e below (s₁.setTop (entryFrame m #[.ref x, .ref y] 3)) (T3.setTop (mkF m 15 #[.val (.ref x), .val (.ref y), .unset] [.ref y])) := (c2.trans (st3 _ (Steps.refl _))).trans (by
      refine XS.ifNo X3.here hexec rfl (hb hbytes d11) rfl (i0_eq_f (by decide)) ?_
      refine XS.aloadN X3.here hexec rfl (hb hbytes d14) rfl rfl ?_
      exact Steps.refl _)
    obtain ⟨T5, X5, q5, st5⟩ := cself X3 hexec hown (wk W (.classLink "java/lang/String" 10 "java/lang/String")) (hy.mv X3.warmed.alike hh3).1 (g := (mkF m 15 #[.val (.ref x), .val (.ref y), .unset] [.ref y])) rfl (rest := []) rfl (hb hbytes d15)
    have hh5 := q5.trans hh3
    have c6 : Steps p.tables e below (s₁.setTop (entryFrame m #[.ref x, .ref y] 3)) (T5.setTop (mkF m 19 #[.val (.ref x), .val (.ref y), .val (.ref y)] [])) := (c4.trans (st5 _ (Steps.refl _))).trans (by
      refine XS.astoreN X5.here hexec rfl (hb hbytes d18) rfl rfl rfl ?_
      exact Steps.refl _)
    obtain ⟨T7, X7, q7, st7⟩ := X5.sget hexec hown (wk W (.fieldLink "java/lang/String" 38 "java/lang/String" "COMPACT_STRINGS" "Z")) s1 (fun _ _ h => by rw [hh5]; exact h) (g := (mkF m 19 #[.val (.ref x), .val (.ref y), .val (.ref y)] [])) rfl (hb hbytes d19)
    have hh7 := q7.trans hh5
    have c8 : Steps p.tables e below (s₁.setTop (entryFrame m #[.ref x, .ref y] 3)) (T7.setTop (mkF m 26 #[.val (.ref x), .val (.ref y), .val (.ref y)] [.ref x])) := (c6.trans (st7 _ (Steps.refl _))).trans (by
      refine XS.ifNo X7.here hexec rfl (hb hbytes d22) rfl (i0_eq_f hz) ?_
      refine XS.aloadN X7.here hexec rfl (hb hbytes d25) rfl rfl ?_
      exact Steps.refl _)
    obtain ⟨T9, X9, q9, st9⟩ := X7.hget hexec hown (wk W (.fieldLink "java/lang/String" 15 "java/lang/String" "coder" "B")) (hx.mv X7.warmed.alike hh7).2.2.1 (g := (mkF m 26 #[.val (.ref x), .val (.ref y), .val (.ref y)] [.ref x])) rfl (rest := []) rfl (hb hbytes d26)
    have hh9 := q9.trans hh7
    have c10 : Steps p.tables e below (s₁.setTop (entryFrame m #[.ref x, .ref y] 3)) (T9.setTop (mkF m 30 #[.val (.ref x), .val (.ref y), .val (.ref y)] [.ref y, .int cd])) := (c8.trans (st9 _ (Steps.refl _))).trans (by
      refine XS.aloadN X9.here hexec rfl (hb hbytes d29) rfl rfl ?_
      exact Steps.refl _)
    obtain ⟨T11, X11, q11, st11⟩ := X9.hget hexec hown (wk W (.fieldLink "java/lang/String" 15 "java/lang/String" "coder" "B")) (hy.mv X9.warmed.alike hh9).2.2.1 (g := (mkF m 30 #[.val (.ref x), .val (.ref y), .val (.ref y)] [.ref y, .int cd])) rfl (rest := [.int cd]) rfl (hb hbytes d30)
    have hh11 := q11.trans hh9
    have c12 : Steps p.tables e below (s₁.setTop (entryFrame m #[.ref x, .ref y] 3)) (T11.setTop (mkF m 33 #[.val (.ref x), .val (.ref y), .val (.ref y)] [.int cd', .int cd])) := c10.trans (st11 _ (Steps.refl _))
    by_cases hcd : cd = cd'
    · subst hcd
      have c13 : Steps p.tables e below (s₁.setTop (entryFrame m #[.ref x, .ref y] 3)) (T11.setTop (mkF m 37 #[.val (.ref x), .val (.ref y), .val (.ref y)] [.ref x])) := c12.trans (by
        refine XS.icmpNo X11.here hexec rfl (hb hbytes d33) rfl (ii_ne_f rfl) ?_
        refine XS.aloadN X11.here hexec rfl (hb hbytes d36) rfl rfl ?_
        exact Steps.refl _)
      obtain ⟨T14, X14, q14, st14⟩ := X11.hget hexec hown (wk W (.fieldLink "java/lang/String" 9 "java/lang/String" "value" "[B")) (hx.mv X11.warmed.alike hh11).2.1 (g := (mkF m 37 #[.val (.ref x), .val (.ref y), .val (.ref y)] [.ref x])) rfl (rest := []) rfl (hb hbytes d37)
      have hh14 := q14.trans hh11
      have c15 : Steps p.tables e below (s₁.setTop (entryFrame m #[.ref x, .ref y] 3)) (T14.setTop (mkF m 41 #[.val (.ref x), .val (.ref y), .val (.ref y)] [.ref y, .ref t])) := (c13.trans (st14 _ (Steps.refl _))).trans (by
        refine XS.aloadN X14.here hexec rfl (hb hbytes d40) rfl rfl ?_
        exact Steps.refl _)
      obtain ⟨T16, X16, q16, st16⟩ := X14.hget hexec hown (wk W (.fieldLink "java/lang/String" 9 "java/lang/String" "value" "[B")) (hy.mv X14.warmed.alike hh14).2.1 (g := (mkF m 41 #[.val (.ref x), .val (.ref y), .val (.ref y)] [.ref y, .ref t])) rfl (rest := [.ref t]) rfl (hb hbytes d41)
      have hh16 := q16.trans hh14
      have c17 : Steps p.tables e below (s₁.setTop (entryFrame m #[.ref x, .ref y] 3)) (T16.setTop (mkF m 44 #[.val (.ref x), .val (.ref y), .val (.ref y)] [.ref t', .ref t])) := c15.trans (st16 _ (Steps.refl _))
      obtain ⟨v18, T18, X18, E18, g18⟩ := X16.callS hexec (LEq.law l t V t' V') hown (wks W (staticW "java/lang/String" 541 LEq.yN)) (wk W LEq.tab) (W := 0) (Nat.le_of_ble_eq_true rfl) (Nat.le_of_ble_eq_true rfl) (Nat.le_refl _) (Nat.le_refl _) (g := (mkF m 44 #[.val (.ref x), .val (.ref y), .val (.ref y)] [.ref t', .ref t])) rfl (by rw [hml]; rfl) c17 (argsL := [.ref t, .ref t']) (rest := []) rfl rfl (by show 2 * 0 + 0 ≤ _; decide) (hb hbytes d44) (⟨rfl, hx.2.2.2.1.mv X16.warmed.alike hh16, hx.2.2.2.2.1.ty, hy.2.2.2.1.mv X16.warmed.alike hh16, hy.2.2.2.2.1.ty⟩)
      obtain ⟨v, rfl, q18, hv⟩ := E18
      have iff := Cod.eqv hx.2.2.2.2.1 hy.2.2.2.2.1 hx.2.2.2.2.2 hy.2.2.2.2.2
      rcases hv with ⟨rfl, he⟩ | ⟨rfl, he⟩
      · have c19 : Steps p.tables e below (s₁.setTop (entryFrame m #[.ref x, .ref y] 3)) (T18.setTop (mkF m 55 #[.val (.ref x), .val (.ref y), .val (.ref y)] [.int 1])) := Steps.trans g18 (by
          refine XS.ifNo X18.here hexec rfl (hb hbytes d47) rfl (i0_eq_f (by decide)) ?_
          refine iconstV X18.here hexec rfl 1 (hb hbytes d50) (by decide) ?_
          refine XS.goto X18.here hexec rfl (pc0 := 51) rfl (hb hbytes d51) (by decide) rfl ?_
          exact Steps.refl _)
        exact ⟨T18, some (.int 1), _, _, _, X18, rfl, rfl, rfl, (fun h => by cases h), ⟨1, rfl, q18.trans hh16, Or.inl ⟨rfl, iff.mp he⟩⟩, fun fs hl => c19.trans (X18.ireturnOut hexec hret rfl (Or.inr (Or.inl rfl)) (hb hbytes d55) hl)⟩
      · have c19 : Steps p.tables e below (s₁.setTop (entryFrame m #[.ref x, .ref y] 3)) (T18.setTop (mkF m 55 #[.val (.ref x), .val (.ref y), .val (.ref y)] [.int 0])) := Steps.trans g18 (by
          refine XS.ifYes X18.here hexec rfl (pc0 := 47) rfl (hb hbytes d47) rfl (i0_eq_t rfl) (by decide) rfl ?_
          refine iconstV X18.here hexec rfl 0 (hb hbytes d54) (by decide) ?_
          exact Steps.refl _)
        exact ⟨T18, some (.int 0), _, _, _, X18, rfl, rfl, rfl, (fun h => by cases h), ⟨0, rfl, q18.trans hh16, Or.inr ⟨rfl, fun q => he (iff.mpr q)⟩⟩, fun fs hl => c19.trans (X18.ireturnOut hexec hret rfl (Or.inr (Or.inl rfl)) (hb hbytes d55) hl)⟩
    · have c13 : Steps p.tables e below (s₁.setTop (entryFrame m #[.ref x, .ref y] 3)) (T11.setTop (mkF m 55 #[.val (.ref x), .val (.ref y), .val (.ref y)] [.int 0])) := c12.trans (by
        refine XS.icmpYes X11.here hexec rfl (pc0 := 33) rfl (hb hbytes d33) rfl (ii_ne_t hcd) (by decide) rfl ?_
        refine iconstV X11.here hexec rfl 0 (hb hbytes d54) (by decide) ?_
        exact Steps.refl _)
      exact ⟨T11, some (.int 0), _, _, _, X11, rfl, rfl, rfl, (fun h => by cases h), ⟨0, rfl, hh11, Or.inr ⟨rfl, Cod.dif hx.2.2.2.2.1 hy.2.2.2.2.1 hcd⟩⟩, fun fs hl => c13.trans (X11.ireturnOut hexec hret rfl (Or.inr (Or.inl rfl)) (hb hbytes d55) hl)⟩
theorem pays {l : Launch} {R : Room} {p : Program} {e : Env} {below : List Frame} {s : State} {sargs : Array Value} {len W : Nat} (x t : Addr) (V : Cell) (cd : Int32) (n : Nat) (f : Nat → Int32) (y t' : Addr) (V' : Cell) (cd' : Int32) (k : Nat) (g : Nat → Int32) (z : Int32) (htab : tab.before sargs s = true) (hfr : 2 ≤ R.frames) (hlo : W + 28 ≤ R.locals) :
    Back l R p e below s sargs yN len W (fun A₁ a₁ => A₁.cells + 0 ≤ R.cells ∧ A₁.slots + 0 ≤ R.slots ∧ P x t V cd n f y t' V' cd' k g z a₁ A₁.U) (fun A₁ _ v₁ B₁ => Says01 (SameT n f k g) v₁ A₁.U B₁.U ∧ B₁.locs = A₁.locs ++ [] ∧ B₁.cells = A₁.cells + 0 ∧ B₁.slots = A₁.slots + 0) :=
  (law l x t V cd n f y t' V' cd' k g z).pays htab hfr (by omega)
end SEq
end StrChars
namespace StrChars.Road
open Jvm Sem ClassFile Op Lib Jvm.Stand Jvm.Free Jvm.Free.XT
open Jvm.Lib.Cold (StaticIs)
/-- the words of String.equals(Object) -/
abbrev wordsEq : List Jvm.Cond := [.code SEq.yN SEq.yB 3 (some .boolean), .initialized ST, .classLink ST 10 ST, .fieldLink ST 38 ST "COMPACT_STRINGS" "Z", .fieldLink ST 15 ST "coder" "B", .fieldLink ST 9 ST "value" "[B", .methodLink ST 541 LEq.yN, .static LEq.yN, .code LEq.yN LEq.yB 3 (some .boolean), .initialized "java/lang/StringLatin1"]
theorem tabEq_of {a : Array Value} {s : State} (h : ∀ w ∈ wordsEq, w.before a s = true) : SEq.tab.before a s = true := by
  have hl : LEq.tab.before a s = true := unparts (wk h (.code LEq.yN LEq.yB 3 (some .boolean))) (wks h (.initialized LEq.yN.cls :: LEq.site))
  have q := consq hl h
  exact unparts (wk q (.code SEq.yN SEq.yB 3 (some .boolean))) (wks q (.initialized SEq.yN.cls :: SEq.site))
theorem movedEq {Z s : State} {a0 args : Array Value} (hZ : Z.Warmed39 s.vm) (hw : ∀ d ∈ wordsEq, d.before a0 Z = true) : ∀ d ∈ wordsEq, d.before args s = true := fun d hd => by
  have t : ∀ d ∈ wordsEq, (d.onTables && d.keepsFace) = true := by decide +kernel
  exact RoadKit.mv hZ (hw d hd) (t d hd)
/-- the road's facts of a String, as the laws ask it -/
theorem txt_of {Z U : State} {a0 : Array Value} {kI : Nat} (wi : (Jvm.Cond.instantiable ST kI).before a0 Z = true) (al : Z.vm.Alike U.vm) {x t : Addr} {kb : ClassId} {cs : List Int32} {cd N2 : Int32} {vs : List Value} (E : RoadKit.Exa Z U.heap x ST) (V : RoadKit.Fld Z U.heap x ST "value" "[B" (.ref t)) (C : RoadKit.Fld Z U.heap x ST "coder" "B" (.int cd)) (K : RoadKit.Arv Z U.heap t kb .byte N2 vs (.int 0)) (hc : CodA cs cd N2 vs) (hb : ∀ c ∈ cs, ¬ c < 0 ∧ ¬ (65535 : Int32) < c) (l2 : cs.length ≤ 4000) :
    ∃ A, Txt x t A cd cs.length (fun j => cs.getD j 0) U := by
  obtain ⟨A, K1, K2, K3, K4, K5, K6⟩ := K
  have hcod := hc.cod (by omega) K3 K5
  obtain ⟨D, fV, fC, hB, F1, F2, g1, g2, -, -⟩ := strObj wi al E V C
  exact ⟨A, ⟨_, hB.2.2.1, D, hB.1, rfl, by cases q : D.vm <;> first | rfl | exact absurd q (hB.2.1.2 _)⟩, Has.of hB F1 g1, Has.of hB F2 g2, ⟨K1.1, State.isArrayOf_alike al K1.2.1, K1.2.2, by rcases hcod with ⟨-, q, -⟩ | ⟨-, q, -⟩ <;> omega⟩, hcod, fun j hj => by
    have e : cs.getD j 0 = cs[j] := by simp [List.getD_eq_getElem?_getD, hj]
    show ¬ cs.getD j 0 < 0 ∧ ¬ 65535 < cs.getD j 0
    rw [e]; exact hb _ (List.getElem_mem _)⟩
theorem same_list (cs ds : List Int32) : SameT cs.length (fun j => cs.getD j 0) ds.length (fun j => ds.getD j 0) ↔ cs = ds := by
  constructor
  · rintro ⟨e, q⟩
    refine List.ext_getElem e fun j h1 h2 => ?_
    have := q j h1
    simpa [List.getD_eq_getElem?_getD, h1, h2] using this
  · rintro rfl
    exact ⟨rfl, fun _ _ => rfl⟩
/-- **equals(Object) OF TWO SUCH STRINGS**: 1 just where the chars are the same -/
theorem eqW {p : Program} {l : Launch} {e : Env} {R : Room} {s : State} {args : Array Value} {below : List Frame} {len W : Nat} {Z : State} {a0 : Array Value} {h : Heap} (hZ : Z.Warmed39 s.vm) (hw : ∀ d ∈ wordsEq, d.before a0 Z = true) {kI : Nat} (wi : (Jvm.Cond.instantiable ST kI).before a0 Z = true)
    {x t : Addr} {kb : ClassId} {cs : List Int32} {cd N2 : Int32} {vs : List Value} (E : RoadKit.Exa Z h x ST) (V : RoadKit.Fld Z h x ST "value" "[B" (.ref t)) (C : RoadKit.Fld Z h x ST "coder" "B" (.int cd)) (K : RoadKit.Arv Z h t kb .byte N2 vs (.int 0)) (hc : CodA cs cd N2 vs) (hb : ∀ c ∈ cs, ¬ c < 0 ∧ ¬ (65535 : Int32) < c) (l2 : cs.length ≤ 4000)
    {y t' : Addr} {kb' : ClassId} {ds : List Int32} {cd' N2' : Int32} {vs' : List Value} (E' : RoadKit.Exa Z h y ST) (V' : RoadKit.Fld Z h y ST "value" "[B" (.ref t')) (C' : RoadKit.Fld Z h y ST "coder" "B" (.int cd')) (K' : RoadKit.Arv Z h t' kb' .byte N2' vs' (.int 0)) (hc' : CodA ds cd' N2' vs') (hb' : ∀ c ∈ ds, ¬ c < 0 ∧ ¬ (65535 : Int32) < c) (l2' : ds.length ≤ 4000)
    {z : Int32} (S : RoadKit.Sta Z h ST "COMPACT_STRINGS" "Z" (.int z)) (hz : ¬ z = 0) (hfr : 2 ≤ R.frames) (hlo : W + 28 ≤ R.locals) :
    Back l R p e below s args (⟨"java/lang/String", "equals", "(Ljava/lang/Object;)Z"⟩ : MethodName) len W (fun P a => a = #[.ref x, .ref y] ∧ P.U.heap = h ∧ P.cells + 0 ≤ R.cells ∧ P.slots + 0 ≤ R.slots)
      (fun P _ v B => ∃ L, (((v = some (.int 1) ∧ cs = ds) ∨ (v = some (.int 0) ∧ ¬ cs = ds)) ∧ L = [] ∧ B.U.heap = h) ∧ B.locs = P.locs ++ L ∧ B.cells = P.cells + 0 ∧ B.slots = P.slots + 0) := by
  intro m meth c P g ig mk a X hg hsize hdg hW hn hp'
  obtain ⟨rfl, rfl, r1, r2⟩ := hp'
  have al : Z.vm.Alike P.U.vm := hZ.alike.trans X.warmed.alike
  obtain ⟨A, hx⟩ := txt_of wi al E V C K hc hb l2
  obtain ⟨A', hy⟩ := txt_of wi al E' V' C' K' hc' hb' l2'
  obtain ⟨v, B, X', ⟨⟨w, hv, hh, hq⟩, hl, hk, hs⟩, st⟩ := SEq.pays x t A cd cs.length (fun j => cs.getD j 0) y t' A' cd' ds.length (fun j => ds.getD j 0) z (tabEq_of (movedEq hZ hw)) hfr hlo m meth c P g ig mk _ X hg hsize hdg hW hn ⟨r1, r2, rfl, hx, hy, sta_is al S, hz⟩
  refine ⟨v, B, X', ⟨[], ⟨?_, rfl, hh⟩, hl, hk, hs⟩, st⟩
  rcases hq with ⟨rfl, q⟩ | ⟨rfl, q⟩
  · exact Or.inl ⟨hv, (same_list cs ds).mp q⟩
  · exact Or.inr ⟨hv, fun e => q ((same_list cs ds).mpr e)⟩
end StrChars.Road
namespace StrChars.Road
open Jvm Sem ClassFile Op Lib Jvm.Stand Jvm.Free Jvm.Free.XT
open Jvm.Lib.Cold (StaticIs)
/-- what backV says of its String, as the contracts of this text ask it: cs's low bytes, coder 0 -/
theorem codOf {cs : List Int32} {n : Nat} (hn : cs.length = n) (hb : ∀ c ∈ cs, ¬ 255 < c) : CodA cs 0 (Int32.ofNat n) ((cs.map lo8).map Value.int) := Or.inl ⟨rfl, by rw [hn], by simp [List.map_map, Function.comp_def], hb⟩
end StrChars.Road
end Jvm.Pilot.@@N@@
namespace Jvm.Pilot.@@N@@
open Jvm Jvm.ClassFile Sem Op Lib Jvm.Free Jvm.Stand Jvm.LawKit Jvm.RoadKit Bundle Jvm.Pilot.@@N@@.Jvm.D
/-! own text: a small calculus of roads: 'Go' says that from here the method comes to its end -/
abbrev Cx : Type := (Program × Launch × Env × Room) × (State × MethodId × Array Value × List Frame) × (Method × Code) × (Nat × Nat × Bool × String × List (String × Nat))
abbrev Cx.p (C : Cx) : Program := C.1.1
abbrev Cx.l (C : Cx) : Launch := C.1.2.1
abbrev Cx.e (C : Cx) : Env := C.1.2.2.1
abbrev Cx.R (C : Cx) : Room := C.1.2.2.2
abbrev Cx.s (C : Cx) : State := C.2.1.1
abbrev Cx.m (C : Cx) : MethodId := C.2.1.2.1
abbrev Cx.args (C : Cx) : Array Value := C.2.1.2.2.1
abbrev Cx.below (C : Cx) : List Frame := C.2.1.2.2.2
abbrev Cx.meth (C : Cx) : Method := C.2.2.1.1
abbrev Cx.c (C : Cx) : Code := C.2.2.1.2
abbrev Cx.ck (C : Cx) : Nat := C.2.2.2.1
abbrev Cx.ns (C : Cx) : Nat := C.2.2.2.2.1
abbrev Cx.wide (C : Cx) : Bool := C.2.2.2.2.2.1
abbrev Cx.own (C : Cx) : String := C.2.2.2.2.2.2.1
abbrev Cx.EL (C : Cx) : List (String × Nat) := C.2.2.2.2.2.2.2
abbrev StandC (C : Cx) (vm0 : Vm) (T : State) (locs : List Loc) (k n : Nat) : Prop := Stand C.p C.l C.e C.R (C.s.setVm vm0) C.m C.args C.below C.meth C.c T locs k n
abbrev StepsC (C : Cx) (a b : State) : Prop := Steps C.p.tables C.e C.below a b
def Ok (C : Cx) (Z : State) (a0 : Array Value) (b : ByteArray) (ml : Nat) (ret : Option FieldType) (nm own : String) (rm : Room) : Prop :=
  C.p.tables.exec = Jvm.exec ∧ C.c.code = b ∧ C.c.maxLocals = ml ∧ C.meth.sig.returnType = ret ∧ C.meth.name = nm ∧ C.own = own ∧ C.R = rm ∧ C.meth.locks = false ∧ C.ck = rm.cells ∧ C.ns = rm.slots ∧ EW Z a0 C.EL ∧ (∀ d ∈ tables_1, d.before a0 Z = true)
def Hr (C : Cx) (Z : State) (n0 : Nat) (M : List Addr) (T : State) (h : Heap) (k n : Nat) : Prop :=
  ∃ (vm0 : Vm) (locs : List Loc) (k0 : Nat), StandC C vm0 T locs k n ∧ T.heap = h ∧ Z.Warmed39 vm0 ∧ vm0.findClass C.own = some C.m.cls ∧ C.s.Since vm0 k0 ∧ k0 ≤ h.size ∧ Fr n0 locs ∧ (C.wide = true ∨ vm0 = C.s.vm) ∧ CHr Z C.EL C.s.vm C.s.heap vm0 h ∧ (∀ x ∈ M, x < h.size ∧ Safe Z C.EL vm0 h x)
/-- a may be written: no constant's String lies there -/
def SafeOk (C : Cx) (Z : State) (M : List Addr) (h : Heap) (a : Addr) : Prop := C.EL = [] ∨ a ∈ M ∨ ∀ vm : Vm, Z.vm.Alike vm → Safe Z C.EL vm h a
def EndC (C : Cx) (Z : State) (o : Outcome) (s₂ : State) (L : List Loc) : Prop := CHr Z C.EL C.s.vm C.s.heap s₂.vm s₂.heap ∧ (C.wide = true → ReturnedEndW C.s o s₂ L C.ck C.ns) ∧ (C.wide = false → FrameEnd C.s o s₂ L C.ck C.ns)
def Go (C : Cx) (Z : State) (n0 : Nat) (Q : Option Value → Heap → Prop) (M : List Addr) (h : Heap) (k n pc : Nat) (L : Array Slot) (S : List Value) : Prop :=
  ∀ T, Hr C Z n0 M T h k n → ∃ (s₂ : State) (o : Outcome), StepsC C (T.setTop (mkF C.m pc L S)) s₂ ∧ s₂.status = .running ∧ Ended s₂ C.below o ∧ ∃ (v : Option Value) (Lc : List Loc), o = .returned v ∧ (Q v s₂.heap ∧ Fr n0 Lc ∧ C.s.heap.size ≤ s₂.heap.size) ∧ EndC C Z o s₂ Lc
section Cal
variable {C : Cx} {Z : State} {a0 : Array Value} {b : ByteArray} {ml : Nat} {ret : Option FieldType} {nm own : String} {rm : Room} {n0 : Nat} {Q : Option Value → Heap → Prop} {M : List Addr} {h : Heap} {k n pc : Nat} {L : Array Slot} {S : List Value}
theorem Ok.hw (o : Ok C Z a0 b ml ret nm own rm) : ∀ d ∈ tables_1, d.before a0 Z = true := o.2.2.2.2.2.2.2.2.2.2.2
theorem Ok.ew (o : Ok C Z a0 b ml ret nm own rm) : EW Z a0 C.EL := o.2.2.2.2.2.2.2.2.2.2.1
theorem Ok.R (o : Ok C Z a0 b ml ret nm own rm) : C.R = rm := o.2.2.2.2.2.2.1
theorem Ok.hown (o : Ok C Z a0 b ml ret nm own rm) : C.own = own := o.2.2.2.2.2.1
theorem Ok.hret (o : Ok C Z a0 b ml ret nm own rm) : C.meth.sig.returnType = ret := o.2.2.2.1
theorem Go.by {pc' : Nat} {L' : Array Slot} {S' : List Value} (K : Go C Z n0 Q M h k n pc' L' S')
    (st : ∀ (T : State) (vm0 : Vm) (locs : List Loc) (target : State), StandC C vm0 T locs k n → Z.Warmed39 vm0 → vm0.findClass C.own = some C.m.cls → T.heap = h → StepsC C (T.setTop (mkF C.m pc' L' S')) target → StepsC C (T.setTop (mkF C.m pc L S)) target) : Go C Z n0 Q M h k n pc L S := fun T H => by
  obtain ⟨s₂, oc, s1, r⟩ := K T H
  obtain ⟨vm0, locs, k0, X, e1, e2, e3, -⟩ := H
  exact ⟨s₂, oc, st T vm0 locs s₂ X e2 e3 e1 s1, r⟩
/-- the heap goes on from h to h', and the constants' invariant with it -/
def Mv (C : Cx) (Z : State) (M M' : List Addr) (h h' : Heap) : Prop := ∀ vm0 : Vm, Z.Warmed39 vm0 → CHv Z C.EL vm0 h → (∀ x ∈ M, x < h.size ∧ Safe Z C.EL vm0 h x) → CHr Z C.EL vm0 h vm0 h' ∧ ∀ x ∈ M', x < h'.size ∧ Safe Z C.EL vm0 h' x
theorem safe_nil {vm : Vm} {a : Addr} {EL : List (String × Nat)} (hE : EL = []) : Safe Z EL vm h a := fun B => by
  obtain ⟨p, hp, -⟩ := B
  rw [hE] at hp; cases hp
theorem chr_nil {vm vm1 : Vm} {h' : Heap} {EL : List (String × Nat)} (hE : EL = []) (hs : h.size ≤ h'.size) : CHr Z EL vm h vm1 h' := ⟨fun p hp => (by rw [hE] at hp; cases hp), hs, fun y q => absurd q (safe_nil hE)⟩
theorem SafeOk.safe {a : Addr} (q : SafeOk C Z M h a) {vm0 : Vm} (hZ : Z.Warmed39 vm0) (hM : ∀ x ∈ M, x < h.size ∧ Safe Z C.EL vm0 h x) : Safe Z C.EL vm0 h a := by
  rcases q with q | q | q
  · exact safe_nil q
  · exact (hM a q).2
  · exact q vm0 hZ.alike
theorem Mv.refl : Mv C Z M M h h := fun vm0 hZ H hM => ⟨CHr.refl H, hM⟩
theorem Mv.ext {h' : Heap} (E : Ext h h') : Mv C Z M M h h' := fun vm0 hZ H hM => ⟨CHr.ext E H, fun x hx => ⟨Nat.lt_of_lt_of_le (hM x hx).1 E.1, Safe.ext E H (hM x hx).2⟩⟩
theorem Mv.new {h' : Heap} {M' : List Addr} (E : Ext h h') (hl : h.size < h'.size) (hM' : ∀ x ∈ M', x ∈ M ∨ x = h.size) : Mv C Z M M' h h' := fun vm0 hZ H hM => ⟨CHr.ext E H, fun x hx => by
  rcases hM' x hx with q | rfl
  · exact ⟨Nat.lt_of_lt_of_le (hM x q).1 E.1, Safe.ext E H (hM x q).2⟩
  · exact ⟨hl, Safe.ext E H (Safe.new (Nat.le_refl _))⟩⟩
theorem Mv.wr {h' : Heap} {a : Addr} {sl : Nat} {v : Value} (W : Wr h h' a sl v) (q : SafeOk C Z M h a) : Mv C Z M M h h' := fun vm0 hZ H hM => ⟨CHr.wr W (q.safe hZ hM) H, fun x hx => ⟨by rw [W.size]; exact (hM x hx).1, Safe.wr W (q.safe hZ hM) H (hM x hx).2⟩⟩
theorem Mv.keep {h' : Heap} {ws : List Addr} (K : Keep h h' ws) (q : ∀ x ∈ ws, SafeOk C Z M h x) : Mv C Z M M h h' := fun vm0 hZ H hM =>
  have hs : ∀ x ∈ ws, Safe Z C.EL vm0 h x := fun x hx => (q x hx).safe hZ hM
  ⟨CHr.keep K hs H, fun x hx => ⟨Nat.lt_of_lt_of_le (hM x hx).1 K.1, Safe.keep K hs H (hM x hx).2⟩⟩
theorem Mv.triv {h' : Heap} (hE : C.EL = []) (hs : h.size ≤ h'.size) : Mv C Z M M h h' := fun vm0 hZ H hM => ⟨chr_nil hE hs, fun x hx => ⟨Nat.lt_of_lt_of_le (hM x hx).1 hs, safe_nil hE⟩⟩
theorem Go.via {ι : Type} {P : ι → Heap → Prop} {S' : ι → List Value} {k' n' pc' : Nat} {L' : Array Slot} {M' : List Addr} (K : ∀ i h', P i h' → Go C Z n0 Q M' h' k' n' pc' L' (S' i))
    (st : ∀ (T : State) (vm0 : Vm) (locs : List Loc), StandC C vm0 T locs k n → Z.Warmed39 vm0 → vm0.findClass C.own = some C.m.cls → T.heap = h → Fr n0 locs →
      ∃ (i : ι) (T' : State) (locs' : List Loc) (h' : Heap), P i h' ∧ StandC C vm0 T' locs' k' n' ∧ T'.heap = h' ∧ Fr n0 locs' ∧ Mv C Z M M' h h' ∧ ∀ target, StepsC C (T'.setTop (mkF C.m pc' L' (S' i))) target → StepsC C (T.setTop (mkF C.m pc L S)) target) : Go C Z n0 Q M h k n pc L S := fun T H => by
  obtain ⟨vm0, locs, k0, X, e1, e2, e3, e4, e5, e6, e7, e8, e9⟩ := H
  obtain ⟨i, T', locs', h', hP, X', e1', N', mv', step⟩ := st T vm0 locs X e2 e3 e1 e6
  obtain ⟨m1, m2⟩ := mv' vm0 e2 e8.1 e9
  obtain ⟨s₂, oc, s1, r⟩ := K i h' hP T' ⟨vm0, locs', k0, X', e1', e2, e3, e4, Nat.le_trans e5 m1.2.1, N', e7, e8.trans m1, m2⟩
  exact ⟨s₂, oc, step _ s1, r⟩
theorem Go.viaW (hwide : C.wide = true) {ι : Type} {P : ι → Heap → Prop} {S' : ι → List Value} {k' n' pc' : Nat} {L' : Array Slot} (K : ∀ i h', P i h' → Go C Z n0 Q M h' k' n' pc' L' (S' i))
    (st : ∀ (T : State) (vm0 : Vm) (locs : List Loc) (k0 : Nat), StandC C vm0 T locs k n → Z.Warmed39 vm0 → vm0.findClass C.own = some C.m.cls → T.heap = h → Fr n0 locs → C.s.Since vm0 k0 → k0 ≤ h.size → CHv Z C.EL vm0 h → (∀ x ∈ M, x < h.size ∧ Safe Z C.EL vm0 h x) →
      ∃ (i : ι) (T' : State) (vm1 : Vm) (locs' : List Loc) (h' : Heap) (k1 : Nat), P i h' ∧ StandC C vm1 T' locs' k' n' ∧ T'.heap = h' ∧ Fr n0 locs' ∧ C.s.Since vm1 k1 ∧ k1 ≤ h'.size ∧ Z.Warmed39 vm1 ∧ vm1.findClass C.own = some C.m.cls ∧ CHr Z C.EL vm0 h vm1 h' ∧
        ∀ target, StepsC C (T'.setTop (mkF C.m pc' L' (S' i))) target → StepsC C (T.setTop (mkF C.m pc L S)) target) : Go C Z n0 Q M h k n pc L S := fun T H => by
  obtain ⟨vm0, locs, k0, X, e1, e2, e3, e4, e5, e6, e7, e8, e9⟩ := H
  obtain ⟨i, T', vm1, locs', h', k1, hP, X', e1', N', hS, hk, hW, hf, hC, step⟩ := st T vm0 locs k0 X e2 e3 e1 e6 e4 e5 e8.1 e9
  obtain ⟨s₂, oc, s1, r⟩ := K i h' hP T' ⟨vm1, locs', k1, X', e1', hW, hf, hS, hk, N', Or.inl hwide, e8.trans hC, fun x hx => ⟨Nat.lt_of_lt_of_le (e9 x hx).1 hC.2.1, hC.safe (e9 x hx).1 (e9 x hx).2⟩⟩
  exact ⟨s₂, oc, step _ s1, r⟩
theorem Go.mine {x : Addr} (hx : x < h.size) (hs : ∀ vm : Vm, Z.vm.Alike vm → Safe Z C.EL vm h x) (K : Go C Z n0 Q (x :: M) h k n pc L S) : Go C Z n0 Q M h k n pc L S := fun T H => by
  obtain ⟨vm0, locs, k0, X, e1, e2, e3, e4, e5, e6, e7, e8, e9⟩ := H
  exact K T ⟨vm0, locs, k0, X, e1, e2, e3, e4, e5, e6, e7, e8, fun y hy => by
    rcases List.mem_cons.mp hy with rfl | q
    · exact ⟨hx, hs vm0 e2.alike⟩
    · exact e9 y q⟩
theorem Go.mono {k' n' : Nat} (hk : k ≤ k') (hn : n ≤ n') (K : Go C Z n0 Q M h k' n' pc L S) : Go C Z n0 Q M h k n pc L S := fun T H => by
  obtain ⟨vm0, locs, k0, X, r⟩ := H
  exact K T ⟨vm0, locs, k0, X.more hk hn, r⟩
theorem Go.at {pc' : Nat} {L' : Array Slot} {S' : List Value} (K : Go C Z n0 Q M h k n pc' L' S') (hp : pc' = pc) (hL : L' = L) (hS : S' = S) : Go C Z n0 Q M h k n pc L S := by subst hp hL hS; exact K
/-! the return -/
theorem g_end (o : Ok C Z a0 b ml ret nm own rm) {v : Option Value} (q : Q v h) (hk : k ≤ rm.cells) (hn : n ≤ rm.slots) (hv : ret = none → v = none)
    (st : ∀ (T : State) (vm0 : Vm) (locs : List Loc) (fs : List Frame), StandC C vm0 T locs k n → (∀ (f : JFrame) (acts : List Action), f.method = C.m → f.locked = none → f.entered = [] → (doReturn C.e (T.setTop f) acts v).1 = T.setFrames fs) → StepsC C (T.setTop (mkF C.m pc L S)) (T.setFrames fs)) : Go C Z n0 Q M h k n pc L S := fun T H => by
  obtain ⟨vm0, locs, k0, X, e1, e2, e3, e4, e5, e6, e7, e8, -⟩ := H
  subst e1
  have hch : CHr Z C.EL C.s.vm C.s.heap T.vm T.heap := e8.trans (CHv.at X e2 o.ew e8.1)
  have hlk := o.2.2.2.2.2.2.2.1
  have hk' : k ≤ C.ck := by rw [o.2.2.2.2.2.2.2.2.1]; exact hk
  have hn' : n ≤ C.ns := by rw [o.2.2.2.2.2.2.2.2.2.1]; exact hn
  have X' := X.more hk' hn'
  have hsz : C.s.heap.size ≤ T.heap.size := X.same.2.1
  obtain ⟨fs, hr, hrun, hended, hW, hsame⟩ := X'.leave (v := v) (fun hh => hv (o.hret.symm.trans hh)) hlk
  obtain ⟨fs2, hr2, hrun2, hended2, hWW⟩ := X'.leaveW (v := v) e4 e5 (fun hh => hv (o.hret.symm.trans hh)) hlk
  rcases hw : C.wide with _ | _
  · have e8 : vm0 = C.s.vm := by rcases e7 with e7 | e7; · rw [hw] at e7; cases e7
                                 · exact e7
    subst e8
    exact ⟨_, _, st T _ locs fs X hr, hrun, hended, v, locs, rfl, ⟨q, e6, hsz⟩, hch, fun hh => (by rw [hw] at hh; cases hh), fun _ => ⟨⟨v, rfl⟩, hW, hsame⟩⟩
  · exact ⟨_, _, st T _ locs fs2 X hr2, hrun2, hended2, v, locs, rfl, ⟨q, e6, hsz⟩, hch, fun _ => hWW, fun hh => by rw [hw] at hh; cases hh⟩
theorem g_ireturn (o : Ok C Z a0 b ml (some .int) nm own rm) {x : Int32} (d : decode b pc = .ok (.ireturn, 1)) (q : Q (some (.int x)) h) (hk : k ≤ rm.cells) (hn : n ≤ rm.slots) : Go C Z n0 Q M h k n pc L (.int x :: S) :=
  g_end o (v := some (.int x)) q hk hn (fun hh => by cases hh) fun T vm0 locs fs X hr => retOut X o.1 o.hret rfl (Or.inl ⟨rfl, Or.inl rfl, x, rfl⟩) (hb o.2.1 d) hr
theorem g_nreturn {t : FieldType} (o : Ok C Z a0 b ml (some t) nm own rm) {x y : Int32} (ht : t = .boolean ∨ t = .byte ∨ t = .char ∨ t = .short) (d : decode b pc = .ok (.ireturn, 1)) (hy : nar t x = y) (q : Q (some (.int y)) h) (hk : k ≤ rm.cells) (hn : n ≤ rm.slots) : Go C Z n0 Q M h k n pc L (.int x :: S) :=
  g_end o (v := some (.int y)) q hk hn (fun hh => by cases hh) fun T vm0 locs fs X hr => retN X o.1 o.hret ht (hb o.2.1 d) (by rw [hy]; exact hr)
theorem g_areturn {t : FieldType} (o : Ok C Z a0 b ml (some t) nm own rm) {w : Value} (ht : t.isReference = true) (hw : w.isRef = true) (d : decode b pc = .ok (.areturn, 1)) (q : Q (some w) h) (hk : k ≤ rm.cells) (hn : n ≤ rm.slots) : Go C Z n0 Q M h k n pc L (w :: S) :=
  g_end o (v := some w) q hk hn (fun hh => by cases hh) fun T vm0 locs fs X hr => retOut X o.1 o.hret (by cases t <;> first | (cases ht; done) | (rcases ref_cases hw with rfl | ⟨z, rfl⟩ <;> rfl)) (Or.inr (Or.inr (Or.inr (Or.inr ⟨rfl, ht, hw⟩)))) (hb o.2.1 d) hr
theorem g_return (o : Ok C Z a0 b ml none nm own rm) (d : decode b pc = .ok (.return_, 1)) (q : Q none h) (hk : k ≤ rm.cells) (hn : n ≤ rm.slots) : Go C Z n0 Q M h k n pc L [] :=
  g_end o (v := none) q hk hn (fun _ => rfl) fun T vm0 locs fs X hr => X.returnOut o.1 o.hret (hb o.2.1 d) hr
/-! plain steps -/
theorem g_aload_n (o : Ok C Z a0 b ml ret nm own rm) {j : Fin 4} {v : Value} (d : decode b pc = .ok (.aload_n j, 1)) (hl : L[j.val]? = some (.val (v))) (hv : v.isRef = true) (K : Go C Z n0 Q M h k n (pc + 1) L (v :: S)) : Go C Z n0 Q M h k n pc L (S) :=
  K.by fun T vm0 locs target X _ _ _ st => XS.aloadN X.here o.1 rfl (hb o.2.1 d) hl hv st
theorem g_aload (o : Ok C Z a0 b ml ret nm own rm) {j : Nat} {v : Value} (d : decode b pc = .ok (.aload j, 2)) (hl : L[j]? = some (.val (v))) (hv : v.isRef = true) (K : Go C Z n0 Q M h k n (pc + 2) L (v :: S)) : Go C Z n0 Q M h k n pc L (S) :=
  K.by fun T vm0 locs target X _ _ _ st => XS.aload X.here o.1 rfl (hb o.2.1 d) hl hv st
theorem g_iload_n (o : Ok C Z a0 b ml ret nm own rm) {j : Fin 4} {v : Int32} (d : decode b pc = .ok (.iload_n j, 1)) (hl : L[j.val]? = some (.val (.int v))) (K : Go C Z n0 Q M h k n (pc + 1) L (.int v :: S)) : Go C Z n0 Q M h k n pc L (S) :=
  K.by fun T vm0 locs target X _ _ _ st => XS.iloadN X.here o.1 rfl (hb o.2.1 d) hl st
theorem g_iload (o : Ok C Z a0 b ml ret nm own rm) {j : Nat} {v : Int32} (d : decode b pc = .ok (.iload j, 2)) (hl : L[j]? = some (.val (.int v))) (K : Go C Z n0 Q M h k n (pc + 2) L (.int v :: S)) : Go C Z n0 Q M h k n pc L (S) :=
  K.by fun T vm0 locs target X _ _ _ st => XS.iload X.here o.1 rfl (hb o.2.1 d) hl st
theorem g_lload_n (o : Ok C Z a0 b ml ret nm own rm) {j : Fin 4} {v : Int64} (d : decode b pc = .ok (.lload_n j, 1)) (hl : L[j.val]? = some (.val (.long v))) (K : Go C Z n0 Q M h k n (pc + 1) L (.long v :: S)) : Go C Z n0 Q M h k n pc L (S) :=
  K.by fun T vm0 locs target X _ _ _ st => XT.lloadN X.here o.1 rfl (hb o.2.1 d) hl st
theorem g_lload (o : Ok C Z a0 b ml ret nm own rm) {j : Nat} {v : Int64} (d : decode b pc = .ok (.lload j, 2)) (hl : L[j]? = some (.val (.long v))) (K : Go C Z n0 Q M h k n (pc + 2) L (.long v :: S)) : Go C Z n0 Q M h k n pc L (S) :=
  K.by fun T vm0 locs target X _ _ _ st => XT.lload X.here o.1 rfl (hb o.2.1 d) hl st
theorem g_astore_n (o : Ok C Z a0 b ml ret nm own rm) {j : Fin 4} {v : Value} {L' : Array Slot} (d : decode b pc = .ok (.astore_n j, 1)) (hv : v.isRef = true) (hl : storeLocals L j.val (v) = some L') (K : Go C Z n0 Q M h k n (pc + 1) L' (S)) : Go C Z n0 Q M h k n pc L (v :: S) :=
  K.by fun T vm0 locs target X _ _ _ st => XS.astoreN X.here o.1 rfl (hb o.2.1 d) rfl hv hl st
theorem g_astore (o : Ok C Z a0 b ml ret nm own rm) {j : Nat} {v : Value} {L' : Array Slot} (d : decode b pc = .ok (.astore j, 2)) (hv : v.isRef = true) (hl : storeLocals L j (v) = some L') (K : Go C Z n0 Q M h k n (pc + 2) L' (S)) : Go C Z n0 Q M h k n pc L (v :: S) :=
  K.by fun T vm0 locs target X _ _ _ st => XS.astore X.here o.1 rfl (hb o.2.1 d) rfl hv hl st
theorem g_istore_n (o : Ok C Z a0 b ml ret nm own rm) {j : Fin 4} {v : Int32} {L' : Array Slot} (d : decode b pc = .ok (.istore_n j, 1)) (hl : storeLocals L j.val (.int v) = some L') (K : Go C Z n0 Q M h k n (pc + 1) L' (S)) : Go C Z n0 Q M h k n pc L (.int v :: S) :=
  K.by fun T vm0 locs target X _ _ _ st => XS.istoreN X.here o.1 rfl (hb o.2.1 d) rfl hl st
theorem g_istore (o : Ok C Z a0 b ml ret nm own rm) {j : Nat} {v : Int32} {L' : Array Slot} (d : decode b pc = .ok (.istore j, 2)) (hl : storeLocals L j (.int v) = some L') (K : Go C Z n0 Q M h k n (pc + 2) L' (S)) : Go C Z n0 Q M h k n pc L (.int v :: S) :=
  K.by fun T vm0 locs target X _ _ _ st => XS.istore X.here o.1 rfl (hb o.2.1 d) rfl hl st
theorem g_lstore_n (o : Ok C Z a0 b ml ret nm own rm) {j : Fin 4} {v : Int64} {L' : Array Slot} (d : decode b pc = .ok (.lstore_n j, 1)) (hl : storeLocals L j.val (.long v) = some L') (K : Go C Z n0 Q M h k n (pc + 1) L' (S)) : Go C Z n0 Q M h k n pc L (.long v :: S) :=
  K.by fun T vm0 locs target X _ _ _ st => XT.lstoreN X.here o.1 rfl (hb o.2.1 d) rfl hl st
theorem g_lstore (o : Ok C Z a0 b ml ret nm own rm) {j : Nat} {v : Int64} {L' : Array Slot} (d : decode b pc = .ok (.lstore j, 2)) (hl : storeLocals L j (.long v) = some L') (K : Go C Z n0 Q M h k n (pc + 2) L' (S)) : Go C Z n0 Q M h k n pc L (.long v :: S) :=
  K.by fun T vm0 locs target X _ _ _ st => XT.lstore X.here o.1 rfl (hb o.2.1 d) rfl hl st
theorem g_iinc (o : Ok C Z a0 b ml ret nm own rm) {j : Nat} {i : Int} {v w : Int32} {L' : Array Slot} (d : decode b pc = .ok (.iinc j i, 3)) (hl : L[j]? = some (.val (.int v))) (hv : v + Int32.ofInt i = w) (hl' : storeLocals L j (.int w) = some L') (K : Go C Z n0 Q M h k n (pc + 3) L' (S)) : Go C Z n0 Q M h k n pc L (S) :=
  K.by fun T vm0 locs target X _ _ _ st => XS.iinc X.here o.1 rfl (hb o.2.1 d) hl (hv ▸ hl') st
theorem g_iconst (o : Ok C Z a0 b ml ret nm own rm) {i : Int} {v : Int32} (d : decode b pc = .ok (.iconst i, 1)) (hv : Int32.ofInt i = v) (K : Go C Z n0 Q M h k n (pc + 1) L (.int v :: S)) : Go C Z n0 Q M h k n pc L (S) :=
  K.by fun T vm0 locs target X _ _ _ st => XS.iconst X.here o.1 rfl (hb o.2.1 d) (hv ▸ st)
theorem g_bipush (o : Ok C Z a0 b ml ret nm own rm) {i : Int} {v : Int32} (d : decode b pc = .ok (.bipush i, 2)) (hv : (Int8.ofInt i).toInt32 = v) (K : Go C Z n0 Q M h k n (pc + 2) L (.int v :: S)) : Go C Z n0 Q M h k n pc L (S) :=
  K.by fun T vm0 locs target X _ _ _ st => XS.bipush X.here o.1 rfl (hb o.2.1 d) (hv ▸ st)
theorem g_sipush (o : Ok C Z a0 b ml ret nm own rm) {i : Int} {v : Int32} (d : decode b pc = .ok (.sipush i, 3)) (hv : (Int16.ofInt i).toInt32 = v) (K : Go C Z n0 Q M h k n (pc + 3) L (.int v :: S)) : Go C Z n0 Q M h k n pc L (S) :=
  K.by fun T vm0 locs target X _ _ _ st => XS.sipush X.here o.1 rfl (hb o.2.1 d) (hv ▸ st)
theorem g_lconst (o : Ok C Z a0 b ml ret nm own rm) {i : Fin 2} {v : Int64} (d : decode b pc = .ok (.lconst i, 1)) (hv : Int64.ofNat i = v) (K : Go C Z n0 Q M h k n (pc + 1) L (.long v :: S)) : Go C Z n0 Q M h k n pc L (S) :=
  K.by fun T vm0 locs target X _ _ _ st => XT.lconst X.here o.1 rfl (hb o.2.1 d) (hv ▸ st)
theorem g_aconst_null (o : Ok C Z a0 b ml ret nm own rm)  (d : decode b pc = .ok (.aconst_null, 1)) (K : Go C Z n0 Q M h k n (pc + 1) L (.null :: S)) : Go C Z n0 Q M h k n pc L (S) :=
  K.by fun T vm0 locs target X _ _ _ st => XS.aconstNull X.here o.1 rfl (hb o.2.1 d) st
theorem g_iadd (o : Ok C Z a0 b ml ret nm own rm) {x y v : Int32} (d : decode b pc = .ok (.iadd, 1)) (hv : x + y = v) (K : Go C Z n0 Q M h k n (pc + 1) L (.int v :: S)) : Go C Z n0 Q M h k n pc L (.int y :: .int x :: S) :=
  K.by fun T vm0 locs target X _ _ _ st => XS.iadd X.here o.1 rfl (hb o.2.1 d) rfl (hv ▸ st)
theorem g_isub (o : Ok C Z a0 b ml ret nm own rm) {x y v : Int32} (d : decode b pc = .ok (.isub, 1)) (hv : x - y = v) (K : Go C Z n0 Q M h k n (pc + 1) L (.int v :: S)) : Go C Z n0 Q M h k n pc L (.int y :: .int x :: S) :=
  K.by fun T vm0 locs target X _ _ _ st => XS.isub X.here o.1 rfl (hb o.2.1 d) rfl (hv ▸ st)
theorem g_imul (o : Ok C Z a0 b ml ret nm own rm) {x y v : Int32} (d : decode b pc = .ok (.imul, 1)) (hv : x * y = v) (K : Go C Z n0 Q M h k n (pc + 1) L (.int v :: S)) : Go C Z n0 Q M h k n pc L (.int y :: .int x :: S) :=
  K.by fun T vm0 locs target X _ _ _ st => XS.imul X.here o.1 rfl (hb o.2.1 d) rfl (hv ▸ st)
theorem g_iand (o : Ok C Z a0 b ml ret nm own rm) {x y v : Int32} (d : decode b pc = .ok (.iand, 1)) (hv : x &&& y = v) (K : Go C Z n0 Q M h k n (pc + 1) L (.int v :: S)) : Go C Z n0 Q M h k n pc L (.int y :: .int x :: S) :=
  K.by fun T vm0 locs target X _ _ _ st => XS.iand X.here o.1 rfl (hb o.2.1 d) rfl (hv ▸ st)
theorem g_ior (o : Ok C Z a0 b ml ret nm own rm) {x y v : Int32} (d : decode b pc = .ok (.ior, 1)) (hv : x ||| y = v) (K : Go C Z n0 Q M h k n (pc + 1) L (.int v :: S)) : Go C Z n0 Q M h k n pc L (.int y :: .int x :: S) :=
  K.by fun T vm0 locs target X _ _ _ st => XT.ior X.here o.1 rfl (hb o.2.1 d) rfl (hv ▸ st)
theorem g_ixor (o : Ok C Z a0 b ml ret nm own rm) {x y v : Int32} (d : decode b pc = .ok (.ixor, 1)) (hv : x ^^^ y = v) (K : Go C Z n0 Q M h k n (pc + 1) L (.int v :: S)) : Go C Z n0 Q M h k n pc L (.int y :: .int x :: S) :=
  K.by fun T vm0 locs target X _ _ _ st => XT.ixor X.here o.1 rfl (hb o.2.1 d) rfl (hv ▸ st)
theorem g_ishl (o : Ok C Z a0 b ml ret nm own rm) {x y v : Int32} (d : decode b pc = .ok (.ishl, 1)) (hv : x <<< (y &&& 31) = v) (K : Go C Z n0 Q M h k n (pc + 1) L (.int v :: S)) : Go C Z n0 Q M h k n pc L (.int y :: .int x :: S) :=
  K.by fun T vm0 locs target X _ _ _ st => XT.ishl X.here o.1 rfl (hb o.2.1 d) rfl (hv ▸ st)
theorem g_ishr (o : Ok C Z a0 b ml ret nm own rm) {x y v : Int32} (d : decode b pc = .ok (.ishr, 1)) (hv : x >>> (y &&& 31) = v) (K : Go C Z n0 Q M h k n (pc + 1) L (.int v :: S)) : Go C Z n0 Q M h k n pc L (.int y :: .int x :: S) :=
  K.by fun T vm0 locs target X _ _ _ st => XT.ishr X.here o.1 rfl (hb o.2.1 d) rfl (hv ▸ st)
theorem g_iushr (o : Ok C Z a0 b ml ret nm own rm) {x y v : Int32} (d : decode b pc = .ok (.iushr, 1)) (hv : XT.ushr x y = v) (K : Go C Z n0 Q M h k n (pc + 1) L (.int v :: S)) : Go C Z n0 Q M h k n pc L (.int y :: .int x :: S) :=
  K.by fun T vm0 locs target X _ _ _ st => XT.iushr X.here o.1 rfl (hb o.2.1 d) rfl (hv ▸ st)
theorem g_idiv (o : Ok C Z a0 b ml ret nm own rm) {x y v : Int32} (d : decode b pc = .ok (.idiv, 1)) (hy : y ≠ 0) (hv : x / y = v) (K : Go C Z n0 Q M h k n (pc + 1) L (.int v :: S)) : Go C Z n0 Q M h k n pc L (.int y :: .int x :: S) :=
  K.by fun T vm0 locs target X _ _ _ st => XS.idiv X.here o.1 rfl (hb o.2.1 d) rfl hy (hv ▸ st)
theorem g_irem (o : Ok C Z a0 b ml ret nm own rm) {x y v : Int32} (d : decode b pc = .ok (.irem, 1)) (hy : y ≠ 0) (hv : x % y = v) (K : Go C Z n0 Q M h k n (pc + 1) L (.int v :: S)) : Go C Z n0 Q M h k n pc L (.int y :: .int x :: S) :=
  K.by fun T vm0 locs target X _ _ _ st => iremM X o.1 rfl (hb o.2.1 d) rfl hy (hv ▸ st)
theorem g_ineg (o : Ok C Z a0 b ml ret nm own rm) {x : Int32} {v : Int32} (d : decode b pc = .ok (.ineg, 1)) (hv : -x = v) (K : Go C Z n0 Q M h k n (pc + 1) L (.int v :: S)) : Go C Z n0 Q M h k n pc L (.int x :: S) :=
  K.by fun T vm0 locs target X _ _ _ st => XS.ineg X.here o.1 rfl (hb o.2.1 d) rfl (hv ▸ st)
theorem g_i2b (o : Ok C Z a0 b ml ret nm own rm) {x : Int32} {v : Int32} (d : decode b pc = .ok (.i2b, 1)) (hv : x.toInt8.toInt32 = v) (K : Go C Z n0 Q M h k n (pc + 1) L (.int v :: S)) : Go C Z n0 Q M h k n pc L (.int x :: S) :=
  K.by fun T vm0 locs target X _ _ _ st => XT.i2b X.here o.1 rfl (hb o.2.1 d) rfl (hv ▸ st)
theorem g_i2c (o : Ok C Z a0 b ml ret nm own rm) {x : Int32} {v : Int32} (d : decode b pc = .ok (.i2c, 1)) (hv : x.toUInt32.toUInt16.toUInt32.toInt32 = v) (K : Go C Z n0 Q M h k n (pc + 1) L (.int v :: S)) : Go C Z n0 Q M h k n pc L (.int x :: S) :=
  K.by fun T vm0 locs target X _ _ _ st => XT.i2c X.here o.1 rfl (hb o.2.1 d) rfl (hv ▸ st)
theorem g_i2s (o : Ok C Z a0 b ml ret nm own rm) {x : Int32} {v : Int32} (d : decode b pc = .ok (.i2s, 1)) (hv : x.toInt16.toInt32 = v) (K : Go C Z n0 Q M h k n (pc + 1) L (.int v :: S)) : Go C Z n0 Q M h k n pc L (.int x :: S) :=
  K.by fun T vm0 locs target X _ _ _ st => XT.i2s X.here o.1 rfl (hb o.2.1 d) rfl (hv ▸ st)
theorem g_i2l (o : Ok C Z a0 b ml ret nm own rm) {x : Int32} {v : Int64} (d : decode b pc = .ok (.i2l, 1)) (hv : x.toInt64 = v) (K : Go C Z n0 Q M h k n (pc + 1) L (.long v :: S)) : Go C Z n0 Q M h k n pc L (.int x :: S) :=
  K.by fun T vm0 locs target X _ _ _ st => XT.i2l X.here o.1 rfl (hb o.2.1 d) rfl (hv ▸ st)
theorem g_l2i (o : Ok C Z a0 b ml ret nm own rm) {x : Int64} {v : Int32} (d : decode b pc = .ok (.l2i, 1)) (hv : x.toInt32 = v) (K : Go C Z n0 Q M h k n (pc + 1) L (.int v :: S)) : Go C Z n0 Q M h k n pc L (.long x :: S) :=
  K.by fun T vm0 locs target X _ _ _ st => XT.l2i X.here o.1 rfl (hb o.2.1 d) rfl (hv ▸ st)
theorem g_ladd (o : Ok C Z a0 b ml ret nm own rm) {x y v : Int64} (d : decode b pc = .ok (.ladd, 1)) (hv : x + y = v) (K : Go C Z n0 Q M h k n (pc + 1) L (.long v :: S)) : Go C Z n0 Q M h k n pc L (.long y :: .long x :: S) :=
  K.by fun T vm0 locs target X _ _ _ st => XT.ladd X.here o.1 rfl (hb o.2.1 d) rfl (hv ▸ st)
theorem g_lsub (o : Ok C Z a0 b ml ret nm own rm) {x y v : Int64} (d : decode b pc = .ok (.lsub, 1)) (hv : x - y = v) (K : Go C Z n0 Q M h k n (pc + 1) L (.long v :: S)) : Go C Z n0 Q M h k n pc L (.long y :: .long x :: S) :=
  K.by fun T vm0 locs target X _ _ _ st => XT.lsub X.here o.1 rfl (hb o.2.1 d) rfl (hv ▸ st)
theorem g_land (o : Ok C Z a0 b ml ret nm own rm) {x y v : Int64} (d : decode b pc = .ok (.land, 1)) (hv : x &&& y = v) (K : Go C Z n0 Q M h k n (pc + 1) L (.long v :: S)) : Go C Z n0 Q M h k n pc L (.long y :: .long x :: S) :=
  K.by fun T vm0 locs target X _ _ _ st => XT.land X.here o.1 rfl (hb o.2.1 d) rfl (hv ▸ st)
theorem g_lcmp (o : Ok C Z a0 b ml ret nm own rm) {x y : Int64} {v : Int32} (d : decode b pc = .ok (.lcmp, 1)) (hv : XT.cmpL x y = v) (K : Go C Z n0 Q M h k n (pc + 1) L (.int v :: S)) : Go C Z n0 Q M h k n pc L (.long y :: .long x :: S) :=
  K.by fun T vm0 locs target X _ _ _ st => XT.lcmp X.here o.1 rfl (hb o.2.1 d) rfl (hv ▸ st)
theorem g_lushr (o : Ok C Z a0 b ml ret nm own rm) {x v : Int64} {y : Int32} (d : decode b pc = .ok (.lushr, 1)) (hv : XT.ushrL x y = v) (K : Go C Z n0 Q M h k n (pc + 1) L (.long v :: S)) : Go C Z n0 Q M h k n pc L (.int y :: .long x :: S) :=
  K.by fun T vm0 locs target X _ _ _ st => XT.lushr X.here o.1 rfl (hb o.2.1 d) rfl (hv ▸ st)
theorem g_dup (o : Ok C Z a0 b ml ret nm own rm) {x : Value} (d : decode b pc = .ok (.dup, 1)) (hc : x.category = 1) (K : Go C Z n0 Q M h k n (pc + 1) L (x :: x :: S)) : Go C Z n0 Q M h k n pc L (x :: S) :=
  K.by fun T vm0 locs target X _ _ _ st => XS.dup X.here o.1 rfl (hb o.2.1 d) rfl hc st
theorem g_pop (o : Ok C Z a0 b ml ret nm own rm) {x : Value} (d : decode b pc = .ok (.pop, 1)) (hc : x.category = 1) (K : Go C Z n0 Q M h k n (pc + 1) L (S)) : Go C Z n0 Q M h k n pc L (x :: S) :=
  K.by fun T vm0 locs target X _ _ _ st => XT.pop X.here o.1 rfl (hb o.2.1 d) rfl hc st
theorem g_dup_x1 (o : Ok C Z a0 b ml ret nm own rm) {x y : Value} (d : decode b pc = .ok (.dup_x1, 1)) (hc : x.category = 1) (hc' : y.category = 1) (K : Go C Z n0 Q M h k n (pc + 1) L (x :: y :: x :: S)) : Go C Z n0 Q M h k n pc L (x :: y :: S) :=
  K.by fun T vm0 locs target X _ _ _ st => XT.dupX1 X.here o.1 rfl (hb o.2.1 d) rfl hc hc' st
theorem g_dup2 (o : Ok C Z a0 b ml ret nm own rm) {x y : Value} (d : decode b pc = .ok (.dup2, 1)) (hc : x.category = 1) (hc' : y.category = 1) (K : Go C Z n0 Q M h k n (pc + 1) L (x :: y :: x :: y :: S)) : Go C Z n0 Q M h k n pc L (x :: y :: S) :=
  K.by fun T vm0 locs target X _ _ _ st => XT.dup2 X.here o.1 rfl (hb o.2.1 d) rfl hc hc' st
theorem g_goto (o : Ok C Z a0 b ml ret nm own rm) {i : Int} {t : Nat} (d : decode b pc = .ok (.goto i, 3)) (ho : 0 ≤ (pc : Int) + i) (ht : ((pc : Int) + i).toNat = t) (K : Go C Z n0 Q M h k n t L S) : Go C Z n0 Q M h k n pc L S :=
  K.by fun T vm0 locs target X _ _ _ st => XS.goto X.here o.1 rfl (pc0 := pc) rfl (hb o.2.1 d) ho ht st
theorem g_ifC (o : Ok C Z a0 b ml ret nm own rm) {cd : ClassFile.Cond} {P : Prop} {x : Int32} {i : Int} {t : Nat} (d : decode b pc = .ok (.ifCond cd i, 3)) (ho : 0 ≤ (pc : Int) + i) (ht : ((pc : Int) + i).toNat = t) (hP : if_icmp.holds cd x 0 = true ↔ P)
    (Ky : P → Go C Z n0 Q M h k n t L S) (Kn : ¬ P → Go C Z n0 Q M h k n (pc + 3) L S) : Go C Z n0 Q M h k n pc L (.int x :: S) := by
  rw [← if0] at hP
  by_cases hp : P
  · exact (Ky hp).by fun T vm0 locs target X _ _ _ st => XS.ifYes X.here o.1 rfl (pc0 := pc) rfl (hb o.2.1 d) rfl (hP.mpr hp) ho ht st
  · exact (Kn hp).by fun T vm0 locs target X _ _ _ st => XS.ifNo X.here o.1 rfl (hb o.2.1 d) rfl (Bool.eq_false_iff.mpr fun q => hp (hP.mp q)) st
theorem g_icmp (o : Ok C Z a0 b ml ret nm own rm) {cd : ClassFile.Cond} {P : Prop} {x y : Int32} {i : Int} {t : Nat} (d : decode b pc = .ok (.if_icmp cd i, 3)) (ho : 0 ≤ (pc : Int) + i) (ht : ((pc : Int) + i).toNat = t) (hP : if_icmp.holds cd x y = true ↔ P)
    (Ky : P → Go C Z n0 Q M h k n t L S) (Kn : ¬ P → Go C Z n0 Q M h k n (pc + 3) L S) : Go C Z n0 Q M h k n pc L (.int y :: .int x :: S) := by
  by_cases hp : P
  · exact (Ky hp).by fun T vm0 locs target X _ _ _ st => XS.icmpYes X.here o.1 rfl (pc0 := pc) rfl (hb o.2.1 d) rfl (hP.mpr hp) ho ht st
  · exact (Kn hp).by fun T vm0 locs target X _ _ _ st => XS.icmpNo X.here o.1 rfl (hb o.2.1 d) rfl (Bool.eq_false_iff.mpr fun q => hp (hP.mp q)) st
theorem g_ifCN (o : Ok C Z a0 b ml ret nm own rm) {cd : ClassFile.Cond} {P : Prop} {x : Int32} {i : Int} {t : Nat} (d : decode b pc = .ok (.ifCond cd i, 3)) (ho : 0 ≤ (pc : Int) + i) (ht : ((pc : Int) + i).toNat = t) (hP : if_icmp.holds cd x 0 = true ↔ ¬ P)
    (Ky : ¬ P → Go C Z n0 Q M h k n t L S) (Kn : P → Go C Z n0 Q M h k n (pc + 3) L S) : Go C Z n0 Q M h k n pc L (.int x :: S) := g_ifC o d ho ht hP Ky fun q => Kn (Classical.not_not.mp q)
theorem g_icmpN (o : Ok C Z a0 b ml ret nm own rm) {cd : ClassFile.Cond} {P : Prop} {x y : Int32} {i : Int} {t : Nat} (d : decode b pc = .ok (.if_icmp cd i, 3)) (ho : 0 ≤ (pc : Int) + i) (ht : ((pc : Int) + i).toNat = t) (hP : if_icmp.holds cd x y = true ↔ ¬ P)
    (Ky : ¬ P → Go C Z n0 Q M h k n t L S) (Kn : P → Go C Z n0 Q M h k n (pc + 3) L S) : Go C Z n0 Q M h k n pc L (.int y :: .int x :: S) := g_icmp o d ho ht hP Ky fun q => Kn (Classical.not_not.mp q)
theorem c_eq {x y : Int32} : if_icmp.holds .eq x y = true ↔ x = y := ⟨fun q => Classical.byContradiction fun z => (by rw [(feq z).1] at q; cases q), fun z => (teq z).1⟩
theorem c_ne {x y : Int32} : if_icmp.holds .ne x y = true ↔ ¬ x = y := ⟨fun q z => (by rw [(teq z).2] at q; cases q), fun z => (feq z).2⟩
theorem c_lt {x y : Int32} : if_icmp.holds .lt x y = true ↔ x < y := ⟨fun q => Classical.byContradiction fun z => (by rw [(flt z).1] at q; cases q), fun z => (tlt z).1⟩
theorem c_ge {x y : Int32} : if_icmp.holds .ge x y = true ↔ ¬ x < y := ⟨fun q z => (by rw [(tlt z).2.1] at q; cases q), fun z => (flt z).2.1⟩
theorem c_gt {x y : Int32} : if_icmp.holds .gt x y = true ↔ y < x := ⟨fun q => Classical.byContradiction fun z => (by rw [(flt z).2.2.1] at q; cases q), fun z => (tlt z).2.2.1⟩
theorem c_le {x y : Int32} : if_icmp.holds .le x y = true ↔ ¬ y < x := ⟨fun q z => (by rw [(tlt z).2.2.2] at q; cases q), fun z => (flt z).2.2.2⟩
theorem g_ifnullY (o : Ok C Z a0 b ml ret nm own rm) {i : Int} {t : Nat} (d : decode b pc = .ok (.ifnull i, 3)) (ho : 0 ≤ (pc : Int) + i) (ht : ((pc : Int) + i).toNat = t) (K : Go C Z n0 Q M h k n t L S) : Go C Z n0 Q M h k n pc L (.null :: S) :=
  K.by fun T vm0 locs target X _ _ _ st => XS.ifnullYes X.here o.1 rfl (pc0 := pc) rfl (hb o.2.1 d) rfl ho ht st
theorem g_ifnullN (o : Ok C Z a0 b ml ret nm own rm) {i : Int} {a : Addr} (d : decode b pc = .ok (.ifnull i, 3)) (K : Go C Z n0 Q M h k n (pc + 3) L S) : Go C Z n0 Q M h k n pc L (.ref a :: S) :=
  K.by fun T vm0 locs target X _ _ _ st => XS.ifnullNo X.here o.1 rfl (hb o.2.1 d) rfl st
theorem g_ifnonnullY (o : Ok C Z a0 b ml ret nm own rm) {i : Int} {t : Nat} {a : Addr} (d : decode b pc = .ok (.ifnonnull i, 3)) (ho : 0 ≤ (pc : Int) + i) (ht : ((pc : Int) + i).toNat = t) (K : Go C Z n0 Q M h k n t L S) : Go C Z n0 Q M h k n pc L (.ref a :: S) :=
  K.by fun T vm0 locs target X _ _ _ st => XT.ifnonnullYes X.here o.1 rfl (pc0 := pc) rfl (hb o.2.1 d) rfl ho ht st
theorem g_ifnonnullN (o : Ok C Z a0 b ml ret nm own rm) {i : Int} (d : decode b pc = .ok (.ifnonnull i, 3)) (K : Go C Z n0 Q M h k n (pc + 3) L S) : Go C Z n0 Q M h k n pc L (.null :: S) :=
  K.by fun T vm0 locs target X _ _ _ st => XT.ifnonnullNo X.here o.1 rfl (hb o.2.1 d) rfl st
theorem g_acmpEq (o : Ok C Z a0 b ml ret nm own rm) {x y : Value} {i : Int} {t : Nat} (d : decode b pc = .ok (.if_acmp .eq i, 3)) (ho : 0 ≤ (pc : Int) + i) (ht : ((pc : Int) + i).toNat = t) (hx : x.isRef = true) (hy : y.isRef = true)
    (Ky : x = y → Go C Z n0 Q M h k n t L S) (Kn : ¬ x = y → Go C Z n0 Q M h k n (pc + 3) L S) : Go C Z n0 Q M h k n pc L (y :: x :: S) := by
  by_cases hp : x = y
  · exact (Ky hp).by fun T vm0 locs target X _ _ _ st => XT.acmpYes X.here o.1 rfl (pc0 := pc) rfl (hb o.2.1 d) rfl hx hy (decide_eq_true hp) ho ht st
  · exact (Kn hp).by fun T vm0 locs target X _ _ _ st => XT.acmpNo X.here o.1 rfl (hb o.2.1 d) rfl hx hy (decide_eq_false hp) st
theorem g_acmpNe (o : Ok C Z a0 b ml ret nm own rm) {x y : Value} {i : Int} {t : Nat} (d : decode b pc = .ok (.if_acmp .ne i, 3)) (ho : 0 ≤ (pc : Int) + i) (ht : ((pc : Int) + i).toNat = t) (hx : x.isRef = true) (hy : y.isRef = true)
    (Ky : ¬ x = y → Go C Z n0 Q M h k n t L S) (Kn : x = y → Go C Z n0 Q M h k n (pc + 3) L S) : Go C Z n0 Q M h k n pc L (y :: x :: S) := by
  by_cases hp : x = y
  · exact (Kn hp).by fun T vm0 locs target X _ _ _ st => XT.acmpNo X.here o.1 rfl (hb o.2.1 d) rfl hx hy (decide_eq_false (fun q => q hp)) st
  · exact (Ky hp).by fun T vm0 locs target X _ _ _ st => XT.acmpYes X.here o.1 rfl (pc0 := pc) rfl (hb o.2.1 d) rfl hx hy (decide_eq_true hp) ho ht st
theorem g_ldcI (o : Ok C Z a0 b ml ret nm own rm) {ix : Nat} {v : Int32} (d : decode b pc = .ok (.ldc ix, 2)) (w : (Jvm.Cond.constant own ix v).before a0 Z = true) (K : Go C Z n0 Q M h k n (pc + 2) L (.int v :: S)) : Go C Z n0 Q M h k n pc L S :=
  K.by fun T vm0 locs target X hZ hf _ st => X.ldcInt o.1 (own := own) (by rw [← o.hown]; exact hf) (mvT (s := C.s.setVm vm0) hZ w) (g := mkF C.m pc L S) rfl (hb o.2.1 d) _ st
theorem g_ldc2L (o : Ok C Z a0 b ml ret nm own rm) {ix : Nat} {v : Int64} (d : decode b pc = .ok (.ldc2_w ix, 3)) (w : (Jvm.Cond.constantLong own ix v).before a0 Z = true) (K : Go C Z n0 Q M h k n (pc + 3) L (.long v :: S)) : Go C Z n0 Q M h k n pc L S :=
  K.by fun T vm0 locs target X hZ hf _ st => X.ldc2Long o.1 (own := own) (by rw [← o.hown]; exact hf) (mvT (s := C.s.setVm vm0) hZ w) (g := mkF C.m pc L S) rfl (hb o.2.1 d) _ st
/-! steps that read the tables or the heap -/
theorem g_getF (o : Ok C Z a0 b ml ret nm own rm) {R0 O f ds : String} {ix : Nat} {a : Addr} {v : Value} (d : decode b pc = .ok (.getfield ix, 3)) (w : (Jvm.Cond.fieldLink own ix R0 f ds).before a0 Z = true) (via : Via Z R0 O f ds) (F : Fld Z h a O f ds v)
    (K : Go C Z n0 Q M h k n (pc + 3) L (v :: S)) : Go C Z n0 Q M h k n pc L (.ref a :: S) := by
  refine Go.via (ι := Unit) (P := fun _ h' => h' = h) (S' := fun _ => v :: S) (fun _ h' e => by have e : h' = h := e; rw [e]; exact K) fun T vm0 locs X hZ hf eT N => ?_
  obtain ⟨T', X', e', st⟩ := getF (host := "") X o.1 (Z := Z) hZ (by rw [← o.hown]; exact hf) (Or.inl w) via eT F (g := mkF C.m pc L (.ref a :: S)) rfl rfl (hb o.2.1 d)
  exact ⟨(), T', locs, h, rfl, X', e', N, Mv.refl, st⟩
theorem g_getS (o : Ok C Z a0 b ml ret nm own rm) {R0 O f ds : String} {ix : Nat} {v : Value} (d : decode b pc = .ok (.getstatic ix, 3)) (w : (Jvm.Cond.fieldLink own ix R0 f ds).before a0 Z = true) (via : Via Z R0 O f ds) (F : Sta Z h O f ds v)
    (K : Go C Z n0 Q M h k n (pc + 3) L (v :: S)) : Go C Z n0 Q M h k n pc L S := by
  refine Go.via (ι := Unit) (P := fun _ h' => h' = h) (S' := fun _ => v :: S) (fun _ h' e => by have e : h' = h := e; rw [e]; exact K) fun T vm0 locs X hZ hf eT N => ?_
  obtain ⟨T', X', e', st⟩ := getS (host := "") X o.1 (Z := Z) hZ (by rw [← o.hown]; exact hf) w via eT F (g := mkF C.m pc L S) rfl (hb o.2.1 d)
  exact ⟨(), T', locs, h, rfl, X', e', N, Mv.refl, st⟩
theorem g_putF (o : Ok C Z a0 b ml ret nm own rm) {R0 O f ds Cn : String} {ix kk : Nat} {ty : FieldType} {a : Addr} {v old : Value} (d : decode b pc = .ok (.putfield ix, 3)) (w : (Jvm.Cond.fieldLink own ix R0 f ds).before a0 Z = true) (via : Via Z R0 O f ds) (F : Fld Z h a O f ds old) (E : Exa Z h a Cn)
    (Lf : (Jvm.Cond.lays Cn O f ds).before a0 Z = true ∨ ((Jvm.Cond.laysFinal Cn O f ds).before a0 Z = true ∧ own = O ∧ nm = "<init>")) (wi : (Jvm.Cond.instantiable Cn kk).before a0 Z = true) (hty : parseFieldDescriptor ds = some ty) (hn' : narrow ty v = v) (hf' : fits ty v = true) (ha : n0 ≤ a) (hs : SafeOk C Z M h a)
    (K : ∀ h', Wr h h' a (Jvm.RoadKit.slotOf Z O f ds) v → Go C Z n0 Q M h' k n (pc + 3) L S) : Go C Z n0 Q M h k n pc L (v :: .ref a :: S) := by
  refine Go.via (ι := Unit) (P := fun _ h' => Wr h h' a (Jvm.RoadKit.slotOf Z O f ds) v) (S' := fun _ => S) (fun _ h' e => K h' e) fun T vm0 locs X hZ hf eT N => ?_
  obtain ⟨T', h', X', e', W, st⟩ := putF (host := "") X o.1 (Z := Z) hZ (by rw [← o.hown]; exact hf) (Or.inl w) via eT F E (Lf.imp id fun q => ⟨q.1, q.2.1, o.2.2.2.2.1.trans q.2.2⟩) wi hty hn' hf' (g := mkF C.m pc L (v :: .ref a :: S)) rfl rfl (hb o.2.1 d)
  exact ⟨(), T', _, h', W, X', e', Fr.snoc X' N ha, Mv.wr W hs, st⟩
theorem g_new (o : Ok C Z a0 b ml ret nm own rm) {Cn : String} {ix nf : Nat} (d : decode b pc = .ok (.new ix, 3)) (w : (Jvm.Cond.classLink own ix Cn).before a0 Z = true) (wi : (Jvm.Cond.instantiable Cn nf).before a0 Z = true) (wz : (Jvm.Cond.initialized Cn).before a0 Z = true) (hc : k + 1 ≤ rm.cells) (hl : n + nf ≤ rm.slots) {M' : Addr → List Addr} (hM : ∀ a, ∀ x ∈ M' a, x ∈ M ∨ x = a)
    (K : ∀ a h', a = h.size → Ext h h' → Exa Z h' a Cn → (∀ {O f ds : String} {ty : FieldType}, Laid Z a0 Cn O f ds → parseFieldDescriptor ds = some ty → Fld Z h' a O f ds (defaultValue ty)) → Go C Z n0 Q (M' a) h' (k + 1) (n + nf) (pc + 3) L (.ref a :: S)) : Go C Z n0 Q M h k n pc L S := by
  refine Go.via (ι := Unit) (P := fun _ h' => Ext h h' ∧ Exa Z h' h.size Cn ∧ (∀ {O f ds : String} {ty : FieldType}, Laid Z a0 Cn O f ds → parseFieldDescriptor ds = some ty → Fld Z h' h.size O f ds (defaultValue ty))) (S' := fun _ => .ref h.size :: S) (fun _ h' e => K h.size h' rfl e.1 e.2.1 (fun {O f ds ty} q r => e.2.2 q r)) fun T vm0 locs X hZ hf eT N => ?_
  obtain ⟨T', h', X', e', E, A, D, -, st⟩ := newO X o.1 (Z := Z) hZ (by rw [← o.hown]; exact hf) w wi wz eT (g := mkF C.m pc L S) rfl (hb o.2.1 d) (by rw [o.R]; exact hc) (by rw [o.R]; exact hl)
  exact ⟨(), T', locs, h', ⟨E, A, fun {O f ds ty} q r => D q r⟩, X', e', N, Mv.new E A.lt (hM _), st⟩
theorem g_newarr (o : Ok C Z a0 b ml ret nm own rm) {aty : ArrayType} {ty : FieldType} {z : Int32} {m : Nat} {dv : Value} (d : decode b pc = .ok (.newarray aty, 2)) (hty : newarray.typeOf aty = ty) (hdv : defaultValue ty = dv) (w : (Jvm.Cond.arrayClass ty).before a0 Z = true) (hz : ¬ z < 0) (hm : z.toNatClampNeg = m) (hbig : m ≤ 67108864) (hc : k + 1 ≤ rm.cells) (hl : n + m ≤ rm.slots) {M' : Addr → List Addr} (hM : ∀ a, ∀ x ∈ M' a, x ∈ M ∨ x = a)
    (K : ∀ a h' kc, a = h.size → Ext h h' → Arv Z h' a kc ty z (List.replicate m dv) dv → Go C Z n0 Q (M' a) h' (k + 1) (n + m) (pc + 2) L (.ref a :: S)) : Go C Z n0 Q M h k n pc L (.int z :: S) := by
  subst hty hdv
  refine Go.via (ι := ClassId) (P := fun kc h' => Ext h h' ∧ Arv Z h' h.size kc (newarray.typeOf aty) z (List.replicate m (defaultValue (newarray.typeOf aty))) (defaultValue (newarray.typeOf aty))) (S' := fun _ => .ref h.size :: S) (fun kc h' e => K h.size h' kc rfl e.1 e.2) fun T vm0 locs X hZ hf eT N => ?_
  obtain ⟨T', h', kc, X', e', E, A, st⟩ := newP X o.1 (Z := Z) hZ w eT (g := mkF C.m pc L (.int z :: S)) rfl (hb o.2.1 d) rfl hz (cap := m) (Nat.le_of_eq hm) (by omega) (by rw [o.R]; exact hc) (by rw [o.R]; exact hl)
  exact ⟨kc, T', locs, h', ⟨E, by simpa using (Arv.new A hz).pad (pad_rep [] _ m)⟩, X', e', N, Mv.new E A.lt (hM _), st⟩
theorem idx_ok {vs : List Value} {z j : Int32} {i : Nat} {c : Cell} (S : c.slots.size = z.toNatClampNeg) (hz : z.toNatClampNeg = vs.length) (h0 : ¬ j < 0) (hj : j.toNatClampNeg = i) (hi : i < vs.length) : ¬ (j < 0 ∨ c.slots.size ≤ j.toNatClampNeg) := fun q => q.elim h0 fun r => by omega
theorem g_castore (o : Ok C Z a0 b ml ret nm own rm) {a : Addr} {kc : ClassId} {z j x y : Int32} {vs : List Value} {dv : Value} {i : Nat} (d : decode b pc = .ok (.castore, 1)) (V : Arv Z h a kc .char z vs dv) (hz : z.toNatClampNeg = vs.length) (h0 : ¬ j < 0) (hj : j.toNatClampNeg = i) (hi : i < vs.length) (hy : nar .char x = y) (ha : n0 ≤ a) (hs : SafeOk C Z M h a)
    (K : ∀ h', Wr h h' a i (.int y) → Arv Z h' a kc .char z (vs.set i (.int y)) dv → Go C Z n0 Q M h' k n (pc + 1) L S) : Go C Z n0 Q M h k n pc L (.int x :: .int j :: .ref a :: S) := by
  obtain ⟨cl, A, q1, q2, q3, H, G⟩ := V
  subst hy hj
  refine Go.via (ι := Unit) (P := fun _ h' => Wr h h' a j.toNatClampNeg (.int (nar .char x))) (S' := fun _ => S) (fun _ h' e => K h' e (Arv.set A q1 q2 q3 H G (fits_nar_char x) e _ rfl hi)) fun T vm0 locs X hZ hf eT N => ?_
  obtain ⟨T', h', X', e', W, st⟩ := stC X o.1 (Z := Z) hZ eT A (idx_ok q2 hz h0 rfl hi) (g := mkF C.m pc L (.int x :: .int j :: .ref a :: S)) rfl rfl (hb o.2.1 d)
  exact ⟨(), T', _, h', W, X', e', Fr.snoc X' N ha, Mv.wr W hs, st⟩
theorem g_iastore (o : Ok C Z a0 b ml ret nm own rm) {a : Addr} {kc : ClassId} {z j x : Int32} {vs : List Value} {dv : Value} {i : Nat} (d : decode b pc = .ok (.iastore, 1)) (V : Arv Z h a kc .int z vs dv) (hz : z.toNatClampNeg = vs.length) (h0 : ¬ j < 0) (hj : j.toNatClampNeg = i) (hi : i < vs.length) (ha : n0 ≤ a) (hs : SafeOk C Z M h a)
    (K : ∀ h', Wr h h' a i (.int x) → Arv Z h' a kc .int z (vs.set i (.int x)) dv → Go C Z n0 Q M h' k n (pc + 1) L S) : Go C Z n0 Q M h k n pc L (.int x :: .int j :: .ref a :: S) := by
  obtain ⟨cl, A, q1, q2, q3, H, G⟩ := V
  subst hj
  refine Go.via (ι := Unit) (P := fun _ h' => Wr h h' a j.toNatClampNeg (.int x)) (S' := fun _ => S) (fun _ h' e => K h' e (Arv.set A q1 q2 q3 H G rfl e _ rfl hi)) fun T vm0 locs X hZ hf eT N => ?_
  obtain ⟨T', h', X', e', W, st⟩ := stI X o.1 (Z := Z) hZ eT A (idx_ok q2 hz h0 rfl hi) (g := mkF C.m pc L (.int x :: .int j :: .ref a :: S)) rfl rfl (hb o.2.1 d)
  exact ⟨(), T', _, h', W, X', e', Fr.snoc X' N ha, Mv.wr W hs, st⟩
theorem g_zastore (o : Ok C Z a0 b ml ret nm own rm) {a : Addr} {kc : ClassId} {z j x y : Int32} {vs : List Value} {dv : Value} {i : Nat} (d : decode b pc = .ok (.bastore, 1)) (V : Arv Z h a kc .boolean z vs dv) (hz : z.toNatClampNeg = vs.length) (h0 : ¬ j < 0) (hj : j.toNatClampNeg = i) (hi : i < vs.length) (hy : nar .boolean x = y) (ha : n0 ≤ a) (hs : SafeOk C Z M h a)
    (K : ∀ h', Wr h h' a i (.int y) → Arv Z h' a kc .boolean z (vs.set i (.int y)) dv → Go C Z n0 Q M h' k n (pc + 1) L S) : Go C Z n0 Q M h k n pc L (.int x :: .int j :: .ref a :: S) := by
  obtain ⟨cl, A, q1, q2, q3, H, G⟩ := V
  subst hy hj
  refine Go.via (ι := Unit) (P := fun _ h' => Wr h h' a j.toNatClampNeg (.int (nar .boolean x))) (S' := fun _ => S) (fun _ h' e => K h' e (Arv.set A q1 q2 q3 H G (fits_nar_bool x) e _ rfl hi)) fun T vm0 locs X hZ hf eT N => ?_
  obtain ⟨T', h', X', e', W, st⟩ := stZ X o.1 (Z := Z) hZ eT A (idx_ok q2 hz h0 rfl hi) (g := mkF C.m pc L (.int x :: .int j :: .ref a :: S)) rfl rfl (hb o.2.1 d)
  exact ⟨(), T', _, h', W, X', e', Fr.snoc X' N ha, Mv.wr W hs, st⟩
theorem g_alen (o : Ok C Z a0 b ml ret nm own rm) {a : Addr} {kc : ClassId} {ty : FieldType} {z : Int32} {vs : List Value} {dv : Value} (d : decode b pc = .ok (.arraylength, 1)) (V : Arv Z h a kc ty z vs dv) (K : Go C Z n0 Q M h k n (pc + 1) L (.int z :: S)) : Go C Z n0 Q M h k n pc L (.ref a :: S) := by
  obtain ⟨cl, A, q1, q2, q3, H, G⟩ := V
  exact K.by fun T vm0 locs target X hZ _ eT st => X.arraylength o.1 (cell := cl) (by rw [eT]; exact A.1) (State.isArrayOf_alike hZ.alike A.2.1) (g := mkF C.m pc L (.ref a :: S)) rfl rfl (hb o.2.1 d) _ (by rw [len_of q2 q3]; exact st)
theorem g_caload (o : Ok C Z a0 b ml ret nm own rm) {a : Addr} {kc : ClassId} {z j : Int32} {vs : List Value} {dv v : Value} {i : Nat} (d : decode b pc = .ok (.caload, 1)) (V : Arv Z h a kc .char z vs dv) (hz : z.toNatClampNeg = vs.length) (h0 : ¬ j < 0) (hj : j.toNatClampNeg = i) (hi : i < vs.length) (hv : vs.getD i dv = v)
    (K : Go C Z n0 Q M h k n (pc + 1) L (v :: S)) : Go C Z n0 Q M h k n pc L (.int j :: .ref a :: S) := by
  obtain ⟨cl, A, q1, q2, q3, H, G⟩ := V
  subst hj
  exact K.by fun T vm0 locs target X hZ _ eT st => X.caload o.1 (cell := cl) (j := j) (v := v) (by rw [eT]; exact A.1) (State.isArrayOf_alike hZ.alike A.2.1) A.2.2 (idx_ok q2 hz h0 rfl hi) (H.at (idx_ok q2 hz h0 rfl hi) hv) (g := mkF C.m pc L (.int j :: .ref a :: S)) rfl rfl (hb o.2.1 d) _ st
theorem g_iaload (o : Ok C Z a0 b ml ret nm own rm) {a : Addr} {kc : ClassId} {z j : Int32} {vs : List Value} {dv v : Value} {i : Nat} (d : decode b pc = .ok (.iaload, 1)) (V : Arv Z h a kc .int z vs dv) (hz : z.toNatClampNeg = vs.length) (h0 : ¬ j < 0) (hj : j.toNatClampNeg = i) (hi : i < vs.length) (hv : vs.getD i dv = v)
    (K : Go C Z n0 Q M h k n (pc + 1) L (v :: S)) : Go C Z n0 Q M h k n pc L (.int j :: .ref a :: S) := by
  obtain ⟨cl, A, q1, q2, q3, H, G⟩ := V
  subst hj
  exact K.by fun T vm0 locs target X hZ _ eT st => X.iaload o.1 (cell := cl) (j := j) (v := v) (by rw [eT]; exact A.1) (State.isArrayOf_alike hZ.alike A.2.1) A.2.2 (idx_ok q2 hz h0 rfl hi) (H.at (idx_ok q2 hz h0 rfl hi) hv) (g := mkF C.m pc L (.int j :: .ref a :: S)) rfl rfl (hb o.2.1 d) _ st
theorem g_zaload (o : Ok C Z a0 b ml ret nm own rm) {a : Addr} {kc : ClassId} {z j : Int32} {vs : List Value} {dv v : Value} {i : Nat} (d : decode b pc = .ok (.baload, 1)) (V : Arv Z h a kc .boolean z vs dv) (hz : z.toNatClampNeg = vs.length) (h0 : ¬ j < 0) (hj : j.toNatClampNeg = i) (hi : i < vs.length) (hv : vs.getD i dv = v)
    (K : Go C Z n0 Q M h k n (pc + 1) L (v :: S)) : Go C Z n0 Q M h k n pc L (.int j :: .ref a :: S) := by
  obtain ⟨cl, A, q1, q2, q3, H, G⟩ := V
  subst hj
  exact K.by fun T vm0 locs target X hZ _ eT st => X.baloadBooleans o.1 (cell := cl) (j := j) (v := v) (by rw [eT]; exact A.1) (State.isArrayOf_alike hZ.alike A.2.1) A.2.2 (idx_ok q2 hz h0 rfl hi) (H.at (idx_ok q2 hz h0 rfl hi) hv) (g := mkF C.m pc L (.int j :: .ref a :: S)) rfl rfl (hb o.2.1 d) _ st
theorem g_instY (o : Ok C Z a0 b ml ret nm own rm) {ix : Nat} {a : Addr} {Kn : String} (d : decode b pc = .ok (.instanceof ix, 3)) (w : (Jvm.Cond.classLink own ix Kn).before a0 Z = true) (F : Ins Z h a Kn true) (K : Go C Z n0 Q M h k n (pc + 3) L (.int 1 :: S)) : Go C Z n0 Q M h k n pc L (.ref a :: S) := by
  refine Go.via (ι := Unit) (P := fun _ h' => h' = h) (S' := fun _ => .int 1 :: S) (fun _ h' e => by have e : h' = h := e; rw [e]; exact K) fun T vm0 locs X hZ hf eT N => ?_
  obtain ⟨T', X', e', st⟩ := instY X o.1 (Z := Z) hZ (by rw [← o.hown]; exact hf) w eT F (g := mkF C.m pc L (.ref a :: S)) rfl rfl (hb o.2.1 d)
  exact ⟨(), T', locs, h, rfl, X', e', N, Mv.refl, st⟩
theorem g_castY (o : Ok C Z a0 b ml ret nm own rm) {ix : Nat} {a : Addr} {Kn : String} (d : decode b pc = .ok (.checkcast ix, 3)) (w : (Jvm.Cond.classLink own ix Kn).before a0 Z = true) (F : Ins Z h a Kn true) (K : Go C Z n0 Q M h k n (pc + 3) L (.ref a :: S)) : Go C Z n0 Q M h k n pc L (.ref a :: S) := by
  refine Go.via (ι := Unit) (P := fun _ h' => h' = h) (S' := fun _ => .ref a :: S) (fun _ h' e => by have e : h' = h := e; rw [e]; exact K) fun T vm0 locs X hZ hf eT N => ?_
  obtain ⟨T', X', e', st⟩ := castY X o.1 (Z := Z) hZ (by rw [← o.hown]; exact hf) w eT F (g := mkF C.m pc L (.ref a :: S)) rfl rfl (hb o.2.1 d)
  exact ⟨(), T', locs, h, rfl, X', e', N, Mv.refl, st⟩
theorem g_initO (o : Ok C Z a0 b ml ret nm own rm) {ix : Nat} {a : Addr} (d : decode b pc = .ok (.invokespecial ix, 3)) (w1 : (Jvm.Cond.methodLink own ix Lib.objectInit).before a0 Z = true) (w2 : (Jvm.Cond.instanceMethod Lib.objectInit).before a0 Z = true) (w3 : (Jvm.Cond.code Lib.objectInit ⟨#[0xb1]⟩ 1 none).before a0 Z = true) (hL : L.size = ml) (hf : 1 ≤ rm.frames) (hl : (S.map fun v => v.category).sum + 12 ≤ rm.locals)
    (K : Go C Z n0 Q M h k n (pc + 3) L S) : Go C Z n0 Q M h k n pc L (.ref a :: S) := by
  refine Go.via (ι := Unit) (P := fun _ h' => h' = h) (S' := fun _ => S) (fun _ h' e => by have e : h' = h := e; rw [e]; exact K) fun T vm0 locs X hZ hfc eT N => ?_
  obtain ⟨T', X', e', st⟩ := initO X o.1 (Z := Z) hZ (by rw [← o.hown]; exact hfc) w1 w2 w3 eT (g := mkF C.m pc L (.ref a :: S)) rfl (hL.trans o.2.2.1.symm) rfl (hb o.2.1 d) (by rw [o.R]; exact hf) (W := (S.map fun v => v.category).sum) (by show 2 * 0 + _ ≤ _; omega) (by rw [o.R]; exact hl)
  exact ⟨(), T', locs, h, rfl, X', e', N, Mv.refl, st⟩
/-! calls -/
abbrev BackQ (C : Cx) (vm0 : Vm) (y : MethodName) (W : Nat) (as : Array Value) (h : Heap) (kc ks : Nat) (P : Option Value → Heap → List Loc → Prop) : Prop :=
  Back C.l C.R C.p C.e C.below (C.s.setVm vm0) C.args y 3 W (fun A a => a = as ∧ A.U.heap = h ∧ A.cells + kc ≤ C.R.cells ∧ A.slots + ks ≤ C.R.slots) (fun A _ v B => ∃ L, P v B.U.heap L ∧ B.locs = A.locs ++ L ∧ B.cells = A.cells + kc ∧ B.slots = A.slots + ks)
abbrev wt (S : List Value) : Nat := (S.map fun v => v.category).sum
theorem g_static (o : Ok C Z a0 b ml ret nm own rm) {ix mL kc ks W : Nat} {y : MethodName} {by' : ByteArray} {rt : Option FieldType} {P : Option Value → Heap → List Loc → Prop} {Q' : Option Value → Heap → Prop} {ps : List FieldType} {r : Option FieldType} (as rest : List Value) (d : decode b pc = .ok (.invokestatic ix, 3))
    (w1 : (Jvm.Cond.methodLink own ix y).before a0 Z = true) (w2 : (Jvm.Cond.static y).before a0 Z = true) (w3 : (Jvm.Cond.initialized y.cls).before a0 Z = true) (w4 : (Jvm.Cond.code y by' mL rt).before a0 Z = true) (hy : y.cls ≠ "java/lang/invoke/MethodHandle" ∧ y.cls ≠ "java/lang/invoke/VarHandle")
    (B : ∀ vm0, Z.Warmed39 vm0 → BackQ C vm0 y W as.toArray h kc ks P) (hP : ∀ v h' L, P v h' L → Q' v h' ∧ Fr n0 L ∧ h.size ≤ h'.size) (hmv : C.EL = [] ∨ ∀ v h', Q' v h' → Mv C Z M M h h') (hpd : parseMethodDescriptor y.desc = some ⟨ps, r⟩) (hlen : as.length = ps.length) (hS : S = as.reverse ++ rest) (hW : wt rest = W) (hL : L.size = ml) (hc : k + kc ≤ rm.cells) (hl : n + ks ≤ rm.slots)
    (K : ∀ v h', Q' v h' → Go C Z n0 Q M h' (k + kc) (n + ks) (pc + 3) L (v.toList ++ rest)) : Go C Z n0 Q M h k n pc L S := by
  subst hS
  refine Go.via (ι := Option Value) (P := Q') (S' := fun v => v.toList ++ rest) K fun T vm0 locs X hZ hf eT N => ?_
  obtain ⟨v, vm₁, ⟨T', L', k', n'⟩, -, X', ⟨Lc, hQ, l1, l2, l3⟩, st⟩ := Jvm.LawKit.callS X o.1 (y := y) (own := own) (by rw [← o.hown]; exact hf) (mvT (s := C.s.setVm vm0) hZ w1) (mvT (s := C.s.setVm vm0) hZ w2) (mvT (s := C.s.setVm vm0) hZ w3) (mvT (s := C.s.setVm vm0) hZ w4) hy (B vm0 hZ) (g := mkF C.m pc L (as.reverse ++ rest)) rfl (hL.trans o.2.2.1.symm) (argsL := as) (rest := rest) (lenOf hpd hlen) rfl (by show 2 * 0 + wt rest ≤ _; omega) (hb o.2.1 d) (fun _ _ => ⟨rfl, eT, by rw [o.R]; exact hc, by rw [o.R]; exact hl⟩)
  dsimp only [Pt.U, Pt.locs, Pt.cells, Pt.slots] at X' hQ l1 l2 l3 st
  subst l1 l2 l3
  obtain ⟨q1, q2, q3⟩ := hP _ _ _ hQ
  exact ⟨v, T', _, _, q1, X', rfl, N.app q2, hmv.elim (fun hE => Mv.triv hE q3) (fun f => f _ _ q1), st⟩
theorem g_special (o : Ok C Z a0 b ml ret nm own rm) {ix mL kc ks W : Nat} {y : MethodName} {by' : ByteArray} {P : Option Value → Heap → List Loc → Prop} {Q' : Option Value → Heap → Prop} {ps : List FieldType} {r : Option FieldType} (a : Addr) (as rest : List Value) (d : decode b pc = .ok (.invokespecial ix, 3)) (hy1 : y.name = "<init>")
    (w1 : (Jvm.Cond.methodLink own ix y).before a0 Z = true) (w2 : (Jvm.Cond.instanceMethod y).before a0 Z = true) (w4 : (Jvm.Cond.code y by' mL none).before a0 Z = true) (hy : y.cls ≠ "java/lang/invoke/MethodHandle" ∧ y.cls ≠ "java/lang/invoke/VarHandle")
    (B : ∀ vm0, Z.Warmed39 vm0 → BackQ C vm0 y W (.ref a :: as).toArray h kc ks P) (hP : ∀ v h' L, P v h' L → Q' v h' ∧ Fr n0 L ∧ h.size ≤ h'.size) (hmv : C.EL = [] ∨ ∀ v h', Q' v h' → Mv C Z M M h h') (hpd : parseMethodDescriptor y.desc = some ⟨ps, r⟩) (hlen : as.length = ps.length) (hS : S = as.reverse ++ .ref a :: rest) (hW : wt rest = W) (hL : L.size = ml) (hc : k + kc ≤ rm.cells) (hl : n + ks ≤ rm.slots)
    (K : ∀ v h', Q' v h' → Go C Z n0 Q M h' (k + kc) (n + ks) (pc + 3) L (v.toList ++ rest)) : Go C Z n0 Q M h k n pc L S := by
  subst hS
  refine Go.via (ι := Option Value) (P := Q') (S' := fun v => v.toList ++ rest) K fun T vm0 locs X hZ hf eT N => ?_
  obtain ⟨v, vm₁, ⟨T', L', k', n'⟩, -, X', ⟨Lc, hQ, l1, l2, l3⟩, st⟩ := X.specialBack o.1 (y := y) (own := own) hy1 (by rw [← o.hown]; exact hf) (mvT (s := C.s.setVm vm0) hZ w1) (mvT (s := C.s.setVm vm0) hZ w2) (mvT (s := C.s.setVm vm0) hZ w4) hy (B vm0 hZ) (g := mkF C.m pc L (as.reverse ++ .ref a :: rest)) rfl (hL.trans o.2.2.1.symm) (Steps.refl _) (a := a) (argsL := as) (rest := rest) (lenOf hpd hlen) rfl (by show 2 * 0 + wt rest ≤ _; omega) (hb o.2.1 d) (fun _ _ => ⟨rfl, eT, by rw [o.R]; exact hc, by rw [o.R]; exact hl⟩)
  dsimp only [Pt.U, Pt.locs, Pt.cells, Pt.slots] at X' hQ l1 l2 l3 st
  subst l1 l2 l3
  obtain ⟨q1, q2, q3⟩ := hP _ _ _ hQ
  exact ⟨v, T', _, _, q1, X', rfl, N.app q2, hmv.elim (fun hE => Mv.triv hE q3) (fun f => f _ _ q1), fun target z => st.trans z⟩
theorem g_virtual (o : Ok C Z a0 b ml ret nm own rm) {ix kc ks W : Nat} {Cn : String} {y z : MethodName} {P : Option Value → Heap → List Loc → Prop} {Q' : Option Value → Heap → Prop} {ps : List FieldType} {r : Option FieldType} (a : Addr) (as rest : List Value) (d : decode b pc = .ok (.invokevirtual ix, 3))
    (w1 : (Jvm.Cond.methodLink own ix y).before a0 Z = true) (w2 : (Jvm.Cond.declares y).before a0 Z = true) (w3 : (Jvm.Cond.selects Cn y z).before a0 Z = true) (w4 : (Jvm.Cond.instanceMethod z).before a0 Z = true) (nf : ∀ s : State, (Jvm.Cond.selects Cn y z).before C.args s = true → NotFace s y) (hy : y.cls ≠ "java/lang/invoke/MethodHandle" ∧ y.cls ≠ "java/lang/invoke/VarHandle") (E : Exa Z h a Cn)
    (B : ∀ vm0, Z.Warmed39 vm0 → BackQ C vm0 z W (.ref a :: as).toArray h kc ks P) (hP : ∀ v h' L, P v h' L → Q' v h' ∧ Fr n0 L ∧ h.size ≤ h'.size) (hmv : C.EL = [] ∨ ∀ v h', Q' v h' → Mv C Z M M h h') (hpd : parseMethodDescriptor y.desc = some ⟨ps, r⟩) (hlen : as.length = ps.length) (hS : S = as.reverse ++ .ref a :: rest) (hW : wt rest = W) (hL : L.size = ml) (hc : k + kc ≤ rm.cells) (hl : n + ks ≤ rm.slots)
    (K : ∀ v h', Q' v h' → Go C Z n0 Q M h' (k + kc) (n + ks) (pc + 3) L (v.toList ++ rest)) : Go C Z n0 Q M h k n pc L S := by
  subst hS
  refine Go.via (ι := Option Value) (P := Q') (S' := fun v => v.toList ++ rest) K fun T vm0 locs X hZ hf eT N => ?_
  obtain ⟨cq, kq, qa, qb, qc⟩ := isOf (s := C.s.setVm vm0) (T := T) hZ eT E
  have hsel := mvT (s := C.s.setVm vm0) (args := C.args) hZ w3
  obtain ⟨v, vm₁, ⟨T', L', k', n'⟩, -, X', ⟨Lc, hQ, l1, l2, l3⟩, st⟩ := X.virtualBack o.1 (y := y) (z := z) (own := own) (by rw [← o.hown]; exact hf) (mvT (s := C.s.setVm vm0) hZ w1) (mvT (s := C.s.setVm vm0) hZ w2) (nf _ hsel) hsel (mvT (s := C.s.setVm vm0) hZ w4) hy (B vm0 hZ) qa qc (g := mkF C.m pc L (as.reverse ++ .ref a :: rest)) rfl (hL.trans o.2.2.1.symm) (Steps.refl _) (argsL := as) (rest := rest) (lenOf hpd hlen) rfl (by show 2 * 0 + wt rest ≤ _; omega) (hb o.2.1 d) (fun _ _ => ⟨rfl, eT, by rw [o.R]; exact hc, by rw [o.R]; exact hl⟩)
  dsimp only [Pt.U, Pt.locs, Pt.cells, Pt.slots] at X' hQ l1 l2 l3 st
  subst l1 l2 l3
  obtain ⟨q1, q2, q3⟩ := hP _ _ _ hQ
  exact ⟨v, T', _, _, q1, X', rfl, N.app q2, hmv.elim (fun hE => Mv.triv hE q3) (fun f => f _ _ q1), fun target z => st.trans z⟩
/-! contracts -/
def Met (l : Launch) (Z : State) (n0 : Nat) (y : MethodName) (b : ByteArray) (ml : Nat) (ret : Option FieldType) (rm : Room) (as : Array Value) (h : Heap) (Q : Option Value → Heap → Prop) : Prop :=
  MetFree l y (head1 [Jvm.Cond.code y b ml ret] rm) (fun a U => a = as ∧ Z.Warmed39 U.vm ∧ U.heap = h) (fun _ _ _ _ _ => True) (fun _ U o U' => ∃ v L, o = .returned v ∧ (Q v U'.heap ∧ Fr n0 L ∧ h.size ≤ U'.heap.size) ∧ FrameEnd U o U' L rm.cells rm.slots)
def MetW (l : Launch) (Z : State) (n0 : Nat) (EL : List (String × Nat)) (y : MethodName) (b : ByteArray) (ml : Nat) (ret : Option FieldType) (rm : Room) (as : Array Value) (h : Heap) (Q : Option Value → Heap → Prop) : Prop :=
  MetFree l y (head1 [Jvm.Cond.code y b ml ret] rm) (fun a U => a = as ∧ Z.Warmed39 U.vm ∧ U.heap = h ∧ CHv Z EL U.vm h) (fun _ _ _ _ _ => True) (fun _ U o U' => ∃ v L, o = .returned v ∧ (Q v U'.heap ∧ Fr n0 L ∧ h.size ≤ U'.heap.size) ∧ CHr Z EL U.vm U.heap U'.vm U'.heap ∧ ReturnedEndW U o U' L rm.cells rm.slots)
theorem go_body {l : Launch} {y : MethodName} {S : Spec} {p : Program} {e : Env} {s : State} {m : MethodId} {args : Array Value} {below : List Frame} {meth : Method} {c : Code} {s₁ : State} (hR : S.room = rm) (Bd : BodyLoose p l y S b ml ret e s m args below meth c s₁) (hml : c.maxLocals = ml) (hw : ∀ d ∈ tables_1, d.before a0 Z = true) (wide : Bool) (EL : List (String × Nat)) (hEW : EW Z a0 EL) (hZ : Z.Warmed39 s.vm) (hh : s.heap = h) (hCH : CHv Z EL s.vm h) (hM : ∀ x ∈ M, x < h.size ∧ Safe Z EL s.vm h x)
    (he : entryFrame m args ml = mkF m 0 L []) (K : ∀ C : Cx, C.l = l → C.wide = wide → C.EL = EL → Ok C Z a0 b ml ret y.name y.cls rm → Go C Z n0 Q M h 0 0 0 L []) :
    ∃ s₂ o, Steps p.tables e below (s₁.setTop (entryFrame m args ml)) s₂ ∧ s₂.status = .running ∧ Ended s₂ below o ∧ ∃ v Lc, o = .returned v ∧ (Q v s₂.heap ∧ Fr n0 Lc ∧ h.size ≤ s₂.heap.size) ∧ CHr Z EL s.vm s.heap s₂.vm s₂.heap ∧ (wide = true → ReturnedEndW s o s₂ Lc rm.cells rm.slots) ∧ (wide = false → FrameEnd s o s₂ Lc rm.cells rm.slots) := by
  have hown : s.vm.findClass y.cls = some m.cls := findClass_of_methodNamed Bd.named
  have hnm := (name_of_methodNamed Bd.named Bd.method).1
  have X0 : Stand p l e rm s m args below meth c s₁ [] 0 0 := by rw [← hR]; exact Stand.of_body Bd
  have e0 : s₁.heap = h := by rw [← hh, Bd.state]; rfl
  obtain ⟨s₂, o, st, r1, r2, v, Lc, r3, r4, r5⟩ := K ((p, l, e, rm), (s, m, args, below), (meth, c), (rm.cells, rm.slots, wide, y.cls, EL)) rfl rfl rfl ⟨Bd.exec, Bd.bytes, hml, Bd.returns, hnm, rfl, rfl, Bd.notSynchronized, rfl, rfl, hEW, hw⟩ s₁
    ⟨s.vm, [], s.heap.size, X0, e0, hZ, hown, ⟨State.Warmed39.refl s, fun j p hj hp => absurd (Array.getElem?_eq_some_iff.mp hp).1 (Nat.not_lt.mpr hj)⟩, by rw [hh]; exact Nat.le_refl _, Fr.nil n0, Or.inr rfl, by rw [← hh] at hCH ⊢; exact CHr.refl hCH, hM⟩
  refine ⟨s₂, o, castTop he st, r1, r2, v, Lc, r3, ⟨r4.1, r4.2.1, by rw [← hh]; exact r4.2.2⟩, r5⟩
theorem met_of {l : Launch} {y : MethodName} {as : Array Value} (hp : plainName y.cls = true) (hw : ∀ d ∈ tables_1, d.before a0 Z = true) (he : ∀ m, entryFrame m as ml = mkF m 0 L [])
    (K : ∀ C : Cx, C.l = l → C.wide = false → C.EL = [] → Ok C Z a0 b ml ret y.name y.cls rm → Go C Z n0 Q [] h 0 0 0 L []) : Met l Z n0 y b ml ret rm as h Q := by
  refine MetFree.of_bodySF (plainFor_of_name hp) hisR ?_
  intro p e s m args below meth c s₁ Bd hml hP _
  obtain ⟨rfl, hZ, hh⟩ := hP
  obtain ⟨s₂, o, r⟩ := go_body rfl Bd hml hw false [] EW.nil hZ hh (fun p hp => by cases hp) (fun x hx => by cases hx) (he m) K
  exact ⟨s₂, o, r.1, r.2.1, r.2.2.1, by obtain ⟨v, Lc, q1, q2, -, q3, q4⟩ := r.2.2.2; exact ⟨v, Lc, q1, q2, q4 rfl⟩⟩
theorem metW_of {l : Launch} {y : MethodName} {as : Array Value} {EL : List (String × Nat)} (hp : plainName y.cls = true) (hw : ∀ d ∈ tables_1, d.before a0 Z = true) (hEW : EW Z a0 EL) (he : ∀ m, entryFrame m as ml = mkF m 0 L [])
    (K : ∀ C : Cx, C.l = l → C.wide = true → C.EL = EL → Ok C Z a0 b ml ret y.name y.cls rm → Go C Z n0 Q [] h 0 0 0 L []) : MetW l Z n0 EL y b ml ret rm as h Q := by
  refine MetFree.of_bodySF (plainFor_of_name hp) hisR ?_
  intro p e s m args below meth c s₁ Bd hml hP _
  obtain ⟨rfl, hZ, hh, hCH⟩ := hP
  obtain ⟨s₂, o, r⟩ := go_body rfl Bd hml hw true EL hEW hZ hh hCH (fun x hx => by cases hx) (he m) K
  exact ⟨s₂, o, r.1, r.2.1, r.2.2.1, by obtain ⟨v, Lc, q1, q2, q5, q3, q4⟩ := r.2.2.2; exact ⟨v, Lc, q1, q2, q5, q3 rfl⟩⟩
theorem Met.back {y : MethodName} {as : Array Value} {mL : Nat} {by' : ByteArray} {rt : Option FieldType} {rm' : Room} {Q' : Option Value → Heap → Prop} {W : Nat} (o : Ok C Z a0 b ml ret nm own rm) (M : Met C.l Z n0 y by' mL rt rm' as h Q') (w4 : (Jvm.Cond.code y by' mL rt).before a0 Z = true) (w3 : (Jvm.Cond.initialized y.cls).before a0 Z = true) (hf : rm'.frames + 1 ≤ rm.frames) (hl : W + (mL + 11) + rm'.locals ≤ rm.locals) :
    ∀ vm0, Z.Warmed39 vm0 → BackQ C vm0 y W as h rm'.cells rm'.slots (fun v h' L => Q' v h' ∧ Fr n0 L ∧ h.size ≤ h'.size) := fun vm0 hZ =>
  backOf (s := C.s.setVm vm0) (Z := Z) (a0 := a0) (h := h) (Q := fun v h' L => Q' v h' ∧ Fr n0 L ∧ h.size ≤ h'.size) M hZ w4 w3 (by rw [o.R]; exact hf) (by rw [o.R]; exact hl)
end Cal
/-! own text: small facts -/
section Ext1
variable {Z : State} {a0 : Array Value} {h h' h0 : Heap} {n0 : Nat} {a b : Addr} {ws : List Addr}
theorem ne_new (hb : b = h.size) (q : a < h.size) : a ≠ b := fun e => Nat.lt_irrefl _ (by rw [e, ← hb] at q; exact q)
theorem Old.sz (X : Old Z n0 h) : n0 ≤ h.size := by rw [← X.1]; exact X.2.1
theorem ge_new (hb : b = h.size) (X : Old Z n0 h) : n0 ≤ b := by rw [hb]; exact Old.sz X
theorem keep_new (hb : b = h.size) (K : Keep h0 h ws) : h0.size ≤ b := by rw [hb]; exact K.1
theorem cat_ref {v : Value} (q : v.isRef = true) : v.category = 1 := by rcases ref_cases q with rfl | ⟨z, rfl⟩ <;> rfl
theorem store_cat {l l' : Array Slot} {i : Nat} {v : Value} {o : Slot} (hold : l[i]? = some o) (ho : o = .unset ∨ ∃ w, o = .val w ∧ w.category = 1) (hv : v.category = 1) (e : l.setIfInBounds i (.val v) = l') : storeLocals l i v = some l' := e ▸ XS.store1 hold ho hv
theorem nref {t : FieldType} {v : Value} (ht : t.isReference = true) (q : v.isRef = true) : narrow t v = v := by rcases ref_cases q with rfl | ⟨z, rfl⟩ <;> cases t <;> first | rfl | (cases ht; done)
theorem fref {t : FieldType} {v : Value} (ht : t.isReference = true) (q : v.isRef = true) : fits t v = true := by rcases ref_cases q with rfl | ⟨z, rfl⟩ <;> cases t <;> first | rfl | (cases ht; done)
theorem nz {x : Int32} (q : nar .boolean x = x) : narrow .boolean (.int x) = .int x := congrArg Value.int q
theorem fz {x : Int32} (q : nar .boolean x = x) : fits .boolean (.int x) = true := by rw [← q]; exact fits_nar_bool x
/-- w is no String and no byte[] of the heap -/
def Off (Z : State) (h : Heap) (w : Addr) : Prop := (∀ x, Exa Z h x "java/lang/String" → x ≠ w) ∧ ∀ (t : Addr) (k : ClassId) (z : Int32) (vs : List Value) (d : Value), Arv Z h t k .byte z vs d → t ≠ w
theorem Off.exa {Cn : String} {nf : Nat} (E : Exa Z h a Cn) (hn : Cn ≠ "java/lang/String") (wi : (Jvm.Cond.instantiable Cn nf).before a0 Z = true) : Off Z h a :=
  ⟨fun x F => F.ne E hn.symm, fun t k z vs d F => (E.neArv F wi).symm⟩
theorem arv_ty {k k' : ClassId} {t t' : FieldType} {z z' : Int32} {vs vs' : List Value} {d d' : Value} (A : Arv Z h a k t z vs d) (B : Arv Z h a k' t' z' vs' d') : t = t' := by
  obtain ⟨c, A1, -⟩ := A
  obtain ⟨c', B1, -⟩ := B
  cases A1.1.symm.trans B1.1
  obtain ⟨-, k1, j1, c1, j2⟩ := A1.2.1
  obtain ⟨-, k2, i1, c2, i2⟩ := B1.2.1
  cases j1.symm.trans i1
  rw [j2] at i2
  cases i2
  rfl
theorem Off.arv {k : ClassId} {t : FieldType} {z : Int32} {vs : List Value} {d : Value} (A : Arv Z h a k t z vs d) (ht : t ≠ .byte) (wi : (Jvm.Cond.instantiable "java/lang/String" 4).before a0 Z = true) : Off Z h a :=
  ⟨fun x F e => F.neArv (b := a) A wi e, fun t' k' z' vs' d' F e => by subst e; exact ht (arv_ty A F)⟩
theorem Off.new (q : h.size ≤ a) : Off Z h a := ⟨fun x F e => by subst e; exact Nat.not_lt.mpr q F.lt, fun t k z vs d F e => by subst e; exact Nat.not_lt.mpr q F.lt⟩
/-- no object of the class C is one of the class K -/
theorem no_inst {Cn Sn Kn : String} {nf : Nat} (w : (Jvm.Cond.superclass Cn Sn).before a0 Z = true) (w0 : (Jvm.Cond.noSuperclass Sn).before a0 Z = true) (wk : (Jvm.Cond.instantiable Kn nf).before a0 Z = true) (h1 : Cn ≠ Kn) (h2 : Sn ≠ Kn) : ∃ c t, Z.vm.findClass Cn = some c ∧ Z.vm.findClass Kn = some t ∧ Z.vm.assignable c t = false := by
  obtain ⟨t, kt, g1, g2, g3, g4⟩ := Cond.instantiable_spec wk
  obtain ⟨cs, ks, s1, s2, s3, -, -⟩ := Cond.noSuperclass_spec w0
  have ne2 := ids_ne s1 g1 h2
  have nroot : NS Z Sn Kn := ⟨cs, t, s1, g1, fun fuel => by
    cases fuel with
    | zero => rfl
    | succ f => simp [Vm.isSubclassAux, ne2, s2, s3]⟩
  have n := NS.step w nroot h1
  obtain ⟨c, t', h0, g0, n3⟩ := n
  cases g1.symm.trans g0
  obtain ⟨p, k, kp, p1, p2, p3, p4, p5, -, p7⟩ := Cond.superclass_spec h0 w
  have ne := ids_ne h0 g1 h1
  refine ⟨c, t, h0, g1, ?_⟩
  show Z.vm.assignableAux (255 + 1) c t = false
  have g5 : kt.isInterface = false := by have q := g4.1; simp only [Bool.or_eq_false_iff] at q; exact q.1
  simp [Vm.assignableAux, ne, p2, g2, p5, g3, g5, Vm.isSubclass, n3]
theorem no_inst2 {Cn Rn Sn Kn : String} {nf : Nat} (w : (Jvm.Cond.superclass Cn Rn).before a0 Z = true) (w1 : (Jvm.Cond.superclass Rn Sn).before a0 Z = true) (w0 : (Jvm.Cond.noSuperclass Sn).before a0 Z = true) (wk : (Jvm.Cond.instantiable Kn nf).before a0 Z = true) (h1 : Cn ≠ Kn) (h3 : Rn ≠ Kn) (h2 : Sn ≠ Kn) : ∃ c t, Z.vm.findClass Cn = some c ∧ Z.vm.findClass Kn = some t ∧ Z.vm.assignable c t = false := by
  obtain ⟨t, kt, g1, g2, g3, g4⟩ := Cond.instantiable_spec wk
  obtain ⟨cs, ks, s1, s2, s3, -, -⟩ := Cond.noSuperclass_spec w0
  have ne2 := ids_ne s1 g1 h2
  have nroot : NS Z Sn Kn := ⟨cs, t, s1, g1, fun fuel => by
    cases fuel with
    | zero => rfl
    | succ f => simp [Vm.isSubclassAux, ne2, s2, s3]⟩
  have n := NS.step w (NS.step w1 nroot h3) h1
  obtain ⟨c, t', h0, g0, n3⟩ := n
  cases g1.symm.trans g0
  obtain ⟨p, k, kp, p1, p2, p3, p4, p5, -, p7⟩ := Cond.superclass_spec h0 w
  have ne := ids_ne h0 g1 h1
  refine ⟨c, t, h0, g1, ?_⟩
  show Z.vm.assignableAux (255 + 1) c t = false
  have g5 : kt.isInterface = false := by have q := g4.1; simp only [Bool.or_eq_false_iff] at q; exact q.1
  simp [Vm.assignableAux, ne, p2, g2, p5, g3, g5, Vm.isSubclass, n3]
end Ext1
section Ext2
variable {C : Cx} {Z : State} {a0 : Array Value} {b : ByteArray} {ml : Nat} {ret : Option FieldType} {nm own : String} {rm : Room} {n0 : Nat} {Q : Option Value → Heap → Prop} {M : List Addr} {h : Heap} {k n pc : Nat} {L : Array Slot} {S : List Value}
theorem g_instN (o : Ok C Z a0 b ml ret nm own rm) {ix : Nat} {a : Addr} {Kn Cn : String} (d : decode b pc = .ok (.instanceof ix, 3)) (w : (Jvm.Cond.classLink own ix Kn).before a0 Z = true) (E : Exa Z h a Cn) (F : ∃ c t, Z.vm.findClass Cn = some c ∧ Z.vm.findClass Kn = some t ∧ Z.vm.assignable c t = false) (K : Go C Z n0 Q M h k n (pc + 3) L (.int 0 :: S)) : Go C Z n0 Q M h k n pc L (.ref a :: S) := by
  refine Go.via (ι := Unit) (P := fun _ h' => h' = h) (S' := fun _ => .int 0 :: S) (fun _ h' e => by have e : h' = h := e; rw [e]; exact K) fun T vm0 locs X hZ hf eT N => ?_
  obtain ⟨T', X', e', st⟩ := instNo X o.1 (Z := Z) hZ (by rw [← o.hown]; exact hf) w eT E F (g := mkF C.m pc L (.ref a :: S)) rfl rfl (hb o.2.1 d)
  exact ⟨(), T', locs, h, rfl, X', e', N, Mv.refl, st⟩
theorem g_instNull (o : Ok C Z a0 b ml ret nm own rm) {ix : Nat} (d : decode b pc = .ok (.instanceof ix, 3)) (K : Go C Z n0 Q M h k n (pc + 3) L (.int 0 :: S)) : Go C Z n0 Q M h k n pc L (.null :: S) :=
  K.by fun T vm0 locs target X _ _ _ st => instanceofNull X o.1 (g := mkF C.m pc L (.null :: S)) rfl rfl (hb o.2.1 d) _ st
theorem law_of {l : Launch} {y : MethodName} {as : Array Value} {ws : List Jvm.Cond} (hp : plainName y.cls = true) (hw : ∀ d ∈ tables_1, d.before a0 Z = true) (he : ∀ m, entryFrame m as ml = mkF m 0 L []) (wide : Bool) (EL : List (String × Nat)) (hEW : EW Z a0 EL) (hCH : CHv Z EL Z.vm h)
    (K : ∀ C : Cx, C.l = l → C.wide = wide → C.EL = EL → Ok C Z a0 b ml ret y.name y.cls rm → Go C Z n0 Q [] h 0 0 0 L []) : MetFree l y (head1 (Jvm.Cond.code y b ml ret :: ws) rm) (fun a U => a = as ∧ Z.Warmed39 U.vm ∧ U.vm = Z.vm ∧ U.heap = h) (fun _ _ _ _ _ => True) (fun _ U o U' => ∃ v L, o = .returned v ∧ (Q v U'.heap ∧ Fr n0 L) ∧ (wide = true → ReturnedEndW U o U' L rm.cells rm.slots) ∧ (wide = false → FrameEnd U o U' L rm.cells rm.slots)) := by
  refine MetFree.of_bodySF (plainFor_of_name hp) hisR ?_
  intro p e s m args below meth c s₁ Bd hml hP _
  obtain ⟨rfl, hZ, hvm, hh⟩ := hP
  obtain ⟨s₂, o, r⟩ := go_body rfl Bd hml hw wide EL hEW hZ hh (by rw [hvm]; exact hCH) (fun x hx => by cases hx) (he m) K
  exact ⟨s₂, o, r.1, r.2.1, r.2.2.1, by obtain ⟨v, Lc, q1, q2, -, q3⟩ := r.2.2.2; exact ⟨v, Lc, q1, ⟨q2.1, q2.2.1⟩, q3⟩⟩
end Ext2
theorem wd_21 {a0 : Array Value} {Z : State} (hw : ∀ d ∈ tables_1, d.before a0 Z = true) : (Jvm.Cond.stringLink "java/lang/String" (7 : Nat) "").before a0 Z = true := hw _ (List.mem_of_getElem? (i := 21) rfl)
theorem wd_49 {a0 : Array Value} {Z : State} (hw : ∀ d ∈ tables_1, d.before a0 Z = true) : (Jvm.Cond.stringLink "com/example/protocols_under_attack/protocolsunderattack/term/Variable" (15 : Nat) "type").before a0 Z = true := hw _ (List.mem_of_getElem? (i := 49) rfl)
theorem wd_44 {a0 : Array Value} {Z : State} (hw : ∀ d ∈ tables_1, d.before a0 Z = true) : (Jvm.Cond.stringLink "com/example/protocols_under_attack/protocolsunderattack/term/Variable" (7 : Nat) "name").before a0 Z = true := hw _ (List.mem_of_getElem? (i := 44) rfl)
theorem wd_74 {a0 : Array Value} {Z : State} (hw : ∀ d ∈ tables_1, d.before a0 Z = true) : (Jvm.Cond.stringLink "com/example/protocols_under_attack/protocolsunderattack/term/Atom" (15 : Nat) "type").before a0 Z = true := hw _ (List.mem_of_getElem? (i := 74) rfl)
theorem wd_72 {a0 : Array Value} {Z : State} (hw : ∀ d ∈ tables_1, d.before a0 Z = true) : (Jvm.Cond.stringLink "com/example/protocols_under_attack/protocolsunderattack/term/Atom" (7 : Nat) "name").before a0 Z = true := hw _ (List.mem_of_getElem? (i := 72) rfl)
theorem d_jdk_42_method_149_0 : decode jdk_42_method_149_code 0 = .ok (.aload_n 0, 1) := by decide +kernel
theorem wd_18 {a0 : Array Value} {Z : State} (hw : ∀ d ∈ tables_1, d.before a0 Z = true) : (Jvm.Cond.methodLink "java/lang/String" (1 : Nat) ({ cls := "java/lang/Object", name := "<init>", desc := "()V" } : Jvm.MethodName)).before a0 Z = true := hw _ (List.mem_of_getElem? (i := 18) rfl)
theorem d_jdk_42_method_149_1 : decode jdk_42_method_149_code 1 = .ok (.invokespecial 1, 3) := by decide +kernel
theorem wd_19 {a0 : Array Value} {Z : State} (hw : ∀ d ∈ tables_1, d.before a0 Z = true) : (Jvm.Cond.instanceMethod ({ cls := "java/lang/Object", name := "<init>", desc := "()V" } : Jvm.MethodName)).before a0 Z = true := hw _ (List.mem_of_getElem? (i := 19) rfl)
theorem wd_20 {a0 : Array Value} {Z : State} (hw : ∀ d ∈ tables_1, d.before a0 Z = true) : (Jvm.Cond.code ({ cls := "java/lang/Object", name := "<init>", desc := "()V" } : Jvm.MethodName) object_method_1_code (1 : Nat) (Option.none : Option Jvm.ClassFile.FieldType)).before a0 Z = true := hw _ (List.mem_of_getElem? (i := 20) rfl)
theorem d_jdk_42_method_149_4 : decode jdk_42_method_149_code 4 = .ok (.iload_n 3, 1) := by decide +kernel
theorem d_jdk_42_method_149_5 : decode jdk_42_method_149_code 5 = .ok (.ifCond .ne 22, 3) := by decide +kernel
theorem d_jdk_42_method_149_8 : decode jdk_42_method_149_code 8 = .ok (.aload_n 0, 1) := by decide +kernel
theorem d_jdk_42_method_149_9 : decode jdk_42_method_149_code 9 = .ok (.ldc 7, 2) := by decide +kernel
theorem d_jdk_42_method_149_11 : decode jdk_42_method_149_code 11 = .ok (.getfield 9, 3) := by decide +kernel
theorem wd_27 {a0 : Array Value} {Z : State} (hw : ∀ d ∈ tables_1, d.before a0 Z = true) : (Jvm.Cond.fieldLink "java/lang/String" (9 : Nat) "java/lang/String" "value" "[B").before a0 Z = true := hw _ (List.mem_of_getElem? (i := 27) rfl)
theorem d_jdk_42_method_149_14 : decode jdk_42_method_149_code 14 = .ok (.putfield 9, 3) := by decide +kernel
theorem wd_23 {a0 : Array Value} {Z : State} (hw : ∀ d ∈ tables_1, d.before a0 Z = true) : (Jvm.Cond.laysFinal "java/lang/String" "java/lang/String" "value" "[B").before a0 Z = true := hw _ (List.mem_of_getElem? (i := 23) rfl)
theorem wd_8 {a0 : Array Value} {Z : State} (hw : ∀ d ∈ tables_1, d.before a0 Z = true) : (Jvm.Cond.instantiable "java/lang/String" (4 : Nat)).before a0 Z = true := hw _ (List.mem_of_getElem? (i := 8) rfl)
theorem d_jdk_42_method_149_17 : decode jdk_42_method_149_code 17 = .ok (.aload_n 0, 1) := by decide +kernel
theorem d_jdk_42_method_149_18 : decode jdk_42_method_149_code 18 = .ok (.ldc 7, 2) := by decide +kernel
theorem d_jdk_42_method_149_20 : decode jdk_42_method_149_code 20 = .ok (.getfield 15, 3) := by decide +kernel
theorem wd_28 {a0 : Array Value} {Z : State} (hw : ∀ d ∈ tables_1, d.before a0 Z = true) : (Jvm.Cond.fieldLink "java/lang/String" (15 : Nat) "java/lang/String" "coder" "B").before a0 Z = true := hw _ (List.mem_of_getElem? (i := 28) rfl)
theorem d_jdk_42_method_149_23 : decode jdk_42_method_149_code 23 = .ok (.putfield 15, 3) := by decide +kernel
theorem wd_24 {a0 : Array Value} {Z : State} (hw : ∀ d ∈ tables_1, d.before a0 Z = true) : (Jvm.Cond.laysFinal "java/lang/String" "java/lang/String" "coder" "B").before a0 Z = true := hw _ (List.mem_of_getElem? (i := 24) rfl)
theorem d_jdk_42_method_149_26 : decode jdk_42_method_149_code 26 = .ok (.return_, 1) := by decide +kernel
theorem pn_0 : plainName "java/lang/String" = true := by first | (simp [plainName, overriddenIn]; done) | decide +kernel
theorem d_jdk_42_method_3_0 : decode jdk_42_method_3_code 0 = .ok (.aload_n 0, 1) := by decide +kernel
theorem d_jdk_42_method_3_1 : decode jdk_42_method_3_code 1 = .ok (.aload_n 1, 1) := by decide +kernel
theorem d_jdk_42_method_3_2 : decode jdk_42_method_3_code 2 = .ok (.iconst 0, 1) := by decide +kernel
theorem d_jdk_42_method_3_3 : decode jdk_42_method_3_code 3 = .ok (.aload_n 1, 1) := by decide +kernel
theorem d_jdk_42_method_3_4 : decode jdk_42_method_3_code 4 = .ok (.arraylength, 1) := by decide +kernel
theorem d_jdk_42_method_3_5 : decode jdk_42_method_3_code 5 = .ok (.aconst_null, 1) := by decide +kernel
theorem wd_14 {a0 : Array Value} {Z : State} (hw : ∀ d ∈ tables_1, d.before a0 Z = true) : (Jvm.Cond.methodLink "java/lang/String" (27 : Nat) ({ cls := "java/lang/String", name := "<init>", desc := "([CIILjava/lang/Void;)V" } : Jvm.MethodName)).before a0 Z = true := hw _ (List.mem_of_getElem? (i := 14) rfl)
theorem d_jdk_42_method_3_6 : decode jdk_42_method_3_code 6 = .ok (.invokespecial 27, 3) := by decide +kernel
theorem wd_17 {a0 : Array Value} {Z : State} (hw : ∀ d ∈ tables_1, d.before a0 Z = true) : (Jvm.Cond.code ({ cls := "java/lang/String", name := "<init>", desc := "([CIILjava/lang/Void;)V" } : Jvm.MethodName) jdk_42_method_149_code (6 : Nat) (Option.none : Option Jvm.ClassFile.FieldType)).before a0 Z = true := hw _ (List.mem_of_getElem? (i := 17) rfl)
theorem wd_9 {a0 : Array Value} {Z : State} (hw : ∀ d ∈ tables_1, d.before a0 Z = true) : (Jvm.Cond.initialized "java/lang/String").before a0 Z = true := hw _ (List.mem_of_getElem? (i := 9) rfl)
theorem wd_15 {a0 : Array Value} {Z : State} (hw : ∀ d ∈ tables_1, d.before a0 Z = true) : (Jvm.Cond.instanceMethod ({ cls := "java/lang/String", name := "<init>", desc := "([CIILjava/lang/Void;)V" } : Jvm.MethodName)).before a0 Z = true := hw _ (List.mem_of_getElem? (i := 15) rfl)
theorem pd_0 : parseMethodDescriptor "([CIILjava/lang/Void;)V" = some ⟨[(.array .char), .int, .int, (.object "java/lang/Void")], none⟩ := by decide +kernel
theorem d_jdk_42_method_3_9 : decode jdk_42_method_3_code 9 = .ok (.return_, 1) := by decide +kernel
theorem d_method_3_0 : decode method_3_code 0 = .ok (.iload_n 0, 1) := by decide +kernel
theorem d_method_3_1 : decode method_3_code 1 = .ok (.ifCond .ne 14, 3) := by decide +kernel
theorem d_method_3_15 : decode method_3_code 15 = .ok (.iload_n 0, 1) := by decide +kernel
theorem d_method_3_16 : decode method_3_code 16 = .ok (.iconst 1, 1) := by decide +kernel
theorem d_method_3_17 : decode method_3_code 17 = .ok (.if_icmp .ne 18, 3) := by decide +kernel
theorem d_method_3_35 : decode method_3_code 35 = .ok (.new 40, 3) := by decide +kernel
theorem wd_7 {a0 : Array Value} {Z : State} (hw : ∀ d ∈ tables_1, d.before a0 Z = true) : (Jvm.Cond.classLink "com/example/protocols_under_attack/protocolsunderattack/term/VariableEqualsPinLaw" (40 : Nat) "java/lang/String").before a0 Z = true := hw _ (List.mem_of_getElem? (i := 7) rfl)
theorem d_method_3_38 : decode method_3_code 38 = .ok (.dup, 1) := by decide +kernel
theorem d_method_3_39 : decode method_3_code 39 = .ok (.iconst 2, 1) := by decide +kernel
theorem d_method_3_40 : decode method_3_code 40 = .ok (.newarray .char, 2) := by decide +kernel
theorem wd_10 {a0 : Array Value} {Z : State} (hw : ∀ d ∈ tables_1, d.before a0 Z = true) : (Jvm.Cond.arrayClass Jvm.ClassFile.FieldType.char).before a0 Z = true := hw _ (List.mem_of_getElem? (i := 10) rfl)
theorem d_method_3_42 : decode method_3_code 42 = .ok (.dup, 1) := by decide +kernel
theorem d_method_3_43 : decode method_3_code 43 = .ok (.iconst 0, 1) := by decide +kernel
theorem d_method_3_44 : decode method_3_code 44 = .ok (.iload_n 1, 1) := by decide +kernel
theorem d_method_3_45 : decode method_3_code 45 = .ok (.castore, 1) := by decide +kernel
theorem d_method_3_46 : decode method_3_code 46 = .ok (.dup, 1) := by decide +kernel
theorem d_method_3_47 : decode method_3_code 47 = .ok (.iconst 1, 1) := by decide +kernel
theorem d_method_3_48 : decode method_3_code 48 = .ok (.iload_n 2, 1) := by decide +kernel
theorem d_method_3_49 : decode method_3_code 49 = .ok (.castore, 1) := by decide +kernel
theorem wd_11 {a0 : Array Value} {Z : State} (hw : ∀ d ∈ tables_1, d.before a0 Z = true) : (Jvm.Cond.methodLink "com/example/protocols_under_attack/protocolsunderattack/term/VariableEqualsPinLaw" (42 : Nat) ({ cls := "java/lang/String", name := "<init>", desc := "([C)V" } : Jvm.MethodName)).before a0 Z = true := hw _ (List.mem_of_getElem? (i := 11) rfl)
theorem d_method_3_50 : decode method_3_code 50 = .ok (.invokespecial 42, 3) := by decide +kernel
theorem wd_12 {a0 : Array Value} {Z : State} (hw : ∀ d ∈ tables_1, d.before a0 Z = true) : (Jvm.Cond.instanceMethod ({ cls := "java/lang/String", name := "<init>", desc := "([C)V" } : Jvm.MethodName)).before a0 Z = true := hw _ (List.mem_of_getElem? (i := 12) rfl)
theorem wd_13 {a0 : Array Value} {Z : State} (hw : ∀ d ∈ tables_1, d.before a0 Z = true) : (Jvm.Cond.code ({ cls := "java/lang/String", name := "<init>", desc := "([C)V" } : Jvm.MethodName) jdk_42_method_3_code (2 : Nat) (Option.none : Option Jvm.ClassFile.FieldType)).before a0 Z = true := hw _ (List.mem_of_getElem? (i := 13) rfl)
theorem pd_1 : parseMethodDescriptor "([C)V" = some ⟨[(.array .char)], none⟩ := by decide +kernel
theorem d_method_3_53 : decode method_3_code 53 = .ok (.areturn, 1) := by decide +kernel
theorem d_method_3_20 : decode method_3_code 20 = .ok (.new 40, 3) := by decide +kernel
theorem d_method_3_23 : decode method_3_code 23 = .ok (.dup, 1) := by decide +kernel
theorem d_method_3_24 : decode method_3_code 24 = .ok (.iconst 1, 1) := by decide +kernel
theorem d_method_3_25 : decode method_3_code 25 = .ok (.newarray .char, 2) := by decide +kernel
theorem d_method_3_27 : decode method_3_code 27 = .ok (.dup, 1) := by decide +kernel
theorem d_method_3_28 : decode method_3_code 28 = .ok (.iconst 0, 1) := by decide +kernel
theorem d_method_3_29 : decode method_3_code 29 = .ok (.iload_n 1, 1) := by decide +kernel
theorem d_method_3_30 : decode method_3_code 30 = .ok (.castore, 1) := by decide +kernel
theorem d_method_3_31 : decode method_3_code 31 = .ok (.invokespecial 42, 3) := by decide +kernel
theorem d_method_3_34 : decode method_3_code 34 = .ok (.areturn, 1) := by decide +kernel
theorem d_method_3_4 : decode method_3_code 4 = .ok (.new 40, 3) := by decide +kernel
theorem d_method_3_7 : decode method_3_code 7 = .ok (.dup, 1) := by decide +kernel
theorem d_method_3_8 : decode method_3_code 8 = .ok (.iconst 0, 1) := by decide +kernel
theorem d_method_3_9 : decode method_3_code 9 = .ok (.newarray .char, 2) := by decide +kernel
theorem d_method_3_11 : decode method_3_code 11 = .ok (.invokespecial 42, 3) := by decide +kernel
theorem d_method_3_14 : decode method_3_code 14 = .ok (.areturn, 1) := by decide +kernel
theorem pn_1 : plainName "com/example/protocols_under_attack/protocolsunderattack/term/VariableEqualsPinLaw" = true := by first | (simp [plainName, overriddenIn]; done) | decide +kernel
theorem d_jdk_30_method_1_0 : decode jdk_30_method_1_code 0 = .ok (.aload_n 0, 1) := by decide +kernel
theorem wd_43 {a0 : Array Value} {Z : State} (hw : ∀ d ∈ tables_1, d.before a0 Z = true) : (Jvm.Cond.methodLink "java/lang/Record" (1 : Nat) ({ cls := "java/lang/Object", name := "<init>", desc := "()V" } : Jvm.MethodName)).before a0 Z = true := hw _ (List.mem_of_getElem? (i := 43) rfl)
theorem d_jdk_30_method_1_1 : decode jdk_30_method_1_code 1 = .ok (.invokespecial 1, 3) := by decide +kernel
theorem d_jdk_30_method_1_4 : decode jdk_30_method_1_code 4 = .ok (.return_, 1) := by decide +kernel
theorem pn_2 : plainName "java/lang/Record" = true := by first | (simp [plainName, overriddenIn]; done) | decide +kernel
theorem d_jdk_31_method_11_0 : decode jdk_31_method_11_code 0 = .ok (.aload_n 0, 1) := by decide +kernel
theorem d_jdk_31_method_11_1 : decode jdk_31_method_11_code 1 = .ok (.ifnonnull 12, 3) := by decide +kernel
theorem d_jdk_31_method_11_13 : decode jdk_31_method_11_code 13 = .ok (.aload_n 0, 1) := by decide +kernel
theorem d_jdk_31_method_11_14 : decode jdk_31_method_11_code 14 = .ok (.areturn, 1) := by decide +kernel
theorem pn_3 : plainName "java/util/Objects" = true := by first | (simp [plainName, overriddenIn]; done) | decide +kernel
theorem d_method_2_0 : decode method_2_code 0 = .ok (.iload_n 0, 1) := by decide +kernel
theorem d_method_2_1 : decode method_2_code 1 = .ok (.ifCond .ne 7, 3) := by decide +kernel
theorem d_method_2_8 : decode method_2_code 8 = .ok (.iload_n 0, 1) := by decide +kernel
theorem d_method_2_9 : decode method_2_code 9 = .ok (.iconst 1, 1) := by decide +kernel
theorem d_method_2_10 : decode method_2_code 10 = .ok (.if_icmp .ne 7, 3) := by decide +kernel
theorem d_method_2_17 : decode method_2_code 17 = .ok (.iload_n 0, 1) := by decide +kernel
theorem d_method_2_18 : decode method_2_code 18 = .ok (.iconst 2, 1) := by decide +kernel
theorem d_method_2_19 : decode method_2_code 19 = .ok (.if_icmp .ne 7, 3) := by decide +kernel
theorem d_method_2_26 : decode method_2_code 26 = .ok (.iload_n 0, 1) := by decide +kernel
theorem d_method_2_27 : decode method_2_code 27 = .ok (.iconst 3, 1) := by decide +kernel
theorem d_method_2_28 : decode method_2_code 28 = .ok (.if_icmp .ne 7, 3) := by decide +kernel
theorem d_method_2_35 : decode method_2_code 35 = .ok (.iload_n 0, 1) := by decide +kernel
theorem d_method_2_36 : decode method_2_code 36 = .ok (.iconst 4, 1) := by decide +kernel
theorem d_method_2_37 : decode method_2_code 37 = .ok (.if_icmp .ne 7, 3) := by decide +kernel
theorem d_method_2_44 : decode method_2_code 44 = .ok (.iload_n 0, 1) := by decide +kernel
theorem d_method_2_45 : decode method_2_code 45 = .ok (.iconst 5, 1) := by decide +kernel
theorem d_method_2_46 : decode method_2_code 46 = .ok (.if_icmp .ne 7, 3) := by decide +kernel
theorem d_method_2_53 : decode method_2_code 53 = .ok (.iload_n 0, 1) := by decide +kernel
theorem d_method_2_54 : decode method_2_code 54 = .ok (.bipush 6, 2) := by decide +kernel
theorem d_method_2_56 : decode method_2_code 56 = .ok (.if_icmp .ne 7, 3) := by decide +kernel
theorem d_method_2_63 : decode method_2_code 63 = .ok (.iload_n 0, 1) := by decide +kernel
theorem d_method_2_64 : decode method_2_code 64 = .ok (.bipush 7, 2) := by decide +kernel
theorem d_method_2_66 : decode method_2_code 66 = .ok (.if_icmp .ne 7, 3) := by decide +kernel
theorem d_method_2_73 : decode method_2_code 73 = .ok (.iload_n 0, 1) := by decide +kernel
theorem d_method_2_74 : decode method_2_code 74 = .ok (.bipush 8, 2) := by decide +kernel
theorem d_method_2_76 : decode method_2_code 76 = .ok (.if_icmp .ne 7, 3) := by decide +kernel
theorem d_method_2_83 : decode method_2_code 83 = .ok (.getstatic 37, 3) := by decide +kernel
theorem wd_113 {a0 : Array Value} {Z : State} (hw : ∀ d ∈ tables_1, d.before a0 Z = true) : (Jvm.Cond.fieldLink "com/example/protocols_under_attack/protocolsunderattack/term/VariableEqualsPinLaw" (37 : Nat) "com/example/protocols_under_attack/protocolsunderattack/term/Type" "MESSAGE" "Lcom/example/protocols_under_attack/protocolsunderattack/term/Type;").before a0 Z = true := hw _ (List.mem_of_getElem? (i := 113) rfl)
theorem d_method_2_86 : decode method_2_code 86 = .ok (.areturn, 1) := by decide +kernel
theorem d_method_2_79 : decode method_2_code 79 = .ok (.getstatic 34, 3) := by decide +kernel
theorem wd_90 {a0 : Array Value} {Z : State} (hw : ∀ d ∈ tables_1, d.before a0 Z = true) : (Jvm.Cond.fieldLink "com/example/protocols_under_attack/protocolsunderattack/term/VariableEqualsPinLaw" (34 : Nat) "com/example/protocols_under_attack/protocolsunderattack/term/Type" "SET" "Lcom/example/protocols_under_attack/protocolsunderattack/term/Type;").before a0 Z = true := hw _ (List.mem_of_getElem? (i := 90) rfl)
theorem d_method_2_82 : decode method_2_code 82 = .ok (.areturn, 1) := by decide +kernel
theorem d_method_2_69 : decode method_2_code 69 = .ok (.getstatic 31, 3) := by decide +kernel
theorem wd_115 {a0 : Array Value} {Z : State} (hw : ∀ d ∈ tables_1, d.before a0 Z = true) : (Jvm.Cond.fieldLink "com/example/protocols_under_attack/protocolsunderattack/term/VariableEqualsPinLaw" (31 : Nat) "com/example/protocols_under_attack/protocolsunderattack/term/Type" "CHANNEL" "Lcom/example/protocols_under_attack/protocolsunderattack/term/Type;").before a0 Z = true := hw _ (List.mem_of_getElem? (i := 115) rfl)
theorem d_method_2_72 : decode method_2_code 72 = .ok (.areturn, 1) := by decide +kernel
theorem d_method_2_59 : decode method_2_code 59 = .ok (.getstatic 28, 3) := by decide +kernel
theorem wd_117 {a0 : Array Value} {Z : State} (hw : ∀ d ∈ tables_1, d.before a0 Z = true) : (Jvm.Cond.fieldLink "com/example/protocols_under_attack/protocolsunderattack/term/VariableEqualsPinLaw" (28 : Nat) "com/example/protocols_under_attack/protocolsunderattack/term/Type" "HASH_FUNC" "Lcom/example/protocols_under_attack/protocolsunderattack/term/Type;").before a0 Z = true := hw _ (List.mem_of_getElem? (i := 117) rfl)
theorem d_method_2_62 : decode method_2_code 62 = .ok (.areturn, 1) := by decide +kernel
theorem d_method_2_49 : decode method_2_code 49 = .ok (.getstatic 25, 3) := by decide +kernel
theorem wd_63 {a0 : Array Value} {Z : State} (hw : ∀ d ∈ tables_1, d.before a0 Z = true) : (Jvm.Cond.fieldLink "com/example/protocols_under_attack/protocolsunderattack/term/VariableEqualsPinLaw" (25 : Nat) "com/example/protocols_under_attack/protocolsunderattack/term/Type" "PUBLIC_KEY" "Lcom/example/protocols_under_attack/protocolsunderattack/term/Type;").before a0 Z = true := hw _ (List.mem_of_getElem? (i := 63) rfl)
theorem d_method_2_52 : decode method_2_code 52 = .ok (.areturn, 1) := by decide +kernel
theorem d_method_2_40 : decode method_2_code 40 = .ok (.getstatic 22, 3) := by decide +kernel
theorem wd_119 {a0 : Array Value} {Z : State} (hw : ∀ d ∈ tables_1, d.before a0 Z = true) : (Jvm.Cond.fieldLink "com/example/protocols_under_attack/protocolsunderattack/term/VariableEqualsPinLaw" (22 : Nat) "com/example/protocols_under_attack/protocolsunderattack/term/Type" "SYMMETRIC_KEY" "Lcom/example/protocols_under_attack/protocolsunderattack/term/Type;").before a0 Z = true := hw _ (List.mem_of_getElem? (i := 119) rfl)
theorem d_method_2_43 : decode method_2_code 43 = .ok (.areturn, 1) := by decide +kernel
theorem d_method_2_31 : decode method_2_code 31 = .ok (.getstatic 19, 3) := by decide +kernel
theorem wd_88 {a0 : Array Value} {Z : State} (hw : ∀ d ∈ tables_1, d.before a0 Z = true) : (Jvm.Cond.fieldLink "com/example/protocols_under_attack/protocolsunderattack/term/VariableEqualsPinLaw" (19 : Nat) "com/example/protocols_under_attack/protocolsunderattack/term/Type" "PROTOCOL_ID" "Lcom/example/protocols_under_attack/protocolsunderattack/term/Type;").before a0 Z = true := hw _ (List.mem_of_getElem? (i := 88) rfl)
theorem d_method_2_34 : decode method_2_code 34 = .ok (.areturn, 1) := by decide +kernel
theorem d_method_2_22 : decode method_2_code 22 = .ok (.getstatic 16, 3) := by decide +kernel
theorem wd_32 {a0 : Array Value} {Z : State} (hw : ∀ d ∈ tables_1, d.before a0 Z = true) : (Jvm.Cond.fieldLink "com/example/protocols_under_attack/protocolsunderattack/term/VariableEqualsPinLaw" (16 : Nat) "com/example/protocols_under_attack/protocolsunderattack/term/Type" "NAT" "Lcom/example/protocols_under_attack/protocolsunderattack/term/Type;").before a0 Z = true := hw _ (List.mem_of_getElem? (i := 32) rfl)
theorem d_method_2_25 : decode method_2_code 25 = .ok (.areturn, 1) := by decide +kernel
theorem d_method_2_13 : decode method_2_code 13 = .ok (.getstatic 13, 3) := by decide +kernel
theorem wd_85 {a0 : Array Value} {Z : State} (hw : ∀ d ∈ tables_1, d.before a0 Z = true) : (Jvm.Cond.fieldLink "com/example/protocols_under_attack/protocolsunderattack/term/VariableEqualsPinLaw" (13 : Nat) "com/example/protocols_under_attack/protocolsunderattack/term/Type" "TEXT" "Lcom/example/protocols_under_attack/protocolsunderattack/term/Type;").before a0 Z = true := hw _ (List.mem_of_getElem? (i := 85) rfl)
theorem d_method_2_16 : decode method_2_code 16 = .ok (.areturn, 1) := by decide +kernel
theorem d_method_2_4 : decode method_2_code 4 = .ok (.getstatic 7, 3) := by decide +kernel
theorem wd_56 {a0 : Array Value} {Z : State} (hw : ∀ d ∈ tables_1, d.before a0 Z = true) : (Jvm.Cond.fieldLink "com/example/protocols_under_attack/protocolsunderattack/term/VariableEqualsPinLaw" (7 : Nat) "com/example/protocols_under_attack/protocolsunderattack/term/Type" "AGENT" "Lcom/example/protocols_under_attack/protocolsunderattack/term/Type;").before a0 Z = true := hw _ (List.mem_of_getElem? (i := 56) rfl)
theorem d_method_2_7 : decode method_2_code 7 = .ok (.areturn, 1) := by decide +kernel
theorem d_prog_98_method_1_0 : decode prog_98_method_1_code 0 = .ok (.aload_n 0, 1) := by decide +kernel
theorem wd_71 {a0 : Array Value} {Z : State} (hw : ∀ d ∈ tables_1, d.before a0 Z = true) : (Jvm.Cond.methodLink "com/example/protocols_under_attack/protocolsunderattack/term/Atom" (1 : Nat) ({ cls := "java/lang/Record", name := "<init>", desc := "()V" } : Jvm.MethodName)).before a0 Z = true := hw _ (List.mem_of_getElem? (i := 71) rfl)
theorem d_prog_98_method_1_1 : decode prog_98_method_1_code 1 = .ok (.invokespecial 1, 3) := by decide +kernel
theorem wd_42 {a0 : Array Value} {Z : State} (hw : ∀ d ∈ tables_1, d.before a0 Z = true) : (Jvm.Cond.code ({ cls := "java/lang/Record", name := "<init>", desc := "()V" } : Jvm.MethodName) jdk_30_method_1_code (1 : Nat) (Option.none : Option Jvm.ClassFile.FieldType)).before a0 Z = true := hw _ (List.mem_of_getElem? (i := 42) rfl)
theorem wd_41 {a0 : Array Value} {Z : State} (hw : ∀ d ∈ tables_1, d.before a0 Z = true) : (Jvm.Cond.initialized "java/lang/Record").before a0 Z = true := hw _ (List.mem_of_getElem? (i := 41) rfl)
theorem wd_39 {a0 : Array Value} {Z : State} (hw : ∀ d ∈ tables_1, d.before a0 Z = true) : (Jvm.Cond.instanceMethod ({ cls := "java/lang/Record", name := "<init>", desc := "()V" } : Jvm.MethodName)).before a0 Z = true := hw _ (List.mem_of_getElem? (i := 39) rfl)
theorem pd_2 : parseMethodDescriptor "()V" = some ⟨[], none⟩ := by decide +kernel
theorem d_prog_98_method_1_4 : decode prog_98_method_1_code 4 = .ok (.aload_n 1, 1) := by decide +kernel
theorem d_prog_98_method_1_5 : decode prog_98_method_1_code 5 = .ok (.ldc 7, 2) := by decide +kernel
theorem d_prog_98_method_1_7 : decode prog_98_method_1_code 7 = .ok (.invokestatic 9, 3) := by decide +kernel
theorem wd_73 {a0 : Array Value} {Z : State} (hw : ∀ d ∈ tables_1, d.before a0 Z = true) : (Jvm.Cond.methodLink "com/example/protocols_under_attack/protocolsunderattack/term/Atom" (9 : Nat) ({ cls := "java/util/Objects", name := "requireNonNull", desc := "(Ljava/lang/Object;Ljava/lang/String;)Ljava/lang/Object;" } : Jvm.MethodName)).before a0 Z = true := hw _ (List.mem_of_getElem? (i := 73) rfl)
theorem wd_48 {a0 : Array Value} {Z : State} (hw : ∀ d ∈ tables_1, d.before a0 Z = true) : (Jvm.Cond.code ({ cls := "java/util/Objects", name := "requireNonNull", desc := "(Ljava/lang/Object;Ljava/lang/String;)Ljava/lang/Object;" } : Jvm.MethodName) jdk_31_method_11_code (2 : Nat) (Option.some (Jvm.ClassFile.FieldType.object "java/lang/Object"))).before a0 Z = true := hw _ (List.mem_of_getElem? (i := 48) rfl)
theorem wd_47 {a0 : Array Value} {Z : State} (hw : ∀ d ∈ tables_1, d.before a0 Z = true) : (Jvm.Cond.initialized "java/util/Objects").before a0 Z = true := hw _ (List.mem_of_getElem? (i := 47) rfl)
theorem wd_46 {a0 : Array Value} {Z : State} (hw : ∀ d ∈ tables_1, d.before a0 Z = true) : (Jvm.Cond.static ({ cls := "java/util/Objects", name := "requireNonNull", desc := "(Ljava/lang/Object;Ljava/lang/String;)Ljava/lang/Object;" } : Jvm.MethodName)).before a0 Z = true := hw _ (List.mem_of_getElem? (i := 46) rfl)
theorem pd_3 : parseMethodDescriptor "(Ljava/lang/Object;Ljava/lang/String;)Ljava/lang/Object;" = some ⟨[(.object "java/lang/Object"), (.object "java/lang/String")], some (.object "java/lang/Object")⟩ := by decide +kernel
theorem d_prog_98_method_1_10 : decode prog_98_method_1_code 10 = .ok (.pop, 1) := by decide +kernel
theorem d_prog_98_method_1_11 : decode prog_98_method_1_code 11 = .ok (.aload_n 2, 1) := by decide +kernel
theorem d_prog_98_method_1_12 : decode prog_98_method_1_code 12 = .ok (.ldc 15, 2) := by decide +kernel
theorem d_prog_98_method_1_14 : decode prog_98_method_1_code 14 = .ok (.invokestatic 9, 3) := by decide +kernel
theorem d_prog_98_method_1_17 : decode prog_98_method_1_code 17 = .ok (.pop, 1) := by decide +kernel
theorem d_prog_98_method_1_18 : decode prog_98_method_1_code 18 = .ok (.aload_n 0, 1) := by decide +kernel
theorem d_prog_98_method_1_19 : decode prog_98_method_1_code 19 = .ok (.aload_n 1, 1) := by decide +kernel
theorem d_prog_98_method_1_20 : decode prog_98_method_1_code 20 = .ok (.putfield 17, 3) := by decide +kernel
theorem wd_75 {a0 : Array Value} {Z : State} (hw : ∀ d ∈ tables_1, d.before a0 Z = true) : (Jvm.Cond.fieldLink "com/example/protocols_under_attack/protocolsunderattack/term/Atom" (17 : Nat) "com/example/protocols_under_attack/protocolsunderattack/term/Atom" "name" "Ljava/lang/String;").before a0 Z = true := hw _ (List.mem_of_getElem? (i := 75) rfl)
theorem wd_76 {a0 : Array Value} {Z : State} (hw : ∀ d ∈ tables_1, d.before a0 Z = true) : (Jvm.Cond.laysFinal "com/example/protocols_under_attack/protocolsunderattack/term/Atom" "com/example/protocols_under_attack/protocolsunderattack/term/Atom" "name" "Ljava/lang/String;").before a0 Z = true := hw _ (List.mem_of_getElem? (i := 76) rfl)
theorem wd_66 {a0 : Array Value} {Z : State} (hw : ∀ d ∈ tables_1, d.before a0 Z = true) : (Jvm.Cond.instantiable "com/example/protocols_under_attack/protocolsunderattack/term/Atom" (3 : Nat)).before a0 Z = true := hw _ (List.mem_of_getElem? (i := 66) rfl)
theorem d_prog_98_method_1_23 : decode prog_98_method_1_code 23 = .ok (.aload_n 0, 1) := by decide +kernel
theorem d_prog_98_method_1_24 : decode prog_98_method_1_code 24 = .ok (.aload_n 2, 1) := by decide +kernel
theorem d_prog_98_method_1_25 : decode prog_98_method_1_code 25 = .ok (.putfield 22, 3) := by decide +kernel
theorem wd_77 {a0 : Array Value} {Z : State} (hw : ∀ d ∈ tables_1, d.before a0 Z = true) : (Jvm.Cond.fieldLink "com/example/protocols_under_attack/protocolsunderattack/term/Atom" (22 : Nat) "com/example/protocols_under_attack/protocolsunderattack/term/Atom" "type" "Lcom/example/protocols_under_attack/protocolsunderattack/term/Type;").before a0 Z = true := hw _ (List.mem_of_getElem? (i := 77) rfl)
theorem wd_78 {a0 : Array Value} {Z : State} (hw : ∀ d ∈ tables_1, d.before a0 Z = true) : (Jvm.Cond.laysFinal "com/example/protocols_under_attack/protocolsunderattack/term/Atom" "com/example/protocols_under_attack/protocolsunderattack/term/Atom" "type" "Lcom/example/protocols_under_attack/protocolsunderattack/term/Type;").before a0 Z = true := hw _ (List.mem_of_getElem? (i := 78) rfl)
theorem d_prog_98_method_1_28 : decode prog_98_method_1_code 28 = .ok (.aload_n 0, 1) := by decide +kernel
theorem d_prog_98_method_1_29 : decode prog_98_method_1_code 29 = .ok (.iload_n 3, 1) := by decide +kernel
theorem d_prog_98_method_1_30 : decode prog_98_method_1_code 30 = .ok (.putfield 25, 3) := by decide +kernel
theorem wd_79 {a0 : Array Value} {Z : State} (hw : ∀ d ∈ tables_1, d.before a0 Z = true) : (Jvm.Cond.fieldLink "com/example/protocols_under_attack/protocolsunderattack/term/Atom" (25 : Nat) "com/example/protocols_under_attack/protocolsunderattack/term/Atom" "number" "I").before a0 Z = true := hw _ (List.mem_of_getElem? (i := 79) rfl)
theorem wd_80 {a0 : Array Value} {Z : State} (hw : ∀ d ∈ tables_1, d.before a0 Z = true) : (Jvm.Cond.laysFinal "com/example/protocols_under_attack/protocolsunderattack/term/Atom" "com/example/protocols_under_attack/protocolsunderattack/term/Atom" "number" "I").before a0 Z = true := hw _ (List.mem_of_getElem? (i := 80) rfl)
theorem d_prog_98_method_1_33 : decode prog_98_method_1_code 33 = .ok (.return_, 1) := by decide +kernel
theorem pn_4 : plainName "com/example/protocols_under_attack/protocolsunderattack/term/Atom" = true := by first | (simp [plainName, overriddenIn]; done) | decide +kernel
theorem d_prog_106_method_1_0 : decode prog_106_method_1_code 0 = .ok (.aload_n 0, 1) := by decide +kernel
theorem wd_38 {a0 : Array Value} {Z : State} (hw : ∀ d ∈ tables_1, d.before a0 Z = true) : (Jvm.Cond.methodLink "com/example/protocols_under_attack/protocolsunderattack/term/Variable" (1 : Nat) ({ cls := "java/lang/Record", name := "<init>", desc := "()V" } : Jvm.MethodName)).before a0 Z = true := hw _ (List.mem_of_getElem? (i := 38) rfl)
theorem d_prog_106_method_1_1 : decode prog_106_method_1_code 1 = .ok (.invokespecial 1, 3) := by decide +kernel
theorem d_prog_106_method_1_4 : decode prog_106_method_1_code 4 = .ok (.aload_n 1, 1) := by decide +kernel
theorem d_prog_106_method_1_5 : decode prog_106_method_1_code 5 = .ok (.ldc 7, 2) := by decide +kernel
theorem d_prog_106_method_1_7 : decode prog_106_method_1_code 7 = .ok (.invokestatic 9, 3) := by decide +kernel
theorem wd_45 {a0 : Array Value} {Z : State} (hw : ∀ d ∈ tables_1, d.before a0 Z = true) : (Jvm.Cond.methodLink "com/example/protocols_under_attack/protocolsunderattack/term/Variable" (9 : Nat) ({ cls := "java/util/Objects", name := "requireNonNull", desc := "(Ljava/lang/Object;Ljava/lang/String;)Ljava/lang/Object;" } : Jvm.MethodName)).before a0 Z = true := hw _ (List.mem_of_getElem? (i := 45) rfl)
theorem d_prog_106_method_1_10 : decode prog_106_method_1_code 10 = .ok (.pop, 1) := by decide +kernel
theorem d_prog_106_method_1_11 : decode prog_106_method_1_code 11 = .ok (.aload_n 2, 1) := by decide +kernel
theorem d_prog_106_method_1_12 : decode prog_106_method_1_code 12 = .ok (.ldc 15, 2) := by decide +kernel
theorem d_prog_106_method_1_14 : decode prog_106_method_1_code 14 = .ok (.invokestatic 9, 3) := by decide +kernel
theorem d_prog_106_method_1_17 : decode prog_106_method_1_code 17 = .ok (.pop, 1) := by decide +kernel
theorem d_prog_106_method_1_18 : decode prog_106_method_1_code 18 = .ok (.aload_n 0, 1) := by decide +kernel
theorem d_prog_106_method_1_19 : decode prog_106_method_1_code 19 = .ok (.aload_n 1, 1) := by decide +kernel
theorem d_prog_106_method_1_20 : decode prog_106_method_1_code 20 = .ok (.putfield 17, 3) := by decide +kernel
theorem wd_50 {a0 : Array Value} {Z : State} (hw : ∀ d ∈ tables_1, d.before a0 Z = true) : (Jvm.Cond.fieldLink "com/example/protocols_under_attack/protocolsunderattack/term/Variable" (17 : Nat) "com/example/protocols_under_attack/protocolsunderattack/term/Variable" "name" "Ljava/lang/String;").before a0 Z = true := hw _ (List.mem_of_getElem? (i := 50) rfl)
theorem wd_51 {a0 : Array Value} {Z : State} (hw : ∀ d ∈ tables_1, d.before a0 Z = true) : (Jvm.Cond.laysFinal "com/example/protocols_under_attack/protocolsunderattack/term/Variable" "com/example/protocols_under_attack/protocolsunderattack/term/Variable" "name" "Ljava/lang/String;").before a0 Z = true := hw _ (List.mem_of_getElem? (i := 51) rfl)
theorem wd_1 {a0 : Array Value} {Z : State} (hw : ∀ d ∈ tables_1, d.before a0 Z = true) : (Jvm.Cond.instantiable "com/example/protocols_under_attack/protocolsunderattack/term/Variable" (3 : Nat)).before a0 Z = true := hw _ (List.mem_of_getElem? (i := 1) rfl)
theorem d_prog_106_method_1_23 : decode prog_106_method_1_code 23 = .ok (.aload_n 0, 1) := by decide +kernel
theorem d_prog_106_method_1_24 : decode prog_106_method_1_code 24 = .ok (.aload_n 2, 1) := by decide +kernel
theorem d_prog_106_method_1_25 : decode prog_106_method_1_code 25 = .ok (.putfield 22, 3) := by decide +kernel
theorem wd_52 {a0 : Array Value} {Z : State} (hw : ∀ d ∈ tables_1, d.before a0 Z = true) : (Jvm.Cond.fieldLink "com/example/protocols_under_attack/protocolsunderattack/term/Variable" (22 : Nat) "com/example/protocols_under_attack/protocolsunderattack/term/Variable" "type" "Lcom/example/protocols_under_attack/protocolsunderattack/term/Type;").before a0 Z = true := hw _ (List.mem_of_getElem? (i := 52) rfl)
theorem wd_53 {a0 : Array Value} {Z : State} (hw : ∀ d ∈ tables_1, d.before a0 Z = true) : (Jvm.Cond.laysFinal "com/example/protocols_under_attack/protocolsunderattack/term/Variable" "com/example/protocols_under_attack/protocolsunderattack/term/Variable" "type" "Lcom/example/protocols_under_attack/protocolsunderattack/term/Type;").before a0 Z = true := hw _ (List.mem_of_getElem? (i := 53) rfl)
theorem d_prog_106_method_1_28 : decode prog_106_method_1_code 28 = .ok (.aload_n 0, 1) := by decide +kernel
theorem d_prog_106_method_1_29 : decode prog_106_method_1_code 29 = .ok (.iload_n 3, 1) := by decide +kernel
theorem d_prog_106_method_1_30 : decode prog_106_method_1_code 30 = .ok (.putfield 25, 3) := by decide +kernel
theorem wd_54 {a0 : Array Value} {Z : State} (hw : ∀ d ∈ tables_1, d.before a0 Z = true) : (Jvm.Cond.fieldLink "com/example/protocols_under_attack/protocolsunderattack/term/Variable" (25 : Nat) "com/example/protocols_under_attack/protocolsunderattack/term/Variable" "number" "I").before a0 Z = true := hw _ (List.mem_of_getElem? (i := 54) rfl)
theorem wd_55 {a0 : Array Value} {Z : State} (hw : ∀ d ∈ tables_1, d.before a0 Z = true) : (Jvm.Cond.laysFinal "com/example/protocols_under_attack/protocolsunderattack/term/Variable" "com/example/protocols_under_attack/protocolsunderattack/term/Variable" "number" "I").before a0 Z = true := hw _ (List.mem_of_getElem? (i := 55) rfl)
theorem d_prog_106_method_1_33 : decode prog_106_method_1_code 33 = .ok (.return_, 1) := by decide +kernel
theorem pn_5 : plainName "com/example/protocols_under_attack/protocolsunderattack/term/Variable" = true := by first | (simp [plainName, overriddenIn]; done) | decide +kernel
theorem d_prog_106_method_3_0 : decode prog_106_method_3_code 0 = .ok (.aload_n 1, 1) := by decide +kernel
theorem d_prog_106_method_3_1 : decode prog_106_method_3_code 1 = .ok (.instanceof 18, 3) := by decide +kernel
theorem wd_81 {a0 : Array Value} {Z : State} (hw : ∀ d ∈ tables_1, d.before a0 Z = true) : (Jvm.Cond.classLink "com/example/protocols_under_attack/protocolsunderattack/term/Variable" (18 : Nat) "com/example/protocols_under_attack/protocolsunderattack/term/Variable").before a0 Z = true := hw _ (List.mem_of_getElem? (i := 81) rfl)
theorem d_prog_106_method_3_4 : decode prog_106_method_3_code 4 = .ok (.ifCond .eq 48, 3) := by decide +kernel
theorem d_prog_106_method_3_52 : decode prog_106_method_3_code 52 = .ok (.iconst 0, 1) := by decide +kernel
theorem d_prog_106_method_3_53 : decode prog_106_method_3_code 53 = .ok (.ireturn, 1) := by decide +kernel
theorem wd_82 {a0 : Array Value} {Z : State} (hw : ∀ d ∈ tables_1, d.before a0 Z = true) : (Jvm.Cond.superclass "com/example/protocols_under_attack/protocolsunderattack/term/Atom" "java/lang/Record").before a0 Z = true := hw _ (List.mem_of_getElem? (i := 82) rfl)
theorem wd_83 {a0 : Array Value} {Z : State} (hw : ∀ d ∈ tables_1, d.before a0 Z = true) : (Jvm.Cond.superclass "java/lang/Record" "java/lang/Object").before a0 Z = true := hw _ (List.mem_of_getElem? (i := 83) rfl)
theorem wd_84 {a0 : Array Value} {Z : State} (hw : ∀ d ∈ tables_1, d.before a0 Z = true) : (Jvm.Cond.noSuperclass "java/lang/Object").before a0 Z = true := hw _ (List.mem_of_getElem? (i := 84) rfl)
theorem d_prog_106_method_3_7 : decode prog_106_method_3_code 7 = .ok (.aload_n 1, 1) := by decide +kernel
theorem d_prog_106_method_3_8 : decode prog_106_method_3_code 8 = .ok (.checkcast 18, 3) := by decide +kernel
theorem d_prog_106_method_3_11 : decode prog_106_method_3_code 11 = .ok (.astore_n 2, 1) := by decide +kernel
theorem d_prog_106_method_3_12 : decode prog_106_method_3_code 12 = .ok (.aload_n 0, 1) := by decide +kernel
theorem d_prog_106_method_3_13 : decode prog_106_method_3_code 13 = .ok (.getfield 25, 3) := by decide +kernel
theorem d_prog_106_method_3_16 : decode prog_106_method_3_code 16 = .ok (.aload_n 2, 1) := by decide +kernel
theorem d_prog_106_method_3_17 : decode prog_106_method_3_code 17 = .ok (.getfield 25, 3) := by decide +kernel
theorem d_prog_106_method_3_20 : decode prog_106_method_3_code 20 = .ok (.if_icmp .ne 32, 3) := by decide +kernel
theorem d_prog_106_method_3_23 : decode prog_106_method_3_code 23 = .ok (.aload_n 0, 1) := by decide +kernel
theorem d_prog_106_method_3_24 : decode prog_106_method_3_code 24 = .ok (.getfield 22, 3) := by decide +kernel
theorem d_prog_106_method_3_27 : decode prog_106_method_3_code 27 = .ok (.aload_n 2, 1) := by decide +kernel
theorem d_prog_106_method_3_28 : decode prog_106_method_3_code 28 = .ok (.getfield 22, 3) := by decide +kernel
theorem d_prog_106_method_3_31 : decode prog_106_method_3_code 31 = .ok (.if_acmp .ne 21, 3) := by decide +kernel
theorem d_prog_106_method_3_34 : decode prog_106_method_3_code 34 = .ok (.aload_n 0, 1) := by decide +kernel
theorem d_prog_106_method_3_35 : decode prog_106_method_3_code 35 = .ok (.getfield 17, 3) := by decide +kernel
theorem d_prog_106_method_3_38 : decode prog_106_method_3_code 38 = .ok (.aload_n 2, 1) := by decide +kernel
theorem d_prog_106_method_3_39 : decode prog_106_method_3_code 39 = .ok (.getfield 17, 3) := by decide +kernel
theorem d_prog_106_method_3_42 : decode prog_106_method_3_code 42 = .ok (.invokevirtual 43, 3) := by decide +kernel
theorem wd_92 {a0 : Array Value} {Z : State} (hw : ∀ d ∈ tables_1, d.before a0 Z = true) : (Jvm.Cond.methodLink "com/example/protocols_under_attack/protocolsunderattack/term/Variable" (43 : Nat) ({ cls := "java/lang/String", name := "equals", desc := "(Ljava/lang/Object;)Z" } : Jvm.MethodName)).before a0 Z = true := hw _ (List.mem_of_getElem? (i := 92) rfl)
theorem wd_93 {a0 : Array Value} {Z : State} (hw : ∀ d ∈ tables_1, d.before a0 Z = true) : (Jvm.Cond.declares ({ cls := "java/lang/String", name := "equals", desc := "(Ljava/lang/Object;)Z" } : Jvm.MethodName)).before a0 Z = true := hw _ (List.mem_of_getElem? (i := 93) rfl)
theorem wd_95 {a0 : Array Value} {Z : State} (hw : ∀ d ∈ tables_1, d.before a0 Z = true) : (Jvm.Cond.selects "java/lang/String" ({ cls := "java/lang/String", name := "equals", desc := "(Ljava/lang/Object;)Z" } : Jvm.MethodName) ({ cls := "java/lang/String", name := "equals", desc := "(Ljava/lang/Object;)Z" } : Jvm.MethodName)).before a0 Z = true := hw _ (List.mem_of_getElem? (i := 95) rfl)
theorem wd_94 {a0 : Array Value} {Z : State} (hw : ∀ d ∈ tables_1, d.before a0 Z = true) : (Jvm.Cond.instanceMethod ({ cls := "java/lang/String", name := "equals", desc := "(Ljava/lang/Object;)Z" } : Jvm.MethodName)).before a0 Z = true := hw _ (List.mem_of_getElem? (i := 94) rfl)
theorem pd_4 : parseMethodDescriptor "(Ljava/lang/Object;)Z" = some ⟨[(.object "java/lang/Object")], some .boolean⟩ := by decide +kernel
theorem d_prog_106_method_3_45 : decode prog_106_method_3_code 45 = .ok (.ifCond .eq 7, 3) := by decide +kernel
theorem d_prog_106_method_3_48 : decode prog_106_method_3_code 48 = .ok (.iconst 1, 1) := by decide +kernel
theorem d_prog_106_method_3_49 : decode prog_106_method_3_code 49 = .ok (.goto 4, 3) := by decide +kernel
theorem wd_0 {a0 : Array Value} {Z : State} (hw : ∀ d ∈ tables_1, d.before a0 Z = true) : (Jvm.Cond.classLink "com/example/protocols_under_attack/protocolsunderattack/term/VariableEqualsPinLaw" (45 : Nat) "com/example/protocols_under_attack/protocolsunderattack/term/Variable").before a0 Z = true := hw _ (List.mem_of_getElem? (i := 0) rfl)
theorem wd_2 {a0 : Array Value} {Z : State} (hw : ∀ d ∈ tables_1, d.before a0 Z = true) : (Jvm.Cond.initialized "com/example/protocols_under_attack/protocolsunderattack/term/Variable").before a0 Z = true := hw _ (List.mem_of_getElem? (i := 2) rfl)
theorem wd_3 {a0 : Array Value} {Z : State} (hw : ∀ d ∈ tables_1, d.before a0 Z = true) : (Jvm.Cond.methodLink "com/example/protocols_under_attack/protocolsunderattack/term/VariableEqualsPinLaw" (47 : Nat) ({ cls := "com/example/protocols_under_attack/protocolsunderattack/term/VariableEqualsPinLaw", name := "str", desc := "(ICC)Ljava/lang/String;" } : Jvm.MethodName)).before a0 Z = true := hw _ (List.mem_of_getElem? (i := 3) rfl)
theorem wd_6 {a0 : Array Value} {Z : State} (hw : ∀ d ∈ tables_1, d.before a0 Z = true) : (Jvm.Cond.code ({ cls := "com/example/protocols_under_attack/protocolsunderattack/term/VariableEqualsPinLaw", name := "str", desc := "(ICC)Ljava/lang/String;" } : Jvm.MethodName) method_3_code (3 : Nat) (Option.some (Jvm.ClassFile.FieldType.object "java/lang/String"))).before a0 Z = true := hw _ (List.mem_of_getElem? (i := 6) rfl)
theorem wd_5 {a0 : Array Value} {Z : State} (hw : ∀ d ∈ tables_1, d.before a0 Z = true) : (Jvm.Cond.initialized "com/example/protocols_under_attack/protocolsunderattack/term/VariableEqualsPinLaw").before a0 Z = true := hw _ (List.mem_of_getElem? (i := 5) rfl)
theorem wd_4 {a0 : Array Value} {Z : State} (hw : ∀ d ∈ tables_1, d.before a0 Z = true) : (Jvm.Cond.static ({ cls := "com/example/protocols_under_attack/protocolsunderattack/term/VariableEqualsPinLaw", name := "str", desc := "(ICC)Ljava/lang/String;" } : Jvm.MethodName)).before a0 Z = true := hw _ (List.mem_of_getElem? (i := 4) rfl)
theorem pd_5 : parseMethodDescriptor "(ICC)Ljava/lang/String;" = some ⟨[.int, .char, .char], some (.object "java/lang/String")⟩ := by decide +kernel
theorem wd_29 {a0 : Array Value} {Z : State} (hw : ∀ d ∈ tables_1, d.before a0 Z = true) : (Jvm.Cond.methodLink "com/example/protocols_under_attack/protocolsunderattack/term/VariableEqualsPinLaw" (53 : Nat) ({ cls := "com/example/protocols_under_attack/protocolsunderattack/term/VariableEqualsPinLaw", name := "type", desc := "(I)Lcom/example/protocols_under_attack/protocolsunderattack/term/Type;" } : Jvm.MethodName)).before a0 Z = true := hw _ (List.mem_of_getElem? (i := 29) rfl)
theorem wd_31 {a0 : Array Value} {Z : State} (hw : ∀ d ∈ tables_1, d.before a0 Z = true) : (Jvm.Cond.code ({ cls := "com/example/protocols_under_attack/protocolsunderattack/term/VariableEqualsPinLaw", name := "type", desc := "(I)Lcom/example/protocols_under_attack/protocolsunderattack/term/Type;" } : Jvm.MethodName) method_2_code (1 : Nat) (Option.some (Jvm.ClassFile.FieldType.object "com/example/protocols_under_attack/protocolsunderattack/term/Type"))).before a0 Z = true := hw _ (List.mem_of_getElem? (i := 31) rfl)
theorem wd_30 {a0 : Array Value} {Z : State} (hw : ∀ d ∈ tables_1, d.before a0 Z = true) : (Jvm.Cond.static ({ cls := "com/example/protocols_under_attack/protocolsunderattack/term/VariableEqualsPinLaw", name := "type", desc := "(I)Lcom/example/protocols_under_attack/protocolsunderattack/term/Type;" } : Jvm.MethodName)).before a0 Z = true := hw _ (List.mem_of_getElem? (i := 30) rfl)
theorem pd_6 : parseMethodDescriptor "(I)Lcom/example/protocols_under_attack/protocolsunderattack/term/Type;" = some ⟨[.int], some (.object "com/example/protocols_under_attack/protocolsunderattack/term/Type")⟩ := by decide +kernel
theorem wd_35 {a0 : Array Value} {Z : State} (hw : ∀ d ∈ tables_1, d.before a0 Z = true) : (Jvm.Cond.methodLink "com/example/protocols_under_attack/protocolsunderattack/term/VariableEqualsPinLaw" (57 : Nat) ({ cls := "com/example/protocols_under_attack/protocolsunderattack/term/Variable", name := "<init>", desc := "(Ljava/lang/String;Lcom/example/protocols_under_attack/protocolsunderattack/term/Type;I)V" } : Jvm.MethodName)).before a0 Z = true := hw _ (List.mem_of_getElem? (i := 35) rfl)
theorem wd_37 {a0 : Array Value} {Z : State} (hw : ∀ d ∈ tables_1, d.before a0 Z = true) : (Jvm.Cond.code ({ cls := "com/example/protocols_under_attack/protocolsunderattack/term/Variable", name := "<init>", desc := "(Ljava/lang/String;Lcom/example/protocols_under_attack/protocolsunderattack/term/Type;I)V" } : Jvm.MethodName) prog_106_method_1_code (4 : Nat) (Option.none : Option Jvm.ClassFile.FieldType)).before a0 Z = true := hw _ (List.mem_of_getElem? (i := 37) rfl)
theorem wd_36 {a0 : Array Value} {Z : State} (hw : ∀ d ∈ tables_1, d.before a0 Z = true) : (Jvm.Cond.instanceMethod ({ cls := "com/example/protocols_under_attack/protocolsunderattack/term/Variable", name := "<init>", desc := "(Ljava/lang/String;Lcom/example/protocols_under_attack/protocolsunderattack/term/Type;I)V" } : Jvm.MethodName)).before a0 Z = true := hw _ (List.mem_of_getElem? (i := 36) rfl)
theorem pd_7 : parseMethodDescriptor "(Ljava/lang/String;Lcom/example/protocols_under_attack/protocolsunderattack/term/Type;I)V" = some ⟨[(.object "java/lang/String"), (.object "com/example/protocols_under_attack/protocolsunderattack/term/Type"), .int], none⟩ := by decide +kernel
theorem wd_58 {a0 : Array Value} {Z : State} (hw : ∀ d ∈ tables_1, d.before a0 Z = true) : (Jvm.Cond.methodLink "com/example/protocols_under_attack/protocolsunderattack/term/VariableEqualsPinLaw" (63 : Nat) ({ cls := "com/example/protocols_under_attack/protocolsunderattack/term/Variable", name := "equals", desc := "(Ljava/lang/Object;)Z" } : Jvm.MethodName)).before a0 Z = true := hw _ (List.mem_of_getElem? (i := 58) rfl)
theorem wd_62 {a0 : Array Value} {Z : State} (hw : ∀ d ∈ tables_1, d.before a0 Z = true) : (Jvm.Cond.code ({ cls := "com/example/protocols_under_attack/protocolsunderattack/term/Variable", name := "equals", desc := "(Ljava/lang/Object;)Z" } : Jvm.MethodName) prog_106_method_3_code (3 : Nat) (Option.some Jvm.ClassFile.FieldType.boolean)).before a0 Z = true := hw _ (List.mem_of_getElem? (i := 62) rfl)
theorem wd_59 {a0 : Array Value} {Z : State} (hw : ∀ d ∈ tables_1, d.before a0 Z = true) : (Jvm.Cond.declares ({ cls := "com/example/protocols_under_attack/protocolsunderattack/term/Variable", name := "equals", desc := "(Ljava/lang/Object;)Z" } : Jvm.MethodName)).before a0 Z = true := hw _ (List.mem_of_getElem? (i := 59) rfl)
theorem wd_61 {a0 : Array Value} {Z : State} (hw : ∀ d ∈ tables_1, d.before a0 Z = true) : (Jvm.Cond.selects "com/example/protocols_under_attack/protocolsunderattack/term/Variable" ({ cls := "com/example/protocols_under_attack/protocolsunderattack/term/Variable", name := "equals", desc := "(Ljava/lang/Object;)Z" } : Jvm.MethodName) ({ cls := "com/example/protocols_under_attack/protocolsunderattack/term/Variable", name := "equals", desc := "(Ljava/lang/Object;)Z" } : Jvm.MethodName)).before a0 Z = true := hw _ (List.mem_of_getElem? (i := 61) rfl)
theorem wd_60 {a0 : Array Value} {Z : State} (hw : ∀ d ∈ tables_1, d.before a0 Z = true) : (Jvm.Cond.instanceMethod ({ cls := "com/example/protocols_under_attack/protocolsunderattack/term/Variable", name := "equals", desc := "(Ljava/lang/Object;)Z" } : Jvm.MethodName)).before a0 Z = true := hw _ (List.mem_of_getElem? (i := 60) rfl)
theorem wd_65 {a0 : Array Value} {Z : State} (hw : ∀ d ∈ tables_1, d.before a0 Z = true) : (Jvm.Cond.classLink "com/example/protocols_under_attack/protocolsunderattack/term/VariableEqualsPinLaw" (60 : Nat) "com/example/protocols_under_attack/protocolsunderattack/term/Atom").before a0 Z = true := hw _ (List.mem_of_getElem? (i := 65) rfl)
theorem wd_67 {a0 : Array Value} {Z : State} (hw : ∀ d ∈ tables_1, d.before a0 Z = true) : (Jvm.Cond.initialized "com/example/protocols_under_attack/protocolsunderattack/term/Atom").before a0 Z = true := hw _ (List.mem_of_getElem? (i := 67) rfl)
theorem wd_68 {a0 : Array Value} {Z : State} (hw : ∀ d ∈ tables_1, d.before a0 Z = true) : (Jvm.Cond.methodLink "com/example/protocols_under_attack/protocolsunderattack/term/VariableEqualsPinLaw" (62 : Nat) ({ cls := "com/example/protocols_under_attack/protocolsunderattack/term/Atom", name := "<init>", desc := "(Ljava/lang/String;Lcom/example/protocols_under_attack/protocolsunderattack/term/Type;I)V" } : Jvm.MethodName)).before a0 Z = true := hw _ (List.mem_of_getElem? (i := 68) rfl)
theorem wd_70 {a0 : Array Value} {Z : State} (hw : ∀ d ∈ tables_1, d.before a0 Z = true) : (Jvm.Cond.code ({ cls := "com/example/protocols_under_attack/protocolsunderattack/term/Atom", name := "<init>", desc := "(Ljava/lang/String;Lcom/example/protocols_under_attack/protocolsunderattack/term/Type;I)V" } : Jvm.MethodName) prog_98_method_1_code (4 : Nat) (Option.none : Option Jvm.ClassFile.FieldType)).before a0 Z = true := hw _ (List.mem_of_getElem? (i := 70) rfl)
theorem wd_69 {a0 : Array Value} {Z : State} (hw : ∀ d ∈ tables_1, d.before a0 Z = true) : (Jvm.Cond.instanceMethod ({ cls := "com/example/protocols_under_attack/protocolsunderattack/term/Atom", name := "<init>", desc := "(Ljava/lang/String;Lcom/example/protocols_under_attack/protocolsunderattack/term/Type;I)V" } : Jvm.MethodName)).before a0 Z = true := hw _ (List.mem_of_getElem? (i := 69) rfl)
theorem wd_33 {a0 : Array Value} {Z : State} (hw : ∀ d ∈ tables_1, d.before a0 Z = true) : (Jvm.Cond.initialized "com/example/protocols_under_attack/protocolsunderattack/term/Type").before a0 Z = true := hw _ (List.mem_of_getElem? (i := 33) rfl)
theorem wd_34 {a0 : Array Value} {Z : State} (hw : ∀ d ∈ tables_1, d.before a0 Z = true) : (Jvm.Cond.laysStatic "com/example/protocols_under_attack/protocolsunderattack/term/Type" "NAT" "Lcom/example/protocols_under_attack/protocolsunderattack/term/Type;").before a0 Z = true := hw _ (List.mem_of_getElem? (i := 34) rfl)
theorem wd_57 {a0 : Array Value} {Z : State} (hw : ∀ d ∈ tables_1, d.before a0 Z = true) : (Jvm.Cond.laysStatic "com/example/protocols_under_attack/protocolsunderattack/term/Type" "AGENT" "Lcom/example/protocols_under_attack/protocolsunderattack/term/Type;").before a0 Z = true := hw _ (List.mem_of_getElem? (i := 57) rfl)
theorem wd_64 {a0 : Array Value} {Z : State} (hw : ∀ d ∈ tables_1, d.before a0 Z = true) : (Jvm.Cond.laysStatic "com/example/protocols_under_attack/protocolsunderattack/term/Type" "PUBLIC_KEY" "Lcom/example/protocols_under_attack/protocolsunderattack/term/Type;").before a0 Z = true := hw _ (List.mem_of_getElem? (i := 64) rfl)
theorem wd_86 {a0 : Array Value} {Z : State} (hw : ∀ d ∈ tables_1, d.before a0 Z = true) : (Jvm.Cond.laysStatic "com/example/protocols_under_attack/protocolsunderattack/term/Type" "TEXT" "Lcom/example/protocols_under_attack/protocolsunderattack/term/Type;").before a0 Z = true := hw _ (List.mem_of_getElem? (i := 86) rfl)
theorem wd_89 {a0 : Array Value} {Z : State} (hw : ∀ d ∈ tables_1, d.before a0 Z = true) : (Jvm.Cond.laysStatic "com/example/protocols_under_attack/protocolsunderattack/term/Type" "PROTOCOL_ID" "Lcom/example/protocols_under_attack/protocolsunderattack/term/Type;").before a0 Z = true := hw _ (List.mem_of_getElem? (i := 89) rfl)
theorem wd_91 {a0 : Array Value} {Z : State} (hw : ∀ d ∈ tables_1, d.before a0 Z = true) : (Jvm.Cond.laysStatic "com/example/protocols_under_attack/protocolsunderattack/term/Type" "SET" "Lcom/example/protocols_under_attack/protocolsunderattack/term/Type;").before a0 Z = true := hw _ (List.mem_of_getElem? (i := 91) rfl)
theorem wd_114 {a0 : Array Value} {Z : State} (hw : ∀ d ∈ tables_1, d.before a0 Z = true) : (Jvm.Cond.laysStatic "com/example/protocols_under_attack/protocolsunderattack/term/Type" "MESSAGE" "Lcom/example/protocols_under_attack/protocolsunderattack/term/Type;").before a0 Z = true := hw _ (List.mem_of_getElem? (i := 114) rfl)
theorem wd_116 {a0 : Array Value} {Z : State} (hw : ∀ d ∈ tables_1, d.before a0 Z = true) : (Jvm.Cond.laysStatic "com/example/protocols_under_attack/protocolsunderattack/term/Type" "CHANNEL" "Lcom/example/protocols_under_attack/protocolsunderattack/term/Type;").before a0 Z = true := hw _ (List.mem_of_getElem? (i := 116) rfl)
theorem wd_118 {a0 : Array Value} {Z : State} (hw : ∀ d ∈ tables_1, d.before a0 Z = true) : (Jvm.Cond.laysStatic "com/example/protocols_under_attack/protocolsunderattack/term/Type" "HASH_FUNC" "Lcom/example/protocols_under_attack/protocolsunderattack/term/Type;").before a0 Z = true := hw _ (List.mem_of_getElem? (i := 118) rfl)
theorem wd_120 {a0 : Array Value} {Z : State} (hw : ∀ d ∈ tables_1, d.before a0 Z = true) : (Jvm.Cond.laysStatic "com/example/protocols_under_attack/protocolsunderattack/term/Type" "SYMMETRIC_KEY" "Lcom/example/protocols_under_attack/protocolsunderattack/term/Type;").before a0 Z = true := hw _ (List.mem_of_getElem? (i := 120) rfl)
theorem wd_22 {a0 : Array Value} {Z : State} (hw : ∀ d ∈ tables_1, d.before a0 Z = true) : (Jvm.Cond.arrayClass Jvm.ClassFile.FieldType.byte).before a0 Z = true := hw _ (List.mem_of_getElem? (i := 22) rfl)
theorem wd_25 {a0 : Array Value} {Z : State} (hw : ∀ d ∈ tables_1, d.before a0 Z = true) : (Jvm.Cond.soleField "java/lang/String" "value").before a0 Z = true := hw _ (List.mem_of_getElem? (i := 25) rfl)
theorem wd_26 {a0 : Array Value} {Z : State} (hw : ∀ d ∈ tables_1, d.before a0 Z = true) : (Jvm.Cond.soleField "java/lang/String" "coder").before a0 Z = true := hw _ (List.mem_of_getElem? (i := 26) rfl)

/-- what is left by new String(chars): the String x spells cs -/
def Str (Z : State) (h : Heap) (x : Addr) (cs : List Int32) : Prop := Exa Z h x "java/lang/String" ∧ Fld Z h x "java/lang/String" "coder" "B" (.int 0) ∧ (∀ c ∈ cs, ¬ c < 0 ∧ ¬ (255 : Int32) < c) ∧ ∃ (t : Addr) (kb : ClassId), Fld Z h x "java/lang/String" "value" "[B" (.ref t) ∧ Arv Z h t kb .byte (Int32.ofNat cs.length) ((cs.map fun c => c.toInt8.toInt32).map Value.int) (.int 0)
section StrX
variable {Z : State} {a0 : Array Value} {h h' : Heap} {x w : Addr} {cs : List Int32}
theorem Str.exa (S : Str Z h x cs) : Exa Z h x "java/lang/String" := S.1
theorem Str.lt (S : Str Z h x cs) : x < h.size := S.1.lt
theorem Str.ext (S : Str Z h x cs) (E : Ext h h') : Str Z h' x cs := by
  obtain ⟨A, F, q, t, kb, V, K⟩ := S
  exact ⟨A.ext E, F.ext E, q, t, kb, V.ext E, K.ext E⟩
theorem Str.wr {sl : Nat} {v : Value} (S : Str Z h x cs) (W : Wr h h' w sl v) (o : Off Z h w) : Str Z h' x cs := by
  obtain ⟨A, F, q, t, kb, V, K⟩ := S
  exact ⟨A.wr W, F.other W (Or.inl (o.1 x A)), q, t, kb, V.other W (Or.inl (o.1 x A)), K.other W (o.2 _ _ _ _ _ K)⟩
theorem Str.keep {ws : List Addr} (S : Str Z h x cs) (W : Keep h h' ws) (o : ∀ w ∈ ws, Off Z h w) : Str Z h' x cs := by
  obtain ⟨A, F, q, t, kb, V, K⟩ := S
  have n1 : x ∉ ws := fun m => (o x m).1 x A rfl
  have n2 : t ∉ ws := fun m => (o t m).2 _ _ _ _ _ K rfl
  exact ⟨A.keep W, F.keep W n1, q, t, kb, V.keep W n1, K.keep W n2⟩
def StrOf (Z : State) (n0 : Nat) (h : Heap) (n : Nat) (h' : Heap) (x : Addr) (cs : List Int32) (v : Option Value) : Prop := v = none ∧ Keep h h' [x] ∧ Str Z h' x cs
theorem strOf_of {n0 n : Nat} {v : Option Value} {L : List Loc} (hn : cs.length = n) (hp : ∀ c ∈ cs, ¬ c < 0 ∧ ¬ (255 : Int32) < c) (q : StrChars.Road.QV Z x (Int32.ofNat n) (cs.map fun c => c.toInt8.toInt32) h n0 v h' L) : StrOf Z n0 h n h' x cs v ∧ Fr n0 L ∧ h.size ≤ h'.size := by
  obtain ⟨q1, q2, q3, q4, q5, t, kb, -, -, -, q6, q7⟩ := q
  subst hn
  exact ⟨⟨q1, q3, q4, q5, hp, t, kb, q6, q7⟩, q2, q3.1⟩
theorem and255c (x : Int32) : ¬ (x &&& 255) < 0 ∧ ¬ (255 : Int32) < (x &&& 255) := by
  have h : (x &&& 255).toBitVec.toNat ≤ 255 := by
    rw [Int32.toBitVec_and, BitVec.toNat_and]; exact Nat.and_le_right
  have e : (x &&& 255).toInt = (x &&& 255).toBitVec.toNat := by
    rw [← Int32.toInt_toBitVec, BitVec.toInt_eq_toNat_of_lt (by omega)]
  constructor
  · rw [Int32.lt_iff_toInt_lt, e]; have : (0 : Int32).toInt = 0 := rfl; omega
  · rw [Int32.lt_iff_toInt_lt, e]; have : (255 : Int32).toInt = 255 := rfl; omega
theorem hwS (hw : ∀ d ∈ tables_1, d.before a0 Z = true) : ∀ d ∈ StrChars.Road.words, d.before a0 Z = true := fun d hd => hw d ((by decide +kernel : ∀ d ∈ StrChars.Road.words, d ∈ tables_1) d hd)
end StrX

theorem up16 {cs : List Int32} (h : ∀ c ∈ cs, ¬ c < 0 ∧ ¬ (255 : Int32) < c) : ∀ c ∈ cs, ¬ c < 0 ∧ ¬ (65535 : Int32) < c := fun c hc => ⟨(h c hc).1, fun q => (h c hc).2 (by rw [Int32.lt_iff_toInt_lt] at q ⊢; have e1 : (65535 : Int32).toInt = 65535 := rfl; have e2 : (255 : Int32).toInt = 255 := rfl; omega)⟩
theorem codS {cs : List Int32} (h : ∀ c ∈ cs, ¬ c < 0 ∧ ¬ (255 : Int32) < c) : StrChars.Road.CodA cs 0 (Int32.ofNat cs.length) ((cs.map fun c => c.toInt8.toInt32).map Value.int) := StrChars.Road.codOf rfl fun c hc => (h c hc).2

theorem hwEq {Z : State} {a0 : Array Value} (hw : ∀ d ∈ tables_1, d.before a0 Z = true) : ∀ d ∈ StrChars.Road.wordsEq, d.before a0 Z = true := fun d hd => hw d ((by decide +kernel : ∀ d ∈ StrChars.Road.wordsEq, d ∈ tables_1) d hd)
theorem backEq {C : Cx} {Z : State} {a0 : Array Value} {b : ByteArray} {ml : Nat} {ret : Option FieldType} {nm own : String} {rm : Room} {n0 W : Nat} {h : Heap} {x y : Addr} {cs ds : List Int32} {zc : Int32} (o : Ok C Z a0 b ml ret nm own rm) (wi : (Jvm.Cond.instantiable "java/lang/String" 4).before a0 Z = true) (Sc : Sta Z Z.heap "java/lang/String" "COMPACT_STRINGS" "Z" (.int zc)) (nzc : ¬ zc = 0) (X : Old Z n0 h) (S1 : Str Z h x cs) (S2 : Str Z h y ds) (l1 : cs.length ≤ 4000) (l2 : ds.length ≤ 4000) (hf : 2 ≤ rm.frames) (hl : W + 28 ≤ rm.locals) :
    ∀ vm0, Z.Warmed39 vm0 → BackQ C vm0 (⟨"java/lang/String", "equals", "(Ljava/lang/Object;)Z"⟩ : MethodName) W #[.ref x, .ref y] h 0 0 (fun v h' L => ((v = some (.int (if cs = ds then 1 else 0))) ∧ h' = h) ∧ Fr n0 L ∧ h.size ≤ h'.size) := fun vm0 hZ => by
  obtain ⟨A, F, q, t, kb, V, K⟩ := S1
  obtain ⟨A', F', q', t', kb', V', K'⟩ := S2
  refine Back.mono (StrChars.Road.eqW (W := W) (s := C.s.setVm vm0) hZ (hwEq o.hw) wi A V F K (codS q) (up16 q) l1 A' V' F' K' (codS q') (up16 q') l2 (Sc.ext X.2) nzc (by rw [o.R]; exact hf) (by rw [o.R]; exact hl)) (fun P a hp => hp) (fun P a v B hp hq => ?_)
  obtain ⟨L, ⟨r1, r2, r3⟩, r4⟩ := hq
  refine ⟨L, ⟨⟨?_, r3⟩, by rw [r2]; exact Fr.nil _, by rw [r3]; exact Nat.le_refl _⟩, r4⟩
  rcases r1 with ⟨r1, z⟩ | ⟨r1, z⟩
  · rw [r1, if_pos z]
  · rw [r1, if_neg z]
/-! own text: constants (ldc of a String) and callees that load them -/
section Wide
variable {C : Cx} {Z : State} {a0 : Array Value} {b : ByteArray} {ml : Nat} {ret : Option FieldType} {nm own : String} {rm : Room} {n0 : Nat} {Q : Option Value → Heap → Prop} {M : List Addr} {h : Heap} {k n pc : Nat} {L : Array Slot} {S : List Value}
theorem g_ldcO (o : Ok C Z a0 b ml ret nm own rm) (hwd : C.wide = true) {ix m : Nat} {text : String} (d : decode b pc = .ok (.ldc ix, 2)) (w : (Jvm.Cond.stringLink own ix text).before a0 Z = true) (wS : ∀ a ∈ Bundle.stringAtoms, a.before a0 Z = true) (hm : 4 * text.toList.length ≤ m) (hbig : m ≤ 536870912) (hc : k + 2 ≤ rm.cells) (hl : n + (m + 4) ≤ rm.slots)
    (K : ∀ a h', Ext h h' → Go C Z n0 Q M h' (k + 2) (n + (m + 4)) (pc + 2) L (.ref a :: S)) : Go C Z n0 Q M h k n pc L S := by
  refine Go.viaW hwd (ι := Addr) (P := fun _ h' => Ext h h') (S' := fun a => .ref a :: S) K fun T vm0 locs k0 X hZ hf eT N hS hk H hM => ?_
  obtain ⟨a, T', h', k1, X', e', E, hS', hk', hW, hf', hC, -, st⟩ := ldcOH X o.1 hZ (own := own) (by rw [← o.hown]; exact hf) w wS eT hS hk o.ew H (g := mkF C.m pc L S) rfl (hb o.2.1 d) hm hbig (by rw [o.R]; exact hc) (by rw [o.R]; exact hl)
  exact ⟨a, T', T'.vm, locs, h', k1, E, X', e', N, hS', hk', hW, by rw [o.hown]; exact hf', hC, st⟩
abbrev BackQS (C : Cx) (Z : State) (vm0 : Vm) (y : MethodName) (W : Nat) (as : Array Value) (h : Heap) (kc ks : Nat) (P : Option Value → Heap → List Loc → Prop) : Prop :=
  BackS C.l C.R C.p C.e C.below (C.s.setVm vm0) C.args y 3 W (fun A a => a = as ∧ A.U.heap = h ∧ A.cells + kc ≤ C.R.cells ∧ A.slots + ks ≤ C.R.slots) (fun A _ v B => ∃ L, P v B.U.heap L ∧ B.locs = A.locs ++ L ∧ B.cells = A.cells + kc ∧ B.slots = A.slots + ks ∧ CHr Z C.EL vm0 h B.U.vm B.U.heap)
theorem g_staticW (o : Ok C Z a0 b ml ret nm own rm) (hwd : C.wide = true) {ix mL kc ks W : Nat} {y : MethodName} {by' : ByteArray} {rt : Option FieldType} {P : Option Value → Heap → List Loc → Prop} {Q' : Option Value → Heap → Prop} {ps : List FieldType} {r : Option FieldType} (as rest : List Value) (d : decode b pc = .ok (.invokestatic ix, 3))
    (w1 : (Jvm.Cond.methodLink own ix y).before a0 Z = true) (w2 : (Jvm.Cond.static y).before a0 Z = true) (w3 : (Jvm.Cond.initialized y.cls).before a0 Z = true) (w4 : (Jvm.Cond.code y by' mL rt).before a0 Z = true) (hy : y.cls ≠ "java/lang/invoke/MethodHandle" ∧ y.cls ≠ "java/lang/invoke/VarHandle")
    (B : ∀ vm0, Z.Warmed39 vm0 → CHv Z C.EL vm0 h → BackQS C Z vm0 y W as.toArray h kc ks P) (hP : ∀ v h' L, P v h' L → Q' v h' ∧ Fr n0 L ∧ h.size ≤ h'.size) (hpd : parseMethodDescriptor y.desc = some ⟨ps, r⟩) (hlen : as.length = ps.length) (hS : S = as.reverse ++ rest) (hW : wt rest = W) (hL : L.size = ml) (hc : k + kc ≤ rm.cells) (hl : n + ks ≤ rm.slots)
    (K : ∀ v h', Q' v h' → Go C Z n0 Q M h' (k + kc) (n + ks) (pc + 3) L (v.toList ++ rest)) : Go C Z n0 Q M h k n pc L S := by
  subst hS
  refine Go.viaW hwd (ι := Option Value) (P := Q') (S' := fun v => v.toList ++ rest) K fun T vm0 locs k0 X hZ hf eT N hSi hk H hM => ?_
  obtain ⟨v, vm₁, ⟨T', L', k', n'⟩, -, X', hS2, hg, ⟨Lc, hQ, l1, l2, l3, hC⟩, st⟩ := callSS X o.1 (y := y) (own := own) (by rw [← o.hown]; exact hf) (mvT (s := C.s.setVm vm0) hZ w1) (mvT (s := C.s.setVm vm0) hZ w2) (mvT (s := C.s.setVm vm0) hZ w3) (mvT (s := C.s.setVm vm0) hZ w4) hy (B vm0 hZ H) (g := mkF C.m pc L (as.reverse ++ rest)) rfl (hL.trans o.2.2.1.symm) (argsL := as) (rest := rest) (lenOf hpd hlen) rfl (by show 2 * 0 + wt rest ≤ _; omega) (hb o.2.1 d) (fun _ _ => ⟨rfl, eT, by rw [o.R]; exact hc, by rw [o.R]; exact hl⟩)
  dsimp only [Pt.U, Pt.locs, Pt.cells, Pt.slots] at X' hQ l1 l2 l3 st hS2 hg hC
  subst l1 l2 l3
  obtain ⟨q1, q2, q3⟩ := hP _ _ _ hQ
  obtain ⟨X2, hS3, hZ2, hf2⟩ := rebS (own := C.own) hSi hk X' hS2 (by rw [← eT]; exact hg) hZ hf
  exact ⟨v, T', T'.vm, _, _, _, q1, X2, rfl, N.app q2, hS3, Nat.le_refl _, hZ2, hf2, hC, fun target z => st.trans z⟩
theorem g_specialW (o : Ok C Z a0 b ml ret nm own rm) (hwd : C.wide = true) {ix mL kc ks W : Nat} {y : MethodName} {by' : ByteArray} {P : Option Value → Heap → List Loc → Prop} {Q' : Option Value → Heap → Prop} {ps : List FieldType} {r : Option FieldType} (a : Addr) (as rest : List Value) (d : decode b pc = .ok (.invokespecial ix, 3)) (hy1 : y.name = "<init>")
    (w1 : (Jvm.Cond.methodLink own ix y).before a0 Z = true) (w2 : (Jvm.Cond.instanceMethod y).before a0 Z = true) (w4 : (Jvm.Cond.code y by' mL none).before a0 Z = true) (hy : y.cls ≠ "java/lang/invoke/MethodHandle" ∧ y.cls ≠ "java/lang/invoke/VarHandle")
    (B : ∀ vm0, Z.Warmed39 vm0 → CHv Z C.EL vm0 h → BackQS C Z vm0 y W (.ref a :: as).toArray h kc ks P) (hP : ∀ v h' L, P v h' L → Q' v h' ∧ Fr n0 L ∧ h.size ≤ h'.size) (hpd : parseMethodDescriptor y.desc = some ⟨ps, r⟩) (hlen : as.length = ps.length) (hS : S = as.reverse ++ .ref a :: rest) (hW : wt rest = W) (hL : L.size = ml) (hc : k + kc ≤ rm.cells) (hl : n + ks ≤ rm.slots)
    (K : ∀ v h', Q' v h' → Go C Z n0 Q M h' (k + kc) (n + ks) (pc + 3) L (v.toList ++ rest)) : Go C Z n0 Q M h k n pc L S := by
  subst hS
  refine Go.viaW hwd (ι := Option Value) (P := Q') (S' := fun v => v.toList ++ rest) K fun T vm0 locs k0 X hZ hf eT N hSi hk H hM => ?_
  obtain ⟨v, vm₁, ⟨T', L', k', n'⟩, -, X', hS2, hg, ⟨Lc, hQ, l1, l2, l3, hC⟩, st⟩ := X.specialBackS o.1 (y := y) (own := own) hy1 (by rw [← o.hown]; exact hf) (mvT (s := C.s.setVm vm0) hZ w1) (mvT (s := C.s.setVm vm0) hZ w2) (mvT (s := C.s.setVm vm0) hZ w4) hy (B vm0 hZ H) (g := mkF C.m pc L (as.reverse ++ .ref a :: rest)) rfl (hL.trans o.2.2.1.symm) (Steps.refl _) (a := a) (argsL := as) (rest := rest) (lenOf hpd hlen) rfl (by show 2 * 0 + wt rest ≤ _; omega) (hb o.2.1 d) (fun _ _ => ⟨rfl, eT, by rw [o.R]; exact hc, by rw [o.R]; exact hl⟩)
  dsimp only [Pt.U, Pt.locs, Pt.cells, Pt.slots] at X' hQ l1 l2 l3 st hS2 hg hC
  subst l1 l2 l3
  obtain ⟨q1, q2, q3⟩ := hP _ _ _ hQ
  obtain ⟨X2, hS3, hZ2, hf2⟩ := rebS (own := C.own) hSi hk X' hS2 (by rw [← eT]; exact hg) hZ hf
  exact ⟨v, T', T'.vm, _, _, _, q1, X2, rfl, N.app q2, hS3, Nat.le_refl _, hZ2, hf2, hC, fun target z => st.trans z⟩
theorem g_virtualW (o : Ok C Z a0 b ml ret nm own rm) (hwd : C.wide = true) {ix kc ks W : Nat} {Cn : String} {y z : MethodName} {P : Option Value → Heap → List Loc → Prop} {Q' : Option Value → Heap → Prop} {ps : List FieldType} {r : Option FieldType} (a : Addr) (as rest : List Value) (d : decode b pc = .ok (.invokevirtual ix, 3))
    (w1 : (Jvm.Cond.methodLink own ix y).before a0 Z = true) (w2 : (Jvm.Cond.declares y).before a0 Z = true) (w3 : (Jvm.Cond.selects Cn y z).before a0 Z = true) (w4 : (Jvm.Cond.instanceMethod z).before a0 Z = true) (nf : ∀ s : State, (Jvm.Cond.selects Cn y z).before C.args s = true → NotFace s y) (hy : y.cls ≠ "java/lang/invoke/MethodHandle" ∧ y.cls ≠ "java/lang/invoke/VarHandle") (E : Exa Z h a Cn)
    (B : ∀ vm0, Z.Warmed39 vm0 → CHv Z C.EL vm0 h → BackQS C Z vm0 z W (.ref a :: as).toArray h kc ks P) (hP : ∀ v h' L, P v h' L → Q' v h' ∧ Fr n0 L ∧ h.size ≤ h'.size) (hpd : parseMethodDescriptor y.desc = some ⟨ps, r⟩) (hlen : as.length = ps.length) (hS : S = as.reverse ++ .ref a :: rest) (hW : wt rest = W) (hL : L.size = ml) (hc : k + kc ≤ rm.cells) (hl : n + ks ≤ rm.slots)
    (K : ∀ v h', Q' v h' → Go C Z n0 Q M h' (k + kc) (n + ks) (pc + 3) L (v.toList ++ rest)) : Go C Z n0 Q M h k n pc L S := by
  subst hS
  refine Go.viaW hwd (ι := Option Value) (P := Q') (S' := fun v => v.toList ++ rest) K fun T vm0 locs k0 X hZ hf eT N hSi hk H hM => ?_
  obtain ⟨cq, kq, qa, qb, qc⟩ := isOf (s := C.s.setVm vm0) (T := T) hZ eT E
  have hsel := mvT (s := C.s.setVm vm0) (args := C.args) hZ w3
  obtain ⟨v, vm₁, ⟨T', L', k', n'⟩, -, X', hS2, hg, ⟨Lc, hQ, l1, l2, l3, hC⟩, st⟩ := X.virtualBackS o.1 (y := y) (z := z) (own := own) (by rw [← o.hown]; exact hf) (mvT (s := C.s.setVm vm0) hZ w1) (mvT (s := C.s.setVm vm0) hZ w2) (nf _ hsel) hsel (mvT (s := C.s.setVm vm0) hZ w4) hy (B vm0 hZ H) qa qc (g := mkF C.m pc L (as.reverse ++ .ref a :: rest)) rfl (hL.trans o.2.2.1.symm) (Steps.refl _) (argsL := as) (rest := rest) (lenOf hpd hlen) rfl (by show 2 * 0 + wt rest ≤ _; omega) (hb o.2.1 d) (fun _ _ => ⟨rfl, eT, by rw [o.R]; exact hc, by rw [o.R]; exact hl⟩)
  dsimp only [Pt.U, Pt.locs, Pt.cells, Pt.slots] at X' hQ l1 l2 l3 st hS2 hg hC
  subst l1 l2 l3
  obtain ⟨q1, q2, q3⟩ := hP _ _ _ hQ
  obtain ⟨X2, hS3, hZ2, hf2⟩ := rebS (own := C.own) hSi hk X' hS2 (by rw [← eT]; exact hg) hZ hf
  exact ⟨v, T', T'.vm, _, _, _, q1, X2, rfl, N.app q2, hS3, Nat.le_refl _, hZ2, hf2, hC, fun target z => st.trans z⟩
theorem MetW.back {y : MethodName} {as : Array Value} {mL : Nat} {by' : ByteArray} {rt : Option FieldType} {rm' : Room} {Q' : Option Value → Heap → Prop} {W : Nat} {EL : List (String × Nat)} (hE : C.EL = EL) (o : Ok C Z a0 b ml ret nm own rm) (Mt : MetW C.l Z n0 EL y by' mL rt rm' as h Q') (w4 : (Jvm.Cond.code y by' mL rt).before a0 Z = true) (w3 : (Jvm.Cond.initialized y.cls).before a0 Z = true) (hf : rm'.frames + 1 ≤ rm.frames) (hl : W + (mL + 11) + rm'.locals ≤ rm.locals) :
    ∀ vm0, Z.Warmed39 vm0 → CHv Z C.EL vm0 h → BackQS C Z vm0 y W as h rm'.cells rm'.slots (fun v h' L => Q' v h' ∧ Fr n0 L ∧ h.size ≤ h'.size) := fun vm0 hZ H => by
  subst hE
  exact backOfSH (s := C.s) (Z := Z) (a0 := a0) (h := h) (Q := fun v h' L => Q' v h' ∧ Fr n0 L ∧ h.size ≤ h'.size) Mt hZ w4 w3 (by rw [o.R]; exact hf) (by rw [o.R]; exact hl) o.ew H
end Wide
theorem wS_ {Z : State} {a0 : Array Value} (hw : ∀ d ∈ tables_1, d.before a0 Z = true) : ∀ a ∈ Bundle.stringAtoms, a.before a0 Z = true := fun d hd => by
  simp only [Bundle.stringAtoms, List.mem_cons, List.not_mem_nil, or_false] at hd
  rcases hd with rfl | rfl | rfl | rfl | rfl | rfl | rfl
  · exact (wd_9 hw)
  · exact (wd_8 hw)
  · exact (wd_22 hw)
  · exact (wd_23 hw)
  · exact (wd_24 hw)
  · exact (wd_25 hw)
  · exact (wd_26 hw)
/-! own text: constants whose text is read -/
section Held
variable {C : Cx} {Z : State} {a0 : Array Value} {b : ByteArray} {ml : Nat} {ret : Option FieldType} {nm own : String} {rm : Room} {n0 : Nat} {Q : Option Value → Heap → Prop} {M : List Addr} {h : Heap} {k n pc : Nat} {L : Array Slot} {S : List Value}
theorem g_ldcR (o : Ok C Z a0 b ml ret nm own rm) (hwd : C.wide = true) {ix m : Nat} {text : String} {cs : List Int32} (d : decode b pc = .ok (.ldc ix, 2)) (w : (Jvm.Cond.stringLink own ix text).before a0 Z = true) (wS : ∀ a ∈ Bundle.stringAtoms, a.before a0 Z = true) (hmem : (own, ix) ∈ C.EL) (hlat : ∀ c ∈ text.toList, c.toNat < 256) (hcs : text.toList.map (fun c => Value.int (Jvm.Lit.byteI c.toNat.toUInt16)) = (cs.map fun c => c.toInt8.toInt32).map Value.int)
    (hp : ∀ c ∈ cs, ¬ c < 0 ∧ ¬ (255 : Int32) < c) (hz : ¬ (Int32.ofNat cs.length) < 0) (hzl : (Int32.ofNat cs.length).toNatClampNeg = cs.length) (hm : 4 * text.toList.length ≤ m) (hbig : m ≤ 536870912) (hc : k + 2 ≤ rm.cells) (hl : n + (m + 4) ≤ rm.slots)
    (K : ∀ a h', Ext h h' → Str Z h' a cs → Go C Z n0 Q M h' (k + 2) (n + (m + 4)) (pc + 2) L (.ref a :: S)) : Go C Z n0 Q M h k n pc L S := by
  refine Go.viaW hwd (ι := Addr) (P := fun a h' => Ext h h' ∧ Str Z h' a cs) (S' := fun a => .ref a :: S) (fun a h' q => K a h' q.1 q.2) fun T vm0 locs k0 X hZ hf eT N hS hk H hM => ?_
  obtain ⟨a, T', h', k1, t, kb, X', e', E, hS', hk', hW, hf', f1, f2, f3, f4, -, -, hC, -, -, st⟩ := ldcCH X o.1 hZ (own := own) (by rw [← o.hown]; exact hf) w wS eT hS hk o.ew hmem H ⟨hlat, hcs⟩ hz (by rw [hzl]; simp) (g := mkF C.m pc L S) rfl (hb o.2.1 d) hm hbig (by rw [o.R]; exact hc) (by rw [o.R]; exact hl)
  exact ⟨a, T', T'.vm, locs, h', k1, ⟨E, f1, f2, hp, t, kb, f3, f4⟩, X', e', N, hS', hk', hW, by rw [o.hown]; exact hf', hC, st⟩
theorem safe_blank {vm : Vm} {EL : List (String × Nat)} {x : Addr} (hal : Z.vm.Alike vm) (E : Exa Z h x "java/lang/String") (F : Fld Z h x "java/lang/String" "value" "[B" .null) : Safe Z EL vm h x := fun B => by
  obtain ⟨p, hp, u, a, hb, q, hqa, ⟨cS, ⟨⟨s1, s2, s3, ⟨cv, kv, iv, s4, s4'⟩, ⟨cc, kc, ic, s5, s5'⟩, s6, s7, s8, s9, s10, s11, s12, s13, s14, s15, s16⟩, hfS, hcS⟩, ⟨kS, k1, k2, k3⟩, hB, hbyt⟩, hx⟩ := B
  obtain ⟨cell, cf, k, i, f, h1, h2, h3, h4, h5, h6, h7⟩ := F
  rcases hx with rfl | rfl
  · obtain ⟨kv', z4⟩ := ff_back (U := Wst Z vm h) hal s4
    cases h2.symm.trans z4
    have s1 : h[q.sa]? = some q.sC := s1
    cases h1.symm.trans s1
    cases h7.symm.trans s8
  · obtain ⟨c1, kE, e1, e2, e3, -⟩ := E
    have s10 : h[q.sd]? = some q.SA := s10
    cases e1.symm.trans s10
    have hBZ : Z.vm.findClass "[B" = some q.SA.cls := by rw [← hal.findClass]; exact hB
    obtain ⟨k5, g1, g2⟩ := Vm.findClass_spec e2
    obtain ⟨k6, g3, g4⟩ := Vm.findClass_spec hBZ
    cases g1.symm.trans g3
    exact absurd (g2.symm.trans g4) (by decide)
theorem Go.less {M' : List Addr} (hM : ∀ x ∈ M', x ∈ M) (K : Go C Z n0 Q M' h k n pc L S) : Go C Z n0 Q M h k n pc L S := fun T H => by
  obtain ⟨vm0, locs, k0, X, e1, e2, e3, e4, e5, e6, e7, e8, e9⟩ := H
  exact K T ⟨vm0, locs, k0, X, e1, e2, e3, e4, e5, e6, e7, e8, fun y hy => e9 y (hM y hy)⟩
end Held
theorem ew_ {Z : State} {a0 : Array Value} (hw : ∀ d ∈ tables_1, d.before a0 Z = true) : EW Z a0 consts_1 := (EW.cons (text := "name") (wd_72 hw) (by decide +kernel) (EW.cons (text := "type") (wd_74 hw) (by decide +kernel) (EW.cons (text := "name") (wd_44 hw) (by decide +kernel) (EW.cons (text := "type") (wd_49 hw) (by decide +kernel) (EW.cons (text := "") (wd_21 hw) (by decide +kernel) EW.nil)))))
def sL (n a b : Int32) : List Int32 := if n = 0 then [] else if n = 1 then [a] else [a, b]
theorem sL_len (n a b : Int32) : (sL n a b).length ≤ 4000 := by
  unfold sL
  by_cases h : n = 0
  · rw [if_pos h]; decide
  · rw [if_neg h]; by_cases h2 : n = 1
    · rw [if_pos h2]; exact Nat.le_of_ble_eq_true rfl
    · rw [if_neg h2]; exact Nat.le_of_ble_eq_true rfl
theorem and3 (x : Int32) : x &&& 3 = 0 ∨ x &&& 3 = 1 ∨ x &&& 3 = 2 ∨ x &&& 3 = 3 := by
  have h : (x &&& 3).toBitVec.toNat ≤ 3 := by rw [Int32.toBitVec_and, BitVec.toNat_and]; exact Nat.and_le_right
  have e : (x &&& 3) = Int32.ofNat (x &&& 3).toBitVec.toNat := by
    apply Int32.toBitVec_inj.mp
    show _ = BitVec.ofNat 32 _
    rw [BitVec.ofNat_toNat]; simp
  generalize (x &&& 3).toBitVec.toNat = m at h e
  rw [e]
  have : m = 0 ∨ m = 1 ∨ m = 2 ∨ m = 3 := by omega
  rcases this with rfl | rfl | rfl | rfl <;> decide
theorem rem3 (x : Int32) : (x &&& 3) % 3 = 0 ∨ (x &&& 3) % 3 = 1 ∨ (x &&& 3) % 3 = 2 := by rcases and3 x with h | h | h | h <;> rw [h] <;> decide
theorem sL_eq {n m a b a' b' : Int32} (hn : n = 0 ∨ n = 1 ∨ n = 2) (hm : m = 0 ∨ m = 1 ∨ m = 2) :
    sL n a b = sL m a' b' ↔ n = m ∧ (n < 1 ∨ a = a') ∧ (n < 2 ∨ b = b') := by
  have e0 : ∀ a b : Int32, sL 0 a b = [] := fun _ _ => rfl
  have e1 : ∀ a b : Int32, sL 1 a b = [a] := fun _ _ => rfl
  have e2 : ∀ a b : Int32, sL 2 a b = [a, b] := fun _ _ => rfl
  rcases hn with rfl | rfl | rfl <;> rcases hm with rfl | rfl | rfl <;> simp [e0, e1, e2]
theorem i2c_lat {x : Int32} (h : ¬ x < 0 ∧ ¬ (255 : Int32) < x) : x.toUInt32.toUInt16.toUInt32.toInt32 = x := by
  obtain ⟨h0, h1⟩ := h
  have e : x = x &&& 255 := by
    rw [Int32.lt_iff_toInt_lt] at h0 h1
    have e0 : (0 : Int32).toInt = 0 := rfl
    have e1 : (255 : Int32).toInt = 255 := rfl
    have hx : x.toInt = (x.toBitVec.toNat : Int) := by
      rw [← Int32.toInt_toBitVec]; rw [BitVec.toInt_eq_toNat_cond]; split
      · rfl
      · rename_i q; exfalso; have := x.toBitVec.isLt; have hh : x.toInt = x.toBitVec.toInt := rfl; rw [hh, BitVec.toInt_eq_toNat_cond, if_neg q] at h0; omega
    apply Int32.toBitVec_inj.mp
    apply BitVec.eq_of_toNat_eq
    rw [Int32.toBitVec_and, BitVec.toNat_and]
    show x.toBitVec.toNat = x.toBitVec.toNat &&& 255
    rw [show (255 : Nat) = 2 ^ 8 - 1 from rfl, Nat.and_two_pow_sub_one_eq_mod, Nat.mod_eq_of_lt (by omega)]
  rw [e]; exact i2c_mask x
def tyA (k : Int32) (t0 t1 t2 t3 t4 t5 t6 t7 t8 t9 : Addr) : Addr := if k = 0 then t0 else if k = 1 then t1 else if k = 2 then t2 else if k = 3 then t3 else if k = 4 then t4 else if k = 5 then t5 else if k = 6 then t6 else if k = 7 then t7 else if k = 8 then t8 else t9
set_option maxRecDepth 65536 in
set_option maxHeartbeats 40000000 in
theorem rm_new4E (l : Launch) (Z : State) (a0 : Array Value) (hw : ∀ d ∈ tables_1, d.before a0 Z = true) (n0 : Nat) (h0 : Heap) (X0 : Old Z n0 h0) (x : Addr) (c : Addr) (A : Exa Z h0 x "java/lang/String") (Fv : Fld Z h0 x "java/lang/String" "value" "[B" .null) (Fc : Fld Z h0 x "java/lang/String" "coder" "B" (.int 0)) (gx : n0 ≤ x) :
    MetW l Z n0 consts_1 (⟨"java/lang/String", "<init>", "([CIILjava/lang/Void;)V"⟩ : MethodName) jdk_42_method_149_code 6 none ({ frames := 1, cells := 4, slots := 8, locals := 12 } : Room) #[(.ref x), (.ref c), (.int 0), (.int 0), .null] h0 (fun v h => v = none ∧ Keep h0 h [x] ∧ Str Z h x []) := by
  refine metW_of pn_0 hw (ew_ hw) (L := #[.val (.ref x), .val (.ref c), .val (.int 0), .val (.int 0), .val .null, .unset]) (fun m => by first | (simp [entryFrame, mkF, argsToLocals, Value.category]; done) | rfl) fun C hl hwd hE o => ?_
  subst hl
  have o : Ok C Z a0 jdk_42_method_149_code 6 none "<init>" "java/lang/String" ({ frames := 1, cells := 4, slots := 8, locals := 12 } : Room) := o
  refine Go.mine A.lt (fun _ hal => safe_blank hal A Fv) ?_
  refine g_aload_n o (pc := 0) d_jdk_42_method_149_0 rfl rfl ?_
  refine g_initO o (pc := 1) d_jdk_42_method_149_1 (wd_18 hw) (wd_19 hw) (wd_20 hw) rfl (by decide) (by decide) ?_
  refine g_iload_n o (pc := 4) d_jdk_42_method_149_4 rfl ?_
  refine g_ifCN o (pc := 5) d_jdk_42_method_149_5 (t := 27) (by decide) rfl c_ne (fun hy1 => absurd rfl hy1) (fun _ => ?_)
  refine g_aload_n o (pc := 8) d_jdk_42_method_149_8 rfl rfl ?_
  refine g_ldcR o hwd (pc := 9) d_jdk_42_method_149_9 (wd_21 hw) (wS_ hw) (m := 0) (cs := []) (by rw [hE]; exact List.mem_of_getElem? (i := 4) rfl) (by decide +kernel) (by decide +kernel) (by decide) (by decide) (by decide) (by decide) (by decide) (by decide) (by decide) fun a2 h3 E4 St5 => ?_
  obtain ⟨Ae6, Fc7, hp8, t9, kb10, Fv11, Ar12⟩ := St5
  refine g_getF o (pc := 11) d_jdk_42_method_149_11 (wd_27 hw) Via.refl Fv11 ?_
  have q13 := (Fv.ext E4)
  have q14 := (A.ext E4)
  refine g_putF o (pc := 14) d_jdk_42_method_149_14 (wd_27 hw) Via.refl q13 q14 (Or.inr ⟨(wd_23 hw), rfl, rfl⟩) (wd_8 hw) (ty := (.array .byte)) (by decide) rfl rfl gx (Or.inr (Or.inl (by simp))) fun h15 W16 => ?_
  have F17 := q13.same W16
  refine g_aload_n o (pc := 17) d_jdk_42_method_149_17 rfl rfl ?_
  refine g_ldcR o hwd (pc := 18) d_jdk_42_method_149_18 (wd_21 hw) (wS_ hw) (m := 0) (cs := []) (by rw [hE]; exact List.mem_of_getElem? (i := 4) rfl) (by decide +kernel) (by decide +kernel) (by decide) (by decide) (by decide) (by decide) (by decide) (by decide) (by decide) fun a18 h19 E20 St21 => ?_
  obtain ⟨Ae22, Fc23, hp24, t25, kb26, Fv27, Ar28⟩ := St21
  refine g_getF o (pc := 20) d_jdk_42_method_149_20 (wd_28 hw) Via.refl Fc23 ?_
  have q29 := (((Fc.ext E4).other W16 (Or.inr (slot_ne (Or.inr (wd_24 hw)) (Or.inr (wd_23 hw)) (by decide) (t := .byte) (t' := (.array .byte)) (by decide) (by decide)))).ext E20)
  have q30 := ((q14.wr W16).ext E20)
  refine g_putF o (pc := 23) d_jdk_42_method_149_23 (wd_28 hw) Via.refl q29 q30 (Or.inr ⟨(wd_24 hw), rfl, rfl⟩) (wd_8 hw) (ty := .byte) (by decide) rfl rfl gx (Or.inr (Or.inl (by simp))) fun h31 W32 => ?_
  have F33 := q29.same W32
  refine g_return o (pc := 26) d_jdk_42_method_149_26 ?_ (by decide) (by decide)
  exact ⟨rfl, (((((Keep.refl _ [x]).ext E4).wr W16 (Or.inl (by simp))).ext E20).wr W32 (Or.inl (by simp))), (q30.wr W32), F33, (fun _ q => nomatch q), t9, _, ((F17.ext E20).other W32 (Or.inr (slot_ne (Or.inr (wd_23 hw)) (Or.inr (wd_24 hw)) (by decide) (t := (.array .byte)) (t' := .byte) (by decide) (by decide)))), (((Ar12.other W16 (Ne.symm (Exa.neArv (A.ext E4) Ar12 (wd_8 hw)))).ext E20).other W32 (Ne.symm (Exa.neArv (((A.ext E4).wr W16).ext E20) ((Ar12.other W16 (Ne.symm (Exa.neArv (A.ext E4) Ar12 (wd_8 hw)))).ext E20) (wd_8 hw))))⟩
set_option maxRecDepth 65536 in
set_option maxHeartbeats 40000000 in
theorem rm_new1E (l : Launch) (Z : State) (a0 : Array Value) (hw : ∀ d ∈ tables_1, d.before a0 Z = true) (n0 : Nat) (h0 : Heap) (X0 : Old Z n0 h0) (x : Addr) (c : Addr) (kc : ClassId) (A : Exa Z h0 x "java/lang/String") (Fv : Fld Z h0 x "java/lang/String" "value" "[B" .null) (Fc : Fld Z h0 x "java/lang/String" "coder" "B" (.int 0)) (gx : n0 ≤ x) (Ac : Arv Z h0 c kc .char 0 [] (.int 0)) :
    MetW l Z n0 consts_1 (⟨"java/lang/String", "<init>", "([C)V"⟩ : MethodName) jdk_42_method_3_code 2 none ({ frames := 2, cells := 4, slots := 8, locals := 29 } : Room) #[(.ref x), (.ref c)] h0 (fun v h => v = none ∧ Keep h0 h [x] ∧ Str Z h x []) := by
  refine metW_of pn_0 hw (ew_ hw) (L := #[.val (.ref x), .val (.ref c)]) (fun m => by first | (simp [entryFrame, mkF, argsToLocals, Value.category]; done) | rfl) fun C hl hwd hE o => ?_
  subst hl
  have o : Ok C Z a0 jdk_42_method_3_code 2 none "<init>" "java/lang/String" ({ frames := 2, cells := 4, slots := 8, locals := 29 } : Room) := o
  refine g_aload_n o (pc := 0) d_jdk_42_method_3_0 rfl rfl ?_
  refine g_aload_n o (pc := 1) d_jdk_42_method_3_1 rfl rfl ?_
  refine g_iconst o (pc := 2) d_jdk_42_method_3_2 (v := 0) rfl ?_
  refine g_aload_n o (pc := 3) d_jdk_42_method_3_3 rfl rfl ?_
  refine g_alen o (pc := 4) d_jdk_42_method_3_4 Ac ?_
  refine g_aconst_null o (pc := 5) d_jdk_42_method_3_5 ?_
  refine g_specialW o hwd (pc := 6) x [(.ref c), (.int 0), (.int 0), .null] [] d_jdk_42_method_3_6 rfl (wd_14 hw) (wd_15 hw) (wd_17 hw) (by decide) (MetW.back hE o (W := 0) (rm_new4E C.l Z a0 hw n0 h0 X0 x c A Fv Fc gx) (wd_17 hw) (wd_9 hw) (by decide) (by decide)) (fun _ _ _ q => q) pd_0 rfl rfl rfl rfl (by decide) (by decide) fun v1 h2 q3 => ?_
  obtain ⟨rfl, K4, St5⟩ := q3
  show Go C Z n0 (fun v h => v = none ∧ Keep h0 h [x] ∧ Str Z h x []) [] h2 4 8 9 #[.val (.ref x), .val (.ref c)] []
  refine g_return o (pc := 9) d_jdk_42_method_3_9 ?_ (by decide) (by decide)
  exact ⟨rfl, ((Keep.refl _ [x]).trans K4 (allS (Or.inl (by simp)) all0)), St5⟩
set_option maxRecDepth 65536 in
set_option maxHeartbeats 40000000 in
theorem rm_str (l : Launch) (Z : State) (a0 : Array Value) (hw : ∀ d ∈ tables_1, d.before a0 Z = true) (n0 : Nat) (h0 : Heap) (X0 : Old Z n0 h0) (n : Int32) (c0 : Int32) (c1 : Int32) (zc : Int32) (Sc : Sta Z Z.heap "java/lang/String" "COMPACT_STRINGS" "Z" (.int zc)) (nzc : ¬ zc = 0) (l0 : ¬ c0 < 0 ∧ ¬ (255 : Int32) < c0) (l1 : ¬ c1 < 0 ∧ ¬ (255 : Int32) < c1) :
    MetW l Z n0 consts_1 (⟨"com/example/protocols_under_attack/protocolsunderattack/term/VariableEqualsPinLaw", "str", "(ICC)Ljava/lang/String;"⟩ : MethodName) method_3_code 3 (some (.object "java/lang/String")) ({ frames := 4, cells := 6, slots := 12, locals := 66 } : Room) #[(.int n), (.int c0), (.int c1)] h0 (fun v h => Keep h0 h [] ∧ ∃ a, v = some (.ref a) ∧ Str Z h a (sL n c0 c1)) := by
  refine metW_of pn_1 hw (ew_ hw) (L := #[.val (.int n), .val (.int c0), .val (.int c1)]) (fun m => by first | (simp [entryFrame, mkF, argsToLocals, Value.category]; done) | rfl) fun C hl hwd hE o => ?_
  subst hl
  have o : Ok C Z a0 method_3_code 3 (some (.object "java/lang/String")) "str" "com/example/protocols_under_attack/protocolsunderattack/term/VariableEqualsPinLaw" ({ frames := 4, cells := 6, slots := 12, locals := 66 } : Room) := o
  refine g_iload_n o (pc := 0) d_method_3_0 rfl ?_
  refine g_ifCN o (pc := 1) d_method_3_1 (t := 15) (by decide) rfl c_ne (fun hy1 => ?_) (fun hn2 => ?_)
  · refine g_iload_n o (pc := 15) d_method_3_15 rfl ?_
    refine g_iconst o (pc := 16) d_method_3_16 (v := 1) rfl ?_
    refine g_icmpN o (pc := 17) d_method_3_17 (t := 35) (by decide) rfl c_ne (fun hy3 => ?_) (fun hn4 => ?_)
    · refine g_new o (pc := 35) d_method_3_35 (wd_7 hw) (wd_8 hw) (wd_9 hw) (by decide) (by decide) (M' := fun a => a :: []) (fun _ _ q => (List.mem_cons.mp q).elim Or.inr Or.inl) fun a5 h6 ha7 E8 A9 D10 => ?_
      have F11 : Fld Z h6 a5 "java/lang/String" "value" "[B" .null := D10 (Or.inr (wd_23 hw)) (ty := (.array .byte)) (by decide)
      have F12 : Fld Z h6 a5 "java/lang/String" "coder" "B" (.int 0) := D10 (Or.inr (wd_24 hw)) (ty := .byte) (by decide)
      refine g_dup o (pc := 38) d_method_3_38 rfl ?_
      refine g_iconst o (pc := 39) d_method_3_39 (v := 2) rfl ?_
      refine g_newarr o (pc := 40) d_method_3_40 (dv := .int 0) rfl rfl (wd_10 hw) (by decide) (m := 2) (by decide) (by decide) (by decide) (by decide) (M' := fun a => a :: [a5]) (fun _ _ q => (List.mem_cons.mp q).elim Or.inr Or.inl) fun a13 h14 kc15 ha16 E17 V18 => ?_
      have V19 : Arv Z h14 a13 kc15 .char 2 [.int 0, .int 0] (.int 0) := V18
      refine g_dup o (pc := 42) d_method_3_42 rfl ?_
      refine g_iconst o (pc := 43) d_method_3_43 (v := 0) rfl ?_
      refine g_iload_n o (pc := 44) d_method_3_44 rfl ?_
      refine g_castore o (pc := 45) d_method_3_45 V19 rfl (by decide) (i := 0) rfl (Nat.le_of_ble_eq_true rfl) (y := c0) (i2c_lat l0) (ge_new ha16 (X0.ext E8)) (Or.inr (Or.inl (by simp))) fun h20 W21 V22 => ?_
      have V23 : Arv Z h20 a13 kc15 .char 2 [.int c0, .int 0] (.int 0) := V22
      refine g_dup o (pc := 46) d_method_3_46 rfl ?_
      refine g_iconst o (pc := 47) d_method_3_47 (v := 1) rfl ?_
      refine g_iload_n o (pc := 48) d_method_3_48 rfl ?_
      refine g_castore o (pc := 49) d_method_3_49 V23 rfl (by decide) (i := 1) rfl (Nat.le_of_ble_eq_true rfl) (y := c1) (i2c_lat l1) (ge_new ha16 (X0.ext E8)) (Or.inr (Or.inl (by simp))) fun h24 W25 V26 => ?_
      have V27 : Arv Z h24 a13 kc15 .char 2 [.int c0, .int c1] (.int 0) := V26
      have q28 := ((((X0.ext E8).ext E17).wr W21 (ge_new ha16 (X0.ext E8))).wr W25 (ge_new ha16 (X0.ext E8)))
      have q29 := (((A9.ext E17).wr W21).wr W25)
      have q30 := (((F11.ext E17).other W21 (Or.inl (ne_new ha16 A9.lt))).other W25 (Or.inl (ne_new ha16 A9.lt)))
      have q31 := (((F12.ext E17).other W21 (Or.inl (ne_new ha16 A9.lt))).other W25 (Or.inl (ne_new ha16 A9.lt)))
      have hp32 : ∀ ch_ ∈ [(c0 : Int32), (c1 : Int32)], ¬ ch_ < 0 ∧ ¬ (255 : Int32) < ch_ := by
        intro ch_ hc_; simp only [List.mem_cons, List.not_mem_nil, or_false] at hc_
        rcases hc_ with rfl | rfl
        · exact l0
        · exact l1
      refine g_special o (pc := 50) a5 [(.ref a13)] [(.ref a5)] d_method_3_50 rfl (wd_11 hw) (wd_12 hw) (wd_13 hw) (by decide) (kc := 1) (ks := 2) (fun vm0 hZ => StrChars.Road.backV (W := 1) (s := C.s.setVm vm0) hZ (hwS hw) (kI := 4) (wd_8 hw) (cs := [c0, c1]) (bs := [c0, c1].map fun ch_ => ch_.toInt8.toInt32) (n := 2) (n0 := n0) (ge_new ha7 X0) (Old.sz q28) q29 q30 q31 V27 (Sc.ext q28.2) nzc rfl rfl (by decide) (by decide) hp32 rfl (by rw [o.R]; decide) (by rw [o.R]; decide)) (Q' := fun v h' => StrOf Z n0 h24 2 h' a5 [c0, c1] v) (fun v h' L q => strOf_of (n := 2) rfl hp32 q) (Or.inr fun _ _ q => Mv.keep q.2.1 (allS (Or.inr (Or.inl (by simp))) all0)) pd_1 rfl rfl rfl rfl (by decide) (by decide) fun v33 h34 q35 => ?_
      obtain ⟨rfl, K36, St38⟩ := q35
      show Go C Z n0 (fun v h => Keep h0 h [] ∧ ∃ a, v = some (.ref a) ∧ Str Z h a (sL n c0 c1)) [a13, a5] h34 3 8 53 #[.val (.int n), .val (.int c0), .val (.int c1)] [(.ref a5)]
      refine g_areturn o (pc := 53) rfl rfl d_method_3_53 ?_ (by decide) (by decide)
      exact ⟨((((((Keep.refl _ []).ext E8).ext E17).wr W21 (Or.inr (keep_new ha16 ((Keep.refl _ []).ext E8)))).wr W25 (Or.inr (keep_new ha16 ((Keep.refl _ []).ext E8)))).trans K36 (allS (Or.inr (keep_new ha7 (Keep.refl _ []))) all0)), a5, rfl, by simpa [sL, *] using St38⟩
    · refine g_new o (pc := 20) d_method_3_20 (wd_7 hw) (wd_8 hw) (wd_9 hw) (by decide) (by decide) (M' := fun a => a :: []) (fun _ _ q => (List.mem_cons.mp q).elim Or.inr Or.inl) fun a39 h40 ha41 E42 A43 D44 => ?_
      have F45 : Fld Z h40 a39 "java/lang/String" "value" "[B" .null := D44 (Or.inr (wd_23 hw)) (ty := (.array .byte)) (by decide)
      have F46 : Fld Z h40 a39 "java/lang/String" "coder" "B" (.int 0) := D44 (Or.inr (wd_24 hw)) (ty := .byte) (by decide)
      refine g_dup o (pc := 23) d_method_3_23 rfl ?_
      refine g_iconst o (pc := 24) d_method_3_24 (v := 1) rfl ?_
      refine g_newarr o (pc := 25) d_method_3_25 (dv := .int 0) rfl rfl (wd_10 hw) (by decide) (m := 1) (by decide) (by decide) (by decide) (by decide) (M' := fun a => a :: [a39]) (fun _ _ q => (List.mem_cons.mp q).elim Or.inr Or.inl) fun a47 h48 kc49 ha50 E51 V52 => ?_
      have V53 : Arv Z h48 a47 kc49 .char 1 [.int 0] (.int 0) := V52
      refine g_dup o (pc := 27) d_method_3_27 rfl ?_
      refine g_iconst o (pc := 28) d_method_3_28 (v := 0) rfl ?_
      refine g_iload_n o (pc := 29) d_method_3_29 rfl ?_
      refine g_castore o (pc := 30) d_method_3_30 V53 rfl (by decide) (i := 0) rfl (Nat.le_of_ble_eq_true rfl) (y := c0) (i2c_lat l0) (ge_new ha50 (X0.ext E42)) (Or.inr (Or.inl (by simp))) fun h54 W55 V56 => ?_
      have V57 : Arv Z h54 a47 kc49 .char 1 [.int c0] (.int 0) := V56
      have q58 := (((X0.ext E42).ext E51).wr W55 (ge_new ha50 (X0.ext E42)))
      have q59 := ((A43.ext E51).wr W55)
      have q60 := ((F45.ext E51).other W55 (Or.inl (ne_new ha50 A43.lt)))
      have q61 := ((F46.ext E51).other W55 (Or.inl (ne_new ha50 A43.lt)))
      have hp62 : ∀ ch_ ∈ [(c0 : Int32)], ¬ ch_ < 0 ∧ ¬ (255 : Int32) < ch_ := by
        intro ch_ hc_; simp only [List.mem_cons, List.not_mem_nil, or_false] at hc_
        rcases hc_ with rfl
        · exact l0
      refine g_special o (pc := 31) a39 [(.ref a47)] [(.ref a39)] d_method_3_31 rfl (wd_11 hw) (wd_12 hw) (wd_13 hw) (by decide) (kc := 1) (ks := 1) (fun vm0 hZ => StrChars.Road.backV (W := 1) (s := C.s.setVm vm0) hZ (hwS hw) (kI := 4) (wd_8 hw) (cs := [c0]) (bs := [c0].map fun ch_ => ch_.toInt8.toInt32) (n := 1) (n0 := n0) (ge_new ha41 X0) (Old.sz q58) q59 q60 q61 V57 (Sc.ext q58.2) nzc rfl rfl (by decide) (by decide) hp62 rfl (by rw [o.R]; decide) (by rw [o.R]; decide)) (Q' := fun v h' => StrOf Z n0 h54 1 h' a39 [c0] v) (fun v h' L q => strOf_of (n := 1) rfl hp62 q) (Or.inr fun _ _ q => Mv.keep q.2.1 (allS (Or.inr (Or.inl (by simp))) all0)) pd_1 rfl rfl rfl rfl (by decide) (by decide) fun v63 h64 q65 => ?_
      obtain ⟨rfl, K66, St68⟩ := q65
      show Go C Z n0 (fun v h => Keep h0 h [] ∧ ∃ a, v = some (.ref a) ∧ Str Z h a (sL n c0 c1)) [a47, a39] h64 3 6 34 #[.val (.int n), .val (.int c0), .val (.int c1)] [(.ref a39)]
      refine g_areturn o (pc := 34) rfl rfl d_method_3_34 ?_ (by decide) (by decide)
      exact ⟨(((((Keep.refl _ []).ext E42).ext E51).wr W55 (Or.inr (keep_new ha50 ((Keep.refl _ []).ext E42)))).trans K66 (allS (Or.inr (keep_new ha41 (Keep.refl _ []))) all0)), a39, rfl, by simpa [sL, *] using St68⟩
  · refine g_new o (pc := 4) d_method_3_4 (wd_7 hw) (wd_8 hw) (wd_9 hw) (by decide) (by decide) (M' := fun a => a :: []) (fun _ _ q => (List.mem_cons.mp q).elim Or.inr Or.inl) fun a69 h70 ha71 E72 A73 D74 => ?_
    have F75 : Fld Z h70 a69 "java/lang/String" "value" "[B" .null := D74 (Or.inr (wd_23 hw)) (ty := (.array .byte)) (by decide)
    have F76 : Fld Z h70 a69 "java/lang/String" "coder" "B" (.int 0) := D74 (Or.inr (wd_24 hw)) (ty := .byte) (by decide)
    refine g_dup o (pc := 7) d_method_3_7 rfl ?_
    refine g_iconst o (pc := 8) d_method_3_8 (v := 0) rfl ?_
    refine g_newarr o (pc := 9) d_method_3_9 (dv := .int 0) rfl rfl (wd_10 hw) (by decide) (m := 0) (by decide) (by decide) (by decide) (by decide) (M' := fun a => a :: [a69]) (fun _ _ q => (List.mem_cons.mp q).elim Or.inr Or.inl) fun a77 h78 kc79 ha80 E81 V82 => ?_
    have V83 : Arv Z h78 a77 kc79 .char 0 [] (.int 0) := V82
    have q84 := (A73.ext E81)
    have q85 := (F75.ext E81)
    have q86 := (F76.ext E81)
    have q87 := ((X0.ext E72).ext E81)
    refine g_specialW o hwd (pc := 11) a69 [(.ref a77)] [(.ref a69)] d_method_3_11 rfl (wd_11 hw) (wd_12 hw) (wd_13 hw) (by decide) (MetW.back hE o (W := 1) (rm_new1E C.l Z a0 hw n0 h78 q87 a69 a77 kc79 q84 q85 q86 (ge_new ha71 X0) V83) (wd_13 hw) (wd_9 hw) (by decide) (by decide)) (fun _ _ _ q => q) pd_1 rfl rfl rfl rfl (by decide) (by decide) fun v88 h89 q90 => ?_
    obtain ⟨rfl, K91, St92⟩ := q90
    show Go C Z n0 (fun v h => Keep h0 h [] ∧ ∃ a, v = some (.ref a) ∧ Str Z h a (sL n c0 c1)) [a77, a69] h89 6 12 14 #[.val (.int n), .val (.int c0), .val (.int c1)] [(.ref a69)]
    refine g_areturn o (pc := 14) rfl rfl d_method_3_14 ?_ (by decide) (by decide)
    exact ⟨((((Keep.refl _ []).ext E72).ext E81).trans K91 (allS (Or.inr (keep_new ha71 (Keep.refl _ []))) all0)), a69, rfl, by simpa [sL, *] using St92⟩
set_option maxRecDepth 65536 in
set_option maxHeartbeats 40000000 in
theorem rm_rec (l : Launch) (Z : State) (a0 : Array Value) (hw : ∀ d ∈ tables_1, d.before a0 Z = true) (n0 : Nat) (h0 : Heap) (X0 : Old Z n0 h0) (a : Addr)  :
    Met l Z n0 (⟨"java/lang/Record", "<init>", "()V"⟩ : MethodName) jdk_30_method_1_code 1 none ({ frames := 1, cells := 0, slots := 0, locals := 12 } : Room) #[(.ref a)] h0 (fun v h => v = none ∧ h = h0) := by
  refine met_of pn_2 hw (L := #[.val (.ref a)]) (fun m => by first | (simp [entryFrame, mkF, argsToLocals, Value.category]; done) | rfl) fun C hl hwd hE o => ?_
  subst hl
  have o : Ok C Z a0 jdk_30_method_1_code 1 none "<init>" "java/lang/Record" ({ frames := 1, cells := 0, slots := 0, locals := 12 } : Room) := o
  refine g_aload_n o (pc := 0) d_jdk_30_method_1_0 rfl rfl ?_
  refine g_initO o (pc := 1) d_jdk_30_method_1_1 (wd_43 hw) (wd_19 hw) (wd_20 hw) rfl (by decide) (by decide) ?_
  refine g_return o (pc := 4) d_jdk_30_method_1_4 ?_ (by decide) (by decide)
  exact ⟨rfl, rfl⟩
set_option maxRecDepth 65536 in
set_option maxHeartbeats 40000000 in
theorem rm_rnn (l : Launch) (Z : State) (a0 : Array Value) (hw : ∀ d ∈ tables_1, d.before a0 Z = true) (n0 : Nat) (h0 : Heap) (X0 : Old Z n0 h0) (a : Addr) (b : Addr)  :
    Met l Z n0 (⟨"java/util/Objects", "requireNonNull", "(Ljava/lang/Object;Ljava/lang/String;)Ljava/lang/Object;"⟩ : MethodName) jdk_31_method_11_code 2 (some (.object "java/lang/Object")) ({ frames := 0, cells := 0, slots := 0, locals := 0 } : Room) #[(.ref a), (.ref b)] h0 (fun v h => v = some (.ref a) ∧ h = h0) := by
  refine met_of pn_3 hw (L := #[.val (.ref a), .val (.ref b)]) (fun m => by first | (simp [entryFrame, mkF, argsToLocals, Value.category]; done) | rfl) fun C hl hwd hE o => ?_
  subst hl
  have o : Ok C Z a0 jdk_31_method_11_code 2 (some (.object "java/lang/Object")) "requireNonNull" "java/util/Objects" ({ frames := 0, cells := 0, slots := 0, locals := 0 } : Room) := o
  refine g_aload_n o (pc := 0) d_jdk_31_method_11_0 rfl rfl ?_
  refine g_ifnonnullY o (pc := 1) d_jdk_31_method_11_1 (t := 13) (by decide) rfl ?_
  refine g_aload_n o (pc := 13) d_jdk_31_method_11_13 rfl rfl ?_
  refine g_areturn o (pc := 14) rfl rfl d_jdk_31_method_11_14 ?_ (by decide) (by decide)
  exact ⟨rfl, rfl⟩
theorem mod10 (x : Int32) : (x &&& 255) % 10 = 0 ∨ (x &&& 255) % 10 = 1 ∨ (x &&& 255) % 10 = 2 ∨ (x &&& 255) % 10 = 3 ∨ (x &&& 255) % 10 = 4 ∨ (x &&& 255) % 10 = 5 ∨ (x &&& 255) % 10 = 6 ∨ (x &&& 255) % 10 = 7 ∨ (x &&& 255) % 10 = 8 ∨ (x &&& 255) % 10 = 9 := by
  have t : ∀ k : Fin 256, (Int32.ofNat k.val) % 10 = 0 ∨ (Int32.ofNat k.val) % 10 = 1 ∨ (Int32.ofNat k.val) % 10 = 2 ∨ (Int32.ofNat k.val) % 10 = 3 ∨ (Int32.ofNat k.val) % 10 = 4 ∨ (Int32.ofNat k.val) % 10 = 5 ∨ (Int32.ofNat k.val) % 10 = 6 ∨ (Int32.ofNat k.val) % 10 = 7 ∨ (Int32.ofNat k.val) % 10 = 8 ∨ (Int32.ofNat k.val) % 10 = 9 := by decide +kernel
  have h : (x &&& 255).toBitVec.toNat < 256 := by
    simp only [Int32.toBitVec_and, BitVec.toNat_and]
    exact Nat.lt_succ_of_le Nat.and_le_right
  have e : (x &&& 255) = Int32.ofNat (x &&& 255).toBitVec.toNat := by
    apply Int32.toBitVec_inj.mp
    show _ = BitVec.ofNat 32 _
    rw [BitVec.ofNat_toNat]; simp
  rw [e]
  exact t ⟨_, h⟩
abbrev In10 (k : Int32) : Prop := k = 0 ∨ k = 1 ∨ k = 2 ∨ k = 3 ∨ k = 4 ∨ k = 5 ∨ k = 6 ∨ k = 7 ∨ k = 8 ∨ k = 9
theorem tyA_inj {k k' : Int32} {t0 t1 t2 t3 t4 t5 t6 t7 t8 t9 : Addr} (h : In10 k) (h' : In10 k') (nd : [t0, t1, t2, t3, t4, t5, t6, t7, t8, t9].Nodup) (e : tyA k t0 t1 t2 t3 t4 t5 t6 t7 t8 t9 = tyA k' t0 t1 t2 t3 t4 t5 t6 t7 t8 t9) : k = k' := by
  simp only [List.nodup_cons, List.mem_cons, List.not_mem_nil, or_false, not_or, not_false_eq_true, List.nodup_nil, and_true] at nd
  rcases h with rfl | rfl | rfl | rfl | rfl | rfl | rfl | rfl | rfl | rfl <;> rcases h' with rfl | rfl | rfl | rfl | rfl | rfl | rfl | rfl | rfl | rfl <;> first | rfl | (exfalso; simp only [tyA] at e; simp at e; simp_all)
set_option maxRecDepth 65536 in
set_option maxHeartbeats 40000000 in
theorem rm_ty (l : Launch) (Z : State) (a0 : Array Value) (hw : ∀ d ∈ tables_1, d.before a0 Z = true) (n0 : Nat) (h0 : Heap) (X0 : Old Z n0 h0) (p : Int32) (t0 : Addr) (t1 : Addr) (t2 : Addr) (t3 : Addr) (t4 : Addr) (t5 : Addr) (t6 : Addr) (t7 : Addr) (t8 : Addr) (t9 : Addr) (T0 : Sta Z Z.heap "com/example/protocols_under_attack/protocolsunderattack/term/Type" "AGENT" "Lcom/example/protocols_under_attack/protocolsunderattack/term/Type;" (.ref t0)) (T1 : Sta Z Z.heap "com/example/protocols_under_attack/protocolsunderattack/term/Type" "TEXT" "Lcom/example/protocols_under_attack/protocolsunderattack/term/Type;" (.ref t1)) (T2 : Sta Z Z.heap "com/example/protocols_under_attack/protocolsunderattack/term/Type" "NAT" "Lcom/example/protocols_under_attack/protocolsunderattack/term/Type;" (.ref t2)) (T3 : Sta Z Z.heap "com/example/protocols_under_attack/protocolsunderattack/term/Type" "PROTOCOL_ID" "Lcom/example/protocols_under_attack/protocolsunderattack/term/Type;" (.ref t3)) (T4 : Sta Z Z.heap "com/example/protocols_under_attack/protocolsunderattack/term/Type" "SYMMETRIC_KEY" "Lcom/example/protocols_under_attack/protocolsunderattack/term/Type;" (.ref t4)) (T5 : Sta Z Z.heap "com/example/protocols_under_attack/protocolsunderattack/term/Type" "PUBLIC_KEY" "Lcom/example/protocols_under_attack/protocolsunderattack/term/Type;" (.ref t5)) (T6 : Sta Z Z.heap "com/example/protocols_under_attack/protocolsunderattack/term/Type" "HASH_FUNC" "Lcom/example/protocols_under_attack/protocolsunderattack/term/Type;" (.ref t6)) (T7 : Sta Z Z.heap "com/example/protocols_under_attack/protocolsunderattack/term/Type" "CHANNEL" "Lcom/example/protocols_under_attack/protocolsunderattack/term/Type;" (.ref t7)) (T8 : Sta Z Z.heap "com/example/protocols_under_attack/protocolsunderattack/term/Type" "SET" "Lcom/example/protocols_under_attack/protocolsunderattack/term/Type;" (.ref t8)) (T9 : Sta Z Z.heap "com/example/protocols_under_attack/protocolsunderattack/term/Type" "MESSAGE" "Lcom/example/protocols_under_attack/protocolsunderattack/term/Type;" (.ref t9)) :
    Met l Z n0 (⟨"com/example/protocols_under_attack/protocolsunderattack/term/VariableEqualsPinLaw", "type", "(I)Lcom/example/protocols_under_attack/protocolsunderattack/term/Type;"⟩ : MethodName) method_2_code 1 (some (.object "com/example/protocols_under_attack/protocolsunderattack/term/Type")) ({ frames := 0, cells := 0, slots := 0, locals := 0 } : Room) #[(.int p)] h0 (fun v h => v = some (.ref (tyA p t0 t1 t2 t3 t4 t5 t6 t7 t8 t9)) ∧ h = h0) := by
  refine met_of pn_1 hw (L := #[.val (.int p)]) (fun m => by first | (simp [entryFrame, mkF, argsToLocals, Value.category]; done) | rfl) fun C hl hwd hE o => ?_
  subst hl
  have o : Ok C Z a0 method_2_code 1 (some (.object "com/example/protocols_under_attack/protocolsunderattack/term/Type")) "type" "com/example/protocols_under_attack/protocolsunderattack/term/VariableEqualsPinLaw" ({ frames := 0, cells := 0, slots := 0, locals := 0 } : Room) := o
  refine g_iload_n o (pc := 0) d_method_2_0 rfl ?_
  refine g_ifCN o (pc := 1) d_method_2_1 (t := 8) (by decide) rfl c_ne (fun hy1 => ?_) (fun hn2 => ?_)
  · refine g_iload_n o (pc := 8) d_method_2_8 rfl ?_
    refine g_iconst o (pc := 9) d_method_2_9 (v := 1) rfl ?_
    refine g_icmpN o (pc := 10) d_method_2_10 (t := 17) (by decide) rfl c_ne (fun hy3 => ?_) (fun hn4 => ?_)
    · refine g_iload_n o (pc := 17) d_method_2_17 rfl ?_
      refine g_iconst o (pc := 18) d_method_2_18 (v := 2) rfl ?_
      refine g_icmpN o (pc := 19) d_method_2_19 (t := 26) (by decide) rfl c_ne (fun hy5 => ?_) (fun hn6 => ?_)
      · refine g_iload_n o (pc := 26) d_method_2_26 rfl ?_
        refine g_iconst o (pc := 27) d_method_2_27 (v := 3) rfl ?_
        refine g_icmpN o (pc := 28) d_method_2_28 (t := 35) (by decide) rfl c_ne (fun hy7 => ?_) (fun hn8 => ?_)
        · refine g_iload_n o (pc := 35) d_method_2_35 rfl ?_
          refine g_iconst o (pc := 36) d_method_2_36 (v := 4) rfl ?_
          refine g_icmpN o (pc := 37) d_method_2_37 (t := 44) (by decide) rfl c_ne (fun hy9 => ?_) (fun hn10 => ?_)
          · refine g_iload_n o (pc := 44) d_method_2_44 rfl ?_
            refine g_iconst o (pc := 45) d_method_2_45 (v := 5) rfl ?_
            refine g_icmpN o (pc := 46) d_method_2_46 (t := 53) (by decide) rfl c_ne (fun hy11 => ?_) (fun hn12 => ?_)
            · refine g_iload_n o (pc := 53) d_method_2_53 rfl ?_
              refine g_bipush o (pc := 54) d_method_2_54 (v := 6) rfl ?_
              refine g_icmpN o (pc := 56) d_method_2_56 (t := 63) (by decide) rfl c_ne (fun hy13 => ?_) (fun hn14 => ?_)
              · refine g_iload_n o (pc := 63) d_method_2_63 rfl ?_
                refine g_bipush o (pc := 64) d_method_2_64 (v := 7) rfl ?_
                refine g_icmpN o (pc := 66) d_method_2_66 (t := 73) (by decide) rfl c_ne (fun hy15 => ?_) (fun hn16 => ?_)
                · refine g_iload_n o (pc := 73) d_method_2_73 rfl ?_
                  refine g_bipush o (pc := 74) d_method_2_74 (v := 8) rfl ?_
                  refine g_icmpN o (pc := 76) d_method_2_76 (t := 83) (by decide) rfl c_ne (fun hy17 => ?_) (fun hn18 => ?_)
                  · refine g_getS o (pc := 83) d_method_2_83 (wd_113 hw) Via.refl (T9.ext X0.2) ?_
                    refine g_areturn o (pc := 86) rfl rfl d_method_2_86 ?_ (by decide) (by decide)
                    exact ⟨by simp [tyA, *], rfl⟩
                  · refine g_getS o (pc := 79) d_method_2_79 (wd_90 hw) Via.refl (T8.ext X0.2) ?_
                    refine g_areturn o (pc := 82) rfl rfl d_method_2_82 ?_ (by decide) (by decide)
                    exact ⟨by simp [tyA, *], rfl⟩
                · refine g_getS o (pc := 69) d_method_2_69 (wd_115 hw) Via.refl (T7.ext X0.2) ?_
                  refine g_areturn o (pc := 72) rfl rfl d_method_2_72 ?_ (by decide) (by decide)
                  exact ⟨by simp [tyA, *], rfl⟩
              · refine g_getS o (pc := 59) d_method_2_59 (wd_117 hw) Via.refl (T6.ext X0.2) ?_
                refine g_areturn o (pc := 62) rfl rfl d_method_2_62 ?_ (by decide) (by decide)
                exact ⟨by simp [tyA, *], rfl⟩
            · refine g_getS o (pc := 49) d_method_2_49 (wd_63 hw) Via.refl (T5.ext X0.2) ?_
              refine g_areturn o (pc := 52) rfl rfl d_method_2_52 ?_ (by decide) (by decide)
              exact ⟨by simp [tyA, *], rfl⟩
          · refine g_getS o (pc := 40) d_method_2_40 (wd_119 hw) Via.refl (T4.ext X0.2) ?_
            refine g_areturn o (pc := 43) rfl rfl d_method_2_43 ?_ (by decide) (by decide)
            exact ⟨by simp [tyA, *], rfl⟩
        · refine g_getS o (pc := 31) d_method_2_31 (wd_88 hw) Via.refl (T3.ext X0.2) ?_
          refine g_areturn o (pc := 34) rfl rfl d_method_2_34 ?_ (by decide) (by decide)
          exact ⟨by simp [tyA, *], rfl⟩
      · refine g_getS o (pc := 22) d_method_2_22 (wd_32 hw) Via.refl (T2.ext X0.2) ?_
        refine g_areturn o (pc := 25) rfl rfl d_method_2_25 ?_ (by decide) (by decide)
        exact ⟨by simp [tyA, *], rfl⟩
    · refine g_getS o (pc := 13) d_method_2_13 (wd_85 hw) Via.refl (T1.ext X0.2) ?_
      refine g_areturn o (pc := 16) rfl rfl d_method_2_16 ?_ (by decide) (by decide)
      exact ⟨by simp [tyA, *], rfl⟩
  · refine g_getS o (pc := 4) d_method_2_4 (wd_56 hw) Via.refl (T0.ext X0.2) ?_
    refine g_areturn o (pc := 7) rfl rfl d_method_2_7 ?_ (by decide) (by decide)
    exact ⟨by simp [tyA, *], rfl⟩
set_option maxRecDepth 65536 in
set_option maxHeartbeats 40000000 in
theorem rm_initA (l : Launch) (Z : State) (a0 : Array Value) (hw : ∀ d ∈ tables_1, d.before a0 Z = true) (n0 : Nat) (h0 : Heap) (X0 : Old Z n0 h0) (a : Addr) (x : Addr) (t : Addr) (p : Int32) (A : Exa Z h0 a "com/example/protocols_under_attack/protocolsunderattack/term/Atom") (F_name : Fld Z h0 a "com/example/protocols_under_attack/protocolsunderattack/term/Atom" "name" "Ljava/lang/String;" .null) (F_type : Fld Z h0 a "com/example/protocols_under_attack/protocolsunderattack/term/Atom" "type" "Lcom/example/protocols_under_attack/protocolsunderattack/term/Type;" .null) (F_number : Fld Z h0 a "com/example/protocols_under_attack/protocolsunderattack/term/Atom" "number" "I" (.int 0)) (ga : n0 ≤ a) :
    MetW l Z n0 consts_1 (⟨"com/example/protocols_under_attack/protocolsunderattack/term/Atom", "<init>", "(Ljava/lang/String;Lcom/example/protocols_under_attack/protocolsunderattack/term/Type;I)V"⟩ : MethodName) prog_98_method_1_code 4 none ({ frames := 2, cells := 4, slots := 40, locals := 24 } : Room) #[(.ref a), (.ref x), (.ref t), (.int p)] h0 (fun v h => v = none ∧ Keep h0 h [a] ∧ Exa Z h a "com/example/protocols_under_attack/protocolsunderattack/term/Atom" ∧ Fld Z h a "com/example/protocols_under_attack/protocolsunderattack/term/Atom" "name" "Ljava/lang/String;" (.ref x) ∧ Fld Z h a "com/example/protocols_under_attack/protocolsunderattack/term/Atom" "type" "Lcom/example/protocols_under_attack/protocolsunderattack/term/Type;" (.ref t) ∧ Fld Z h a "com/example/protocols_under_attack/protocolsunderattack/term/Atom" "number" "I" (.int p)) := by
  refine metW_of pn_4 hw (ew_ hw) (L := #[.val (.ref a), .val (.ref x), .val (.ref t), .val (.int p)]) (fun m => by first | (simp [entryFrame, mkF, argsToLocals, Value.category]; done) | rfl) fun C hl hwd hE o => ?_
  subst hl
  have o : Ok C Z a0 prog_98_method_1_code 4 none "<init>" "com/example/protocols_under_attack/protocolsunderattack/term/Atom" ({ frames := 2, cells := 4, slots := 40, locals := 24 } : Room) := o
  refine g_aload_n o (pc := 0) d_prog_98_method_1_0 rfl rfl ?_
  refine g_special o (pc := 1) a [] [] d_prog_98_method_1_1 rfl (wd_71 hw) (wd_39 hw) (wd_42 hw) (by decide) (Met.back o (W := 0) (rm_rec C.l Z a0 hw n0 h0 X0 a ) (wd_42 hw) (wd_41 hw) (by decide) (by decide)) (fun _ _ _ q => q) (Or.inr fun _ _ q => by rw [q.2]; exact Mv.refl) pd_2 rfl rfl rfl rfl (by decide) (by decide) fun v1 h2 q3 => ?_
  obtain ⟨rfl, hh⟩ := q3
  obtain rfl := hh.symm
  show Go C Z n0 (fun v h => v = none ∧ Keep h0 h [a] ∧ Exa Z h a "com/example/protocols_under_attack/protocolsunderattack/term/Atom" ∧ Fld Z h a "com/example/protocols_under_attack/protocolsunderattack/term/Atom" "name" "Ljava/lang/String;" (.ref x) ∧ Fld Z h a "com/example/protocols_under_attack/protocolsunderattack/term/Atom" "type" "Lcom/example/protocols_under_attack/protocolsunderattack/term/Type;" (.ref t) ∧ Fld Z h a "com/example/protocols_under_attack/protocolsunderattack/term/Atom" "number" "I" (.int p)) [] h0 0 0 4 #[.val (.ref a), .val (.ref x), .val (.ref t), .val (.int p)] []
  refine g_aload_n o (pc := 4) d_prog_98_method_1_4 rfl rfl ?_
  refine g_ldcO o hwd (pc := 5) d_prog_98_method_1_5 (wd_72 hw) (wS_ hw) (m := 16) (by decide) (by decide) (by decide) (by decide) fun a4 h5 E6 => ?_
  have q7 := (X0.ext E6)
  refine g_static o (pc := 7) [(.ref x), (.ref a4)] [] d_prog_98_method_1_7 (wd_73 hw) (wd_46 hw) (wd_47 hw) (wd_48 hw) (by decide) (Met.back o (W := 0) (rm_rnn C.l Z a0 hw n0 h5 q7 x a4 ) (wd_48 hw) (wd_47 hw) (by decide) (by decide)) (fun _ _ _ q => q) (Or.inr fun _ _ q => by rw [q.2]; exact Mv.refl) pd_3 rfl rfl rfl rfl (by decide) (by decide) fun v8 h9 q10 => ?_
  obtain ⟨rfl, hh⟩ := q10
  obtain rfl := hh.symm
  show Go C Z n0 (fun v h => v = none ∧ Keep h0 h [a] ∧ Exa Z h a "com/example/protocols_under_attack/protocolsunderattack/term/Atom" ∧ Fld Z h a "com/example/protocols_under_attack/protocolsunderattack/term/Atom" "name" "Ljava/lang/String;" (.ref x) ∧ Fld Z h a "com/example/protocols_under_attack/protocolsunderattack/term/Atom" "type" "Lcom/example/protocols_under_attack/protocolsunderattack/term/Type;" (.ref t) ∧ Fld Z h a "com/example/protocols_under_attack/protocolsunderattack/term/Atom" "number" "I" (.int p)) [] h5 2 20 10 #[.val (.ref a), .val (.ref x), .val (.ref t), .val (.int p)] [(.ref x)]
  refine g_pop o (pc := 10) d_prog_98_method_1_10 rfl ?_
  refine g_aload_n o (pc := 11) d_prog_98_method_1_11 rfl rfl ?_
  refine g_ldcO o hwd (pc := 12) d_prog_98_method_1_12 (wd_74 hw) (wS_ hw) (m := 16) (by decide) (by decide) (by decide) (by decide) fun a11 h12 E13 => ?_
  have q14 := (q7.ext E13)
  refine g_static o (pc := 14) [(.ref t), (.ref a11)] [] d_prog_98_method_1_14 (wd_73 hw) (wd_46 hw) (wd_47 hw) (wd_48 hw) (by decide) (Met.back o (W := 0) (rm_rnn C.l Z a0 hw n0 h12 q14 t a11 ) (wd_48 hw) (wd_47 hw) (by decide) (by decide)) (fun _ _ _ q => q) (Or.inr fun _ _ q => by rw [q.2]; exact Mv.refl) pd_3 rfl rfl rfl rfl (by decide) (by decide) fun v15 h16 q17 => ?_
  obtain ⟨rfl, hh⟩ := q17
  obtain rfl := hh.symm
  show Go C Z n0 (fun v h => v = none ∧ Keep h0 h [a] ∧ Exa Z h a "com/example/protocols_under_attack/protocolsunderattack/term/Atom" ∧ Fld Z h a "com/example/protocols_under_attack/protocolsunderattack/term/Atom" "name" "Ljava/lang/String;" (.ref x) ∧ Fld Z h a "com/example/protocols_under_attack/protocolsunderattack/term/Atom" "type" "Lcom/example/protocols_under_attack/protocolsunderattack/term/Type;" (.ref t) ∧ Fld Z h a "com/example/protocols_under_attack/protocolsunderattack/term/Atom" "number" "I" (.int p)) [] h12 4 40 17 #[.val (.ref a), .val (.ref x), .val (.ref t), .val (.int p)] [(.ref t)]
  refine g_pop o (pc := 17) d_prog_98_method_1_17 rfl ?_
  refine g_aload_n o (pc := 18) d_prog_98_method_1_18 rfl rfl ?_
  refine g_aload_n o (pc := 19) d_prog_98_method_1_19 rfl rfl ?_
  have q18 := ((F_name.ext E6).ext E13)
  have q19 := ((A.ext E6).ext E13)
  refine g_putF o (pc := 20) d_prog_98_method_1_20 (wd_75 hw) Via.refl q18 q19 (Or.inr ⟨(wd_76 hw), rfl, rfl⟩) (wd_66 hw) (ty := (.object "java/lang/String")) (by decide) rfl rfl ga (Or.inr (Or.inr fun _ hal => Safe.exa hal q19 (by decide) (by decide))) fun h20 W21 => ?_
  have F22 := q18.same W21
  refine g_aload_n o (pc := 23) d_prog_98_method_1_23 rfl rfl ?_
  refine g_aload_n o (pc := 24) d_prog_98_method_1_24 rfl rfl ?_
  have q23 := (((F_type.ext E6).ext E13).other W21 (Or.inr (slot_ne (Or.inr (wd_78 hw)) (Or.inr (wd_76 hw)) (by decide) (t := (.object "com/example/protocols_under_attack/protocolsunderattack/term/Type")) (t' := (.object "java/lang/String")) (by decide) (by decide))))
  have q24 := (q19.wr W21)
  refine g_putF o (pc := 25) d_prog_98_method_1_25 (wd_77 hw) Via.refl q23 q24 (Or.inr ⟨(wd_78 hw), rfl, rfl⟩) (wd_66 hw) (ty := (.object "com/example/protocols_under_attack/protocolsunderattack/term/Type")) (by decide) rfl rfl ga (Or.inr (Or.inr fun _ hal => Safe.exa hal q24 (by decide) (by decide))) fun h25 W26 => ?_
  have F27 := q23.same W26
  refine g_aload_n o (pc := 28) d_prog_98_method_1_28 rfl rfl ?_
  refine g_iload_n o (pc := 29) d_prog_98_method_1_29 rfl ?_
  have q28 := ((((F_number.ext E6).ext E13).other W21 (Or.inr (slot_ne (Or.inr (wd_80 hw)) (Or.inr (wd_76 hw)) (by decide) (t := .int) (t' := (.object "java/lang/String")) (by decide) (by decide)))).other W26 (Or.inr (slot_ne (Or.inr (wd_80 hw)) (Or.inr (wd_78 hw)) (by decide) (t := .int) (t' := (.object "com/example/protocols_under_attack/protocolsunderattack/term/Type")) (by decide) (by decide))))
  have q29 := (q24.wr W26)
  refine g_putF o (pc := 30) d_prog_98_method_1_30 (wd_79 hw) Via.refl q28 q29 (Or.inr ⟨(wd_80 hw), rfl, rfl⟩) (wd_66 hw) (ty := .int) (by decide) rfl rfl ga (Or.inr (Or.inr fun _ hal => Safe.exa hal q29 (by decide) (by decide))) fun h30 W31 => ?_
  have F32 := q28.same W31
  refine g_return o (pc := 33) d_prog_98_method_1_33 ?_ (by decide) (by decide)
  exact ⟨rfl, ((((((Keep.refl _ [a]).ext E6).ext E13).wr W21 (Or.inl (by simp))).wr W26 (Or.inl (by simp))).wr W31 (Or.inl (by simp))), (q29.wr W31), ((F22.other W26 (Or.inr (slot_ne (Or.inr (wd_76 hw)) (Or.inr (wd_78 hw)) (by decide) (t := (.object "java/lang/String")) (t' := (.object "com/example/protocols_under_attack/protocolsunderattack/term/Type")) (by decide) (by decide)))).other W31 (Or.inr (slot_ne (Or.inr (wd_76 hw)) (Or.inr (wd_80 hw)) (by decide) (t := (.object "java/lang/String")) (t' := .int) (by decide) (by decide)))), (F27.other W31 (Or.inr (slot_ne (Or.inr (wd_78 hw)) (Or.inr (wd_80 hw)) (by decide) (t := (.object "com/example/protocols_under_attack/protocolsunderattack/term/Type")) (t' := .int) (by decide) (by decide)))), F32⟩
set_option maxRecDepth 65536 in
set_option maxHeartbeats 40000000 in
theorem rm_initV (l : Launch) (Z : State) (a0 : Array Value) (hw : ∀ d ∈ tables_1, d.before a0 Z = true) (n0 : Nat) (h0 : Heap) (X0 : Old Z n0 h0) (a : Addr) (x : Addr) (t : Addr) (p : Int32) (A : Exa Z h0 a "com/example/protocols_under_attack/protocolsunderattack/term/Variable") (F_name : Fld Z h0 a "com/example/protocols_under_attack/protocolsunderattack/term/Variable" "name" "Ljava/lang/String;" .null) (F_type : Fld Z h0 a "com/example/protocols_under_attack/protocolsunderattack/term/Variable" "type" "Lcom/example/protocols_under_attack/protocolsunderattack/term/Type;" .null) (F_number : Fld Z h0 a "com/example/protocols_under_attack/protocolsunderattack/term/Variable" "number" "I" (.int 0)) (ga : n0 ≤ a) :
    MetW l Z n0 consts_1 (⟨"com/example/protocols_under_attack/protocolsunderattack/term/Variable", "<init>", "(Ljava/lang/String;Lcom/example/protocols_under_attack/protocolsunderattack/term/Type;I)V"⟩ : MethodName) prog_106_method_1_code 4 none ({ frames := 2, cells := 4, slots := 40, locals := 24 } : Room) #[(.ref a), (.ref x), (.ref t), (.int p)] h0 (fun v h => v = none ∧ Keep h0 h [a] ∧ Exa Z h a "com/example/protocols_under_attack/protocolsunderattack/term/Variable" ∧ Fld Z h a "com/example/protocols_under_attack/protocolsunderattack/term/Variable" "name" "Ljava/lang/String;" (.ref x) ∧ Fld Z h a "com/example/protocols_under_attack/protocolsunderattack/term/Variable" "type" "Lcom/example/protocols_under_attack/protocolsunderattack/term/Type;" (.ref t) ∧ Fld Z h a "com/example/protocols_under_attack/protocolsunderattack/term/Variable" "number" "I" (.int p)) := by
  refine metW_of pn_5 hw (ew_ hw) (L := #[.val (.ref a), .val (.ref x), .val (.ref t), .val (.int p)]) (fun m => by first | (simp [entryFrame, mkF, argsToLocals, Value.category]; done) | rfl) fun C hl hwd hE o => ?_
  subst hl
  have o : Ok C Z a0 prog_106_method_1_code 4 none "<init>" "com/example/protocols_under_attack/protocolsunderattack/term/Variable" ({ frames := 2, cells := 4, slots := 40, locals := 24 } : Room) := o
  refine g_aload_n o (pc := 0) d_prog_106_method_1_0 rfl rfl ?_
  refine g_special o (pc := 1) a [] [] d_prog_106_method_1_1 rfl (wd_38 hw) (wd_39 hw) (wd_42 hw) (by decide) (Met.back o (W := 0) (rm_rec C.l Z a0 hw n0 h0 X0 a ) (wd_42 hw) (wd_41 hw) (by decide) (by decide)) (fun _ _ _ q => q) (Or.inr fun _ _ q => by rw [q.2]; exact Mv.refl) pd_2 rfl rfl rfl rfl (by decide) (by decide) fun v1 h2 q3 => ?_
  obtain ⟨rfl, hh⟩ := q3
  obtain rfl := hh.symm
  show Go C Z n0 (fun v h => v = none ∧ Keep h0 h [a] ∧ Exa Z h a "com/example/protocols_under_attack/protocolsunderattack/term/Variable" ∧ Fld Z h a "com/example/protocols_under_attack/protocolsunderattack/term/Variable" "name" "Ljava/lang/String;" (.ref x) ∧ Fld Z h a "com/example/protocols_under_attack/protocolsunderattack/term/Variable" "type" "Lcom/example/protocols_under_attack/protocolsunderattack/term/Type;" (.ref t) ∧ Fld Z h a "com/example/protocols_under_attack/protocolsunderattack/term/Variable" "number" "I" (.int p)) [] h0 0 0 4 #[.val (.ref a), .val (.ref x), .val (.ref t), .val (.int p)] []
  refine g_aload_n o (pc := 4) d_prog_106_method_1_4 rfl rfl ?_
  refine g_ldcO o hwd (pc := 5) d_prog_106_method_1_5 (wd_44 hw) (wS_ hw) (m := 16) (by decide) (by decide) (by decide) (by decide) fun a4 h5 E6 => ?_
  have q7 := (X0.ext E6)
  refine g_static o (pc := 7) [(.ref x), (.ref a4)] [] d_prog_106_method_1_7 (wd_45 hw) (wd_46 hw) (wd_47 hw) (wd_48 hw) (by decide) (Met.back o (W := 0) (rm_rnn C.l Z a0 hw n0 h5 q7 x a4 ) (wd_48 hw) (wd_47 hw) (by decide) (by decide)) (fun _ _ _ q => q) (Or.inr fun _ _ q => by rw [q.2]; exact Mv.refl) pd_3 rfl rfl rfl rfl (by decide) (by decide) fun v8 h9 q10 => ?_
  obtain ⟨rfl, hh⟩ := q10
  obtain rfl := hh.symm
  show Go C Z n0 (fun v h => v = none ∧ Keep h0 h [a] ∧ Exa Z h a "com/example/protocols_under_attack/protocolsunderattack/term/Variable" ∧ Fld Z h a "com/example/protocols_under_attack/protocolsunderattack/term/Variable" "name" "Ljava/lang/String;" (.ref x) ∧ Fld Z h a "com/example/protocols_under_attack/protocolsunderattack/term/Variable" "type" "Lcom/example/protocols_under_attack/protocolsunderattack/term/Type;" (.ref t) ∧ Fld Z h a "com/example/protocols_under_attack/protocolsunderattack/term/Variable" "number" "I" (.int p)) [] h5 2 20 10 #[.val (.ref a), .val (.ref x), .val (.ref t), .val (.int p)] [(.ref x)]
  refine g_pop o (pc := 10) d_prog_106_method_1_10 rfl ?_
  refine g_aload_n o (pc := 11) d_prog_106_method_1_11 rfl rfl ?_
  refine g_ldcO o hwd (pc := 12) d_prog_106_method_1_12 (wd_49 hw) (wS_ hw) (m := 16) (by decide) (by decide) (by decide) (by decide) fun a11 h12 E13 => ?_
  have q14 := (q7.ext E13)
  refine g_static o (pc := 14) [(.ref t), (.ref a11)] [] d_prog_106_method_1_14 (wd_45 hw) (wd_46 hw) (wd_47 hw) (wd_48 hw) (by decide) (Met.back o (W := 0) (rm_rnn C.l Z a0 hw n0 h12 q14 t a11 ) (wd_48 hw) (wd_47 hw) (by decide) (by decide)) (fun _ _ _ q => q) (Or.inr fun _ _ q => by rw [q.2]; exact Mv.refl) pd_3 rfl rfl rfl rfl (by decide) (by decide) fun v15 h16 q17 => ?_
  obtain ⟨rfl, hh⟩ := q17
  obtain rfl := hh.symm
  show Go C Z n0 (fun v h => v = none ∧ Keep h0 h [a] ∧ Exa Z h a "com/example/protocols_under_attack/protocolsunderattack/term/Variable" ∧ Fld Z h a "com/example/protocols_under_attack/protocolsunderattack/term/Variable" "name" "Ljava/lang/String;" (.ref x) ∧ Fld Z h a "com/example/protocols_under_attack/protocolsunderattack/term/Variable" "type" "Lcom/example/protocols_under_attack/protocolsunderattack/term/Type;" (.ref t) ∧ Fld Z h a "com/example/protocols_under_attack/protocolsunderattack/term/Variable" "number" "I" (.int p)) [] h12 4 40 17 #[.val (.ref a), .val (.ref x), .val (.ref t), .val (.int p)] [(.ref t)]
  refine g_pop o (pc := 17) d_prog_106_method_1_17 rfl ?_
  refine g_aload_n o (pc := 18) d_prog_106_method_1_18 rfl rfl ?_
  refine g_aload_n o (pc := 19) d_prog_106_method_1_19 rfl rfl ?_
  have q18 := ((F_name.ext E6).ext E13)
  have q19 := ((A.ext E6).ext E13)
  refine g_putF o (pc := 20) d_prog_106_method_1_20 (wd_50 hw) Via.refl q18 q19 (Or.inr ⟨(wd_51 hw), rfl, rfl⟩) (wd_1 hw) (ty := (.object "java/lang/String")) (by decide) rfl rfl ga (Or.inr (Or.inr fun _ hal => Safe.exa hal q19 (by decide) (by decide))) fun h20 W21 => ?_
  have F22 := q18.same W21
  refine g_aload_n o (pc := 23) d_prog_106_method_1_23 rfl rfl ?_
  refine g_aload_n o (pc := 24) d_prog_106_method_1_24 rfl rfl ?_
  have q23 := (((F_type.ext E6).ext E13).other W21 (Or.inr (slot_ne (Or.inr (wd_53 hw)) (Or.inr (wd_51 hw)) (by decide) (t := (.object "com/example/protocols_under_attack/protocolsunderattack/term/Type")) (t' := (.object "java/lang/String")) (by decide) (by decide))))
  have q24 := (q19.wr W21)
  refine g_putF o (pc := 25) d_prog_106_method_1_25 (wd_52 hw) Via.refl q23 q24 (Or.inr ⟨(wd_53 hw), rfl, rfl⟩) (wd_1 hw) (ty := (.object "com/example/protocols_under_attack/protocolsunderattack/term/Type")) (by decide) rfl rfl ga (Or.inr (Or.inr fun _ hal => Safe.exa hal q24 (by decide) (by decide))) fun h25 W26 => ?_
  have F27 := q23.same W26
  refine g_aload_n o (pc := 28) d_prog_106_method_1_28 rfl rfl ?_
  refine g_iload_n o (pc := 29) d_prog_106_method_1_29 rfl ?_
  have q28 := ((((F_number.ext E6).ext E13).other W21 (Or.inr (slot_ne (Or.inr (wd_55 hw)) (Or.inr (wd_51 hw)) (by decide) (t := .int) (t' := (.object "java/lang/String")) (by decide) (by decide)))).other W26 (Or.inr (slot_ne (Or.inr (wd_55 hw)) (Or.inr (wd_53 hw)) (by decide) (t := .int) (t' := (.object "com/example/protocols_under_attack/protocolsunderattack/term/Type")) (by decide) (by decide))))
  have q29 := (q24.wr W26)
  refine g_putF o (pc := 30) d_prog_106_method_1_30 (wd_54 hw) Via.refl q28 q29 (Or.inr ⟨(wd_55 hw), rfl, rfl⟩) (wd_1 hw) (ty := .int) (by decide) rfl rfl ga (Or.inr (Or.inr fun _ hal => Safe.exa hal q29 (by decide) (by decide))) fun h30 W31 => ?_
  have F32 := q28.same W31
  refine g_return o (pc := 33) d_prog_106_method_1_33 ?_ (by decide) (by decide)
  exact ⟨rfl, ((((((Keep.refl _ [a]).ext E6).ext E13).wr W21 (Or.inl (by simp))).wr W26 (Or.inl (by simp))).wr W31 (Or.inl (by simp))), (q29.wr W31), ((F22.other W26 (Or.inr (slot_ne (Or.inr (wd_51 hw)) (Or.inr (wd_53 hw)) (by decide) (t := (.object "java/lang/String")) (t' := (.object "com/example/protocols_under_attack/protocolsunderattack/term/Type")) (by decide) (by decide)))).other W31 (Or.inr (slot_ne (Or.inr (wd_51 hw)) (Or.inr (wd_55 hw)) (by decide) (t := (.object "java/lang/String")) (t' := .int) (by decide) (by decide)))), (F27.other W31 (Or.inr (slot_ne (Or.inr (wd_53 hw)) (Or.inr (wd_55 hw)) (by decide) (t := (.object "com/example/protocols_under_attack/protocolsunderattack/term/Type")) (t' := .int) (by decide) (by decide)))), F32⟩
set_option maxRecDepth 65536 in
set_option maxHeartbeats 40000000 in
theorem rm_eqN (l : Launch) (Z : State) (a0 : Array Value) (hw : ∀ d ∈ tables_1, d.before a0 Z = true) (n0 : Nat) (h0 : Heap) (X0 : Old Z n0 h0) (a : Addr)  :
    Met l Z n0 (⟨"com/example/protocols_under_attack/protocolsunderattack/term/Variable", "equals", "(Ljava/lang/Object;)Z"⟩ : MethodName) prog_106_method_3_code 3 (some .boolean) ({ frames := 0, cells := 0, slots := 0, locals := 0 } : Room) #[(.ref a), .null] h0 (fun v h => v = some (.int 0) ∧ h = h0) := by
  refine met_of pn_5 hw (L := #[.val (.ref a), .val .null, .unset]) (fun m => by first | (simp [entryFrame, mkF, argsToLocals, Value.category]; done) | rfl) fun C hl hwd hE o => ?_
  subst hl
  have o : Ok C Z a0 prog_106_method_3_code 3 (some .boolean) "equals" "com/example/protocols_under_attack/protocolsunderattack/term/Variable" ({ frames := 0, cells := 0, slots := 0, locals := 0 } : Room) := o
  refine g_aload_n o (pc := 0) d_prog_106_method_3_0 rfl rfl ?_
  refine g_instNull o (pc := 1) d_prog_106_method_3_1 ?_
  refine g_ifC o (pc := 4) d_prog_106_method_3_4 (t := 52) (by decide) rfl c_eq (fun _ => ?_) (fun hn1 => absurd rfl hn1)
  refine g_iconst o (pc := 52) d_prog_106_method_3_52 (v := 0) rfl ?_
  refine g_nreturn o (pc := 53) (by simp) d_prog_106_method_3_53 (y := 0) rfl ?_ (by decide) (by decide)
  exact ⟨rfl, rfl⟩
set_option maxRecDepth 65536 in
set_option maxHeartbeats 40000000 in
theorem rm_eqD (l : Launch) (Z : State) (a0 : Array Value) (hw : ∀ d ∈ tables_1, d.before a0 Z = true) (n0 : Nat) (h0 : Heap) (X0 : Old Z n0 h0) (a : Addr) (b : Addr) (B : Exa Z h0 b "com/example/protocols_under_attack/protocolsunderattack/term/Atom") :
    Met l Z n0 (⟨"com/example/protocols_under_attack/protocolsunderattack/term/Variable", "equals", "(Ljava/lang/Object;)Z"⟩ : MethodName) prog_106_method_3_code 3 (some .boolean) ({ frames := 0, cells := 0, slots := 0, locals := 0 } : Room) #[(.ref a), (.ref b)] h0 (fun v h => v = some (.int 0) ∧ h = h0) := by
  refine met_of pn_5 hw (L := #[.val (.ref a), .val (.ref b), .unset]) (fun m => by first | (simp [entryFrame, mkF, argsToLocals, Value.category]; done) | rfl) fun C hl hwd hE o => ?_
  subst hl
  have o : Ok C Z a0 prog_106_method_3_code 3 (some .boolean) "equals" "com/example/protocols_under_attack/protocolsunderattack/term/Variable" ({ frames := 0, cells := 0, slots := 0, locals := 0 } : Room) := o
  refine g_aload_n o (pc := 0) d_prog_106_method_3_0 rfl rfl ?_
  refine g_instN o (pc := 1) d_prog_106_method_3_1 (wd_81 hw) B (no_inst2 (wd_82 hw) (wd_83 hw) (wd_84 hw) (wd_1 hw) (by decide) (by decide) (by decide)) ?_
  refine g_ifC o (pc := 4) d_prog_106_method_3_4 (t := 52) (by decide) rfl c_eq (fun _ => ?_) (fun hn1 => absurd rfl hn1)
  refine g_iconst o (pc := 52) d_prog_106_method_3_52 (v := 0) rfl ?_
  refine g_nreturn o (pc := 53) (by simp) d_prog_106_method_3_53 (y := 0) rfl ?_ (by decide) (by decide)
  exact ⟨rfl, rfl⟩
set_option maxRecDepth 65536 in
set_option maxHeartbeats 40000000 in
theorem rm_eqC (l : Launch) (Z : State) (a0 : Array Value) (hw : ∀ d ∈ tables_1, d.before a0 Z = true) (n0 : Nat) (h0 : Heap) (X0 : Old Z n0 h0) (a : Addr) (b : Addr) (x : Addr) (t : Addr) (p : Int32) (x' : Addr) (t' : Addr) (p' : Int32) (cs : List Int32) (ds : List Int32) (zc : Int32) (Sc : Sta Z Z.heap "java/lang/String" "COMPACT_STRINGS" "Z" (.int zc)) (nzc : ¬ zc = 0) (B : Exa Z h0 b "com/example/protocols_under_attack/protocolsunderattack/term/Variable") (Sx : Str Z h0 x cs) (Sy : Str Z h0 x' ds) (lx : cs.length ≤ 4000) (ly : ds.length ≤ 4000) (Fa_name : Fld Z h0 a "com/example/protocols_under_attack/protocolsunderattack/term/Variable" "name" "Ljava/lang/String;" (.ref x)) (Fa_type : Fld Z h0 a "com/example/protocols_under_attack/protocolsunderattack/term/Variable" "type" "Lcom/example/protocols_under_attack/protocolsunderattack/term/Type;" (.ref t)) (Fa_number : Fld Z h0 a "com/example/protocols_under_attack/protocolsunderattack/term/Variable" "number" "I" (.int p)) (Fb_name : Fld Z h0 b "com/example/protocols_under_attack/protocolsunderattack/term/Variable" "name" "Ljava/lang/String;" (.ref x')) (Fb_type : Fld Z h0 b "com/example/protocols_under_attack/protocolsunderattack/term/Variable" "type" "Lcom/example/protocols_under_attack/protocolsunderattack/term/Type;" (.ref t')) (Fb_number : Fld Z h0 b "com/example/protocols_under_attack/protocolsunderattack/term/Variable" "number" "I" (.int p')) :
    Met l Z n0 (⟨"com/example/protocols_under_attack/protocolsunderattack/term/Variable", "equals", "(Ljava/lang/Object;)Z"⟩ : MethodName) prog_106_method_3_code 3 (some .boolean) ({ frames := 2, cells := 0, slots := 0, locals := 28 } : Room) #[(.ref a), (.ref b)] h0 (fun v h => v = some (.int (if p = p' ∧ t = t' ∧ cs = ds then 1 else 0)) ∧ h = h0) := by
  refine met_of pn_5 hw (L := #[.val (.ref a), .val (.ref b), .unset]) (fun m => by first | (simp [entryFrame, mkF, argsToLocals, Value.category]; done) | rfl) fun C hl hwd hE o => ?_
  subst hl
  have o : Ok C Z a0 prog_106_method_3_code 3 (some .boolean) "equals" "com/example/protocols_under_attack/protocolsunderattack/term/Variable" ({ frames := 2, cells := 0, slots := 0, locals := 28 } : Room) := o
  refine g_aload_n o (pc := 0) d_prog_106_method_3_0 rfl rfl ?_
  refine g_instY o (pc := 1) d_prog_106_method_3_1 (wd_81 hw) (Ins.self B) ?_
  refine g_ifC o (pc := 4) d_prog_106_method_3_4 (t := 52) (by decide) rfl c_eq (fun hy1 => absurd hy1 (by decide)) (fun _ => ?_)
  refine g_aload_n o (pc := 7) d_prog_106_method_3_7 rfl rfl ?_
  refine g_castY o (pc := 8) d_prog_106_method_3_8 (wd_81 hw) (Ins.self B) ?_
  refine g_astore_n o (pc := 11) d_prog_106_method_3_11 rfl (L' := #[.val (.ref a), .val (.ref b), .val (.ref b)]) rfl ?_
  refine g_aload_n o (pc := 12) d_prog_106_method_3_12 rfl rfl ?_
  refine g_getF o (pc := 13) d_prog_106_method_3_13 (wd_54 hw) Via.refl Fa_number ?_
  refine g_aload_n o (pc := 16) d_prog_106_method_3_16 rfl rfl ?_
  refine g_getF o (pc := 17) d_prog_106_method_3_17 (wd_54 hw) Via.refl Fb_number ?_
  refine g_icmpN o (pc := 20) d_prog_106_method_3_20 (t := 52) (by decide) rfl c_ne (fun hy2 => ?_) (fun hn3 => ?_)
  · refine g_iconst o (pc := 52) d_prog_106_method_3_52 (v := 0) rfl ?_
    refine g_nreturn o (pc := 53) (by simp) d_prog_106_method_3_53 (y := 0) rfl ?_ (by decide) (by decide)
    refine ⟨?_, rfl⟩
    by_cases hcd : cs = ds <;> simp_all
  · refine g_aload_n o (pc := 23) d_prog_106_method_3_23 rfl rfl ?_
    refine g_getF o (pc := 24) d_prog_106_method_3_24 (wd_52 hw) Via.refl Fa_type ?_
    refine g_aload_n o (pc := 27) d_prog_106_method_3_27 rfl rfl ?_
    refine g_getF o (pc := 28) d_prog_106_method_3_28 (wd_52 hw) Via.refl Fb_type ?_
    refine g_acmpNe o (pc := 31) d_prog_106_method_3_31 (t := 52) (by decide) rfl rfl rfl (fun hy4 => ?_) (fun hn5 => ?_)
    · refine g_iconst o (pc := 52) d_prog_106_method_3_52 (v := 0) rfl ?_
      refine g_nreturn o (pc := 53) (by simp) d_prog_106_method_3_53 (y := 0) rfl ?_ (by decide) (by decide)
      refine ⟨?_, rfl⟩
      by_cases hcd : cs = ds <;> simp_all
    · refine g_aload_n o (pc := 34) d_prog_106_method_3_34 rfl rfl ?_
      refine g_getF o (pc := 35) d_prog_106_method_3_35 (wd_50 hw) Via.refl Fa_name ?_
      refine g_aload_n o (pc := 38) d_prog_106_method_3_38 rfl rfl ?_
      refine g_getF o (pc := 39) d_prog_106_method_3_39 (wd_50 hw) Via.refl Fb_name ?_
      have q6 := Sx.exa
      refine g_virtual o (pc := 42) x [(.ref x')] [] d_prog_106_method_3_42 (wd_92 hw) (wd_93 hw) (wd_95 hw) (wd_94 hw) (fun _ q => notFace_of_selects q) (by decide) q6 (W := 0) (kc := 0) (ks := 0) (backEq o (wd_8 hw) Sc nzc X0 Sx Sy lx ly (by decide) (by decide)) (fun _ _ _ q => q) (Or.inl hE) pd_4 rfl rfl rfl rfl (by decide) (by decide) fun v7 h8 q9 => ?_
      obtain ⟨rfl, hh⟩ := q9
      obtain rfl := hh.symm
      show Go C Z n0 (fun v h => v = some (.int (if p = p' ∧ t = t' ∧ cs = ds then 1 else 0)) ∧ h = h0) [] h0 0 0 45 #[.val (.ref a), .val (.ref b), .val (.ref b)] [(.int (if cs = ds then (1 : Int32) else 0))]
      refine g_ifC o (pc := 45) d_prog_106_method_3_45 (t := 52) (by decide) rfl c_eq (fun hy10 => ?_) (fun hn11 => ?_)
      · refine g_iconst o (pc := 52) d_prog_106_method_3_52 (v := 0) rfl ?_
        refine g_nreturn o (pc := 53) (by simp) d_prog_106_method_3_53 (y := 0) rfl ?_ (by decide) (by decide)
        refine ⟨?_, rfl⟩
        by_cases hcd : cs = ds <;> simp_all
      · refine g_iconst o (pc := 48) d_prog_106_method_3_48 (v := 1) rfl ?_
        refine g_goto o (pc := 49) d_prog_106_method_3_49 (t := 53) (by decide) rfl ?_
        refine g_nreturn o (pc := 53) (by simp) d_prog_106_method_3_53 (y := 1) rfl ?_ (by decide) (by decide)
        refine ⟨?_, rfl⟩
        by_cases hcd : cs = ds <;> simp_all
set_option maxRecDepth 65536 in
set_option maxHeartbeats 40000000 in
theorem bl_202 {C : Cx} {Z : State} {a0 : Array Value} (hw : ∀ d ∈ tables_1, d.before a0 Z = true) (hE : C.EL = consts_1) (hwd : C.wide = true) (n0 : Nat) (o : Ok C Z a0 code 25 (some .boolean) "law" "com/example/protocols_under_attack/protocolsunderattack/term/VariableEqualsPinLaw" ({ frames := 8, cells := 40, slots := 5248, locals := 192 } : Room)) (h0 : Heap) (X0 : Old Z n0 h0) (p0 : Int32) (p1 : Int32) (p2 : Int32) (p3 : Int32) (p4 : Int32) (p5 : Int32) (g6 : Int32) (g7 : Int32) (g8 : Int32) (g9 : Int32) (g10 : Int32) (g11 : Int32) (g12 : Int32) (g13 : Int32) (g14 : Int32) (g15 : Int32) (g16 : Int32) (g17 : Int32) (g18 : Int32) (zc : Int32) (t0 : Addr) (t1 : Addr) (t2 : Addr) (t3 : Addr) (t4 : Addr) (t5 : Addr) (t6 : Addr) (t7 : Addr) (t8 : Addr) (t9 : Addr) (Sc : Sta Z Z.heap "java/lang/String" "COMPACT_STRINGS" "Z" (.int zc)) (nzc : ¬ zc = 0) (T0 : Sta Z Z.heap "com/example/protocols_under_attack/protocolsunderattack/term/Type" "AGENT" "Lcom/example/protocols_under_attack/protocolsunderattack/term/Type;" (.ref t0)) (T1 : Sta Z Z.heap "com/example/protocols_under_attack/protocolsunderattack/term/Type" "TEXT" "Lcom/example/protocols_under_attack/protocolsunderattack/term/Type;" (.ref t1)) (T2 : Sta Z Z.heap "com/example/protocols_under_attack/protocolsunderattack/term/Type" "NAT" "Lcom/example/protocols_under_attack/protocolsunderattack/term/Type;" (.ref t2)) (T3 : Sta Z Z.heap "com/example/protocols_under_attack/protocolsunderattack/term/Type" "PROTOCOL_ID" "Lcom/example/protocols_under_attack/protocolsunderattack/term/Type;" (.ref t3)) (T4 : Sta Z Z.heap "com/example/protocols_under_attack/protocolsunderattack/term/Type" "SYMMETRIC_KEY" "Lcom/example/protocols_under_attack/protocolsunderattack/term/Type;" (.ref t4)) (T5 : Sta Z Z.heap "com/example/protocols_under_attack/protocolsunderattack/term/Type" "PUBLIC_KEY" "Lcom/example/protocols_under_attack/protocolsunderattack/term/Type;" (.ref t5)) (T6 : Sta Z Z.heap "com/example/protocols_under_attack/protocolsunderattack/term/Type" "HASH_FUNC" "Lcom/example/protocols_under_attack/protocolsunderattack/term/Type;" (.ref t6)) (T7 : Sta Z Z.heap "com/example/protocols_under_attack/protocolsunderattack/term/Type" "CHANNEL" "Lcom/example/protocols_under_attack/protocolsunderattack/term/Type;" (.ref t7)) (T8 : Sta Z Z.heap "com/example/protocols_under_attack/protocolsunderattack/term/Type" "SET" "Lcom/example/protocols_under_attack/protocolsunderattack/term/Type;" (.ref t8)) (T9 : Sta Z Z.heap "com/example/protocols_under_attack/protocolsunderattack/term/Type" "MESSAGE" "Lcom/example/protocols_under_attack/protocolsunderattack/term/Type;" (.ref t9)) (l15 : ¬ g15 < 0 ∧ ¬ (255 : Int32) < g15) (l16 : ¬ g16 < 0 ∧ ¬ (255 : Int32) < g16) (l17 : ¬ g17 < 0 ∧ ¬ (255 : Int32) < g17) (l18 : ¬ g18 < 0 ∧ ¬ (255 : Int32) < g18) (n7 : g7 = 0 ∨ g7 = 1 ∨ g7 = 2) (n9 : g9 = 0 ∨ g9 = 1 ∨ g9 = 2) (k12 : In10 g12) (k14 : In10 g14) (nd : [t0, t1, t2, t3, t4, t5, t6, t7, t8, t9].Nodup) :
    Go C Z n0 (fun v _ => v = some (.int 1)) [] h0 0 0 202 #[.val (.int p0), .val (.int p1), .val (.int p2), .val (.int p3), .val (.int p4), .val (.int p5), .val (.int g6), .val (.int g7), .val (.int g8), .val (.int g9), .val (.int g10), .val (.int g11), .val (.int g12), .val (.int g13), .val (.int g14), .val (.int g15), .val (.int g16), .val (.int g17), .val (.int g18), .unset, .unset, .unset, .unset, .unset, .unset] [] := by
  refine g_new o (pc := 202) at_202 (wd_0 hw) (wd_1 hw) (wd_2 hw) (by decide) (by decide) (M' := fun a => a :: []) (fun _ _ q => (List.mem_cons.mp q).elim Or.inr Or.inl) fun a1 h2 ha3 E4 A5 D6 => ?_
  have F7 : Fld Z h2 a1 "com/example/protocols_under_attack/protocolsunderattack/term/Variable" "name" "Ljava/lang/String;" .null := D6 (Or.inr (wd_51 hw)) (ty := (.object "java/lang/String")) (by decide)
  have F8 : Fld Z h2 a1 "com/example/protocols_under_attack/protocolsunderattack/term/Variable" "type" "Lcom/example/protocols_under_attack/protocolsunderattack/term/Type;" .null := D6 (Or.inr (wd_53 hw)) (ty := (.object "com/example/protocols_under_attack/protocolsunderattack/term/Type")) (by decide)
  have F9 : Fld Z h2 a1 "com/example/protocols_under_attack/protocolsunderattack/term/Variable" "number" "I" (.int 0) := D6 (Or.inr (wd_55 hw)) (ty := .int) (by decide)
  refine g_dup o (pc := 205) at_205 rfl ?_
  refine g_iload o (pc := 206) at_206 rfl ?_
  refine g_iload o (pc := 208) at_208 rfl ?_
  refine g_iload o (pc := 210) at_210 rfl ?_
  have q10 := (X0.ext E4)
  refine g_staticW o hwd (pc := 212) [(.int g7), (.int g15), (.int g16)] [(.ref a1), (.ref a1)] at_212 (wd_3 hw) (wd_4 hw) (wd_5 hw) (wd_6 hw) (by decide) (MetW.back hE o (W := 2) (rm_str C.l Z a0 hw n0 h2 q10 g7 g15 g16 zc Sc nzc l15 l16) (wd_6 hw) (wd_5 hw) (by decide) (by decide)) (fun _ _ _ q => q) pd_5 rfl rfl rfl rfl (by decide) (by decide) fun v11 h12 q13 => ?_
  obtain ⟨K14, a15, rfl, St16⟩ := q13
  show Go C Z n0 (fun v _ => v = some (.int 1)) [a1] h12 7 15 215 #[.val (.int p0), .val (.int p1), .val (.int p2), .val (.int p3), .val (.int p4), .val (.int p5), .val (.int g6), .val (.int g7), .val (.int g8), .val (.int g9), .val (.int g10), .val (.int g11), .val (.int g12), .val (.int g13), .val (.int g14), .val (.int g15), .val (.int g16), .val (.int g17), .val (.int g18), .unset, .unset, .unset, .unset, .unset, .unset] [(.ref a15), (.ref a1), (.ref a1)]
  refine g_iload o (pc := 215) at_215 rfl ?_
  have q17 := (q10.keep K14 all0)
  refine g_static o (pc := 217) [(.int g12)] [(.ref a15), (.ref a1), (.ref a1)] at_217 (wd_29 hw) (wd_30 hw) (wd_5 hw) (wd_31 hw) (by decide) (Met.back o (W := 3) (rm_ty C.l Z a0 hw n0 h12 q17 g12 t0 t1 t2 t3 t4 t5 t6 t7 t8 t9 T0 T1 T2 T3 T4 T5 T6 T7 T8 T9) (wd_31 hw) (wd_5 hw) (by decide) (by decide)) (fun _ _ _ q => q) (Or.inr fun _ _ q => by rw [q.2]; exact Mv.refl) pd_6 rfl rfl rfl rfl (by decide) (by decide) fun v18 h19 q20 => ?_
  obtain ⟨rfl, hh⟩ := q20
  obtain rfl := hh.symm
  show Go C Z n0 (fun v _ => v = some (.int 1)) [a1] h12 7 15 220 #[.val (.int p0), .val (.int p1), .val (.int p2), .val (.int p3), .val (.int p4), .val (.int p5), .val (.int g6), .val (.int g7), .val (.int g8), .val (.int g9), .val (.int g10), .val (.int g11), .val (.int g12), .val (.int g13), .val (.int g14), .val (.int g15), .val (.int g16), .val (.int g17), .val (.int g18), .unset, .unset, .unset, .unset, .unset, .unset] [(.ref (tyA g12 t0 t1 t2 t3 t4 t5 t6 t7 t8 t9)), (.ref a15), (.ref a1), (.ref a1)]
  refine g_iload_n o (pc := 220) at_220 rfl ?_
  have q21 := (A5.keep K14)
  have q22 := (F7.keep K14 nin0)
  have q23 := (F8.keep K14 nin0)
  have q24 := (F9.keep K14 nin0)
  refine g_specialW o hwd (pc := 221) a1 [(.ref a15), (.ref (tyA g12 t0 t1 t2 t3 t4 t5 t6 t7 t8 t9)), (.int p0)] [(.ref a1)] at_221 rfl (wd_35 hw) (wd_36 hw) (wd_37 hw) (by decide) (MetW.back hE o (W := 1) (rm_initV C.l Z a0 hw n0 h12 q17 a1 a15 (tyA g12 t0 t1 t2 t3 t4 t5 t6 t7 t8 t9) p0 q21 q22 q23 q24 (ge_new ha3 X0)) (wd_37 hw) (wd_2 hw) (by decide) (by decide)) (fun _ _ _ q => q) pd_7 rfl rfl rfl rfl (by decide) (by decide) fun v25 h26 q27 => ?_
  obtain ⟨rfl, K28, A29, F30, F31, F32⟩ := q27
  show Go C Z n0 (fun v _ => v = some (.int 1)) [a1] h26 11 55 224 #[.val (.int p0), .val (.int p1), .val (.int p2), .val (.int p3), .val (.int p4), .val (.int p5), .val (.int g6), .val (.int g7), .val (.int g8), .val (.int g9), .val (.int g10), .val (.int g11), .val (.int g12), .val (.int g13), .val (.int g14), .val (.int g15), .val (.int g16), .val (.int g17), .val (.int g18), .unset, .unset, .unset, .unset, .unset, .unset] [(.ref a1)]
  refine g_astore o (pc := 224) at_224 rfl (L' := #[.val (.int p0), .val (.int p1), .val (.int p2), .val (.int p3), .val (.int p4), .val (.int p5), .val (.int g6), .val (.int g7), .val (.int g8), .val (.int g9), .val (.int g10), .val (.int g11), .val (.int g12), .val (.int g13), .val (.int g14), .val (.int g15), .val (.int g16), .val (.int g17), .val (.int g18), .val (.ref a1), .unset, .unset, .unset, .unset, .unset]) rfl ?_
  refine g_iload o (pc := 226) at_226 rfl ?_
  refine g_iload o (pc := 228) at_228 rfl ?_
  refine g_iload o (pc := 230) at_230 rfl ?_
  have q33 := (q17.keep K28 (allS (ge_new ha3 X0) all0))
  refine g_staticW o hwd (pc := 232) [(.int g9), (.int g17), (.int g18)] [] at_232 (wd_3 hw) (wd_4 hw) (wd_5 hw) (wd_6 hw) (by decide) (MetW.back hE o (W := 0) (rm_str C.l Z a0 hw n0 h26 q33 g9 g17 g18 zc Sc nzc l17 l18) (wd_6 hw) (wd_5 hw) (by decide) (by decide)) (fun _ _ _ q => q) pd_5 rfl rfl rfl rfl (by decide) (by decide) fun v34 h35 q36 => ?_
  obtain ⟨K37, a38, rfl, St39⟩ := q36
  show Go C Z n0 (fun v _ => v = some (.int 1)) [a1] h35 17 67 235 #[.val (.int p0), .val (.int p1), .val (.int p2), .val (.int p3), .val (.int p4), .val (.int p5), .val (.int g6), .val (.int g7), .val (.int g8), .val (.int g9), .val (.int g10), .val (.int g11), .val (.int g12), .val (.int g13), .val (.int g14), .val (.int g15), .val (.int g16), .val (.int g17), .val (.int g18), .val (.ref a1), .unset, .unset, .unset, .unset, .unset] [(.ref a38)]
  refine g_astore o (pc := 235) at_235 rfl (L' := #[.val (.int p0), .val (.int p1), .val (.int p2), .val (.int p3), .val (.int p4), .val (.int p5), .val (.int g6), .val (.int g7), .val (.int g8), .val (.int g9), .val (.int g10), .val (.int g11), .val (.int g12), .val (.int g13), .val (.int g14), .val (.int g15), .val (.int g16), .val (.int g17), .val (.int g18), .val (.ref a1), .val (.ref a38), .unset, .unset, .unset, .unset]) rfl ?_
  refine g_iload o (pc := 237) at_237 rfl ?_
  have q40 := (q33.keep K37 all0)
  refine g_static o (pc := 239) [(.int g14)] [] at_239 (wd_29 hw) (wd_30 hw) (wd_5 hw) (wd_31 hw) (by decide) (Met.back o (W := 0) (rm_ty C.l Z a0 hw n0 h35 q40 g14 t0 t1 t2 t3 t4 t5 t6 t7 t8 t9 T0 T1 T2 T3 T4 T5 T6 T7 T8 T9) (wd_31 hw) (wd_5 hw) (by decide) (by decide)) (fun _ _ _ q => q) (Or.inr fun _ _ q => by rw [q.2]; exact Mv.refl) pd_6 rfl rfl rfl rfl (by decide) (by decide) fun v41 h42 q43 => ?_
  obtain ⟨rfl, hh⟩ := q43
  obtain rfl := hh.symm
  show Go C Z n0 (fun v _ => v = some (.int 1)) [a1] h35 17 67 242 #[.val (.int p0), .val (.int p1), .val (.int p2), .val (.int p3), .val (.int p4), .val (.int p5), .val (.int g6), .val (.int g7), .val (.int g8), .val (.int g9), .val (.int g10), .val (.int g11), .val (.int g12), .val (.int g13), .val (.int g14), .val (.int g15), .val (.int g16), .val (.int g17), .val (.int g18), .val (.ref a1), .val (.ref a38), .unset, .unset, .unset, .unset] [(.ref (tyA g14 t0 t1 t2 t3 t4 t5 t6 t7 t8 t9))]
  refine g_astore o (pc := 242) at_242 rfl (L' := #[.val (.int p0), .val (.int p1), .val (.int p2), .val (.int p3), .val (.int p4), .val (.int p5), .val (.int g6), .val (.int g7), .val (.int g8), .val (.int g9), .val (.int g10), .val (.int g11), .val (.int g12), .val (.int g13), .val (.int g14), .val (.int g15), .val (.int g16), .val (.int g17), .val (.int g18), .val (.ref a1), .val (.ref a38), .val (.ref (tyA g14 t0 t1 t2 t3 t4 t5 t6 t7 t8 t9)), .unset, .unset, .unset]) rfl ?_
  have K44 : ∀ e : Int32, e = (if (sL g7 g15 g16) = (sL g9 g17 g18) then (1 : Int32) else 0) → Go C Z n0 (fun v _ => v = some (.int 1)) [a1] h35 17 67 282 #[.val (.int p0), .val (.int p1), .val (.int p2), .val (.int p3), .val (.int p4), .val (.int p5), .val (.int g6), .val (.int g7), .val (.int g8), .val (.int g9), .val (.int g10), .val (.int g11), .val (.int g12), .val (.int g13), .val (.int g14), .val (.int g15), .val (.int g16), .val (.int g17), .val (.int g18), .val (.ref a1), .val (.ref a38), .val (.ref (tyA g14 t0 t1 t2 t3 t4 t5 t6 t7 t8 t9)), .unset, .unset, .unset] [(.int e)] := fun e hm45 => by
    refine g_istore o (pc := 282) at_282 (L' := #[.val (.int p0), .val (.int p1), .val (.int p2), .val (.int p3), .val (.int p4), .val (.int p5), .val (.int g6), .val (.int g7), .val (.int g8), .val (.int g9), .val (.int g10), .val (.int g11), .val (.int g12), .val (.int g13), .val (.int g14), .val (.int g15), .val (.int g16), .val (.int g17), .val (.int g18), .val (.ref a1), .val (.ref a38), .val (.ref (tyA g14 t0 t1 t2 t3 t4 t5 t6 t7 t8 t9)), .val (.int e), .unset, .unset]) rfl ?_
    have K46 : ∀ f : Int32, f = (if p0 = g11 ∧ tyA g12 t0 t1 t2 t3 t4 t5 t6 t7 t8 t9 = tyA g14 t0 t1 t2 t3 t4 t5 t6 t7 t8 t9 ∧ (sL g7 g15 g16) = (sL g9 g17 g18) then (1 : Int32) else 0) → Go C Z n0 (fun v _ => v = some (.int 1)) [a1] h35 17 67 307 #[.val (.int p0), .val (.int p1), .val (.int p2), .val (.int p3), .val (.int p4), .val (.int p5), .val (.int g6), .val (.int g7), .val (.int g8), .val (.int g9), .val (.int g10), .val (.int g11), .val (.int g12), .val (.int g13), .val (.int g14), .val (.int g15), .val (.int g16), .val (.int g17), .val (.int g18), .val (.ref a1), .val (.ref a38), .val (.ref (tyA g14 t0 t1 t2 t3 t4 t5 t6 t7 t8 t9)), .val (.int e), .unset, .unset] [(.int f)] := fun f hm47 => by
      refine g_istore o (pc := 307) at_307 (L' := #[.val (.int p0), .val (.int p1), .val (.int p2), .val (.int p3), .val (.int p4), .val (.int p5), .val (.int g6), .val (.int g7), .val (.int g8), .val (.int g9), .val (.int g10), .val (.int g11), .val (.int g12), .val (.int g13), .val (.int g14), .val (.int g15), .val (.int g16), .val (.int g17), .val (.int g18), .val (.ref a1), .val (.ref a38), .val (.ref (tyA g14 t0 t1 t2 t3 t4 t5 t6 t7 t8 t9)), .val (.int e), .val (.int f), .unset]) rfl ?_
      refine g_iload o (pc := 309) at_309 rfl ?_
      refine g_iconst o (pc := 311) at_311 (v := 2) rfl ?_
      refine g_icmpN o (pc := 312) at_312 (t := 342) (by decide) rfl c_ne (fun hy48 => ?_) (fun hn49 => ?_)
      · refine g_iload o (pc := 342) at_342 rfl ?_
        refine g_iconst o (pc := 344) at_344 (v := 3) rfl ?_
        refine g_icmpN o (pc := 345) at_345 (t := 367) (by decide) rfl c_ne (fun hy50 => ?_) (fun hn51 => ?_)
        · refine g_aload o (pc := 367) at_367 rfl rfl ?_
          refine g_new o (pc := 369) at_369 (wd_0 hw) (wd_1 hw) (wd_2 hw) (by decide) (by decide) (M' := fun a => a :: [a1]) (fun _ _ q => (List.mem_cons.mp q).elim Or.inr Or.inl) fun a52 h53 ha54 E55 A56 D57 => ?_
          have F58 : Fld Z h53 a52 "com/example/protocols_under_attack/protocolsunderattack/term/Variable" "name" "Ljava/lang/String;" .null := D57 (Or.inr (wd_51 hw)) (ty := (.object "java/lang/String")) (by decide)
          have F59 : Fld Z h53 a52 "com/example/protocols_under_attack/protocolsunderattack/term/Variable" "type" "Lcom/example/protocols_under_attack/protocolsunderattack/term/Type;" .null := D57 (Or.inr (wd_53 hw)) (ty := (.object "com/example/protocols_under_attack/protocolsunderattack/term/Type")) (by decide)
          have F60 : Fld Z h53 a52 "com/example/protocols_under_attack/protocolsunderattack/term/Variable" "number" "I" (.int 0) := D57 (Or.inr (wd_55 hw)) (ty := .int) (by decide)
          refine g_dup o (pc := 372) at_372 rfl ?_
          refine g_aload o (pc := 373) at_373 rfl rfl ?_
          refine g_aload o (pc := 375) at_375 rfl rfl ?_
          refine g_iload o (pc := 377) at_377 rfl ?_
          have q61 := (q40.ext E55)
          refine g_specialW o hwd (pc := 379) a52 [(.ref a38), (.ref (tyA g14 t0 t1 t2 t3 t4 t5 t6 t7 t8 t9)), (.int g11)] [(.ref a52), (.ref a1)] at_379 rfl (wd_35 hw) (wd_36 hw) (wd_37 hw) (by decide) (MetW.back hE o (W := 2) (rm_initV C.l Z a0 hw n0 h53 q61 a52 a38 (tyA g14 t0 t1 t2 t3 t4 t5 t6 t7 t8 t9) g11 A56 F58 F59 F60 (ge_new ha54 ((((X0.ext E4).keep K14 all0).keep K28 (allS (ge_new ha3 X0) all0)).keep K37 all0))) (wd_37 hw) (wd_2 hw) (by decide) (by decide)) (fun _ _ _ q => q) pd_7 rfl rfl rfl rfl (by decide) (by decide) fun v62 h63 q64 => ?_
          obtain ⟨rfl, K65, A66, F67, F68, F69⟩ := q64
          show Go C Z n0 (fun v _ => v = some (.int 1)) [a52, a1] h63 22 110 382 #[.val (.int p0), .val (.int p1), .val (.int p2), .val (.int p3), .val (.int p4), .val (.int p5), .val (.int g6), .val (.int g7), .val (.int g8), .val (.int g9), .val (.int g10), .val (.int g11), .val (.int g12), .val (.int g13), .val (.int g14), .val (.int g15), .val (.int g16), .val (.int g17), .val (.int g18), .val (.ref a1), .val (.ref a38), .val (.ref (tyA g14 t0 t1 t2 t3 t4 t5 t6 t7 t8 t9)), .val (.int e), .val (.int f), .unset] [(.ref a52), (.ref a1)]
          have q70 := ((((St16.keep K28 (allS (Off.exa (A5.keep K14) (by decide) (wd_1 hw)) all0)).keep K37 all0).ext E55).keep K65 (allS (Off.exa A56 (by decide) (wd_1 hw)) all0))
          have q71 := ((St39.ext E55).keep K65 (allS (Off.exa A56 (by decide) (wd_1 hw)) all0))
          have q72 := (((F30.keep K37 nin0).ext E55).keep K65 (ninS (ne_new ha54 (A29.keep K37).lt) nin0))
          have q73 := (((F31.keep K37 nin0).ext E55).keep K65 (ninS (ne_new ha54 (A29.keep K37).lt) nin0))
          have q74 := (((F32.keep K37 nin0).ext E55).keep K65 (ninS (ne_new ha54 (A29.keep K37).lt) nin0))
          have q75 := (q61.keep K65 (allS (ge_new ha54 ((((X0.ext E4).keep K14 all0).keep K28 (allS (ge_new ha3 X0) all0)).keep K37 all0)) all0))
          have q79 := (((A29.keep K37).ext E55).keep K65)
          refine g_virtual o (pc := 382) a1 [(.ref a52)] [] at_382 (wd_58 hw) (wd_59 hw) (wd_61 hw) (wd_60 hw) (fun _ q => notFace_of_selects q) (by decide) q79 (Met.back o (W := 0) (rm_eqC C.l Z a0 hw n0 h63 q75 a1 a52 a15 (tyA g12 t0 t1 t2 t3 t4 t5 t6 t7 t8 t9) p0 a38 (tyA g14 t0 t1 t2 t3 t4 t5 t6 t7 t8 t9) g11 (sL g7 g15 g16) (sL g9 g17 g18) zc Sc nzc A66 q70 q71 (sL_len _ _ _) (sL_len _ _ _) q72 q73 q74 F67 F68 F69) (wd_62 hw) (wd_2 hw) (by decide) (by decide)) (fun _ _ _ q => q) (Or.inr fun _ _ q => by rw [q.2]; exact Mv.refl) pd_4 rfl rfl rfl rfl (by decide) (by decide) fun v76 h77 q78 => ?_
          obtain ⟨rfl, hh⟩ := q78
          obtain rfl := hh.symm
          show Go C Z n0 (fun v _ => v = some (.int 1)) [a52, a1] h63 22 110 385 #[.val (.int p0), .val (.int p1), .val (.int p2), .val (.int p3), .val (.int p4), .val (.int p5), .val (.int g6), .val (.int g7), .val (.int g8), .val (.int g9), .val (.int g10), .val (.int g11), .val (.int g12), .val (.int g13), .val (.int g14), .val (.int g15), .val (.int g16), .val (.int g17), .val (.int g18), .val (.ref a1), .val (.ref a38), .val (.ref (tyA g14 t0 t1 t2 t3 t4 t5 t6 t7 t8 t9)), .val (.int e), .val (.int f), .unset] [(.int (if p0 = g11 ∧ (tyA g12 t0 t1 t2 t3 t4 t5 t6 t7 t8 t9) = (tyA g14 t0 t1 t2 t3 t4 t5 t6 t7 t8 t9) ∧ (sL g7 g15 g16) = (sL g9 g17 g18) then (1 : Int32) else 0))]
          refine g_iload o (pc := 385) at_385 rfl ?_
          refine g_icmpN o (pc := 387) at_387 (t := 394) (by decide) rfl c_ne (fun hy80 => absurd hm47.symm hy80) (fun _ => ?_)
          refine g_iconst o (pc := 390) at_390 (v := 1) rfl ?_
          refine g_goto o (pc := 391) at_391 (t := 395) (by decide) rfl ?_
          refine g_nreturn o (pc := 395) (by simp) at_395 (y := 1) rfl ?_ (by decide) (by decide)
          exact rfl
        · refine g_aconst_null o (pc := 348) at_348 ?_
          refine g_astore o (pc := 349) at_349 rfl (L' := #[.val (.int p0), .val (.int p1), .val (.int p2), .val (.int p3), .val (.int p4), .val (.int p5), .val (.int g6), .val (.int g7), .val (.int g8), .val (.int g9), .val (.int g10), .val (.int g11), .val (.int g12), .val (.int g13), .val (.int g14), .val (.int g15), .val (.int g16), .val (.int g17), .val (.int g18), .val (.ref a1), .val (.ref a38), .val (.ref (tyA g14 t0 t1 t2 t3 t4 t5 t6 t7 t8 t9)), .val (.int e), .val (.int f), .val .null]) rfl ?_
          refine g_aload o (pc := 351) at_351 rfl rfl ?_
          refine g_aload o (pc := 353) at_353 rfl rfl ?_
          have q84 := (A29.keep K37)
          refine g_virtual o (pc := 355) a1 [.null] [] at_355 (wd_58 hw) (wd_59 hw) (wd_61 hw) (wd_60 hw) (fun _ q => notFace_of_selects q) (by decide) q84 (Met.back o (W := 0) (rm_eqN C.l Z a0 hw n0 h35 q40 a1 ) (wd_62 hw) (wd_2 hw) (by decide) (by decide)) (fun _ _ _ q => q) (Or.inr fun _ _ q => by rw [q.2]; exact Mv.refl) pd_4 rfl rfl rfl rfl (by decide) (by decide) fun v81 h82 q83 => ?_
          obtain ⟨rfl, hh⟩ := q83
          obtain rfl := hh.symm
          show Go C Z n0 (fun v _ => v = some (.int 1)) [a1] h35 17 67 358 #[.val (.int p0), .val (.int p1), .val (.int p2), .val (.int p3), .val (.int p4), .val (.int p5), .val (.int g6), .val (.int g7), .val (.int g8), .val (.int g9), .val (.int g10), .val (.int g11), .val (.int g12), .val (.int g13), .val (.int g14), .val (.int g15), .val (.int g16), .val (.int g17), .val (.int g18), .val (.ref a1), .val (.ref a38), .val (.ref (tyA g14 t0 t1 t2 t3 t4 t5 t6 t7 t8 t9)), .val (.int e), .val (.int f), .val .null] [(.int 0)]
          refine g_ifCN o (pc := 358) at_358 (t := 365) (by decide) rfl c_ne (fun hy85 => absurd rfl hy85) (fun _ => ?_)
          refine g_iconst o (pc := 361) at_361 (v := 1) rfl ?_
          refine g_goto o (pc := 362) at_362 (t := 366) (by decide) rfl ?_
          refine g_nreturn o (pc := 366) (by simp) at_366 (y := 1) rfl ?_ (by decide) (by decide)
          exact rfl
      · refine g_aload o (pc := 315) at_315 rfl rfl ?_
        refine g_new o (pc := 317) at_317 (wd_65 hw) (wd_66 hw) (wd_67 hw) (by decide) (by decide) (M' := fun a => a :: [a1]) (fun _ _ q => (List.mem_cons.mp q).elim Or.inr Or.inl) fun a86 h87 ha88 E89 A90 D91 => ?_
        have F92 : Fld Z h87 a86 "com/example/protocols_under_attack/protocolsunderattack/term/Atom" "name" "Ljava/lang/String;" .null := D91 (Or.inr (wd_76 hw)) (ty := (.object "java/lang/String")) (by decide)
        have F93 : Fld Z h87 a86 "com/example/protocols_under_attack/protocolsunderattack/term/Atom" "type" "Lcom/example/protocols_under_attack/protocolsunderattack/term/Type;" .null := D91 (Or.inr (wd_78 hw)) (ty := (.object "com/example/protocols_under_attack/protocolsunderattack/term/Type")) (by decide)
        have F94 : Fld Z h87 a86 "com/example/protocols_under_attack/protocolsunderattack/term/Atom" "number" "I" (.int 0) := D91 (Or.inr (wd_80 hw)) (ty := .int) (by decide)
        refine g_dup o (pc := 320) at_320 rfl ?_
        refine g_aload o (pc := 321) at_321 rfl rfl ?_
        refine g_aload o (pc := 323) at_323 rfl rfl ?_
        refine g_iload o (pc := 325) at_325 rfl ?_
        have q95 := (q40.ext E89)
        refine g_specialW o hwd (pc := 327) a86 [(.ref a38), (.ref (tyA g14 t0 t1 t2 t3 t4 t5 t6 t7 t8 t9)), (.int g11)] [(.ref a86), (.ref a1)] at_327 rfl (wd_68 hw) (wd_69 hw) (wd_70 hw) (by decide) (MetW.back hE o (W := 2) (rm_initA C.l Z a0 hw n0 h87 q95 a86 a38 (tyA g14 t0 t1 t2 t3 t4 t5 t6 t7 t8 t9) g11 A90 F92 F93 F94 (ge_new ha88 ((((X0.ext E4).keep K14 all0).keep K28 (allS (ge_new ha3 X0) all0)).keep K37 all0))) (wd_70 hw) (wd_67 hw) (by decide) (by decide)) (fun _ _ _ q => q) pd_7 rfl rfl rfl rfl (by decide) (by decide) fun v96 h97 q98 => ?_
        obtain ⟨rfl, K99, A100, F101, F102, F103⟩ := q98
        show Go C Z n0 (fun v _ => v = some (.int 1)) [a86, a1] h97 22 110 330 #[.val (.int p0), .val (.int p1), .val (.int p2), .val (.int p3), .val (.int p4), .val (.int p5), .val (.int g6), .val (.int g7), .val (.int g8), .val (.int g9), .val (.int g10), .val (.int g11), .val (.int g12), .val (.int g13), .val (.int g14), .val (.int g15), .val (.int g16), .val (.int g17), .val (.int g18), .val (.ref a1), .val (.ref a38), .val (.ref (tyA g14 t0 t1 t2 t3 t4 t5 t6 t7 t8 t9)), .val (.int e), .val (.int f), .unset] [(.ref a86), (.ref a1)]
        have q104 := (q95.keep K99 (allS (ge_new ha88 ((((X0.ext E4).keep K14 all0).keep K28 (allS (ge_new ha3 X0) all0)).keep K37 all0)) all0))
        have q108 := (((A29.keep K37).ext E89).keep K99)
        refine g_virtual o (pc := 330) a1 [(.ref a86)] [] at_330 (wd_58 hw) (wd_59 hw) (wd_61 hw) (wd_60 hw) (fun _ q => notFace_of_selects q) (by decide) q108 (Met.back o (W := 0) (rm_eqD C.l Z a0 hw n0 h97 q104 a1 a86 A100) (wd_62 hw) (wd_2 hw) (by decide) (by decide)) (fun _ _ _ q => q) (Or.inr fun _ _ q => by rw [q.2]; exact Mv.refl) pd_4 rfl rfl rfl rfl (by decide) (by decide) fun v105 h106 q107 => ?_
        obtain ⟨rfl, hh⟩ := q107
        obtain rfl := hh.symm
        show Go C Z n0 (fun v _ => v = some (.int 1)) [a86, a1] h97 22 110 333 #[.val (.int p0), .val (.int p1), .val (.int p2), .val (.int p3), .val (.int p4), .val (.int p5), .val (.int g6), .val (.int g7), .val (.int g8), .val (.int g9), .val (.int g10), .val (.int g11), .val (.int g12), .val (.int g13), .val (.int g14), .val (.int g15), .val (.int g16), .val (.int g17), .val (.int g18), .val (.ref a1), .val (.ref a38), .val (.ref (tyA g14 t0 t1 t2 t3 t4 t5 t6 t7 t8 t9)), .val (.int e), .val (.int f), .unset] [(.int 0)]
        refine g_ifCN o (pc := 333) at_333 (t := 340) (by decide) rfl c_ne (fun hy109 => absurd rfl hy109) (fun _ => ?_)
        refine g_iconst o (pc := 336) at_336 (v := 1) rfl ?_
        refine g_goto o (pc := 337) at_337 (t := 341) (by decide) rfl ?_
        refine g_nreturn o (pc := 341) (by simp) at_341 (y := 1) rfl ?_ (by decide) (by decide)
        exact rfl
    refine g_iload_n o (pc := 284) at_284 rfl ?_
    refine g_iload o (pc := 285) at_285 rfl ?_
    refine g_icmpN o (pc := 287) at_287 (t := 306) (by decide) rfl c_ne (fun hy110 => ?_) (fun hn111 => ?_)
    · refine g_iconst o (pc := 306) at_306 (v := 0) rfl ?_
      exact K46 _ ((if_neg fun q => hy110 q.1).symm)
    · refine g_iload o (pc := 290) at_290 rfl ?_
      refine g_iload o (pc := 292) at_292 rfl ?_
      refine g_icmpN o (pc := 294) at_294 (t := 306) (by decide) rfl c_ne (fun hy112 => ?_) (fun hn113 => ?_)
      · refine g_iconst o (pc := 306) at_306 (v := 0) rfl ?_
        exact K46 _ ((if_neg fun q => hy112 (tyA_inj k12 k14 nd q.2.1)).symm)
      · refine g_iload o (pc := 297) at_297 rfl ?_
        refine g_ifC o (pc := 299) at_299 (t := 306) (by decide) rfl c_eq (fun hy114 => ?_) (fun hn115 => ?_)
        · refine g_iconst o (pc := 306) at_306 (v := 0) rfl ?_
          exact K46 _ ((if_neg fun q => absurd hy114 (by rw [hm45, if_pos q.2.2]; decide)).symm)
        · refine g_iconst o (pc := 302) at_302 (v := 1) rfl ?_
          refine g_goto o (pc := 303) at_303 (t := 307) (by decide) rfl ?_
          exact K46 _ ((if_pos ⟨hn111, by rw [hn113], Classical.byContradiction fun q => hn115 (hm45 ▸ if_neg q)⟩).symm)
  refine g_iload o (pc := 244) at_244 rfl ?_
  refine g_iload o (pc := 246) at_246 rfl ?_
  refine g_icmpN o (pc := 248) at_248 (t := 281) (by decide) rfl c_ne (fun hy116 => ?_) (fun hn117 => ?_)
  · refine g_iconst o (pc := 281) at_281 (v := 0) rfl ?_
    exact K44 _ ((if_neg (fun z => (fun q => hy116 q.1) ((sL_eq n7 n9).mp z))).symm)
  · refine g_iload o (pc := 251) at_251 rfl ?_
    refine g_iconst o (pc := 253) at_253 (v := 1) rfl ?_
    refine g_icmp o (pc := 254) at_254 (t := 264) (by decide) rfl c_lt (fun hy118 => ?_) (fun hn119 => ?_)
    · refine g_iload o (pc := 264) at_264 rfl ?_
      refine g_iconst o (pc := 266) at_266 (v := 2) rfl ?_
      refine g_icmp o (pc := 267) at_267 (t := 277) (by decide) rfl c_lt (fun hy120 => ?_) (fun hn121 => ?_)
      · refine g_iconst o (pc := 277) at_277 (v := 1) rfl ?_
        refine g_goto o (pc := 278) at_278 (t := 282) (by decide) rfl ?_
        exact K44 _ ((if_pos ((sL_eq n7 n9).mpr ⟨hn117, (Or.inl hy118), (Or.inl hy120)⟩)).symm)
      · refine g_iload o (pc := 270) at_270 rfl ?_
        refine g_iload o (pc := 272) at_272 rfl ?_
        refine g_icmpN o (pc := 274) at_274 (t := 281) (by decide) rfl c_ne (fun hy122 => ?_) (fun hn123 => ?_)
        · refine g_iconst o (pc := 281) at_281 (v := 0) rfl ?_
          exact K44 _ ((if_neg (fun z => (fun q => q.2.2.elim hn121 hy122) ((sL_eq n7 n9).mp z))).symm)
        · refine g_iconst o (pc := 277) at_277 (v := 1) rfl ?_
          refine g_goto o (pc := 278) at_278 (t := 282) (by decide) rfl ?_
          exact K44 _ ((if_pos ((sL_eq n7 n9).mpr ⟨hn117, (Or.inl hy118), (Or.inr hn123)⟩)).symm)
    · refine g_iload o (pc := 257) at_257 rfl ?_
      refine g_iload o (pc := 259) at_259 rfl ?_
      refine g_icmpN o (pc := 261) at_261 (t := 281) (by decide) rfl c_ne (fun hy124 => ?_) (fun hn125 => ?_)
      · refine g_iconst o (pc := 281) at_281 (v := 0) rfl ?_
        exact K44 _ ((if_neg (fun z => (fun q => q.2.1.elim hn119 hy124) ((sL_eq n7 n9).mp z))).symm)
      · refine g_iload o (pc := 264) at_264 rfl ?_
        refine g_iconst o (pc := 266) at_266 (v := 2) rfl ?_
        refine g_icmp o (pc := 267) at_267 (t := 277) (by decide) rfl c_lt (fun hy126 => ?_) (fun hn127 => ?_)
        · refine g_iconst o (pc := 277) at_277 (v := 1) rfl ?_
          refine g_goto o (pc := 278) at_278 (t := 282) (by decide) rfl ?_
          exact K44 _ ((if_pos ((sL_eq n7 n9).mpr ⟨hn117, (Or.inr hn125), (Or.inl hy126)⟩)).symm)
        · refine g_iload o (pc := 270) at_270 rfl ?_
          refine g_iload o (pc := 272) at_272 rfl ?_
          refine g_icmpN o (pc := 274) at_274 (t := 281) (by decide) rfl c_ne (fun hy128 => ?_) (fun hn129 => ?_)
          · refine g_iconst o (pc := 281) at_281 (v := 0) rfl ?_
            exact K44 _ ((if_neg (fun z => (fun q => q.2.2.elim hn127 hy128) ((sL_eq n7 n9).mp z))).symm)
          · refine g_iconst o (pc := 277) at_277 (v := 1) rfl ?_
            refine g_goto o (pc := 278) at_278 (t := 282) (by decide) rfl ?_
            exact K44 _ ((if_pos ((sL_eq n7 n9).mpr ⟨hn117, (Or.inr hn125), (Or.inr hn129)⟩)).symm)
set_option maxRecDepth 65536 in
set_option maxHeartbeats 40000000 in
theorem bl_200 {C : Cx} {Z : State} {a0 : Array Value} (hw : ∀ d ∈ tables_1, d.before a0 Z = true) (hE : C.EL = consts_1) (hwd : C.wide = true) (n0 : Nat) (o : Ok C Z a0 code 25 (some .boolean) "law" "com/example/protocols_under_attack/protocolsunderattack/term/VariableEqualsPinLaw" ({ frames := 8, cells := 40, slots := 5248, locals := 192 } : Room)) (h0 : Heap) (X0 : Old Z n0 h0) (p0 : Int32) (p1 : Int32) (p2 : Int32) (p3 : Int32) (p4 : Int32) (p5 : Int32) (g6 : Int32) (g7 : Int32) (g8 : Int32) (g9 : Int32) (g10 : Int32) (g11 : Int32) (g12 : Int32) (g13 : Int32) (g14 : Int32) (g15 : Int32) (g16 : Int32) (g17 : Int32) (g18 : Int32) (zc : Int32) (t0 : Addr) (t1 : Addr) (t2 : Addr) (t3 : Addr) (t4 : Addr) (t5 : Addr) (t6 : Addr) (t7 : Addr) (t8 : Addr) (t9 : Addr) (Sc : Sta Z Z.heap "java/lang/String" "COMPACT_STRINGS" "Z" (.int zc)) (nzc : ¬ zc = 0) (T0 : Sta Z Z.heap "com/example/protocols_under_attack/protocolsunderattack/term/Type" "AGENT" "Lcom/example/protocols_under_attack/protocolsunderattack/term/Type;" (.ref t0)) (T1 : Sta Z Z.heap "com/example/protocols_under_attack/protocolsunderattack/term/Type" "TEXT" "Lcom/example/protocols_under_attack/protocolsunderattack/term/Type;" (.ref t1)) (T2 : Sta Z Z.heap "com/example/protocols_under_attack/protocolsunderattack/term/Type" "NAT" "Lcom/example/protocols_under_attack/protocolsunderattack/term/Type;" (.ref t2)) (T3 : Sta Z Z.heap "com/example/protocols_under_attack/protocolsunderattack/term/Type" "PROTOCOL_ID" "Lcom/example/protocols_under_attack/protocolsunderattack/term/Type;" (.ref t3)) (T4 : Sta Z Z.heap "com/example/protocols_under_attack/protocolsunderattack/term/Type" "SYMMETRIC_KEY" "Lcom/example/protocols_under_attack/protocolsunderattack/term/Type;" (.ref t4)) (T5 : Sta Z Z.heap "com/example/protocols_under_attack/protocolsunderattack/term/Type" "PUBLIC_KEY" "Lcom/example/protocols_under_attack/protocolsunderattack/term/Type;" (.ref t5)) (T6 : Sta Z Z.heap "com/example/protocols_under_attack/protocolsunderattack/term/Type" "HASH_FUNC" "Lcom/example/protocols_under_attack/protocolsunderattack/term/Type;" (.ref t6)) (T7 : Sta Z Z.heap "com/example/protocols_under_attack/protocolsunderattack/term/Type" "CHANNEL" "Lcom/example/protocols_under_attack/protocolsunderattack/term/Type;" (.ref t7)) (T8 : Sta Z Z.heap "com/example/protocols_under_attack/protocolsunderattack/term/Type" "SET" "Lcom/example/protocols_under_attack/protocolsunderattack/term/Type;" (.ref t8)) (T9 : Sta Z Z.heap "com/example/protocols_under_attack/protocolsunderattack/term/Type" "MESSAGE" "Lcom/example/protocols_under_attack/protocolsunderattack/term/Type;" (.ref t9)) (l15 : ¬ g15 < 0 ∧ ¬ (255 : Int32) < g15) (l16 : ¬ g16 < 0 ∧ ¬ (255 : Int32) < g16) (l17 : ¬ g17 < 0 ∧ ¬ (255 : Int32) < g17) (l18 : ¬ g18 < 0 ∧ ¬ (255 : Int32) < g18) (n7 : g7 = 0 ∨ g7 = 1 ∨ g7 = 2) (n9 : g9 = 0 ∨ g9 = 1 ∨ g9 = 2) (k12 : In10 g12) (k14 : In10 g14) (nd : [t0, t1, t2, t3, t4, t5, t6, t7, t8, t9].Nodup) :
    Go C Z n0 (fun v _ => v = some (.int 1)) [] h0 0 0 200 #[.val (.int p0), .val (.int p1), .val (.int p2), .val (.int p3), .val (.int p4), .val (.int p5), .val (.int g6), .val (.int g7), .val (.int g8), .val (.int g9), .val (.int g10), .val (.int g11), .val (.int g12), .val (.int g13), .val (.int g14), .val (.int g15), .val (.int g16), .val (.int g17), .unset, .unset, .unset, .unset, .unset, .unset, .unset] [(.int g18)] := by
  refine g_istore o (pc := 200) at_200 (L' := #[.val (.int p0), .val (.int p1), .val (.int p2), .val (.int p3), .val (.int p4), .val (.int p5), .val (.int g6), .val (.int g7), .val (.int g8), .val (.int g9), .val (.int g10), .val (.int g11), .val (.int g12), .val (.int g13), .val (.int g14), .val (.int g15), .val (.int g16), .val (.int g17), .val (.int g18), .unset, .unset, .unset, .unset, .unset, .unset]) rfl ?_
  exact bl_202 hw hE hwd n0 o h0 X0 p0 p1 p2 p3 p4 p5 g6 g7 g8 g9 g10 g11 g12 g13 g14 g15 g16 g17 g18 zc t0 t1 t2 t3 t4 t5 t6 t7 t8 t9 Sc nzc T0 T1 T2 T3 T4 T5 T6 T7 T8 T9 l15 l16 l17 l18 n7 n9 k12 k14 nd
set_option maxRecDepth 65536 in
set_option maxHeartbeats 40000000 in
theorem bl_173 {C : Cx} {Z : State} {a0 : Array Value} (hw : ∀ d ∈ tables_1, d.before a0 Z = true) (hE : C.EL = consts_1) (hwd : C.wide = true) (n0 : Nat) (o : Ok C Z a0 code 25 (some .boolean) "law" "com/example/protocols_under_attack/protocolsunderattack/term/VariableEqualsPinLaw" ({ frames := 8, cells := 40, slots := 5248, locals := 192 } : Room)) (h0 : Heap) (X0 : Old Z n0 h0) (p0 : Int32) (p1 : Int32) (p2 : Int32) (p3 : Int32) (p4 : Int32) (p5 : Int32) (g6 : Int32) (g7 : Int32) (g8 : Int32) (g9 : Int32) (g10 : Int32) (g11 : Int32) (g12 : Int32) (g13 : Int32) (g14 : Int32) (g15 : Int32) (g16 : Int32) (g17 : Int32) (zc : Int32) (t0 : Addr) (t1 : Addr) (t2 : Addr) (t3 : Addr) (t4 : Addr) (t5 : Addr) (t6 : Addr) (t7 : Addr) (t8 : Addr) (t9 : Addr) (Sc : Sta Z Z.heap "java/lang/String" "COMPACT_STRINGS" "Z" (.int zc)) (nzc : ¬ zc = 0) (T0 : Sta Z Z.heap "com/example/protocols_under_attack/protocolsunderattack/term/Type" "AGENT" "Lcom/example/protocols_under_attack/protocolsunderattack/term/Type;" (.ref t0)) (T1 : Sta Z Z.heap "com/example/protocols_under_attack/protocolsunderattack/term/Type" "TEXT" "Lcom/example/protocols_under_attack/protocolsunderattack/term/Type;" (.ref t1)) (T2 : Sta Z Z.heap "com/example/protocols_under_attack/protocolsunderattack/term/Type" "NAT" "Lcom/example/protocols_under_attack/protocolsunderattack/term/Type;" (.ref t2)) (T3 : Sta Z Z.heap "com/example/protocols_under_attack/protocolsunderattack/term/Type" "PROTOCOL_ID" "Lcom/example/protocols_under_attack/protocolsunderattack/term/Type;" (.ref t3)) (T4 : Sta Z Z.heap "com/example/protocols_under_attack/protocolsunderattack/term/Type" "SYMMETRIC_KEY" "Lcom/example/protocols_under_attack/protocolsunderattack/term/Type;" (.ref t4)) (T5 : Sta Z Z.heap "com/example/protocols_under_attack/protocolsunderattack/term/Type" "PUBLIC_KEY" "Lcom/example/protocols_under_attack/protocolsunderattack/term/Type;" (.ref t5)) (T6 : Sta Z Z.heap "com/example/protocols_under_attack/protocolsunderattack/term/Type" "HASH_FUNC" "Lcom/example/protocols_under_attack/protocolsunderattack/term/Type;" (.ref t6)) (T7 : Sta Z Z.heap "com/example/protocols_under_attack/protocolsunderattack/term/Type" "CHANNEL" "Lcom/example/protocols_under_attack/protocolsunderattack/term/Type;" (.ref t7)) (T8 : Sta Z Z.heap "com/example/protocols_under_attack/protocolsunderattack/term/Type" "SET" "Lcom/example/protocols_under_attack/protocolsunderattack/term/Type;" (.ref t8)) (T9 : Sta Z Z.heap "com/example/protocols_under_attack/protocolsunderattack/term/Type" "MESSAGE" "Lcom/example/protocols_under_attack/protocolsunderattack/term/Type;" (.ref t9)) (l15 : ¬ g15 < 0 ∧ ¬ (255 : Int32) < g15) (l16 : ¬ g16 < 0 ∧ ¬ (255 : Int32) < g16) (l17 : ¬ g17 < 0 ∧ ¬ (255 : Int32) < g17) (n7 : g7 = 0 ∨ g7 = 1 ∨ g7 = 2) (n9 : g9 = 0 ∨ g9 = 1 ∨ g9 = 2) (k12 : In10 g12) (k14 : In10 g14) (nd : [t0, t1, t2, t3, t4, t5, t6, t7, t8, t9].Nodup) :
    Go C Z n0 (fun v _ => v = some (.int 1)) [] h0 0 0 173 #[.val (.int p0), .val (.int p1), .val (.int p2), .val (.int p3), .val (.int p4), .val (.int p5), .val (.int g6), .val (.int g7), .val (.int g8), .val (.int g9), .val (.int g10), .val (.int g11), .val (.int g12), .val (.int g13), .val (.int g14), .val (.int g15), .val (.int g16), .unset, .unset, .unset, .unset, .unset, .unset, .unset, .unset] [(.int g17)] := by
  refine g_istore o (pc := 173) at_173 (L' := #[.val (.int p0), .val (.int p1), .val (.int p2), .val (.int p3), .val (.int p4), .val (.int p5), .val (.int g6), .val (.int g7), .val (.int g8), .val (.int g9), .val (.int g10), .val (.int g11), .val (.int g12), .val (.int g13), .val (.int g14), .val (.int g15), .val (.int g16), .val (.int g17), .unset, .unset, .unset, .unset, .unset, .unset, .unset]) rfl ?_
  refine g_iload o (pc := 175) at_175 rfl ?_
  refine g_bipush o (pc := 177) at_177 (v := 10) rfl ?_
  refine g_iushr o (pc := 179) at_179 (v := (XT.ushr p5 10)) rfl ?_
  refine g_iconst o (pc := 180) at_180 (v := 1) rfl ?_
  refine g_iand o (pc := 181) at_181 (v := ((XT.ushr p5 10) &&& 1)) rfl ?_
  refine g_ifC o (pc := 182) at_182 (t := 190) (by decide) rfl c_eq (fun hy1 => ?_) (fun hn2 => ?_)
  · refine g_iload o (pc := 190) at_190 rfl ?_
    refine g_bipush o (pc := 192) at_192 (v := 8) rfl ?_
    refine g_iushr o (pc := 194) at_194 (v := (XT.ushr p4 8)) rfl ?_
    refine g_sipush o (pc := 195) at_195 (v := 255) rfl ?_
    refine g_iand o (pc := 198) at_198 (v := ((XT.ushr p4 8) &&& 255)) rfl ?_
    refine g_i2c o (pc := 199) at_199 (v := ((XT.ushr p4 8) &&& 255)) (i2c_mask (XT.ushr p4 8)) ?_
    exact bl_200 hw hE hwd n0 o h0 X0 p0 p1 p2 p3 p4 p5 g6 g7 g8 g9 g10 g11 g12 g13 g14 g15 g16 g17 ((XT.ushr p4 8) &&& 255) zc t0 t1 t2 t3 t4 t5 t6 t7 t8 t9 Sc nzc T0 T1 T2 T3 T4 T5 T6 T7 T8 T9 l15 l16 l17 (and255c (XT.ushr p4 8)) n7 n9 k12 k14 nd
  · refine g_iload o (pc := 185) at_185 rfl ?_
    refine g_goto o (pc := 187) at_187 (t := 200) (by decide) rfl ?_
    exact bl_200 hw hE hwd n0 o h0 X0 p0 p1 p2 p3 p4 p5 g6 g7 g8 g9 g10 g11 g12 g13 g14 g15 g16 g17 g16 zc t0 t1 t2 t3 t4 t5 t6 t7 t8 t9 Sc nzc T0 T1 T2 T3 T4 T5 T6 T7 T8 T9 l15 l16 l17 l16 n7 n9 k12 k14 nd
set_option maxRecDepth 65536 in
set_option maxHeartbeats 40000000 in
theorem bl_130 {C : Cx} {Z : State} {a0 : Array Value} (hw : ∀ d ∈ tables_1, d.before a0 Z = true) (hE : C.EL = consts_1) (hwd : C.wide = true) (n0 : Nat) (o : Ok C Z a0 code 25 (some .boolean) "law" "com/example/protocols_under_attack/protocolsunderattack/term/VariableEqualsPinLaw" ({ frames := 8, cells := 40, slots := 5248, locals := 192 } : Room)) (h0 : Heap) (X0 : Old Z n0 h0) (p0 : Int32) (p1 : Int32) (p2 : Int32) (p3 : Int32) (p4 : Int32) (p5 : Int32) (g6 : Int32) (g7 : Int32) (g8 : Int32) (g9 : Int32) (g10 : Int32) (g11 : Int32) (g12 : Int32) (g13 : Int32) (g14 : Int32) (zc : Int32) (t0 : Addr) (t1 : Addr) (t2 : Addr) (t3 : Addr) (t4 : Addr) (t5 : Addr) (t6 : Addr) (t7 : Addr) (t8 : Addr) (t9 : Addr) (Sc : Sta Z Z.heap "java/lang/String" "COMPACT_STRINGS" "Z" (.int zc)) (nzc : ¬ zc = 0) (T0 : Sta Z Z.heap "com/example/protocols_under_attack/protocolsunderattack/term/Type" "AGENT" "Lcom/example/protocols_under_attack/protocolsunderattack/term/Type;" (.ref t0)) (T1 : Sta Z Z.heap "com/example/protocols_under_attack/protocolsunderattack/term/Type" "TEXT" "Lcom/example/protocols_under_attack/protocolsunderattack/term/Type;" (.ref t1)) (T2 : Sta Z Z.heap "com/example/protocols_under_attack/protocolsunderattack/term/Type" "NAT" "Lcom/example/protocols_under_attack/protocolsunderattack/term/Type;" (.ref t2)) (T3 : Sta Z Z.heap "com/example/protocols_under_attack/protocolsunderattack/term/Type" "PROTOCOL_ID" "Lcom/example/protocols_under_attack/protocolsunderattack/term/Type;" (.ref t3)) (T4 : Sta Z Z.heap "com/example/protocols_under_attack/protocolsunderattack/term/Type" "SYMMETRIC_KEY" "Lcom/example/protocols_under_attack/protocolsunderattack/term/Type;" (.ref t4)) (T5 : Sta Z Z.heap "com/example/protocols_under_attack/protocolsunderattack/term/Type" "PUBLIC_KEY" "Lcom/example/protocols_under_attack/protocolsunderattack/term/Type;" (.ref t5)) (T6 : Sta Z Z.heap "com/example/protocols_under_attack/protocolsunderattack/term/Type" "HASH_FUNC" "Lcom/example/protocols_under_attack/protocolsunderattack/term/Type;" (.ref t6)) (T7 : Sta Z Z.heap "com/example/protocols_under_attack/protocolsunderattack/term/Type" "CHANNEL" "Lcom/example/protocols_under_attack/protocolsunderattack/term/Type;" (.ref t7)) (T8 : Sta Z Z.heap "com/example/protocols_under_attack/protocolsunderattack/term/Type" "SET" "Lcom/example/protocols_under_attack/protocolsunderattack/term/Type;" (.ref t8)) (T9 : Sta Z Z.heap "com/example/protocols_under_attack/protocolsunderattack/term/Type" "MESSAGE" "Lcom/example/protocols_under_attack/protocolsunderattack/term/Type;" (.ref t9)) (n7 : g7 = 0 ∨ g7 = 1 ∨ g7 = 2) (n9 : g9 = 0 ∨ g9 = 1 ∨ g9 = 2) (k12 : In10 g12) (k14 : In10 g14) (nd : [t0, t1, t2, t3, t4, t5, t6, t7, t8, t9].Nodup) :
    Go C Z n0 (fun v _ => v = some (.int 1)) [] h0 0 0 130 #[.val (.int p0), .val (.int p1), .val (.int p2), .val (.int p3), .val (.int p4), .val (.int p5), .val (.int g6), .val (.int g7), .val (.int g8), .val (.int g9), .val (.int g10), .val (.int g11), .val (.int g12), .val (.int g13), .unset, .unset, .unset, .unset, .unset, .unset, .unset, .unset, .unset, .unset, .unset] [(.int g14)] := by
  refine g_istore o (pc := 130) at_130 (L' := #[.val (.int p0), .val (.int p1), .val (.int p2), .val (.int p3), .val (.int p4), .val (.int p5), .val (.int g6), .val (.int g7), .val (.int g8), .val (.int g9), .val (.int g10), .val (.int g11), .val (.int g12), .val (.int g13), .val (.int g14), .unset, .unset, .unset, .unset, .unset, .unset, .unset, .unset, .unset, .unset]) rfl ?_
  refine g_iload_n o (pc := 132) at_132 rfl ?_
  refine g_sipush o (pc := 133) at_133 (v := 255) rfl ?_
  refine g_iand o (pc := 136) at_136 (v := (p3 &&& 255)) rfl ?_
  refine g_i2c o (pc := 137) at_137 (v := (p3 &&& 255)) (i2c_mask p3) ?_
  refine g_istore o (pc := 138) at_138 (L' := #[.val (.int p0), .val (.int p1), .val (.int p2), .val (.int p3), .val (.int p4), .val (.int p5), .val (.int g6), .val (.int g7), .val (.int g8), .val (.int g9), .val (.int g10), .val (.int g11), .val (.int g12), .val (.int g13), .val (.int g14), .val (.int (p3 &&& 255)), .unset, .unset, .unset, .unset, .unset, .unset, .unset, .unset, .unset]) rfl ?_
  refine g_iload_n o (pc := 140) at_140 rfl ?_
  refine g_bipush o (pc := 141) at_141 (v := 8) rfl ?_
  refine g_iushr o (pc := 143) at_143 (v := (XT.ushr p3 8)) rfl ?_
  refine g_sipush o (pc := 144) at_144 (v := 255) rfl ?_
  refine g_iand o (pc := 147) at_147 (v := ((XT.ushr p3 8) &&& 255)) rfl ?_
  refine g_i2c o (pc := 148) at_148 (v := ((XT.ushr p3 8) &&& 255)) (i2c_mask (XT.ushr p3 8)) ?_
  refine g_istore o (pc := 149) at_149 (L' := #[.val (.int p0), .val (.int p1), .val (.int p2), .val (.int p3), .val (.int p4), .val (.int p5), .val (.int g6), .val (.int g7), .val (.int g8), .val (.int g9), .val (.int g10), .val (.int g11), .val (.int g12), .val (.int g13), .val (.int g14), .val (.int (p3 &&& 255)), .val (.int ((XT.ushr p3 8) &&& 255)), .unset, .unset, .unset, .unset, .unset, .unset, .unset, .unset]) rfl ?_
  refine g_iload o (pc := 151) at_151 rfl ?_
  refine g_bipush o (pc := 153) at_153 (v := 9) rfl ?_
  refine g_iushr o (pc := 155) at_155 (v := (XT.ushr p5 9)) rfl ?_
  refine g_iconst o (pc := 156) at_156 (v := 1) rfl ?_
  refine g_iand o (pc := 157) at_157 (v := ((XT.ushr p5 9) &&& 1)) rfl ?_
  refine g_ifC o (pc := 158) at_158 (t := 166) (by decide) rfl c_eq (fun hy1 => ?_) (fun hn2 => ?_)
  · refine g_iload o (pc := 166) at_166 rfl ?_
    refine g_sipush o (pc := 168) at_168 (v := 255) rfl ?_
    refine g_iand o (pc := 171) at_171 (v := (p4 &&& 255)) rfl ?_
    refine g_i2c o (pc := 172) at_172 (v := (p4 &&& 255)) (i2c_mask p4) ?_
    exact bl_173 hw hE hwd n0 o h0 X0 p0 p1 p2 p3 p4 p5 g6 g7 g8 g9 g10 g11 g12 g13 g14 (p3 &&& 255) ((XT.ushr p3 8) &&& 255) (p4 &&& 255) zc t0 t1 t2 t3 t4 t5 t6 t7 t8 t9 Sc nzc T0 T1 T2 T3 T4 T5 T6 T7 T8 T9 (and255c p3) (and255c (XT.ushr p3 8)) (and255c p4) n7 n9 k12 k14 nd
  · refine g_iload o (pc := 161) at_161 rfl ?_
    refine g_goto o (pc := 163) at_163 (t := 173) (by decide) rfl ?_
    exact bl_173 hw hE hwd n0 o h0 X0 p0 p1 p2 p3 p4 p5 g6 g7 g8 g9 g10 g11 g12 g13 g14 (p3 &&& 255) ((XT.ushr p3 8) &&& 255) (p3 &&& 255) zc t0 t1 t2 t3 t4 t5 t6 t7 t8 t9 Sc nzc T0 T1 T2 T3 T4 T5 T6 T7 T8 T9 (and255c p3) (and255c (XT.ushr p3 8)) (and255c p3) n7 n9 k12 k14 nd
set_option maxRecDepth 65536 in
set_option maxHeartbeats 40000000 in
theorem bl_80 {C : Cx} {Z : State} {a0 : Array Value} (hw : ∀ d ∈ tables_1, d.before a0 Z = true) (hE : C.EL = consts_1) (hwd : C.wide = true) (n0 : Nat) (o : Ok C Z a0 code 25 (some .boolean) "law" "com/example/protocols_under_attack/protocolsunderattack/term/VariableEqualsPinLaw" ({ frames := 8, cells := 40, slots := 5248, locals := 192 } : Room)) (h0 : Heap) (X0 : Old Z n0 h0) (p0 : Int32) (p1 : Int32) (p2 : Int32) (p3 : Int32) (p4 : Int32) (p5 : Int32) (g6 : Int32) (g7 : Int32) (g8 : Int32) (g9 : Int32) (g10 : Int32) (g11 : Int32) (zc : Int32) (t0 : Addr) (t1 : Addr) (t2 : Addr) (t3 : Addr) (t4 : Addr) (t5 : Addr) (t6 : Addr) (t7 : Addr) (t8 : Addr) (t9 : Addr) (Sc : Sta Z Z.heap "java/lang/String" "COMPACT_STRINGS" "Z" (.int zc)) (nzc : ¬ zc = 0) (T0 : Sta Z Z.heap "com/example/protocols_under_attack/protocolsunderattack/term/Type" "AGENT" "Lcom/example/protocols_under_attack/protocolsunderattack/term/Type;" (.ref t0)) (T1 : Sta Z Z.heap "com/example/protocols_under_attack/protocolsunderattack/term/Type" "TEXT" "Lcom/example/protocols_under_attack/protocolsunderattack/term/Type;" (.ref t1)) (T2 : Sta Z Z.heap "com/example/protocols_under_attack/protocolsunderattack/term/Type" "NAT" "Lcom/example/protocols_under_attack/protocolsunderattack/term/Type;" (.ref t2)) (T3 : Sta Z Z.heap "com/example/protocols_under_attack/protocolsunderattack/term/Type" "PROTOCOL_ID" "Lcom/example/protocols_under_attack/protocolsunderattack/term/Type;" (.ref t3)) (T4 : Sta Z Z.heap "com/example/protocols_under_attack/protocolsunderattack/term/Type" "SYMMETRIC_KEY" "Lcom/example/protocols_under_attack/protocolsunderattack/term/Type;" (.ref t4)) (T5 : Sta Z Z.heap "com/example/protocols_under_attack/protocolsunderattack/term/Type" "PUBLIC_KEY" "Lcom/example/protocols_under_attack/protocolsunderattack/term/Type;" (.ref t5)) (T6 : Sta Z Z.heap "com/example/protocols_under_attack/protocolsunderattack/term/Type" "HASH_FUNC" "Lcom/example/protocols_under_attack/protocolsunderattack/term/Type;" (.ref t6)) (T7 : Sta Z Z.heap "com/example/protocols_under_attack/protocolsunderattack/term/Type" "CHANNEL" "Lcom/example/protocols_under_attack/protocolsunderattack/term/Type;" (.ref t7)) (T8 : Sta Z Z.heap "com/example/protocols_under_attack/protocolsunderattack/term/Type" "SET" "Lcom/example/protocols_under_attack/protocolsunderattack/term/Type;" (.ref t8)) (T9 : Sta Z Z.heap "com/example/protocols_under_attack/protocolsunderattack/term/Type" "MESSAGE" "Lcom/example/protocols_under_attack/protocolsunderattack/term/Type;" (.ref t9)) (n7 : g7 = 0 ∨ g7 = 1 ∨ g7 = 2) (n9 : g9 = 0 ∨ g9 = 1 ∨ g9 = 2) (nd : [t0, t1, t2, t3, t4, t5, t6, t7, t8, t9].Nodup) :
    Go C Z n0 (fun v _ => v = some (.int 1)) [] h0 0 0 80 #[.val (.int p0), .val (.int p1), .val (.int p2), .val (.int p3), .val (.int p4), .val (.int p5), .val (.int g6), .val (.int g7), .val (.int g8), .val (.int g9), .val (.int g10), .unset, .unset, .unset, .unset, .unset, .unset, .unset, .unset, .unset, .unset, .unset, .unset, .unset, .unset] [(.int g11)] := by
  refine g_istore o (pc := 80) at_80 (L' := #[.val (.int p0), .val (.int p1), .val (.int p2), .val (.int p3), .val (.int p4), .val (.int p5), .val (.int g6), .val (.int g7), .val (.int g8), .val (.int g9), .val (.int g10), .val (.int g11), .unset, .unset, .unset, .unset, .unset, .unset, .unset, .unset, .unset, .unset, .unset, .unset, .unset]) rfl ?_
  refine g_iload_n o (pc := 82) at_82 rfl ?_
  refine g_sipush o (pc := 83) at_83 (v := 255) rfl ?_
  refine g_iand o (pc := 86) at_86 (v := (p2 &&& 255)) rfl ?_
  refine g_bipush o (pc := 87) at_87 (v := 10) rfl ?_
  refine g_irem o (pc := 89) at_89 (by decide) (v := ((p2 &&& 255) % 10)) rfl ?_
  refine g_istore o (pc := 90) at_90 (L' := #[.val (.int p0), .val (.int p1), .val (.int p2), .val (.int p3), .val (.int p4), .val (.int p5), .val (.int g6), .val (.int g7), .val (.int g8), .val (.int g9), .val (.int g10), .val (.int g11), .val (.int ((p2 &&& 255) % 10)), .unset, .unset, .unset, .unset, .unset, .unset, .unset, .unset, .unset, .unset, .unset, .unset]) rfl ?_
  refine g_iload o (pc := 92) at_92 rfl ?_
  refine g_bipush o (pc := 94) at_94 (v := 8) rfl ?_
  refine g_iushr o (pc := 96) at_96 (v := (XT.ushr p5 8)) rfl ?_
  refine g_iconst o (pc := 97) at_97 (v := 1) rfl ?_
  refine g_iand o (pc := 98) at_98 (v := ((XT.ushr p5 8) &&& 1)) rfl ?_
  have K2 : ∀ b1 : Int32, b1 = (if ((XT.ushr p5 8) &&& 1) = 0 then (0 : Int32) else 1) → Go C Z n0 (fun v _ => v = some (.int 1)) [] h0 0 0 107 #[.val (.int p0), .val (.int p1), .val (.int p2), .val (.int p3), .val (.int p4), .val (.int p5), .val (.int g6), .val (.int g7), .val (.int g8), .val (.int g9), .val (.int g10), .val (.int g11), .val (.int ((p2 &&& 255) % 10)), .unset, .unset, .unset, .unset, .unset, .unset, .unset, .unset, .unset, .unset, .unset, .unset] [(.int b1)] := fun b1 hb3 => by
    have fz4 : nar .boolean b1 = b1 := by rw [hb3]; split <;> rfl
    refine g_istore o (pc := 107) at_107 (L' := #[.val (.int p0), .val (.int p1), .val (.int p2), .val (.int p3), .val (.int p4), .val (.int p5), .val (.int g6), .val (.int g7), .val (.int g8), .val (.int g9), .val (.int g10), .val (.int g11), .val (.int ((p2 &&& 255) % 10)), .val (.int b1), .unset, .unset, .unset, .unset, .unset, .unset, .unset, .unset, .unset, .unset, .unset]) rfl ?_
    refine g_iload o (pc := 109) at_109 rfl ?_
    refine g_ifC o (pc := 111) at_111 (t := 119) (by decide) rfl c_eq (fun hy5 => ?_) (fun hn6 => ?_)
    · refine g_iload_n o (pc := 119) at_119 rfl ?_
      refine g_bipush o (pc := 120) at_120 (v := 8) rfl ?_
      refine g_iushr o (pc := 122) at_122 (v := (XT.ushr p2 8)) rfl ?_
      refine g_sipush o (pc := 123) at_123 (v := 255) rfl ?_
      refine g_iand o (pc := 126) at_126 (v := ((XT.ushr p2 8) &&& 255)) rfl ?_
      refine g_bipush o (pc := 127) at_127 (v := 10) rfl ?_
      refine g_irem o (pc := 129) at_129 (by decide) (v := (((XT.ushr p2 8) &&& 255) % 10)) rfl ?_
      exact bl_130 hw hE hwd n0 o h0 X0 p0 p1 p2 p3 p4 p5 g6 g7 g8 g9 g10 g11 ((p2 &&& 255) % 10) b1 (((XT.ushr p2 8) &&& 255) % 10) zc t0 t1 t2 t3 t4 t5 t6 t7 t8 t9 Sc nzc T0 T1 T2 T3 T4 T5 T6 T7 T8 T9 n7 n9 (mod10 p2) (mod10 (XT.ushr p2 8)) nd
    · refine g_iload o (pc := 114) at_114 rfl ?_
      refine g_goto o (pc := 116) at_116 (t := 130) (by decide) rfl ?_
      exact bl_130 hw hE hwd n0 o h0 X0 p0 p1 p2 p3 p4 p5 g6 g7 g8 g9 g10 g11 ((p2 &&& 255) % 10) b1 ((p2 &&& 255) % 10) zc t0 t1 t2 t3 t4 t5 t6 t7 t8 t9 Sc nzc T0 T1 T2 T3 T4 T5 T6 T7 T8 T9 n7 n9 (mod10 p2) (mod10 p2) nd
  refine g_ifC o (pc := 99) at_99 (t := 106) (by decide) rfl c_eq (fun hp => ?_) (fun hp => ?_)
  · refine g_iconst o (pc := 106) at_106 (v := 0) rfl ?_
    exact K2 _ (if_pos hp).symm
  · refine g_iconst o (pc := 102) at_102 (v := 1) rfl ?_
    refine g_goto o (pc := 103) at_103 (t := 107) (by decide) rfl ?_
    exact K2 _ (if_neg hp).symm
set_option maxRecDepth 65536 in
set_option maxHeartbeats 40000000 in
theorem bl_51 {C : Cx} {Z : State} {a0 : Array Value} (hw : ∀ d ∈ tables_1, d.before a0 Z = true) (hE : C.EL = consts_1) (hwd : C.wide = true) (n0 : Nat) (o : Ok C Z a0 code 25 (some .boolean) "law" "com/example/protocols_under_attack/protocolsunderattack/term/VariableEqualsPinLaw" ({ frames := 8, cells := 40, slots := 5248, locals := 192 } : Room)) (h0 : Heap) (X0 : Old Z n0 h0) (p0 : Int32) (p1 : Int32) (p2 : Int32) (p3 : Int32) (p4 : Int32) (p5 : Int32) (g6 : Int32) (g7 : Int32) (g8 : Int32) (g9 : Int32) (zc : Int32) (t0 : Addr) (t1 : Addr) (t2 : Addr) (t3 : Addr) (t4 : Addr) (t5 : Addr) (t6 : Addr) (t7 : Addr) (t8 : Addr) (t9 : Addr) (Sc : Sta Z Z.heap "java/lang/String" "COMPACT_STRINGS" "Z" (.int zc)) (nzc : ¬ zc = 0) (T0 : Sta Z Z.heap "com/example/protocols_under_attack/protocolsunderattack/term/Type" "AGENT" "Lcom/example/protocols_under_attack/protocolsunderattack/term/Type;" (.ref t0)) (T1 : Sta Z Z.heap "com/example/protocols_under_attack/protocolsunderattack/term/Type" "TEXT" "Lcom/example/protocols_under_attack/protocolsunderattack/term/Type;" (.ref t1)) (T2 : Sta Z Z.heap "com/example/protocols_under_attack/protocolsunderattack/term/Type" "NAT" "Lcom/example/protocols_under_attack/protocolsunderattack/term/Type;" (.ref t2)) (T3 : Sta Z Z.heap "com/example/protocols_under_attack/protocolsunderattack/term/Type" "PROTOCOL_ID" "Lcom/example/protocols_under_attack/protocolsunderattack/term/Type;" (.ref t3)) (T4 : Sta Z Z.heap "com/example/protocols_under_attack/protocolsunderattack/term/Type" "SYMMETRIC_KEY" "Lcom/example/protocols_under_attack/protocolsunderattack/term/Type;" (.ref t4)) (T5 : Sta Z Z.heap "com/example/protocols_under_attack/protocolsunderattack/term/Type" "PUBLIC_KEY" "Lcom/example/protocols_under_attack/protocolsunderattack/term/Type;" (.ref t5)) (T6 : Sta Z Z.heap "com/example/protocols_under_attack/protocolsunderattack/term/Type" "HASH_FUNC" "Lcom/example/protocols_under_attack/protocolsunderattack/term/Type;" (.ref t6)) (T7 : Sta Z Z.heap "com/example/protocols_under_attack/protocolsunderattack/term/Type" "CHANNEL" "Lcom/example/protocols_under_attack/protocolsunderattack/term/Type;" (.ref t7)) (T8 : Sta Z Z.heap "com/example/protocols_under_attack/protocolsunderattack/term/Type" "SET" "Lcom/example/protocols_under_attack/protocolsunderattack/term/Type;" (.ref t8)) (T9 : Sta Z Z.heap "com/example/protocols_under_attack/protocolsunderattack/term/Type" "MESSAGE" "Lcom/example/protocols_under_attack/protocolsunderattack/term/Type;" (.ref t9)) (n7 : g7 = 0 ∨ g7 = 1 ∨ g7 = 2) (n9 : g9 = 0 ∨ g9 = 1 ∨ g9 = 2) (nd : [t0, t1, t2, t3, t4, t5, t6, t7, t8, t9].Nodup) :
    Go C Z n0 (fun v _ => v = some (.int 1)) [] h0 0 0 51 #[.val (.int p0), .val (.int p1), .val (.int p2), .val (.int p3), .val (.int p4), .val (.int p5), .val (.int g6), .val (.int g7), .val (.int g8), .unset, .unset, .unset, .unset, .unset, .unset, .unset, .unset, .unset, .unset, .unset, .unset, .unset, .unset, .unset, .unset] [(.int g9)] := by
  refine g_istore o (pc := 51) at_51 (L' := #[.val (.int p0), .val (.int p1), .val (.int p2), .val (.int p3), .val (.int p4), .val (.int p5), .val (.int g6), .val (.int g7), .val (.int g8), .val (.int g9), .unset, .unset, .unset, .unset, .unset, .unset, .unset, .unset, .unset, .unset, .unset, .unset, .unset, .unset, .unset]) rfl ?_
  refine g_iload o (pc := 53) at_53 rfl ?_
  refine g_bipush o (pc := 55) at_55 (v := 7) rfl ?_
  refine g_iushr o (pc := 57) at_57 (v := (XT.ushr p5 7)) rfl ?_
  refine g_iconst o (pc := 58) at_58 (v := 1) rfl ?_
  refine g_iand o (pc := 59) at_59 (v := ((XT.ushr p5 7) &&& 1)) rfl ?_
  have K2 : ∀ b1 : Int32, b1 = (if ((XT.ushr p5 7) &&& 1) = 0 then (0 : Int32) else 1) → Go C Z n0 (fun v _ => v = some (.int 1)) [] h0 0 0 68 #[.val (.int p0), .val (.int p1), .val (.int p2), .val (.int p3), .val (.int p4), .val (.int p5), .val (.int g6), .val (.int g7), .val (.int g8), .val (.int g9), .unset, .unset, .unset, .unset, .unset, .unset, .unset, .unset, .unset, .unset, .unset, .unset, .unset, .unset, .unset] [(.int b1)] := fun b1 hb3 => by
    have fz4 : nar .boolean b1 = b1 := by rw [hb3]; split <;> rfl
    refine g_istore o (pc := 68) at_68 (L' := #[.val (.int p0), .val (.int p1), .val (.int p2), .val (.int p3), .val (.int p4), .val (.int p5), .val (.int g6), .val (.int g7), .val (.int g8), .val (.int g9), .val (.int b1), .unset, .unset, .unset, .unset, .unset, .unset, .unset, .unset, .unset, .unset, .unset, .unset, .unset, .unset]) rfl ?_
    refine g_iload o (pc := 70) at_70 rfl ?_
    refine g_ifC o (pc := 72) at_72 (t := 79) (by decide) rfl c_eq (fun hy5 => ?_) (fun hn6 => ?_)
    · refine g_iload_n o (pc := 79) at_79 rfl ?_
      exact bl_80 hw hE hwd n0 o h0 X0 p0 p1 p2 p3 p4 p5 g6 g7 g8 g9 b1 p1 zc t0 t1 t2 t3 t4 t5 t6 t7 t8 t9 Sc nzc T0 T1 T2 T3 T4 T5 T6 T7 T8 T9 n7 n9 nd
    · refine g_iload_n o (pc := 75) at_75 rfl ?_
      refine g_goto o (pc := 76) at_76 (t := 80) (by decide) rfl ?_
      exact bl_80 hw hE hwd n0 o h0 X0 p0 p1 p2 p3 p4 p5 g6 g7 g8 g9 b1 p0 zc t0 t1 t2 t3 t4 t5 t6 t7 t8 t9 Sc nzc T0 T1 T2 T3 T4 T5 T6 T7 T8 T9 n7 n9 nd
  refine g_ifC o (pc := 60) at_60 (t := 67) (by decide) rfl c_eq (fun hp => ?_) (fun hp => ?_)
  · refine g_iconst o (pc := 67) at_67 (v := 0) rfl ?_
    exact K2 _ (if_pos hp).symm
  · refine g_iconst o (pc := 63) at_63 (v := 1) rfl ?_
    refine g_goto o (pc := 64) at_64 (t := 68) (by decide) rfl ?_
    exact K2 _ (if_neg hp).symm
set_option maxRecDepth 65536 in
set_option maxHeartbeats 40000000 in
theorem rm_law (l : Launch) (Z : State) (a0 : Array Value) (hw : ∀ d ∈ tables_1, d.before a0 Z = true) (ws : List Jvm.Cond) (n0 : Nat) (h0 : Heap) (X0 : Old Z n0 h0) (p0 : Int32) (p1 : Int32) (p2 : Int32) (p3 : Int32) (p4 : Int32) (p5 : Int32) (zc : Int32) (t0 : Addr) (t1 : Addr) (t2 : Addr) (t3 : Addr) (t4 : Addr) (t5 : Addr) (t6 : Addr) (t7 : Addr) (t8 : Addr) (t9 : Addr) (Sc : Sta Z Z.heap "java/lang/String" "COMPACT_STRINGS" "Z" (.int zc)) (nzc : ¬ zc = 0) (T0 : Sta Z Z.heap "com/example/protocols_under_attack/protocolsunderattack/term/Type" "AGENT" "Lcom/example/protocols_under_attack/protocolsunderattack/term/Type;" (.ref t0)) (T1 : Sta Z Z.heap "com/example/protocols_under_attack/protocolsunderattack/term/Type" "TEXT" "Lcom/example/protocols_under_attack/protocolsunderattack/term/Type;" (.ref t1)) (T2 : Sta Z Z.heap "com/example/protocols_under_attack/protocolsunderattack/term/Type" "NAT" "Lcom/example/protocols_under_attack/protocolsunderattack/term/Type;" (.ref t2)) (T3 : Sta Z Z.heap "com/example/protocols_under_attack/protocolsunderattack/term/Type" "PROTOCOL_ID" "Lcom/example/protocols_under_attack/protocolsunderattack/term/Type;" (.ref t3)) (T4 : Sta Z Z.heap "com/example/protocols_under_attack/protocolsunderattack/term/Type" "SYMMETRIC_KEY" "Lcom/example/protocols_under_attack/protocolsunderattack/term/Type;" (.ref t4)) (T5 : Sta Z Z.heap "com/example/protocols_under_attack/protocolsunderattack/term/Type" "PUBLIC_KEY" "Lcom/example/protocols_under_attack/protocolsunderattack/term/Type;" (.ref t5)) (T6 : Sta Z Z.heap "com/example/protocols_under_attack/protocolsunderattack/term/Type" "HASH_FUNC" "Lcom/example/protocols_under_attack/protocolsunderattack/term/Type;" (.ref t6)) (T7 : Sta Z Z.heap "com/example/protocols_under_attack/protocolsunderattack/term/Type" "CHANNEL" "Lcom/example/protocols_under_attack/protocolsunderattack/term/Type;" (.ref t7)) (T8 : Sta Z Z.heap "com/example/protocols_under_attack/protocolsunderattack/term/Type" "SET" "Lcom/example/protocols_under_attack/protocolsunderattack/term/Type;" (.ref t8)) (T9 : Sta Z Z.heap "com/example/protocols_under_attack/protocolsunderattack/term/Type" "MESSAGE" "Lcom/example/protocols_under_attack/protocolsunderattack/term/Type;" (.ref t9)) (nd : [t0, t1, t2, t3, t4, t5, t6, t7, t8, t9].Nodup) (hCH : CHv Z consts_1 Z.vm h0) :
    MetFree l x (head1 (Jvm.Cond.code x code maxLocals ret :: ws) room_1) (fun a U => a = #[(.int p0), (.int p1), (.int p2), (.int p3), (.int p4), (.int p5)] ∧ Z.Warmed39 U.vm ∧ U.vm = Z.vm ∧ U.heap = h0) (fun _ _ _ _ _ => True) (fun _ U o U' => ∃ v L, o = .returned v ∧ (v = some (.int 1) ∧ Fr n0 L) ∧ (true = true → ReturnedEndW U o U' L room_1.cells room_1.slots) ∧ (true = false → FrameEnd U o U' L room_1.cells room_1.slots)) := by
  refine law_of (Q := fun v _ => v = some (.int 1)) pn_1 hw (L := #[.val (.int p0), .val (.int p1), .val (.int p2), .val (.int p3), .val (.int p4), .val (.int p5), .unset, .unset, .unset, .unset, .unset, .unset, .unset, .unset, .unset, .unset, .unset, .unset, .unset, .unset, .unset, .unset, .unset, .unset, .unset]) (fun m => by first | (simp [entryFrame, mkF, argsToLocals, Value.category, maxLocals]; done) | rfl) true consts_1 (ew_ hw) hCH fun C hl hwd hE o => ?_
  subst hl
  have o : Ok C Z a0 code 25 (some .boolean) "law" "com/example/protocols_under_attack/protocolsunderattack/term/VariableEqualsPinLaw" ({ frames := 8, cells := 40, slots := 5248, locals := 192 } : Room) := o
  refine g_iload o (pc := 0) at_0 rfl ?_
  refine g_iconst o (pc := 2) at_2 (v := 3) rfl ?_
  refine g_iand o (pc := 3) at_3 (v := (p5 &&& 3)) rfl ?_
  refine g_istore o (pc := 4) at_4 (L' := #[.val (.int p0), .val (.int p1), .val (.int p2), .val (.int p3), .val (.int p4), .val (.int p5), .val (.int (p5 &&& 3)), .unset, .unset, .unset, .unset, .unset, .unset, .unset, .unset, .unset, .unset, .unset, .unset, .unset, .unset, .unset, .unset, .unset, .unset]) rfl ?_
  refine g_iload o (pc := 6) at_6 rfl ?_
  refine g_iconst o (pc := 8) at_8 (v := 2) rfl ?_
  refine g_iushr o (pc := 9) at_9 (v := (XT.ushr p5 2)) rfl ?_
  refine g_iconst o (pc := 10) at_10 (v := 3) rfl ?_
  refine g_iand o (pc := 11) at_11 (v := ((XT.ushr p5 2) &&& 3)) rfl ?_
  refine g_iconst o (pc := 12) at_12 (v := 3) rfl ?_
  refine g_irem o (pc := 13) at_13 (by decide) (v := (((XT.ushr p5 2) &&& 3) % 3)) rfl ?_
  refine g_istore o (pc := 14) at_14 (L' := #[.val (.int p0), .val (.int p1), .val (.int p2), .val (.int p3), .val (.int p4), .val (.int p5), .val (.int (p5 &&& 3)), .val (.int (((XT.ushr p5 2) &&& 3) % 3)), .unset, .unset, .unset, .unset, .unset, .unset, .unset, .unset, .unset, .unset, .unset, .unset, .unset, .unset, .unset, .unset, .unset]) rfl ?_
  refine g_iload o (pc := 16) at_16 rfl ?_
  refine g_bipush o (pc := 18) at_18 (v := 6) rfl ?_
  refine g_iushr o (pc := 20) at_20 (v := (XT.ushr p5 6)) rfl ?_
  refine g_iconst o (pc := 21) at_21 (v := 1) rfl ?_
  refine g_iand o (pc := 22) at_22 (v := ((XT.ushr p5 6) &&& 1)) rfl ?_
  have K2 : ∀ b1 : Int32, b1 = (if ((XT.ushr p5 6) &&& 1) = 0 then (0 : Int32) else 1) → Go C Z n0 (fun v _ => v = some (.int 1)) [] h0 0 0 31 #[.val (.int p0), .val (.int p1), .val (.int p2), .val (.int p3), .val (.int p4), .val (.int p5), .val (.int (p5 &&& 3)), .val (.int (((XT.ushr p5 2) &&& 3) % 3)), .unset, .unset, .unset, .unset, .unset, .unset, .unset, .unset, .unset, .unset, .unset, .unset, .unset, .unset, .unset, .unset, .unset] [(.int b1)] := fun b1 hb3 => by
    have fz4 : nar .boolean b1 = b1 := by rw [hb3]; split <;> rfl
    refine g_istore o (pc := 31) at_31 (L' := #[.val (.int p0), .val (.int p1), .val (.int p2), .val (.int p3), .val (.int p4), .val (.int p5), .val (.int (p5 &&& 3)), .val (.int (((XT.ushr p5 2) &&& 3) % 3)), .val (.int b1), .unset, .unset, .unset, .unset, .unset, .unset, .unset, .unset, .unset, .unset, .unset, .unset, .unset, .unset, .unset, .unset]) rfl ?_
    refine g_iload o (pc := 33) at_33 rfl ?_
    refine g_ifC o (pc := 35) at_35 (t := 43) (by decide) rfl c_eq (fun hy5 => ?_) (fun hn6 => ?_)
    · refine g_iload o (pc := 43) at_43 rfl ?_
      refine g_iconst o (pc := 45) at_45 (v := 4) rfl ?_
      refine g_iushr o (pc := 46) at_46 (v := (XT.ushr p5 4)) rfl ?_
      refine g_iconst o (pc := 47) at_47 (v := 3) rfl ?_
      refine g_iand o (pc := 48) at_48 (v := ((XT.ushr p5 4) &&& 3)) rfl ?_
      refine g_iconst o (pc := 49) at_49 (v := 3) rfl ?_
      refine g_irem o (pc := 50) at_50 (by decide) (v := (((XT.ushr p5 4) &&& 3) % 3)) rfl ?_
      exact bl_51 hw hE hwd n0 o h0 X0 p0 p1 p2 p3 p4 p5 (p5 &&& 3) (((XT.ushr p5 2) &&& 3) % 3) b1 (((XT.ushr p5 4) &&& 3) % 3) zc t0 t1 t2 t3 t4 t5 t6 t7 t8 t9 Sc nzc T0 T1 T2 T3 T4 T5 T6 T7 T8 T9 (rem3 (XT.ushr p5 2)) (rem3 (XT.ushr p5 4)) nd
    · refine g_iload o (pc := 38) at_38 rfl ?_
      refine g_goto o (pc := 40) at_40 (t := 51) (by decide) rfl ?_
      exact bl_51 hw hE hwd n0 o h0 X0 p0 p1 p2 p3 p4 p5 (p5 &&& 3) (((XT.ushr p5 2) &&& 3) % 3) b1 (((XT.ushr p5 2) &&& 3) % 3) zc t0 t1 t2 t3 t4 t5 t6 t7 t8 t9 Sc nzc T0 T1 T2 T3 T4 T5 T6 T7 T8 T9 (rem3 (XT.ushr p5 2)) (rem3 (XT.ushr p5 2)) nd
  refine g_ifC o (pc := 23) at_23 (t := 30) (by decide) rfl c_eq (fun hp => ?_) (fun hp => ?_)
  · refine g_iconst o (pc := 30) at_30 (v := 0) rfl ?_
    exact K2 _ (if_pos hp).symm
  · refine g_iconst o (pc := 26) at_26 (v := 1) rfl ?_
    refine g_goto o (pc := 27) at_27 (t := 31) (by decide) rfl ?_
    exact K2 _ (if_neg hp).symm
theorem exa_of {args : Array Value} {s : State} {t : Term} {Cn : String} (hx : (Jvm.Cond.exactly t Cn).value args s none s [] = some true) : ∃ a, t.eval args s none [] s = some (.ref a) ∧ Exa s s.heap a Cn := by
  obtain ⟨a', c', cell, k, e1, -⟩ := Cond.exactly_spec (Cond.before_iff.mpr hx)
  exact ⟨a', e1, Exa.start e1 hx⟩
theorem fld_of {args : Array Value} {s : State} {t : Term} {a : Addr} {Cn f d : String} {k : Int32} (e1 : t.eval args s none [] s = some (.ref a)) (e2 : (Jvm.Cond.eq (Jvm.Term.field t Cn f d) (Jvm.Term.int k)).value args s none s [] = some true) : Fld s s.heap a Cn f d (.int k) := by
  cases hf : s.fieldOf? a Cn f d with
  | none => simp [Cond.value, Term.eval, e1, hf] at e2
  | some v =>
    cases v <;> simp [Cond.value, Term.eval, e1, hf] at e2
    subst e2
    exact Fld.start hf
set_option maxRecDepth 65536 in
set_option maxHeartbeats 40000000 in
theorem comes_1 {Post : Tables → Env → Array Value → State → Outcome → State → Prop} (hpost : ∀ tb e args s v u, (limb_1_1.after args s (.returned v) u = true ∧ limb_1_2.after args s (.returned v) u = true ∧ True) → ReturnedEndW s (.returned v) u (Jvm.fieldLocs frame_1_writes args s ++ Jvm.arrayLocs frame_1_arrays args s ++ Jvm.staticLocs frame_1_statics s) 40 5248 → Post tb e args s (.returned v) u) :
    ArmFor flags0 classFile x code maxLocals ret World_1 tables_1 room_1 Calls_1 rest_1 Pre_1 Post := by
  intro l hfl _ _ p e ha hc hk s m args below hf hA hF happ hP
  obtain ⟨hcalls, hrest, hpre⟩ := hP
  obtain ⟨-, -, -, hnamed, -, -, -, hat⟩ := (Spec.applies_iff hf).mp happ
  obtain ⟨hg, hn⟩ := and_e (Cond.before_iff.mp (show (Jvm.Cond.and given_1 narrow_1).before args s = true from hpre))
  obtain ⟨h1, g0⟩ := and_e hg
  obtain ⟨f0, g1⟩ := and_e g0
  obtain ⟨f1, g2⟩ := and_e g1
  obtain ⟨f2, g3⟩ := and_e g2
  obtain ⟨f3, g4⟩ := and_e g3
  obtain ⟨f4, g5⟩ := and_e g4
  have f5 := g5
  obtain ⟨w0, w1, w2, w3, w4, w5, rfl⟩ : ∃ w0 w1 w2 w3 w4 w5 : Value, args = #[w0, w1, w2, w3, w4, w5] := by
    have hs : args.size = 6 := by simpa [Cond.value, given_1] using h1
    obtain ⟨L⟩ := args
    match L, hs with
    | [w0, w1, w2, w3, w4, w5], _ => exact ⟨w0, w1, w2, w3, w4, w5, rfl⟩
  have hw := fun d (hd : d ∈ tables_1) => atoms_spec (ws := Jvm.Cond.code x code maxLocals ret :: tables_1) hat d (List.mem_cons_of_mem _ hd)
  obtain ⟨hsets, hown0⟩ := atoms_of _ (rest_1_c_eq ▸ (show rest_1_c.before _ s = true from hrest))
  have hfit : Fit s := fun {y c} hc i hi => by
    obtain ⟨ha, rfl⟩ := Array.getElem?_eq_some_iff.mp hc
    have q := List.all_eq_true.mp ((Array.all_eq_true_iff_forall_mem.mp hF) _ (Array.getElem_mem ha)) i (List.mem_range.mpr hi)
    simpa [Array.getElem?_eq_getElem hi] using q
  obtain ⟨i0, e0⟩ := is_v f0
  obtain rfl : w0 = (.int i0) := Option.some.inj e0
  obtain ⟨i1, e1⟩ := is_v f1
  obtain rfl : w1 = (.int i1) := Option.some.inj e1
  obtain ⟨i2, e2⟩ := is_v f2
  obtain rfl : w2 = (.int i2) := Option.some.inj e2
  obtain ⟨i3, e3⟩ := is_v f3
  obtain rfl : w3 = (.int i3) := Option.some.inj e3
  obtain ⟨i4, e4⟩ := is_v f4
  obtain rfl : w4 = (.int i4) := Option.some.inj e4
  obtain ⟨i5, e5⟩ := is_v f5
  obtain rfl : w5 = (.int i5) := Option.some.inj e5
  have n5 := not_v (Cond.before_iff.mp (hsets _ (List.mem_of_getElem? (i := 2) rfl)))
  obtain ⟨zc, ezc⟩ := is_v (Cond.before_iff.mp (hsets _ (List.mem_of_getElem? (i := 1) rfl)))
  have Sc : Sta s s.heap "java/lang/String" "COMPACT_STRINGS" "Z" (.int zc) := Sta.start ezc (Or.inl (hsets _ (List.mem_of_getElem? (i := 0) rfl)))
  have nzc : ¬ (zc = (0 : Int32)) := gotF (Cond.eq_ints ezc (Term.int_eval (0))) n5
  have hCH : CHv s consts_1 s.vm s.heap := CHv.start (ew_ hw) (fun p hp => hcalls.1 p hp) (hsets _ (List.mem_of_getElem? (i := 2) rfl)) (wd_22 hw) (wd_8 hw)
  have k0 := hn
  obtain ⟨m0, k1⟩ := and_e k0
  obtain ⟨a2, u2, x2⟩ := exa_of m0
  have T2 : Sta s s.heap "com/example/protocols_under_attack/protocolsunderattack/term/Type" "NAT" "Lcom/example/protocols_under_attack/protocolsunderattack/term/Type;" (.ref a2) := Sta.start u2 (Or.inr ⟨(wd_33 hw), (wd_34 hw)⟩)
  obtain ⟨m1, k2⟩ := and_e k1
  obtain ⟨a0, u0, x0⟩ := exa_of m1
  have T0 : Sta s s.heap "com/example/protocols_under_attack/protocolsunderattack/term/Type" "AGENT" "Lcom/example/protocols_under_attack/protocolsunderattack/term/Type;" (.ref a0) := Sta.start u0 (Or.inr ⟨(wd_33 hw), (wd_57 hw)⟩)
  obtain ⟨m2, k3⟩ := and_e k2
  obtain ⟨a5, u5, x5⟩ := exa_of m2
  have T5 : Sta s s.heap "com/example/protocols_under_attack/protocolsunderattack/term/Type" "PUBLIC_KEY" "Lcom/example/protocols_under_attack/protocolsunderattack/term/Type;" (.ref a5) := Sta.start u5 (Or.inr ⟨(wd_33 hw), (wd_64 hw)⟩)
  obtain ⟨m3, k4⟩ := and_e k3
  obtain ⟨a1, u1, x1⟩ := exa_of m3
  have T1 : Sta s s.heap "com/example/protocols_under_attack/protocolsunderattack/term/Type" "TEXT" "Lcom/example/protocols_under_attack/protocolsunderattack/term/Type;" (.ref a1) := Sta.start u1 (Or.inr ⟨(wd_33 hw), (wd_86 hw)⟩)
  obtain ⟨m4, k5⟩ := and_e k4
  obtain ⟨m5, k6⟩ := and_e k5
  obtain ⟨m6, k7⟩ := and_e k6
  obtain ⟨a3, u3, x3⟩ := exa_of m6
  have T3 : Sta s s.heap "com/example/protocols_under_attack/protocolsunderattack/term/Type" "PROTOCOL_ID" "Lcom/example/protocols_under_attack/protocolsunderattack/term/Type;" (.ref a3) := Sta.start u3 (Or.inr ⟨(wd_33 hw), (wd_89 hw)⟩)
  obtain ⟨m7, k8⟩ := and_e k7
  obtain ⟨a8, u8, x8⟩ := exa_of m7
  have T8 : Sta s s.heap "com/example/protocols_under_attack/protocolsunderattack/term/Type" "SET" "Lcom/example/protocols_under_attack/protocolsunderattack/term/Type;" (.ref a8) := Sta.start u8 (Or.inr ⟨(wd_33 hw), (wd_91 hw)⟩)
  obtain ⟨m8, k9⟩ := and_e k8
  obtain ⟨a9, u9, x9⟩ := exa_of m8
  have T9 : Sta s s.heap "com/example/protocols_under_attack/protocolsunderattack/term/Type" "MESSAGE" "Lcom/example/protocols_under_attack/protocolsunderattack/term/Type;" (.ref a9) := Sta.start u9 (Or.inr ⟨(wd_33 hw), (wd_114 hw)⟩)
  obtain ⟨m9, k10⟩ := and_e k9
  obtain ⟨m10, k11⟩ := and_e k10
  obtain ⟨a7, u7, x7⟩ := exa_of m10
  have T7 : Sta s s.heap "com/example/protocols_under_attack/protocolsunderattack/term/Type" "CHANNEL" "Lcom/example/protocols_under_attack/protocolsunderattack/term/Type;" (.ref a7) := Sta.start u7 (Or.inr ⟨(wd_33 hw), (wd_116 hw)⟩)
  obtain ⟨m11, k12⟩ := and_e k11
  obtain ⟨m12, k13⟩ := and_e k12
  obtain ⟨a6, u6, x6⟩ := exa_of m12
  have T6 : Sta s s.heap "com/example/protocols_under_attack/protocolsunderattack/term/Type" "HASH_FUNC" "Lcom/example/protocols_under_attack/protocolsunderattack/term/Type;" (.ref a6) := Sta.start u6 (Or.inr ⟨(wd_33 hw), (wd_118 hw)⟩)
  obtain ⟨m13, k14⟩ := and_e k13
  obtain ⟨m14, k15⟩ := and_e k14
  obtain ⟨a4, u4, x4⟩ := exa_of m14
  have T4 : Sta s s.heap "com/example/protocols_under_attack/protocolsunderattack/term/Type" "SYMMETRIC_KEY" "Lcom/example/protocols_under_attack/protocolsunderattack/term/Type;" (.ref a4) := Sta.start u4 (Or.inr ⟨(wd_33 hw), (wd_120 hw)⟩)
  obtain ⟨m15, k16⟩ := and_e k15
  obtain ⟨m16, k17⟩ := and_e k16
  obtain ⟨m17, k18⟩ := and_e k17
  obtain ⟨m18, k19⟩ := and_e k18
  have m19 := k19
  have o0 := fld_of u0 m5
  have o1 := fld_of u1 m4
  have o2 := fld_of u2 m13
  have o3 := fld_of u3 m11
  have o4 := fld_of u4 m16
  have o5 := fld_of u5 m15
  have o6 := fld_of u6 m17
  have o7 := fld_of u7 m19
  have o8 := fld_of u8 m9
  have o9 := fld_of u9 m18
  have nd : [a0, a1, a2, a3, a4, a5, a6, a7, a8, a9].Nodup := by
    simp only [List.nodup_cons, List.mem_cons, List.not_mem_nil, or_false, not_or, not_false_eq_true, List.nodup_nil, and_true]
    exact ⟨⟨o0.ne o1 (by decide), o0.ne o2 (by decide), o0.ne o3 (by decide), o0.ne o4 (by decide), o0.ne o5 (by decide), o0.ne o6 (by decide), o0.ne o7 (by decide), o0.ne o8 (by decide), o0.ne o9 (by decide)⟩, ⟨o1.ne o2 (by decide), o1.ne o3 (by decide), o1.ne o4 (by decide), o1.ne o5 (by decide), o1.ne o6 (by decide), o1.ne o7 (by decide), o1.ne o8 (by decide), o1.ne o9 (by decide)⟩, ⟨o2.ne o3 (by decide), o2.ne o4 (by decide), o2.ne o5 (by decide), o2.ne o6 (by decide), o2.ne o7 (by decide), o2.ne o8 (by decide), o2.ne o9 (by decide)⟩, ⟨o3.ne o4 (by decide), o3.ne o5 (by decide), o3.ne o6 (by decide), o3.ne o7 (by decide), o3.ne o8 (by decide), o3.ne o9 (by decide)⟩, ⟨o4.ne o5 (by decide), o4.ne o6 (by decide), o4.ne o7 (by decide), o4.ne o8 (by decide), o4.ne o9 (by decide)⟩, ⟨o5.ne o6 (by decide), o5.ne o7 (by decide), o5.ne o8 (by decide), o5.ne o9 (by decide)⟩, ⟨o6.ne o7 (by decide), o6.ne o8 (by decide), o6.ne o9 (by decide)⟩, ⟨o7.ne o8 (by decide), o7.ne o9 (by decide)⟩, o8.ne o9 (by decide)⟩
  obtain ⟨n, o, h1, h2, h3, _, L, rfl, ⟨rfl, N⟩, hqw, hqn⟩ := rm_law l s _ hw tables_1 s.heap.size s.heap (Old.start s) i0 i1 i2 i3 i4 i5 zc a0 a1 a2 a3 a4 a5 a6 a7 a8 a9 Sc nzc T0 T1 T2 T3 T4 T5 T6 T7 T8 T9 nd hCH p e ha hc hk s m _ below hf ((Spec.applies_iff_loose hf).mp happ).1 ⟨rfl, State.Warmed39.refl s, rfl, rfl⟩ trivial
  have hq := hqw rfl
  refine ⟨n, _, h1, h2, h3, hpost _ _ _ _ _ _ ⟨Cond.after_iff.mpr rfl, Cond.after_iff.mpr (eq_i res_at (Term.int_eval (1)) rfl), trivial⟩ ⟨hq.1, hq.2.1, hq.2.2.1, (hq.2.2.2.sift fun y hy => Or.inr (N y hy)).mono (by decide) (by decide)⟩⟩
theorem main_1_1 : Claimed_1_1 := comes_1 fun _ _ _ _ _ _ h hF => ⟨h.1, hF⟩
theorem main_1_2 : Claimed_1_2 := comes_1 fun _ _ _ _ _ _ h hF => ⟨h.2.1, hF⟩
end Jvm.Pilot.@@N@@
namespace Jvm.Pilot.@@N@@
open Jvm Jvm.ClassFile Sem Op Lib Jvm.Free Jvm.Stand Jvm.Pilot.@@N@@.Jvm.D
/-! MADE BY PROGRAM (witnessworld.py) out of the Statement's table words and the real class files: 26 classes; the members and pool entries that the words name. The judged class is class 1, her method 3. -/
namespace start1
open Jvm.ClassFile
def u (s : String) : CpInfo := .utf8 (stringToUtf16 s)
/-- a pool by its gaps: so many unusable entries, then the entry; so many at the end -/
def gap : Nat → List CpInfo → List CpInfo
  | 0, r => r
  | n + 1, r => .unusable :: gap n r
def poolList (es : List (Nat × CpInfo)) (last : Nat) : List CpInfo := es.foldr (fun e r => gap e.1 (e.2 :: r)) (gap last [])
def pool (es : List (Nat × CpInfo)) (last : Nat) : Array CpInfo := ⟨poolList es last⟩
def fileOf (pool : Array CpInfo) (this : Nat) (attrs : Array Attribute := #[]) (ms : Array MethodInfo := #[]) (fl : Nat := 33) (sup : Nat := 0) (ifs : Array Nat := #[]) (fds : Array FieldInfo := #[]) : ClassFile where
  minorVersion := 0
  majorVersion := 65
  constantPool := pool
  accessFlags := fl
  thisClass := this
  superClass := sup
  interfaces := ifs
  fields := fds
  methods := ms
  attributes := attrs
def plain (name : String) (sup : Option ClassId) : Class where
  name := name
  kind := .ordinary
  loader := none
  accessFlags := 33
  super := sup
  interfaces := #[]
  cf := none
  fields := #[]
  methods := #[]
  instanceTypes := #[]
  staticTypes := #[]
  resolved := #[]
  callSites := []
  init := .initialized
  statics := none
  mirror := none

def pool0 : Array CpInfo := pool [(5, u "<init>"), (0, u "()V"), (1, .class_ 10), (1, u "java/lang/Object")] 113

def k0c0 : Code := { maxStack := 0, maxLocals := 1, code := object_method_1_code, exceptionTable := #[], attributes := #[] }
def k0m0 : Method := { name := "<init>", desc := "()V", sig := { parameters := [], returnType := none }, accessFlags := 1, code := some k0c0 }
/-- java/lang/Object -/
def k0 : Class := { plain "java/lang/Object" none with
  accessFlags := 33
  interfaces := #[]
  cf := some (fileOf pool0 8 #[] #[{ accessFlags := 1, nameIndex := 5, descriptorIndex := 6, attributes := #[] }] 33 0 #[] #[])
  fields := #[]
  methods := #[k0m0]
  instanceTypes := #[]
  staticTypes := #[]
  resolved := Array.replicate 124 none
  statics := none }

def pool1 : Array CpInfo := pool [(2, .class_ 4), (1, u "java/lang/Object"), (0, u "<init>"), (0, u "()V"), (0, .fieldref 8 9), (0, .class_ 10), (0, .nameAndType 11 12), (0, u "com/example/protocols_under_attack/protocolsunderattack/term/Type"), (0, u "AGENT"), (0, u "Lcom/example/protocols_under_attack/protocolsunderattack/term/Type;"), (0, .fieldref 8 14), (0, .nameAndType 15 12), (0, u "TEXT"), (0, .fieldref 8 17), (0, .nameAndType 18 12), (0, u "NAT"), (0, .fieldref 8 20), (0, .nameAndType 21 12), (0, u "PROTOCOL_ID"), (0, .fieldref 8 23), (0, .nameAndType 24 12), (0, u "SYMMETRIC_KEY"), (0, .fieldref 8 26), (0, .nameAndType 27 12), (0, u "PUBLIC_KEY"), (0, .fieldref 8 29), (0, .nameAndType 30 12), (0, u "HASH_FUNC"), (0, .fieldref 8 32), (0, .nameAndType 33 12), (0, u "CHANNEL"), (0, .fieldref 8 35), (0, .nameAndType 36 12), (0, u "SET"), (0, .fieldref 8 38), (0, .nameAndType 39 12), (0, u "MESSAGE"), (0, .class_ 41), (0, u "java/lang/String"), (0, .methodref 40 43), (0, .nameAndType 5 44), (0, u "([C)V"), (0, .class_ 46), (0, u "com/example/protocols_under_attack/protocolsunderattack/term/Variable"), (0, .methodref 48 49), (0, .class_ 50), (0, .nameAndType 51 52), (0, u "com/example/protocols_under_attack/protocolsunderattack/term/VariableEqualsPinLaw"), (0, u "str"), (0, u "(ICC)Ljava/lang/String;"), (0, .methodref 48 54), (0, .nameAndType 55 56), (0, u "type"), (0, u "(I)Lcom/example/protocols_under_attack/protocolsunderattack/term/Type;"), (0, .methodref 45 58), (0, .nameAndType 5 59), (0, u "(Ljava/lang/String;Lcom/example/protocols_under_attack/protocolsunderattack/term/Type;I)V"), (0, .class_ 61), (0, u "com/example/protocols_under_attack/protocolsunderattack/term/Atom"), (0, .methodref 60 58), (0, .methodref 45 64), (0, .nameAndType 65 66), (0, u "equals"), (0, u "(Ljava/lang/Object;)Z"), (3, u "law"), (0, u "(IIIIII)Z")] 2

def k1m0 : Method := { name := "<init>", desc := "()V", sig := { parameters := [], returnType := none }, accessFlags := 1, code := none }
def k1c1 : Code := { maxStack := 2, maxLocals := 1, code := method_2_code, exceptionTable := #[], attributes := #[] }
def k1m1 : Method := { name := "type", desc := "(I)Lcom/example/protocols_under_attack/protocolsunderattack/term/Type;", sig := { parameters := [.int], returnType := some (.object "com/example/protocols_under_attack/protocolsunderattack/term/Type") }, accessFlags := 10, code := some k1c1 }
def k1c2 : Code := { maxStack := 6, maxLocals := 3, code := method_3_code, exceptionTable := #[], attributes := #[] }
def k1m2 : Method := { name := "str", desc := "(ICC)Ljava/lang/String;", sig := { parameters := [.int, .char, .char], returnType := some (.object "java/lang/String") }, accessFlags := 10, code := some k1c2 }
def k1c3 : Code := { maxStack := 6, maxLocals := 25, code := code, exceptionTable := #[], attributes := #[] }
def k1m3 : Method := { name := "law", desc := "(IIIIII)Z", sig := { parameters := [.int, .int, .int, .int, .int, .int], returnType := some .boolean }, accessFlags := 9, code := some k1c3 }
/-- com/example/protocols_under_attack/protocolsunderattack/term/VariableEqualsPinLaw -/
def k1 : Class := { plain "com/example/protocols_under_attack/protocolsunderattack/term/VariableEqualsPinLaw" (some 0) with
  accessFlags := 49
  interfaces := #[]
  cf := some (fileOf pool1 48 #[] #[{ accessFlags := 1, nameIndex := 5, descriptorIndex := 6, attributes := #[] }, { accessFlags := 10, nameIndex := 55, descriptorIndex := 56, attributes := #[] }, { accessFlags := 10, nameIndex := 51, descriptorIndex := 52, attributes := #[] }, { accessFlags := 9, nameIndex := 70, descriptorIndex := 71, attributes := #[] }] 49 2 #[] #[])
  fields := #[]
  methods := #[k1m0, k1m1, k1m2, k1m3]
  instanceTypes := #[]
  staticTypes := #[]
  resolved := Array.replicate 74 none
  statics := none }

def pool2 : Array CpInfo := pool [(1, .methodref 2 3), (0, .class_ 4), (0, .nameAndType 5 6), (0, u "java/lang/Object"), (0, u "<init>"), (0, u "()V"), (0, .class_ 8), (0, u "java/lang/Record")] 13

def k2c0 : Code := { maxStack := 1, maxLocals := 1, code := jdk_30_method_1_code, exceptionTable := #[], attributes := #[] }
def k2m0 : Method := { name := "<init>", desc := "()V", sig := { parameters := [], returnType := none }, accessFlags := 4, code := some k2c0 }
/-- java/lang/Record -/
def k2 : Class := { plain "java/lang/Record" (some 0) with
  accessFlags := 1057
  interfaces := #[]
  cf := some (fileOf pool2 7 #[] #[{ accessFlags := 4, nameIndex := 5, descriptorIndex := 6, attributes := #[] }] 1057 2 #[] #[])
  fields := #[]
  methods := #[k2m0]
  instanceTypes := #[]
  staticTypes := #[]
  resolved := Array.replicate 22 none
  statics := none }

def pool3 : Array CpInfo := pool [(2, .class_ 4), (1, u "com/example/protocols_under_attack/protocolsunderattack/term/Term"), (46, .class_ 52), (0, u "java/lang/Object")] 29

/-- com/example/protocols_under_attack/protocolsunderattack/term/Term -/
def k3 : Class := { plain "com/example/protocols_under_attack/protocolsunderattack/term/Term" (some 0) with
  accessFlags := 1537
  interfaces := #[]
  cf := some (fileOf pool3 2 #[] #[] 1537 51 #[] #[])
  fields := #[]
  methods := #[]
  instanceTypes := #[]
  staticTypes := #[]
  resolved := Array.replicate 82 none
  statics := none }

def pool4 : Array CpInfo := pool [(1, .methodref 2 3), (0, .class_ 4), (0, .nameAndType 5 6), (0, u "java/lang/Record"), (0, u "<init>"), (0, u "()V"), (0, .string 8), (0, u "name"), (0, .methodref 10 11), (0, .class_ 12), (0, .nameAndType 13 14), (0, u "java/util/Objects"), (0, u "requireNonNull"), (0, u "(Ljava/lang/Object;Ljava/lang/String;)Ljava/lang/Object;"), (0, .string 16), (0, u "type"), (0, .fieldref 18 19), (0, .class_ 20), (0, .nameAndType 8 21), (0, u "com/example/protocols_under_attack/protocolsunderattack/term/Variable"), (0, u "Ljava/lang/String;"), (0, .fieldref 18 23), (0, .nameAndType 16 24), (0, u "Lcom/example/protocols_under_attack/protocolsunderattack/term/Type;"), (0, .fieldref 18 26), (0, .nameAndType 27 28), (0, u "number"), (0, u "I"), (2, u "PRIMED"), (0, u "Ljava/util/Map;"), (10, .methodref 44 45), (0, .class_ 46), (0, .nameAndType 47 48), (0, u "java/lang/String"), (0, u "equals"), (0, u "(Ljava/lang/Object;)Z"), (41, u "(Ljava/lang/String;Lcom/example/protocols_under_attack/protocolsunderattack/term/Type;I)V"), (7, .class_ 99), (0, u "com/example/protocols_under_attack/protocolsunderattack/term/Term")] 70

def k4c0 : Code := { maxStack := 2, maxLocals := 4, code := prog_106_method_1_code, exceptionTable := #[], attributes := #[] }
def k4m0 : Method := { name := "<init>", desc := "(Ljava/lang/String;Lcom/example/protocols_under_attack/protocolsunderattack/term/Type;I)V", sig := { parameters := [(.object "java/lang/String"), (.object "com/example/protocols_under_attack/protocolsunderattack/term/Type"), .int], returnType := none }, accessFlags := 1, code := some k4c0 }
def k4c1 : Code := { maxStack := 2, maxLocals := 3, code := prog_106_method_3_code, exceptionTable := #[], attributes := #[] }
def k4m1 : Method := { name := "equals", desc := "(Ljava/lang/Object;)Z", sig := { parameters := [(.object "java/lang/Object")], returnType := some .boolean }, accessFlags := 1, code := some k4c1 }
/-- com/example/protocols_under_attack/protocolsunderattack/term/Variable -/
def k4 : Class := { plain "com/example/protocols_under_attack/protocolsunderattack/term/Variable" (some 2) with
  accessFlags := 49
  interfaces := #[3]
  cf := some (fileOf pool4 18 #[] #[{ accessFlags := 1, nameIndex := 5, descriptorIndex := 90, attributes := #[] }, { accessFlags := 1, nameIndex := 47, descriptorIndex := 48, attributes := #[] }] 49 2 #[98] #[{ accessFlags := 18, nameIndex := 8, descriptorIndex := 21, attributes := #[] }, { accessFlags := 18, nameIndex := 16, descriptorIndex := 24, attributes := #[] }, { accessFlags := 18, nameIndex := 27, descriptorIndex := 28, attributes := #[] }, { accessFlags := 26, nameIndex := 31, descriptorIndex := 32, attributes := #[] }])
  fields := #[{ name := "name", type := (.object "java/lang/String"), accessFlags := 18, slot := 0, constantValue := 0 }, { name := "type", type := (.object "com/example/protocols_under_attack/protocolsunderattack/term/Type"), accessFlags := 18, slot := 1, constantValue := 0 }, { name := "number", type := .int, accessFlags := 18, slot := 2, constantValue := 0 }, { name := "PRIMED", type := (.object "java/util/Map"), accessFlags := 26, slot := 0, constantValue := 0 }]
  methods := #[k4m0, k4m1]
  instanceTypes := #[(.object "java/lang/String"), (.object "com/example/protocols_under_attack/protocolsunderattack/term/Type"), .int]
  staticTypes := #[(.object "java/util/Map")]
  resolved := Array.replicate 170 none
  statics := none }

def pool5 : Array CpInfo := pool [(1, .class_ 2), (0, u "java/io/Serializable"), (0, .class_ 4), (0, u "java/lang/Object")] 2

/-- java/io/Serializable -/
def k5 : Class := { plain "java/io/Serializable" (some 0) with
  accessFlags := 1537
  interfaces := #[]
  cf := some (fileOf pool5 1 #[] #[] 1537 3 #[] #[])
  fields := #[]
  methods := #[]
  instanceTypes := #[]
  staticTypes := #[]
  resolved := Array.replicate 7 none
  statics := none }

def pool6 : Array CpInfo := pool [(1, .class_ 2), (0, u "java/lang/Comparable"), (0, .class_ 4), (0, u "java/lang/Object")] 7

/-- java/lang/Comparable -/
def k6 : Class := { plain "java/lang/Comparable" (some 0) with
  accessFlags := 1537
  interfaces := #[]
  cf := some (fileOf pool6 1 #[] #[] 1537 3 #[] #[])
  fields := #[]
  methods := #[]
  instanceTypes := #[]
  staticTypes := #[]
  resolved := Array.replicate 12 none
  statics := none }

def pool7 : Array CpInfo := pool [(2, .class_ 4), (1, u "java/lang/CharSequence"), (42, .class_ 48), (0, u "java/lang/CharSequence$1CodePointIterator"), (10, .class_ 60), (0, u "java/lang/CharSequence$1CharIterator"), (5, .class_ 67), (0, u "java/lang/Object")] 63

/-- java/lang/CharSequence -/
def k7 : Class := { plain "java/lang/CharSequence" (some 0) with
  accessFlags := 1537
  interfaces := #[]
  cf := some (fileOf pool7 2 #[.nestMembers #[47, 59]] #[] 1537 66 #[] #[])
  fields := #[]
  methods := #[]
  instanceTypes := #[]
  staticTypes := #[]
  resolved := Array.replicate 131 none
  statics := none }

def pool8 : Array CpInfo := pool [(1, .class_ 2), (0, u "java/lang/constant/Constable"), (0, .class_ 4), (0, u "java/lang/Object")] 6

/-- java/lang/constant/Constable -/
def k8 : Class := { plain "java/lang/constant/Constable" (some 0) with
  accessFlags := 1537
  interfaces := #[]
  cf := some (fileOf pool8 1 #[] #[] 1537 3 #[] #[])
  fields := #[]
  methods := #[]
  instanceTypes := #[]
  staticTypes := #[]
  resolved := Array.replicate 11 none
  statics := none }

def pool9 : Array CpInfo := pool [(1, .class_ 2), (0, u "java/lang/constant/ConstantDesc"), (0, .class_ 4), (0, u "java/lang/Object")] 32

/-- java/lang/constant/ConstantDesc -/
def k9 : Class := { plain "java/lang/constant/ConstantDesc" (some 0) with
  accessFlags := 1537
  interfaces := #[]
  cf := some (fileOf pool9 1 #[] #[] 1537 3 #[] #[])
  fields := #[]
  methods := #[]
  instanceTypes := #[]
  staticTypes := #[]
  resolved := Array.replicate 37 none
  statics := none }

def pool10 : Array CpInfo := pool [(1, .methodref 2 3), (0, .class_ 4), (0, .nameAndType 5 6), (0, u "java/lang/Object"), (0, u "<init>"), (0, u "()V"), (0, .string 8), (0, u ""), (0, .fieldref 10 11), (0, .class_ 12), (0, .nameAndType 13 14), (0, u "java/lang/String"), (0, u "value"), (0, u "[B"), (0, .fieldref 10 16), (0, .nameAndType 17 18), (0, u "coder"), (0, u "B"), (2, u "hash"), (0, u "I"), (2, u "hashIsZero"), (0, u "Z"), (0, .methodref 10 28), (0, .nameAndType 5 29), (0, u "([CIILjava/lang/Void;)V"), (8, .fieldref 10 39), (0, .nameAndType 40 26), (0, u "COMPACT_STRINGS"), (1, .class_ 44), (1, u "java/lang/StringUTF16"), (0, u "compress"), (1, .methodref 42 48), (0, .nameAndType 49 50), (0, u "coderFromArrayLen"), (0, u "([BI)B"), (56, .class_ 109), (1, u "java/lang/StringLatin1"), (67, .methodref 42 178), (0, .nameAndType 45 179), (0, u "([CII)[B"), (361, .methodref 107 542), (0, .nameAndType 543 544), (0, u "equals"), (0, u "([B[B)Z"), (28, u "(Ljava/lang/Object;)Z"), (1, .class_ 576), (0, u "java/lang/CharSequence"), (22, u "CASE_INSENSITIVE_ORDER"), (0, u "Ljava/util/Comparator;"), (409, u "([C)V"), (90, u "serialPersistentFields"), (0, u "[Ljava/io/ObjectStreamField;"), (0, .class_ 1104), (0, u "java/lang/String$CaseInsensitiveComparator"), (1, .class_ 1107), (0, u "java/io/Serializable"), (0, .class_ 1109), (0, u "java/lang/Comparable"), (0, .class_ 1111), (0, u "java/lang/constant/Constable"), (0, .class_ 1113), (0, u "java/lang/constant/ConstantDesc"), (2, u "serialVersionUID"), (0, u "J"), (3, u "REPL"), (0, u "C"), (2, u "LATIN1"), (1, u "UTF16")] 323

def k10m0 : Method := { name := "<init>", desc := "()V", sig := { parameters := [], returnType := none }, accessFlags := 1, code := none }
def k10c1 : Code := { maxStack := 5, maxLocals := 2, code := jdk_42_method_3_code, exceptionTable := #[], attributes := #[] }
def k10m1 : Method := { name := "<init>", desc := "([C)V", sig := { parameters := [(.array .char)], returnType := none }, accessFlags := 1, code := some k10c1 }
def k10c2 : Code := { maxStack := 2, maxLocals := 3, code := jdk_42_method_66_code, exceptionTable := #[], attributes := #[] }
def k10m2 : Method := { name := "equals", desc := "(Ljava/lang/Object;)Z", sig := { parameters := [(.object "java/lang/Object")], returnType := some .boolean }, accessFlags := 1, code := some k10c2 }
def k10c3 : Code := { maxStack := 4, maxLocals := 6, code := jdk_42_method_149_code, exceptionTable := #[], attributes := #[] }
def k10m3 : Method := { name := "<init>", desc := "([CIILjava/lang/Void;)V", sig := { parameters := [(.array .char), .int, .int, (.object "java/lang/Void")], returnType := none }, accessFlags := 2, code := some k10c3 }
/-- java/lang/String -/
def k10 : Class := { plain "java/lang/String" (some 0) with
  accessFlags := 49
  interfaces := #[5, 6, 7, 8, 9]
  cf := some (fileOf pool10 10 #[.nestMembers #[1103]] #[{ accessFlags := 1, nameIndex := 5, descriptorIndex := 6, attributes := #[] }, { accessFlags := 1, nameIndex := 5, descriptorIndex := 1010, attributes := #[] }, { accessFlags := 1, nameIndex := 543, descriptorIndex := 573, attributes := #[] }, { accessFlags := 2, nameIndex := 5, descriptorIndex := 29, attributes := #[] }] 49 2 #[1106, 1108, 575, 1110, 1112] #[{ accessFlags := 18, nameIndex := 13, descriptorIndex := 14, attributes := #[] }, { accessFlags := 18, nameIndex := 17, descriptorIndex := 18, attributes := #[] }, { accessFlags := 2, nameIndex := 21, descriptorIndex := 22, attributes := #[] }, { accessFlags := 2, nameIndex := 25, descriptorIndex := 26, attributes := #[] }, { accessFlags := 26, nameIndex := 1116, descriptorIndex := 1117, attributes := #[] }, { accessFlags := 24, nameIndex := 40, descriptorIndex := 26, attributes := #[] }, { accessFlags := 26, nameIndex := 1101, descriptorIndex := 1102, attributes := #[] }, { accessFlags := 26, nameIndex := 1121, descriptorIndex := 1122, attributes := #[] }, { accessFlags := 25, nameIndex := 599, descriptorIndex := 600, attributes := #[] }, { accessFlags := 24, nameIndex := 1125, descriptorIndex := 18, attributes := #[] }, { accessFlags := 24, nameIndex := 1127, descriptorIndex := 18, attributes := #[] }])
  fields := #[{ name := "value", type := (.array .byte), accessFlags := 18, slot := 0, constantValue := 0 }, { name := "coder", type := .byte, accessFlags := 18, slot := 1, constantValue := 0 }, { name := "hash", type := .int, accessFlags := 2, slot := 2, constantValue := 0 }, { name := "hashIsZero", type := .boolean, accessFlags := 2, slot := 3, constantValue := 0 }, { name := "serialVersionUID", type := .long, accessFlags := 26, slot := 0, constantValue := 0 }, { name := "COMPACT_STRINGS", type := .boolean, accessFlags := 24, slot := 1, constantValue := 0 }, { name := "serialPersistentFields", type := (.array (.object "java/io/ObjectStreamField")), accessFlags := 26, slot := 2, constantValue := 0 }, { name := "REPL", type := .char, accessFlags := 26, slot := 3, constantValue := 0 }, { name := "CASE_INSENSITIVE_ORDER", type := (.object "java/util/Comparator"), accessFlags := 25, slot := 4, constantValue := 0 }, { name := "LATIN1", type := .byte, accessFlags := 24, slot := 5, constantValue := 0 }, { name := "UTF16", type := .byte, accessFlags := 24, slot := 6, constantValue := 0 }]
  methods := #[k10m0, k10m1, k10m2, k10m3]
  instanceTypes := #[(.array .byte), .byte, .int, .boolean]
  staticTypes := #[.long, .boolean, (.array (.object "java/io/ObjectStreamField")), .char, (.object "java/util/Comparator"), .byte, .byte]
  resolved := Array.replicate 1451 none
  statics := some 0 }

def pool11 : Array CpInfo := pool [(2, .class_ 4), (1, u "java/lang/Enum"), (0, u "name"), (0, u "Ljava/lang/String;"), (2, u "ordinal"), (0, u "I"), (1, .class_ 14), (1, u "java/lang/Object"), (4, u "hash"), (86, .class_ 108), (1, u "java/lang/Enum$EnumDesc"), (2, .class_ 112), (0, u "java/lang/constant/Constable"), (0, .class_ 114), (0, u "java/lang/Comparable"), (0, .class_ 116), (0, u "java/io/Serializable")] 87

/-- java/lang/Enum -/
def k11 : Class := { plain "java/lang/Enum" (some 0) with
  accessFlags := 1057
  interfaces := #[8, 6, 5]
  cf := some (fileOf pool11 2 #[.nestMembers #[106]] #[] 1057 12 #[111, 113, 115] #[{ accessFlags := 18, nameIndex := 5, descriptorIndex := 6, attributes := #[] }, { accessFlags := 18, nameIndex := 9, descriptorIndex := 10, attributes := #[] }, { accessFlags := 2, nameIndex := 19, descriptorIndex := 10, attributes := #[] }])
  fields := #[{ name := "name", type := (.object "java/lang/String"), accessFlags := 18, slot := 0, constantValue := 0 }, { name := "ordinal", type := .int, accessFlags := 18, slot := 1, constantValue := 0 }, { name := "hash", type := .int, accessFlags := 2, slot := 2, constantValue := 0 }]
  methods := #[]
  instanceTypes := #[(.object "java/lang/String"), .int, .int]
  staticTypes := #[]
  resolved := Array.replicate 204 none
  statics := none }

def pool12 : Array CpInfo := pool [(1, .class_ 2), (0, u "com/example/protocols_under_attack/protocolsunderattack/term/Type"), (2, u "AGENT"), (0, u "Lcom/example/protocols_under_attack/protocolsunderattack/term/Type;"), (2, u "TEXT"), (2, u "NAT"), (2, u "PROTOCOL_ID"), (2, u "SYMMETRIC_KEY"), (2, u "PUBLIC_KEY"), (2, u "HASH_FUNC"), (2, u "CHANNEL"), (2, u "SET"), (2, u "MESSAGE"), (2, u "$VALUES"), (0, u "[Lcom/example/protocols_under_attack/protocolsunderattack/term/Type;"), (6, .class_ 46), (1, u "java/lang/Enum"), (8, u "hlpslName"), (0, u "Ljava/lang/String;"), (2, u "fresh"), (0, u "Z")] 51

/-- com/example/protocols_under_attack/protocolsunderattack/term/Type -/
def k12 : Class := { plain "com/example/protocols_under_attack/protocolsunderattack/term/Type" (some 11) with
  accessFlags := 16433
  interfaces := #[]
  cf := some (fileOf pool12 1 #[] #[] 16433 44 #[] #[{ accessFlags := 16409, nameIndex := 5, descriptorIndex := 6, attributes := #[] }, { accessFlags := 16409, nameIndex := 9, descriptorIndex := 6, attributes := #[] }, { accessFlags := 16409, nameIndex := 12, descriptorIndex := 6, attributes := #[] }, { accessFlags := 16409, nameIndex := 15, descriptorIndex := 6, attributes := #[] }, { accessFlags := 16409, nameIndex := 18, descriptorIndex := 6, attributes := #[] }, { accessFlags := 16409, nameIndex := 21, descriptorIndex := 6, attributes := #[] }, { accessFlags := 16409, nameIndex := 24, descriptorIndex := 6, attributes := #[] }, { accessFlags := 16409, nameIndex := 27, descriptorIndex := 6, attributes := #[] }, { accessFlags := 16409, nameIndex := 30, descriptorIndex := 6, attributes := #[] }, { accessFlags := 16409, nameIndex := 33, descriptorIndex := 6, attributes := #[] }, { accessFlags := 18, nameIndex := 55, descriptorIndex := 56, attributes := #[] }, { accessFlags := 18, nameIndex := 59, descriptorIndex := 60, attributes := #[] }, { accessFlags := 4122, nameIndex := 36, descriptorIndex := 37, attributes := #[] }])
  fields := #[{ name := "AGENT", type := (.object "com/example/protocols_under_attack/protocolsunderattack/term/Type"), accessFlags := 16409, slot := 0, constantValue := 0 }, { name := "TEXT", type := (.object "com/example/protocols_under_attack/protocolsunderattack/term/Type"), accessFlags := 16409, slot := 1, constantValue := 0 }, { name := "NAT", type := (.object "com/example/protocols_under_attack/protocolsunderattack/term/Type"), accessFlags := 16409, slot := 2, constantValue := 0 }, { name := "PROTOCOL_ID", type := (.object "com/example/protocols_under_attack/protocolsunderattack/term/Type"), accessFlags := 16409, slot := 3, constantValue := 0 }, { name := "SYMMETRIC_KEY", type := (.object "com/example/protocols_under_attack/protocolsunderattack/term/Type"), accessFlags := 16409, slot := 4, constantValue := 0 }, { name := "PUBLIC_KEY", type := (.object "com/example/protocols_under_attack/protocolsunderattack/term/Type"), accessFlags := 16409, slot := 5, constantValue := 0 }, { name := "HASH_FUNC", type := (.object "com/example/protocols_under_attack/protocolsunderattack/term/Type"), accessFlags := 16409, slot := 6, constantValue := 0 }, { name := "CHANNEL", type := (.object "com/example/protocols_under_attack/protocolsunderattack/term/Type"), accessFlags := 16409, slot := 7, constantValue := 0 }, { name := "SET", type := (.object "com/example/protocols_under_attack/protocolsunderattack/term/Type"), accessFlags := 16409, slot := 8, constantValue := 0 }, { name := "MESSAGE", type := (.object "com/example/protocols_under_attack/protocolsunderattack/term/Type"), accessFlags := 16409, slot := 9, constantValue := 0 }, { name := "hlpslName", type := (.object "java/lang/String"), accessFlags := 18, slot := 3, constantValue := 0 }, { name := "fresh", type := .boolean, accessFlags := 18, slot := 4, constantValue := 0 }, { name := "$VALUES", type := (.array (.object "com/example/protocols_under_attack/protocolsunderattack/term/Type")), accessFlags := 4122, slot := 10, constantValue := 0 }]
  methods := #[]
  instanceTypes := #[(.object "java/lang/String"), .int, .int, (.object "java/lang/String"), .boolean]
  staticTypes := #[(.object "com/example/protocols_under_attack/protocolsunderattack/term/Type"), (.object "com/example/protocols_under_attack/protocolsunderattack/term/Type"), (.object "com/example/protocols_under_attack/protocolsunderattack/term/Type"), (.object "com/example/protocols_under_attack/protocolsunderattack/term/Type"), (.object "com/example/protocols_under_attack/protocolsunderattack/term/Type"), (.object "com/example/protocols_under_attack/protocolsunderattack/term/Type"), (.object "com/example/protocols_under_attack/protocolsunderattack/term/Type"), (.object "com/example/protocols_under_attack/protocolsunderattack/term/Type"), (.object "com/example/protocols_under_attack/protocolsunderattack/term/Type"), (.object "com/example/protocols_under_attack/protocolsunderattack/term/Type"), (.array (.object "com/example/protocols_under_attack/protocolsunderattack/term/Type"))]
  resolved := Array.replicate 112 none
  statics := some 1 }

def pool13 : Array CpInfo := pool [(2, .class_ 4), (1, u "java/lang/Object"), (0, u "<init>"), (0, u "()V"), (35, .class_ 44), (1, u "java/util/Objects"), (0, u "requireNonNull"), (48, u "(Ljava/lang/Object;Ljava/lang/String;)Ljava/lang/Object;")] 89

def k13m0 : Method := { name := "<init>", desc := "()V", sig := { parameters := [], returnType := none }, accessFlags := 2, code := none }
def k13c1 : Code := { maxStack := 3, maxLocals := 2, code := jdk_31_method_11_code, exceptionTable := #[], attributes := #[] }
def k13m1 : Method := { name := "requireNonNull", desc := "(Ljava/lang/Object;Ljava/lang/String;)Ljava/lang/Object;", sig := { parameters := [(.object "java/lang/Object"), (.object "java/lang/String")], returnType := some (.object "java/lang/Object") }, accessFlags := 9, code := some k13c1 }
/-- java/util/Objects -/
def k13 : Class := { plain "java/util/Objects" (some 0) with
  accessFlags := 49
  interfaces := #[]
  cf := some (fileOf pool13 42 #[] #[{ accessFlags := 2, nameIndex := 5, descriptorIndex := 6, attributes := #[] }, { accessFlags := 9, nameIndex := 45, descriptorIndex := 94, attributes := #[] }] 49 2 #[] #[])
  fields := #[]
  methods := #[k13m0, k13m1]
  instanceTypes := #[]
  staticTypes := #[]
  resolved := Array.replicate 184 none
  statics := none }

def pool14 : Array CpInfo := pool [(1, .methodref 2 3), (0, .class_ 4), (0, .nameAndType 5 6), (0, u "java/lang/Record"), (0, u "<init>"), (0, u "()V"), (0, .string 8), (0, u "name"), (0, .methodref 10 11), (0, .class_ 12), (0, .nameAndType 13 14), (0, u "java/util/Objects"), (0, u "requireNonNull"), (0, u "(Ljava/lang/Object;Ljava/lang/String;)Ljava/lang/Object;"), (0, .string 16), (0, u "type"), (0, .fieldref 18 19), (0, .class_ 20), (0, .nameAndType 8 21), (0, u "com/example/protocols_under_attack/protocolsunderattack/term/Atom"), (0, u "Ljava/lang/String;"), (0, .fieldref 18 23), (0, .nameAndType 16 24), (0, u "Lcom/example/protocols_under_attack/protocolsunderattack/term/Type;"), (0, .fieldref 18 26), (0, .nameAndType 27 28), (0, u "number"), (0, u "I"), (2, u "(Ljava/lang/String;Lcom/example/protocols_under_attack/protocolsunderattack/term/Type;I)V"), (61, .class_ 94), (0, u "com/example/protocols_under_attack/protocolsunderattack/term/Term")] 49

def k14c0 : Code := { maxStack := 2, maxLocals := 4, code := prog_98_method_1_code, exceptionTable := #[], attributes := #[] }
def k14m0 : Method := { name := "<init>", desc := "(Ljava/lang/String;Lcom/example/protocols_under_attack/protocolsunderattack/term/Type;I)V", sig := { parameters := [(.object "java/lang/String"), (.object "com/example/protocols_under_attack/protocolsunderattack/term/Type"), .int], returnType := none }, accessFlags := 1, code := some k14c0 }
/-- com/example/protocols_under_attack/protocolsunderattack/term/Atom -/
def k14 : Class := { plain "com/example/protocols_under_attack/protocolsunderattack/term/Atom" (some 2) with
  accessFlags := 49
  interfaces := #[3]
  cf := some (fileOf pool14 18 #[] #[{ accessFlags := 1, nameIndex := 5, descriptorIndex := 31, attributes := #[] }] 49 2 #[93] #[{ accessFlags := 18, nameIndex := 8, descriptorIndex := 21, attributes := #[] }, { accessFlags := 18, nameIndex := 16, descriptorIndex := 24, attributes := #[] }, { accessFlags := 18, nameIndex := 27, descriptorIndex := 28, attributes := #[] }])
  fields := #[{ name := "name", type := (.object "java/lang/String"), accessFlags := 18, slot := 0, constantValue := 0 }, { name := "type", type := (.object "com/example/protocols_under_attack/protocolsunderattack/term/Type"), accessFlags := 18, slot := 1, constantValue := 0 }, { name := "number", type := .int, accessFlags := 18, slot := 2, constantValue := 0 }]
  methods := #[k14m0]
  instanceTypes := #[(.object "java/lang/String"), (.object "com/example/protocols_under_attack/protocolsunderattack/term/Type"), .int]
  staticTypes := #[]
  resolved := Array.replicate 144 none
  statics := none }

def pool15 : Array CpInfo := pool [(4, .class_ 6), (1, u "java/lang/Object"), (0, u "<init>"), (0, u "()V"), (5, .class_ 16), (1, u "java/lang/StringLatin1"), (104, u "$assertionsDisabled"), (0, u "Z"), (98, .class_ 223), (1, u "java/lang/StringLatin1$LinesSpliterator"), (57, u "equals"), (0, u "([B[B)Z"), (107, .class_ 391), (0, u "java/lang/StringLatin1$CharsSpliterator")] 3

def k15m0 : Method := { name := "<init>", desc := "()V", sig := { parameters := [], returnType := none }, accessFlags := 0, code := none }
def k15c1 : Code := { maxStack := 3, maxLocals := 3, code := jdk_43_method_13_code, exceptionTable := #[], attributes := #[] }
def k15m1 : Method := { name := "equals", desc := "([B[B)Z", sig := { parameters := [(.array .byte), (.array .byte)], returnType := some .boolean }, accessFlags := 9, code := some k15c1 }
/-- java/lang/StringLatin1 -/
def k15 : Class := { plain "java/lang/StringLatin1" (some 0) with
  accessFlags := 48
  interfaces := #[]
  cf := some (fileOf pool15 14 #[.nestMembers #[390, 221]] #[{ accessFlags := 0, nameIndex := 7, descriptorIndex := 8, attributes := #[] }, { accessFlags := 9, nameIndex := 281, descriptorIndex := 282, attributes := #[] }] 48 4 #[] #[{ accessFlags := 4120, nameIndex := 121, descriptorIndex := 122, attributes := #[] }])
  fields := #[{ name := "$assertionsDisabled", type := .boolean, accessFlags := 4120, slot := 0, constantValue := 0 }]
  methods := #[k15m0, k15m1]
  instanceTypes := #[]
  staticTypes := #[.boolean]
  resolved := Array.replicate 395 none
  statics := none }

def pool16 : Array CpInfo := pool [(6, .class_ 8), (1, u "java/lang/Object"), (0, u "<init>"), (0, u "()V"), (1, .class_ 14), (1, u "java/lang/StringUTF16"), (31, u "$assertionsDisabled"), (0, u "Z"), (13, u "HI_BYTE_SHIFT"), (0, u "I"), (2, u "LO_BYTE_SHIFT"), (49, .methodref 12 116), (0, .nameAndType 117 118), (0, u "compress"), (0, u "([CI[BII)I"), (3, u "([CII)[B"), (138, u "coderFromArrayLen"), (0, u "([BI)B"), (106, .class_ 371), (1, u "java/lang/StringUTF16$LinesSpliterator"), (58, u "MAX_LENGTH"), (196, .class_ 628), (0, u "java/lang/StringUTF16$CodePointsSpliterator"), (0, .class_ 630), (0, u "java/lang/StringUTF16$CharsSpliterator")] 4

def k16m0 : Method := { name := "<init>", desc := "()V", sig := { parameters := [], returnType := none }, accessFlags := 0, code := none }
def k16c1 : Code := { maxStack := 2, maxLocals := 2, code := jdk_52_method_15_code, exceptionTable := #[], attributes := #[] }
def k16m1 : Method := { name := "coderFromArrayLen", desc := "([BI)B", sig := { parameters := [(.array .byte), .int], returnType := some .byte }, accessFlags := 8, code := some k16c1 }
def k16c2 : Code := { maxStack := 5, maxLocals := 6, code := jdk_52_method_16_code, exceptionTable := #[], attributes := #[] }
def k16m2 : Method := { name := "compress", desc := "([CII)[B", sig := { parameters := [(.array .char), .int, .int], returnType := some (.array .byte) }, accessFlags := 9, code := some k16c2 }
def k16c3 : Code := { maxStack := 3, maxLocals := 7, code := jdk_52_method_21_code, exceptionTable := #[], attributes := #[] }
def k16m3 : Method := { name := "compress", desc := "([CI[BII)I", sig := { parameters := [(.array .char), .int, (.array .byte), .int, .int], returnType := some .int }, accessFlags := 9, code := some k16c3 }
/-- java/lang/StringUTF16 -/
def k16 : Class := { plain "java/lang/StringUTF16" (some 0) with
  accessFlags := 48
  interfaces := #[]
  cf := some (fileOf pool16 12 #[.nestMembers #[627, 629, 369]] #[{ accessFlags := 0, nameIndex := 9, descriptorIndex := 10, attributes := #[] }, { accessFlags := 8, nameIndex := 261, descriptorIndex := 262, attributes := #[] }, { accessFlags := 9, nameIndex := 117, descriptorIndex := 122, attributes := #[] }, { accessFlags := 9, nameIndex := 117, descriptorIndex := 118, attributes := #[] }] 48 6 #[] #[{ accessFlags := 26, nameIndex := 61, descriptorIndex := 62, attributes := #[] }, { accessFlags := 26, nameIndex := 65, descriptorIndex := 62, attributes := #[] }, { accessFlags := 24, nameIndex := 430, descriptorIndex := 62, attributes := #[] }, { accessFlags := 4120, nameIndex := 46, descriptorIndex := 47, attributes := #[] }])
  fields := #[{ name := "HI_BYTE_SHIFT", type := .int, accessFlags := 26, slot := 0, constantValue := 0 }, { name := "LO_BYTE_SHIFT", type := .int, accessFlags := 26, slot := 1, constantValue := 0 }, { name := "MAX_LENGTH", type := .int, accessFlags := 24, slot := 2, constantValue := 0 }, { name := "$assertionsDisabled", type := .boolean, accessFlags := 4120, slot := 3, constantValue := 0 }]
  methods := #[k16m0, k16m1, k16m2, k16m3]
  instanceTypes := #[]
  staticTypes := #[.int, .int, .int, .boolean]
  resolved := Array.replicate 635 none
  statics := none }

def pool17 : Array CpInfo := pool [(2, .class_ 4), (1, u "java/lang/Object"), (0, u "<init>"), (0, u "()V"), (17, .class_ 26), (1, u "jdk/internal/util/Preconditions"), (28, .class_ 56), (0, u "jdk/internal/util/Preconditions$4"), (57, .class_ 115), (0, u "jdk/internal/util/Preconditions$1"), (7, u "SIOOBE_FORMATTER"), (0, u "Ljava/util/function/BiFunction;"), (0, .class_ 126), (0, u "jdk/internal/util/Preconditions$2"), (3, u "AIOOBE_FORMATTER"), (0, .class_ 132), (0, u "jdk/internal/util/Preconditions$3"), (3, u "IOOBE_FORMATTER")] 57

def k17m0 : Method := { name := "<init>", desc := "()V", sig := { parameters := [], returnType := none }, accessFlags := 1, code := none }
/-- jdk/internal/util/Preconditions -/
def k17 : Class := { plain "jdk/internal/util/Preconditions" (some 0) with
  accessFlags := 33
  interfaces := #[]
  cf := some (fileOf pool17 24 #[.nestMembers #[55, 131, 125, 114]] #[{ accessFlags := 1, nameIndex := 5, descriptorIndex := 6, attributes := #[] }] 33 2 #[] #[{ accessFlags := 25, nameIndex := 123, descriptorIndex := 124, attributes := #[] }, { accessFlags := 25, nameIndex := 130, descriptorIndex := 124, attributes := #[] }, { accessFlags := 25, nameIndex := 136, descriptorIndex := 124, attributes := #[] }])
  fields := #[{ name := "SIOOBE_FORMATTER", type := (.object "java/util/function/BiFunction"), accessFlags := 25, slot := 0, constantValue := 0 }, { name := "AIOOBE_FORMATTER", type := (.object "java/util/function/BiFunction"), accessFlags := 25, slot := 1, constantValue := 0 }, { name := "IOOBE_FORMATTER", type := (.object "java/util/function/BiFunction"), accessFlags := 25, slot := 2, constantValue := 0 }]
  methods := #[k17m0]
  instanceTypes := #[]
  staticTypes := #[(.object "java/util/function/BiFunction"), (.object "java/util/function/BiFunction"), (.object "java/util/function/BiFunction")]
  resolved := Array.replicate 194 none
  statics := some 2 }

def pool18 : Array CpInfo := pool [(9, u "<init>"), (6, .class_ 18), (1, u "java/lang/Object"), (0, u "()V"), (1, .class_ 23), (1, u "jdk/internal/util/ArraysSupport"), (0, u "LOG2_ARRAY_LONG_INDEX_SCALE"), (0, u "I"), (2, u "U"), (0, u "Ljdk/internal/misc/Unsafe;"), (8, u "BIG_ENDIAN"), (0, u "Z"), (8, u "LOG2_BYTE_BIT_SIZE"), (4, u "LOG2_ARRAY_INT_INDEX_SCALE"), (54, u "JLA"), (0, u "Ljdk/internal/access/JavaLangAccess;"), (11, u "LOG2_ARRAY_BOOLEAN_INDEX_SCALE"), (9, u "LOG2_ARRAY_BYTE_INDEX_SCALE"), (5, u "LOG2_ARRAY_CHAR_INDEX_SCALE"), (5, u "LOG2_ARRAY_SHORT_INDEX_SCALE"), (18, u "LOG2_ARRAY_FLOAT_INDEX_SCALE"), (24, u "LOG2_ARRAY_DOUBLE_INDEX_SCALE"), (89, u "T_BOOLEAN"), (2, u "T_CHAR"), (1, u "T_FLOAT"), (1, u "T_DOUBLE"), (1, u "T_BYTE"), (1, u "T_SHORT"), (1, u "T_INT"), (1, u "T_LONG"), (1, u "SOFT_MAX_ARRAY_LENGTH")] 83

def k18m0 : Method := { name := "<init>", desc := "()V", sig := { parameters := [], returnType := none }, accessFlags := 2, code := none }
/-- jdk/internal/util/ArraysSupport -/
def k18 : Class := { plain "jdk/internal/util/ArraysSupport" (some 0) with
  accessFlags := 33
  interfaces := #[]
  cf := some (fileOf pool18 21 #[] #[{ accessFlags := 2, nameIndex := 9, descriptorIndex := 19, attributes := #[] }] 33 16 #[] #[{ accessFlags := 24, nameIndex := 28, descriptorIndex := 29, attributes := #[] }, { accessFlags := 26, nameIndex := 38, descriptorIndex := 39, attributes := #[] }, { accessFlags := 25, nameIndex := 121, descriptorIndex := 25, attributes := #[] }, { accessFlags := 25, nameIndex := 131, descriptorIndex := 25, attributes := #[] }, { accessFlags := 25, nameIndex := 137, descriptorIndex := 25, attributes := #[] }, { accessFlags := 25, nameIndex := 143, descriptorIndex := 25, attributes := #[] }, { accessFlags := 25, nameIndex := 53, descriptorIndex := 25, attributes := #[] }, { accessFlags := 25, nameIndex := 24, descriptorIndex := 25, attributes := #[] }, { accessFlags := 25, nameIndex := 162, descriptorIndex := 25, attributes := #[] }, { accessFlags := 25, nameIndex := 187, descriptorIndex := 25, attributes := #[] }, { accessFlags := 26, nameIndex := 48, descriptorIndex := 25, attributes := #[] }, { accessFlags := 25, nameIndex := 277, descriptorIndex := 25, attributes := #[] }, { accessFlags := 25, nameIndex := 280, descriptorIndex := 25, attributes := #[] }, { accessFlags := 25, nameIndex := 282, descriptorIndex := 25, attributes := #[] }, { accessFlags := 25, nameIndex := 284, descriptorIndex := 25, attributes := #[] }, { accessFlags := 25, nameIndex := 286, descriptorIndex := 25, attributes := #[] }, { accessFlags := 25, nameIndex := 288, descriptorIndex := 25, attributes := #[] }, { accessFlags := 25, nameIndex := 290, descriptorIndex := 25, attributes := #[] }, { accessFlags := 25, nameIndex := 292, descriptorIndex := 25, attributes := #[] }, { accessFlags := 26, nameIndex := 108, descriptorIndex := 109, attributes := #[] }, { accessFlags := 25, nameIndex := 294, descriptorIndex := 25, attributes := #[] }])
  fields := #[{ name := "U", type := (.object "jdk/internal/misc/Unsafe"), accessFlags := 24, slot := 0, constantValue := 0 }, { name := "BIG_ENDIAN", type := .boolean, accessFlags := 26, slot := 1, constantValue := 0 }, { name := "LOG2_ARRAY_BOOLEAN_INDEX_SCALE", type := .int, accessFlags := 25, slot := 2, constantValue := 0 }, { name := "LOG2_ARRAY_BYTE_INDEX_SCALE", type := .int, accessFlags := 25, slot := 3, constantValue := 0 }, { name := "LOG2_ARRAY_CHAR_INDEX_SCALE", type := .int, accessFlags := 25, slot := 4, constantValue := 0 }, { name := "LOG2_ARRAY_SHORT_INDEX_SCALE", type := .int, accessFlags := 25, slot := 5, constantValue := 0 }, { name := "LOG2_ARRAY_INT_INDEX_SCALE", type := .int, accessFlags := 25, slot := 6, constantValue := 0 }, { name := "LOG2_ARRAY_LONG_INDEX_SCALE", type := .int, accessFlags := 25, slot := 7, constantValue := 0 }, { name := "LOG2_ARRAY_FLOAT_INDEX_SCALE", type := .int, accessFlags := 25, slot := 8, constantValue := 0 }, { name := "LOG2_ARRAY_DOUBLE_INDEX_SCALE", type := .int, accessFlags := 25, slot := 9, constantValue := 0 }, { name := "LOG2_BYTE_BIT_SIZE", type := .int, accessFlags := 26, slot := 10, constantValue := 0 }, { name := "T_BOOLEAN", type := .int, accessFlags := 25, slot := 11, constantValue := 0 }, { name := "T_CHAR", type := .int, accessFlags := 25, slot := 12, constantValue := 0 }, { name := "T_FLOAT", type := .int, accessFlags := 25, slot := 13, constantValue := 0 }, { name := "T_DOUBLE", type := .int, accessFlags := 25, slot := 14, constantValue := 0 }, { name := "T_BYTE", type := .int, accessFlags := 25, slot := 15, constantValue := 0 }, { name := "T_SHORT", type := .int, accessFlags := 25, slot := 16, constantValue := 0 }, { name := "T_INT", type := .int, accessFlags := 25, slot := 17, constantValue := 0 }, { name := "T_LONG", type := .int, accessFlags := 25, slot := 18, constantValue := 0 }, { name := "JLA", type := (.object "jdk/internal/access/JavaLangAccess"), accessFlags := 26, slot := 19, constantValue := 0 }, { name := "SOFT_MAX_ARRAY_LENGTH", type := .int, accessFlags := 25, slot := 20, constantValue := 0 }]
  methods := #[k18m0]
  instanceTypes := #[]
  staticTypes := #[(.object "jdk/internal/misc/Unsafe"), .boolean, .int, .int, .int, .int, .int, .int, .int, .int, .int, .int, .int, .int, .int, .int, .int, .int, .int, (.object "jdk/internal/access/JavaLangAccess"), .int]
  resolved := Array.replicate 378 none
  statics := none }

def pool19 : Array CpInfo := pool [(1, u "java/lang/Cloneable"), (0, .class_ 1), (0, u "java/lang/Object"), (0, .class_ 3)] 3

/-- java/lang/Cloneable -/
def k19 : Class := { plain "java/lang/Cloneable" (some 0) with
  accessFlags := 1537
  interfaces := #[]
  cf := some (fileOf pool19 2 #[] #[] 1537 4 #[] #[])
  fields := #[]
  methods := #[]
  instanceTypes := #[]
  staticTypes := #[]
  resolved := Array.replicate 8 none
  statics := none }

/-- the primitive byte -/
def k20 : Class := { plain "byte" none with kind := .primitive 'B', accessFlags := 0x411 }
/-- [B -/
def k21 : Class := { plain "[B" (some 0) with kind := .array 20 .byte, interfaces := #[19, 5], accessFlags := 1041 }

/-- the primitive char -/
def k22 : Class := { plain "char" none with kind := .primitive 'C', accessFlags := 0x411 }
/-- [C -/
def k23 : Class := { plain "[C" (some 0) with kind := .array 22 .char, interfaces := #[19, 5], accessFlags := 1041 }

/-- the primitive int -/
def k24 : Class := { plain "int" none with kind := .primitive 'I', accessFlags := 0x411 }
/-- [I -/
def k25 : Class := { plain "[I" (some 0) with kind := .array 24 .int, interfaces := #[19, 5], accessFlags := 1041 }

def heap : Heap := #[{ cls := 10, slots := #[.long 0, .int 1, .null, .int 0, .null, .int 0, .int 0], vm := .statics 10 },
  { cls := 12, slots := #[.ref 3, .ref 4, .ref 5, .ref 6, .ref 7, .ref 8, .ref 9, .ref 10, .ref 11, .ref 12, .null], vm := .statics 12 },
  { cls := 17, slots := #[.null, .null, .null], vm := .statics 17 },
  { cls := 12, slots := #[.null, .int 0, .int 0, .null, .int 0], vm := .none },
  { cls := 12, slots := #[.null, .int 1, .int 0, .null, .int 0], vm := .none },
  { cls := 12, slots := #[.null, .int 2, .int 0, .null, .int 0], vm := .none },
  { cls := 12, slots := #[.null, .int 3, .int 0, .null, .int 0], vm := .none },
  { cls := 12, slots := #[.null, .int 4, .int 0, .null, .int 0], vm := .none },
  { cls := 12, slots := #[.null, .int 5, .int 0, .null, .int 0], vm := .none },
  { cls := 12, slots := #[.null, .int 6, .int 0, .null, .int 0], vm := .none },
  { cls := 12, slots := #[.null, .int 7, .int 0, .null, .int 0], vm := .none },
  { cls := 12, slots := #[.null, .int 8, .int 0, .null, .int 0], vm := .none },
  { cls := 12, slots := #[.null, .int 9, .int 0, .null, .int 0], vm := .none }]
def classes : Array Class := #[k0, k1, k2, k3, k4, k5, k6, k7, k8, k9, k10, k11, k12, k13, k14, k15, k16, k17, k18, k19, k20, k21, k22, k23, k24, k25]
def interned : List (Array UInt16 × Addr) := []
def slotsUsed : Nat := 71
def theMethod : MethodId := ⟨1, 3⟩
def args0 : Array Value := #[.int 5, .int 6, .int 7, .int 8, .int 9, .int 10]
def aboutOver (below : List Frame) : State where
  vm := { classes := classes, interned := interned.toArray }
  heap := heap
  slotsUsed := slotsUsed
  threads := #[{ frames := .invoking theMethod args0 :: below }]
def below0 : List Frame := [.native { method := ⟨0, 0⟩, args := #[] }]
def about1 : State := aboutOver below0
def p0 : Program := .bare "" "" ""
def e0 : Env := launch0.env 0 0 0
theorem w_frames : about1.frames = Frame.invoking theMethod args0 :: below0 := rfl
set_option maxRecDepth 65536 in
theorem w_args : argsFit about1.vm theMethod args0 = true := by decide +kernel
set_option maxRecDepth 65536 in
theorem w_heap : heapFits about1 = true := by decide +kernel
set_option maxRecDepth 65536 in
theorem w_runnable : about1.curStatus? = some .runnable := by decide +kernel
set_option maxRecDepth 65536 in
theorem w_alone : about1.alone = true := by decide +kernel
set_option maxRecDepth 65536 in
theorem w_named : about1.methodNamed? x = some theMethod := by decide +kernel
set_option maxRecDepth 65536 in
theorem w_hears : about1.hears theMethod below0 = true := by decide +kernel
set_option maxRecDepth 65536 in
theorem w_ripe : about1.ripe theMethod args0 below0 = true := by decide +kernel
theorem w_running : about1.status = .running := rfl
set_option maxRecDepth 65536 in
theorem w_room : about1.hasRoom e0.platform room_1 = true :=
  launch0.hasRoom_least _ room_1 (by decide +kernel) (by decide +kernel) (by decide +kernel) (by decide +kernel) (by decide +kernel) (by decide +kernel)
theorem allAtoms_all (ts : List Jvm.Cond) (a : Array Jvm.Value) (st : Jvm.State) : (allAtoms ts).before a st = ts.all (fun c => c.before a st) := by
  induction ts with
  | nil => rfl
  | cons c t ih =>
    show (Jvm.Cond.and c (allAtoms t)).before a st = _
    rw [Jvm.Cond.before_and, ih, List.all_cons]
def words1 : List Jvm.Cond := Jvm.Cond.code x code maxLocals ret :: tables_1
/-- a 'code' word, met by the world's own term for the bytes: nothing is compared byte by byte -/
theorem code_word {y : MethodName} {bytes : ByteArray} {mx : Nat} {rt : Option FieldType} {a : Array Value} {s : State} {m : MethodId} {meth : Method} {c : Code} (h1 : s.methodNamed? y = some m) (h2 : s.vm.method? m = some meth) (h3 : meth.code = some c) (h4 : c.code = bytes)
    (h5 : (c.maxLocals == mx && c.exceptionTable.isEmpty && decide (c.maxStack ≤ mostOperands) && decide (meth.sig.returnType = rt) && !meth.locks && decide (parseMethodDescriptor y.desc = some meth.sig)) = true) : (Jvm.Cond.code y bytes mx rt).before a s = true := by
  simp only [Bool.and_eq_true, beq_iff_eq, Bool.not_eq_true', decide_eq_true_eq] at h5
  obtain ⟨⟨⟨⟨⟨g1, g2⟩, g3⟩, g4⟩, g5⟩, g6⟩ := h5
  simp [Cond.before, Cond.holds, Cond.value, h1, h2, h3, h4, g1, g2, g3, g4, g5, g6]
def isCode : Jvm.Cond → Bool
  | .code _ _ _ _ => true
  | _ => false
theorem all_split {L : List Jvm.Cond} {P : Jvm.Cond → Bool} (h1 : L.all (fun c => isCode c || P c) = true) (h2 : ∀ c ∈ L.filter isCode, P c = true) : L.all P = true := by
  refine List.all_eq_true.mpr fun c hc => ?_
  have h := List.all_eq_true.mp h1 c hc
  rcases Bool.eq_false_or_eq_true (isCode c) with hi | hi
  · exact h2 c (List.mem_filter.mpr ⟨hc, hi⟩)
  · simpa [hi] using h
set_option maxRecDepth 65536 in
theorem w_c0 : (Jvm.Cond.code x code maxLocals ret).before args0 about1 = true := code_word (m := ⟨1, 3⟩) (meth := k1m3) (c := k1c3) (by decide +kernel) rfl rfl rfl (by decide +kernel)
set_option maxRecDepth 65536 in
theorem w_c1 : (Jvm.Cond.code ({ cls := "com/example/protocols_under_attack/protocolsunderattack/term/VariableEqualsPinLaw", name := "str", desc := "(ICC)Ljava/lang/String;" } : Jvm.MethodName) method_3_code (3 : Nat) (Option.some (Jvm.ClassFile.FieldType.object "java/lang/String"))).before args0 about1 = true := code_word (m := ⟨1, 2⟩) (meth := k1m2) (c := k1c2) (by decide +kernel) rfl rfl rfl (by decide +kernel)
set_option maxRecDepth 65536 in
theorem w_c2 : (Jvm.Cond.code ({ cls := "java/lang/String", name := "<init>", desc := "([C)V" } : Jvm.MethodName) jdk_42_method_3_code (2 : Nat) (Option.none : Option Jvm.ClassFile.FieldType)).before args0 about1 = true := code_word (m := ⟨10, 1⟩) (meth := k10m1) (c := k10c1) (by decide +kernel) rfl rfl rfl (by decide +kernel)
set_option maxRecDepth 65536 in
theorem w_c3 : (Jvm.Cond.code ({ cls := "java/lang/String", name := "<init>", desc := "([CIILjava/lang/Void;)V" } : Jvm.MethodName) jdk_42_method_149_code (6 : Nat) (Option.none : Option Jvm.ClassFile.FieldType)).before args0 about1 = true := code_word (m := ⟨10, 3⟩) (meth := k10m3) (c := k10c3) (by decide +kernel) rfl rfl rfl (by decide +kernel)
set_option maxRecDepth 65536 in
theorem w_c4 : (Jvm.Cond.code ({ cls := "java/lang/Object", name := "<init>", desc := "()V" } : Jvm.MethodName) object_method_1_code (1 : Nat) (Option.none : Option Jvm.ClassFile.FieldType)).before args0 about1 = true := code_word (m := ⟨0, 0⟩) (meth := k0m0) (c := k0c0) (by decide +kernel) rfl rfl rfl (by decide +kernel)
set_option maxRecDepth 65536 in
theorem w_c5 : (Jvm.Cond.code ({ cls := "com/example/protocols_under_attack/protocolsunderattack/term/VariableEqualsPinLaw", name := "type", desc := "(I)Lcom/example/protocols_under_attack/protocolsunderattack/term/Type;" } : Jvm.MethodName) method_2_code (1 : Nat) (Option.some (Jvm.ClassFile.FieldType.object "com/example/protocols_under_attack/protocolsunderattack/term/Type"))).before args0 about1 = true := code_word (m := ⟨1, 1⟩) (meth := k1m1) (c := k1c1) (by decide +kernel) rfl rfl rfl (by decide +kernel)
set_option maxRecDepth 65536 in
theorem w_c6 : (Jvm.Cond.code ({ cls := "com/example/protocols_under_attack/protocolsunderattack/term/Variable", name := "<init>", desc := "(Ljava/lang/String;Lcom/example/protocols_under_attack/protocolsunderattack/term/Type;I)V" } : Jvm.MethodName) prog_106_method_1_code (4 : Nat) (Option.none : Option Jvm.ClassFile.FieldType)).before args0 about1 = true := code_word (m := ⟨4, 0⟩) (meth := k4m0) (c := k4c0) (by decide +kernel) rfl rfl rfl (by decide +kernel)
set_option maxRecDepth 65536 in
theorem w_c7 : (Jvm.Cond.code ({ cls := "java/lang/Record", name := "<init>", desc := "()V" } : Jvm.MethodName) jdk_30_method_1_code (1 : Nat) (Option.none : Option Jvm.ClassFile.FieldType)).before args0 about1 = true := code_word (m := ⟨2, 0⟩) (meth := k2m0) (c := k2c0) (by decide +kernel) rfl rfl rfl (by decide +kernel)
set_option maxRecDepth 65536 in
theorem w_c8 : (Jvm.Cond.code ({ cls := "java/util/Objects", name := "requireNonNull", desc := "(Ljava/lang/Object;Ljava/lang/String;)Ljava/lang/Object;" } : Jvm.MethodName) jdk_31_method_11_code (2 : Nat) (Option.some (Jvm.ClassFile.FieldType.object "java/lang/Object"))).before args0 about1 = true := code_word (m := ⟨13, 1⟩) (meth := k13m1) (c := k13c1) (by decide +kernel) rfl rfl rfl (by decide +kernel)
set_option maxRecDepth 65536 in
theorem w_c9 : (Jvm.Cond.code ({ cls := "com/example/protocols_under_attack/protocolsunderattack/term/Variable", name := "equals", desc := "(Ljava/lang/Object;)Z" } : Jvm.MethodName) prog_106_method_3_code (3 : Nat) (Option.some Jvm.ClassFile.FieldType.boolean)).before args0 about1 = true := code_word (m := ⟨4, 1⟩) (meth := k4m1) (c := k4c1) (by decide +kernel) rfl rfl rfl (by decide +kernel)
set_option maxRecDepth 65536 in
theorem w_c10 : (Jvm.Cond.code ({ cls := "com/example/protocols_under_attack/protocolsunderattack/term/Atom", name := "<init>", desc := "(Ljava/lang/String;Lcom/example/protocols_under_attack/protocolsunderattack/term/Type;I)V" } : Jvm.MethodName) prog_98_method_1_code (4 : Nat) (Option.none : Option Jvm.ClassFile.FieldType)).before args0 about1 = true := code_word (m := ⟨14, 0⟩) (meth := k14m0) (c := k14c0) (by decide +kernel) rfl rfl rfl (by decide +kernel)
set_option maxRecDepth 65536 in
theorem w_c11 : (Jvm.Cond.code ({ cls := "java/lang/String", name := "equals", desc := "(Ljava/lang/Object;)Z" } : Jvm.MethodName) jdk_42_method_66_code (3 : Nat) (Option.some Jvm.ClassFile.FieldType.boolean)).before args0 about1 = true := code_word (m := ⟨10, 2⟩) (meth := k10m2) (c := k10c2) (by decide +kernel) rfl rfl rfl (by decide +kernel)
set_option maxRecDepth 65536 in
theorem w_c12 : (Jvm.Cond.code ({ cls := "java/lang/StringLatin1", name := "equals", desc := "([B[B)Z" } : Jvm.MethodName) jdk_43_method_13_code (3 : Nat) (Option.some Jvm.ClassFile.FieldType.boolean)).before args0 about1 = true := code_word (m := ⟨15, 1⟩) (meth := k15m1) (c := k15c1) (by decide +kernel) rfl rfl rfl (by decide +kernel)
set_option maxRecDepth 65536 in
theorem w_c13 : (Jvm.Cond.code ({ cls := "java/lang/StringUTF16", name := "compress", desc := "([CII)[B" } : Jvm.MethodName) jdk_52_method_16_code (6 : Nat) (Option.some (Jvm.ClassFile.FieldType.array Jvm.ClassFile.FieldType.byte))).before args0 about1 = true := code_word (m := ⟨16, 2⟩) (meth := k16m2) (c := k16c2) (by decide +kernel) rfl rfl rfl (by decide +kernel)
set_option maxRecDepth 65536 in
theorem w_c14 : (Jvm.Cond.code ({ cls := "java/lang/StringUTF16", name := "compress", desc := "([CI[BII)I" } : Jvm.MethodName) jdk_52_method_21_code (7 : Nat) (Option.some Jvm.ClassFile.FieldType.int)).before args0 about1 = true := code_word (m := ⟨16, 3⟩) (meth := k16m3) (c := k16c3) (by decide +kernel) rfl rfl rfl (by decide +kernel)
set_option maxRecDepth 65536 in
theorem w_c15 : (Jvm.Cond.code ({ cls := "java/lang/StringUTF16", name := "coderFromArrayLen", desc := "([BI)B" } : Jvm.MethodName) jdk_52_method_15_code (2 : Nat) (Option.some Jvm.ClassFile.FieldType.byte)).before args0 about1 = true := code_word (m := ⟨16, 1⟩) (meth := k16m1) (c := k16c1) (by decide +kernel) rfl rfl rfl (by decide +kernel)
def codes1 : List Jvm.Cond := [Jvm.Cond.code x code maxLocals ret, Jvm.Cond.code ({ cls := "com/example/protocols_under_attack/protocolsunderattack/term/VariableEqualsPinLaw", name := "str", desc := "(ICC)Ljava/lang/String;" } : Jvm.MethodName) method_3_code (3 : Nat) (Option.some (Jvm.ClassFile.FieldType.object "java/lang/String")), Jvm.Cond.code ({ cls := "java/lang/String", name := "<init>", desc := "([C)V" } : Jvm.MethodName) jdk_42_method_3_code (2 : Nat) (Option.none : Option Jvm.ClassFile.FieldType), Jvm.Cond.code ({ cls := "java/lang/String", name := "<init>", desc := "([CIILjava/lang/Void;)V" } : Jvm.MethodName) jdk_42_method_149_code (6 : Nat) (Option.none : Option Jvm.ClassFile.FieldType), Jvm.Cond.code ({ cls := "java/lang/Object", name := "<init>", desc := "()V" } : Jvm.MethodName) object_method_1_code (1 : Nat) (Option.none : Option Jvm.ClassFile.FieldType), Jvm.Cond.code ({ cls := "com/example/protocols_under_attack/protocolsunderattack/term/VariableEqualsPinLaw", name := "type", desc := "(I)Lcom/example/protocols_under_attack/protocolsunderattack/term/Type;" } : Jvm.MethodName) method_2_code (1 : Nat) (Option.some (Jvm.ClassFile.FieldType.object "com/example/protocols_under_attack/protocolsunderattack/term/Type")), Jvm.Cond.code ({ cls := "com/example/protocols_under_attack/protocolsunderattack/term/Variable", name := "<init>", desc := "(Ljava/lang/String;Lcom/example/protocols_under_attack/protocolsunderattack/term/Type;I)V" } : Jvm.MethodName) prog_106_method_1_code (4 : Nat) (Option.none : Option Jvm.ClassFile.FieldType), Jvm.Cond.code ({ cls := "java/lang/Record", name := "<init>", desc := "()V" } : Jvm.MethodName) jdk_30_method_1_code (1 : Nat) (Option.none : Option Jvm.ClassFile.FieldType), Jvm.Cond.code ({ cls := "java/util/Objects", name := "requireNonNull", desc := "(Ljava/lang/Object;Ljava/lang/String;)Ljava/lang/Object;" } : Jvm.MethodName) jdk_31_method_11_code (2 : Nat) (Option.some (Jvm.ClassFile.FieldType.object "java/lang/Object")), Jvm.Cond.code ({ cls := "com/example/protocols_under_attack/protocolsunderattack/term/Variable", name := "equals", desc := "(Ljava/lang/Object;)Z" } : Jvm.MethodName) prog_106_method_3_code (3 : Nat) (Option.some Jvm.ClassFile.FieldType.boolean), Jvm.Cond.code ({ cls := "com/example/protocols_under_attack/protocolsunderattack/term/Atom", name := "<init>", desc := "(Ljava/lang/String;Lcom/example/protocols_under_attack/protocolsunderattack/term/Type;I)V" } : Jvm.MethodName) prog_98_method_1_code (4 : Nat) (Option.none : Option Jvm.ClassFile.FieldType), Jvm.Cond.code ({ cls := "java/lang/String", name := "equals", desc := "(Ljava/lang/Object;)Z" } : Jvm.MethodName) jdk_42_method_66_code (3 : Nat) (Option.some Jvm.ClassFile.FieldType.boolean), Jvm.Cond.code ({ cls := "java/lang/StringLatin1", name := "equals", desc := "([B[B)Z" } : Jvm.MethodName) jdk_43_method_13_code (3 : Nat) (Option.some Jvm.ClassFile.FieldType.boolean), Jvm.Cond.code ({ cls := "java/lang/StringUTF16", name := "compress", desc := "([CII)[B" } : Jvm.MethodName) jdk_52_method_16_code (6 : Nat) (Option.some (Jvm.ClassFile.FieldType.array Jvm.ClassFile.FieldType.byte)), Jvm.Cond.code ({ cls := "java/lang/StringUTF16", name := "compress", desc := "([CI[BII)I" } : Jvm.MethodName) jdk_52_method_21_code (7 : Nat) (Option.some Jvm.ClassFile.FieldType.int), Jvm.Cond.code ({ cls := "java/lang/StringUTF16", name := "coderFromArrayLen", desc := "([BI)B" } : Jvm.MethodName) jdk_52_method_15_code (2 : Nat) (Option.some Jvm.ClassFile.FieldType.byte)]
set_option maxRecDepth 65536 in
theorem codes_eq : words1.filter isCode = codes1 := rfl
theorem w_codes : ∀ c ∈ words1.filter isCode, c.before args0 about1 = true := by
  rw [codes_eq]
  intro c hc
  simp only [codes1, List.mem_cons, List.not_mem_nil, or_false] at hc
  rcases hc with rfl | rfl | rfl | rfl | rfl | rfl | rfl | rfl | rfl | rfl | rfl | rfl | rfl | rfl | rfl | rfl
  · exact w_c0
  · exact w_c1
  · exact w_c2
  · exact w_c3
  · exact w_c4
  · exact w_c5
  · exact w_c6
  · exact w_c7
  · exact w_c8
  · exact w_c9
  · exact w_c10
  · exact w_c11
  · exact w_c12
  · exact w_c13
  · exact w_c14
  · exact w_c15
set_option maxRecDepth 65536 in
theorem w_t1 : (words1.take 24).all (fun c => isCode c || c.before args0 about1) = true := by decide +kernel
set_option maxRecDepth 65536 in
theorem w_t2 : ((words1.drop 24).take 24).all (fun c => isCode c || c.before args0 about1) = true := by decide +kernel
set_option maxRecDepth 65536 in
theorem w_t3 : (((words1.drop 24).drop 24).take 24).all (fun c => isCode c || c.before args0 about1) = true := by decide +kernel
set_option maxRecDepth 65536 in
theorem w_t4 : ((((words1.drop 24).drop 24).drop 24).take 24).all (fun c => isCode c || c.before args0 about1) = true := by decide +kernel
set_option maxRecDepth 65536 in
theorem w_t5 : (((((words1.drop 24).drop 24).drop 24).drop 24).take 24).all (fun c => isCode c || c.before args0 about1) = true := by decide +kernel
set_option maxRecDepth 65536 in
theorem w_t6 : (((((words1.drop 24).drop 24).drop 24).drop 24).drop 24).all (fun c => isCode c || c.before args0 about1) = true := by decide +kernel
theorem w_tables : (allAtoms (Jvm.Cond.code x code maxLocals ret :: tables_1)).before args0 about1 = true := by
  rw [allAtoms_all]
  show words1.all (fun c => c.before args0 about1) = true
  refine all_split ?_ w_codes
  rw [← List.take_append_drop 24 words1, List.all_append, w_t1, ← List.take_append_drop 24 (words1.drop 24), List.all_append, w_t2, ← List.take_append_drop 24 ((words1.drop 24).drop 24), List.all_append, w_t3, ← List.take_append_drop 24 (((words1.drop 24).drop 24).drop 24), List.all_append, w_t4, ← List.take_append_drop 24 ((((words1.drop 24).drop 24).drop 24).drop 24), List.all_append, w_t5, w_t6]
  rfl
set_option maxRecDepth 65536 in
theorem w_rest : rest_1_c.before args0 about1 = true := by decide +kernel
set_option maxRecDepth 65536 in
theorem w_case : (Jvm.Cond.and given_1 narrow_1).before args0 about1 = true := by decide +kernel
set_option maxRecDepth 65536 in
theorem w_consts : constsHeld consts_1 about1 := Jvm.Lit.constsHeldB_iff.mp (by decide +kernel)
theorem w_applies : (headSpec (Jvm.Cond.code x code maxLocals ret :: tables_1) room_1).applies x e0.platform about1 = true :=
  (Spec.applies_iff w_frames).mpr ⟨w_running, w_runnable, w_alone, w_named, w_hears, w_ripe, w_room, w_tables⟩
theorem atStart : AtStart classFile x code maxLocals ret World_1 tables_1 room_1 Calls_1 rest_1 Pre_1 launch0 p0 e0 about1 theMethod args0 below0 :=
  ⟨lists_1, trivial, launch0.admits_env _ _ _, launch0.least_env, fairChoices_fair.cas, fairChoices_fair.clock, w_frames, w_args, w_heap, w_applies, ⟨w_consts, trivial⟩, w_rest, w_case⟩
end start1
theorem witness_1 : WitnessClaimed_1 := ⟨start1.p0, start1.e0, start1.about1, start1.theMethod, start1.args0, start1.below0, start1.atStart⟩
end Jvm.Pilot.@@N@@
