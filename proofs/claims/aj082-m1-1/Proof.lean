import JvmDerived
import JvmDerived.Pilot.@@N@@Statement
import JvmDerived.Pilot.@@N@@Code
set_option linter.unusedVariables false
set_option linter.unusedSimpArgs false
/- laws to paste: Road.backV, Road.lenW, Road.chN, Road.codOf (cut by pick.py; bodies as the Statement names them) -/
namespace Jvm.Pilot.@@N@@
namespace StrChars
open Jvm Sem ClassFile Op Lib Jvm.Stand Jvm.Free.XT Jvm.Free.ALB Jvm.Free.JM Jvm.Free
open Jvm.Lib.Cold (StaticIs)
/-- a char array whose places are chars -/
def Ch (a : Addr) (A : Cell) (U : State) : Prop := Arr .char a A U ∧ Typed .char A
theorem Ch.mv {a : Addr} {A : Cell} {U U' : State} (h : Ch a A U) (hal : U.vm.Alike U'.vm) (hh : U'.heap = U.heap) : Ch a A U' := ⟨h.1.mv hal hh, h.2⟩
theorem Ch.keep {a : Addr} {A : Cell} {U U' : State} (h : Ch a A U) (hal : U.vm.Alike U'.vm) (hk : U'.heap[a]? = some A) : Ch a A U' := ⟨h.1.keep hal hk, h.2⟩
/-- what place i of a char[]'s cell holds -/
def cv (A : Cell) (i : Nat) : Int32 := match A.slots[i]? with | some (.int x) => x | _ => 0
theorem Ch.get {a : Addr} {A : Cell} {U : State} (h : Ch a A U) {i : Nat} (hi : i < A.slots.size) : A.slots[i]? = some (.int (cv A i)) := by
  have e := Array.getElem?_eq_getElem hi
  have f := h.2 i _ e
  unfold cv; rw [e]
  generalize A.slots[i] = v at f
  cases v <;> simp [fits] at f ⊢
/-- the byte that i2b leaves of a char -/
def lo8 (x : Int32) : Int32 := x.toInt8.toInt32
theorem fits_lo8 (y : Int32) : fits .byte (.int (lo8 y)) = true := by
  have h1 := y.toInt8.le_toInt
  have h2 := y.toInt8.toInt_lt
  simp only [lo8, fits, Bool.and_eq_true, decide_eq_true_eq, Int32.le_iff_toInt_le, Int8.toInt_toInt32, show (-128 : Int32).toInt = -128 from by decide, show (127 : Int32).toInt = 127 from by decide]
  omega
/-- A' is A but that each place j of lo .. hi - 1 holds f j -/
def Laid (A A' : Cell) (lo hi : Nat) (f : Nat → Value) : Prop := A'.cls = A.cls ∧ A'.vm = A.vm ∧ A'.slots.size = A.slots.size ∧ ∀ i, A'.slots[i]? = if lo ≤ i ∧ i < hi then some (f i) else A.slots[i]?
theorem Laid.zero (A : Cell) (lo : Nat) (f : Nat → Value) : Laid A A lo (lo + 0) f := ⟨rfl, rfl, rfl, fun i => by rw [if_neg (by omega)]⟩
theorem Laid.step {A Ak : Cell} {lo k : Nat} {f : Nat → Value} {v : Value} (h : Laid A Ak lo k f) (hlo : lo ≤ k) (hk : k < Ak.slots.size) (hv : v = f k) : Laid A (Ak.setSlot k v) lo (k + 1) f := by
  refine ⟨h.1, h.2.1, by simpa [Cell.setSlot] using h.2.2.1, fun i => ?_⟩
  by_cases e : k = i
  · subst e; rw [Cell.slots_setSlot_self v hk, if_pos (by omega), hv]
  · rw [Cell.slots_setSlot_ne v e, h.2.2.2 i]
    by_cases q : lo ≤ i ∧ i < k
    · rw [if_pos q, if_pos (by omega)]
    · rw [if_neg q, if_neg (by omega)]
def U16 : String := "java/lang/StringUTF16"
namespace Cmp5
def yN : MethodName := ⟨"java/lang/StringUTF16", "compress", "([CI[BII)I"⟩
abbrev yB : ByteArray := jdk_52_method_21_code
theorem d0 : decode yB 0 = .ok (.iconst 0, 1) := by decide +kernel
theorem d1 : decode yB 1 = .ok (.istore 5, 2) := by decide +kernel
theorem d3 : decode yB 3 = .ok (.iload 5, 2) := by decide +kernel
theorem d5 : decode yB 5 = .ok (.iload 4, 2) := by decide +kernel
theorem d7 : decode yB 7 = .ok (.if_icmp (.ge) 37, 3) := by decide +kernel
theorem d10 : decode yB 10 = .ok (.aload_n 0, 1) := by decide +kernel
theorem d11 : decode yB 11 = .ok (.iload_n 1, 1) := by decide +kernel
theorem d12 : decode yB 12 = .ok (.caload, 1) := by decide +kernel
theorem d13 : decode yB 13 = .ok (.istore 6, 2) := by decide +kernel
theorem d15 : decode yB 15 = .ok (.iload 6, 2) := by decide +kernel
theorem d17 : decode yB 17 = .ok (.sipush 255, 3) := by decide +kernel
theorem d20 : decode yB 20 = .ok (.if_icmp (.le) 6, 3) := by decide +kernel
theorem d26 : decode yB 26 = .ok (.aload_n 2, 1) := by decide +kernel
theorem d27 : decode yB 27 = .ok (.iload_n 3, 1) := by decide +kernel
theorem d28 : decode yB 28 = .ok (.iload 6, 2) := by decide +kernel
theorem d30 : decode yB 30 = .ok (.i2b, 1) := by decide +kernel
theorem d31 : decode yB 31 = .ok (.bastore, 1) := by decide +kernel
theorem d32 : decode yB 32 = .ok (.iinc 1 1, 3) := by decide +kernel
theorem d35 : decode yB 35 = .ok (.iinc 3 1, 3) := by decide +kernel
theorem d38 : decode yB 38 = .ok (.iinc 5 1, 3) := by decide +kernel
theorem d41 : decode yB 41 = .ok (.goto (-38), 3) := by decide +kernel
theorem d44 : decode yB 44 = .ok (.iload 4, 2) := by decide +kernel
theorem d46 : decode yB 46 = .ok (.ireturn, 1) := by decide +kernel
def site : List Cond := []
def tab : Cond := tabOf yN yB 7 (some .int) site
def P (b : Addr) (A : Cell) (d : Addr) (B : Cell) (o q len : Nat) (args : Array Value) (s : State) : Prop := args = #[.ref b, .int (Int32.ofNat o), .ref d, .int (Int32.ofNat q), .int (Int32.ofNat len)] ∧ Ch b A s ∧ Arr .byte d B s ∧ b ≠ d ∧ o + len ≤ A.slots.size ∧ q + len ≤ B.slots.size ∧ ∀ i, i < len → ¬ 255 < cv A (o + i)
def E (b : Addr) (A : Cell) (d : Addr) (B : Cell) (o q len : Nat) (r : Option Value) (s u : State) : Prop := r = some (.int (Int32.ofNat len)) ∧ ∃ B', Put d B' s u ∧ Laid B B' q (q + len) (fun j => Value.int (lo8 (cv A (o + (j - q)))))
/-- no char of the range above 255: len; the places written hold each char's low byte -/
theorem law (l : Launch) (b : Addr) (A : Cell) (d : Addr) (B : Cell) (o q len : Nat) : Law l yN 5 5 0 0 yB 7 (some .int) site (P b A d B o q len) (E b A d B o q len) (copyLocs d q len) 0 0 := by
  refine Law.of_walk (plainFor_of_name (by decide +kernel)) (by decide +kernel) (by decide +kernel) (by decide) (fun _ _ h => by rw [h.1]; rfl) (fun _ U U' hal hh h => ⟨h.1, h.2.1.mv hal hh, h.2.2.1.mv hal hh, h.2.2.2⟩) (fun r U U' V V' h1 hal h2 h => ⟨h.1, h.2.elim fun B' q => ⟨B', q.1.mv h1 h2, q.2⟩⟩) ?_
  intro p e s m args below meth c s₁ X0 hexec hbytes hml hret hlk hnm hown hh0 W hP
  obtain ⟨rfl, hA, hB, hne, l1, l2, hp⟩ := hP
  have c1 : Steps p.tables e below (s₁.setTop (entryFrame m #[.ref b, .int (Int32.ofNat o), .ref d, .int (Int32.ofNat q), .int (Int32.ofNat len)] 7)) (s₁.setTop (mkF m 0 #[.val (.ref b), .val (.int (Int32.ofNat o)), .val (.ref d), .val (.int (Int32.ofNat q)), .val (.int (Int32.ofNat len)), .unset, .unset] [])) := entry rfl
  have hA0 := hA.1.mv X0.warmed.alike hh0
  have hB0 := hB.mv X0.warmed.alike hh0
  have a31 := hA.1.2.2.2
  have c2 : Steps p.tables e below (s₁.setTop (entryFrame m #[.ref b, .int (Int32.ofNat o), .ref d, .int (Int32.ofNat q), .int (Int32.ofNat len)] 7)) (s₁.setTop (mkF m 3 #[.val (.ref b), .val (.int (Int32.ofNat o)), .val (.ref d), .val (.int (Int32.ofNat q)), .val (.int (Int32.ofNat len)), .val (.int 0), .unset] [])) := c1.trans (by
    refine iconstV X0.here hexec rfl 0 (hb hbytes d0) (by decide) ?_
    refine XS.istore X0.here hexec rfl (hb hbytes d1) rfl rfl ?_
    exact Steps.refl _)
  have loop : ∀ (r i : Nat), i + r = len → ∀ (z : Slot), (z = .unset ∨ ∃ w, z = .val w ∧ w.category = 1) → ∀ (Tl : State) (Bk : Cell), Stand p l e { frames := 0, locals := 0, cells := 0, slots := 0 } s m #[.ref b, .int (Int32.ofNat o), .ref d, .int (Int32.ofNat q), .int (Int32.ofNat len)] below meth c Tl ([] ++ copyLocs d q i) 0 0 → Put d Bk s₁ Tl → Laid B Bk q (q + i) (fun j => Value.int (lo8 (cv A (o + (j - q))))) →
      Steps p.tables e below (s₁.setTop (entryFrame m #[.ref b, .int (Int32.ofNat o), .ref d, .int (Int32.ofNat q), .int (Int32.ofNat len)] 7)) (Tl.setTop (mkF m 3 #[.val (.ref b), .val (.int (Int32.ofNat (o + i))), .val (.ref d), .val (.int (Int32.ofNat (q + i))), .val (.int (Int32.ofNat len)), .val (.int (Int32.ofNat i)), z] [])) → ∃ (T' : State) (B' : Cell) (z' : Slot), Stand p l e { frames := 0, locals := 0, cells := 0, slots := 0 } s m #[.ref b, .int (Int32.ofNat o), .ref d, .int (Int32.ofNat q), .int (Int32.ofNat len)] below meth c T' ([] ++ copyLocs d q len) 0 0 ∧ Put d B' s₁ T' ∧ Laid B B' q (q + len) (fun j => Value.int (lo8 (cv A (o + (j - q))))) ∧
      Steps p.tables e below (s₁.setTop (entryFrame m #[.ref b, .int (Int32.ofNat o), .ref d, .int (Int32.ofNat q), .int (Int32.ofNat len)] 7)) (T'.setTop (mkF m 3 #[.val (.ref b), .val (.int (Int32.ofNat (o + len))), .val (.ref d), .val (.int (Int32.ofNat (q + len))), .val (.int (Int32.ofNat len)), .val (.int (Int32.ofNat len)), z'] [])) := by
    intro r
    induction r with
    | zero =>
      intro i hi z hz Tl Bk Xl pl fl cl
      have hil : i = len := by omega
      rw [hil] at Xl fl cl
      exact ⟨Tl, Bk, z, Xl, pl, fl, cl⟩
    | succ r ih =>
      intro i hi z hz Tl Bk Xl pl fl cl
      have all := X0.warmed.alike.symm.trans Xl.warmed.alike
      have hAl := hA0.keep all (pl.other hne hA0.1)
      have hBk := hB0.like all pl.1 fl.1 fl.2.1 fl.2.2.1
      have hlt : q + i < Bk.slots.size := by rw [fl.2.2.1]; omega
      have c3 : Steps p.tables e below (s₁.setTop (entryFrame m #[.ref b, .int (Int32.ofNat o), .ref d, .int (Int32.ofNat q), .int (Int32.ofNat len)] 7)) (Tl.setTop (mkF m 12 #[.val (.ref b), .val (.int (Int32.ofNat (o + i))), .val (.ref d), .val (.int (Int32.ofNat (q + i))), .val (.int (Int32.ofNat len)), .val (.int (Int32.ofNat i)), z] [.int (Int32.ofNat (o + i)), .ref b])) := cl.trans (by
        refine XS.iload Xl.here hexec rfl (hb hbytes d3) rfl ?_
        refine XS.iload Xl.here hexec rfl (hb hbytes d5) rfl ?_
        refine XS.icmpNo Xl.here hexec rfl (hb hbytes d7) rfl (ii_ge_f (lt32 (by omega) (by omega))) ?_
        refine XS.aloadN Xl.here hexec rfl (hb hbytes d10) rfl rfl ?_
        refine XS.iloadN Xl.here hexec rfl (hb hbytes d11) rfl ?_
        exact Steps.refl _)
      have c4 : Steps p.tables e below (s₁.setTop (entryFrame m #[.ref b, .int (Int32.ofNat o), .ref d, .int (Int32.ofNat q), .int (Int32.ofNat len)] 7)) (Tl.setTop (mkF m 13 #[.val (.ref b), .val (.int (Int32.ofNat (o + i))), .val (.ref d), .val (.int (Int32.ofNat (q + i))), .val (.int (Int32.ofNat len)), .val (.int (Int32.ofNat i)), z] [.int (cv A (o + i))])) := c3.trans (by
        refine Xl.aget hexec hAl rfl (hA.get (i := o + i) (by omega)) rfl rfl (hb hbytes d12) ?_
        exact Steps.refl _)
      have c5 : Steps p.tables e below (s₁.setTop (entryFrame m #[.ref b, .int (Int32.ofNat o), .ref d, .int (Int32.ofNat q), .int (Int32.ofNat len)] 7)) (Tl.setTop (mkF m 15 #[.val (.ref b), .val (.int (Int32.ofNat (o + i))), .val (.ref d), .val (.int (Int32.ofNat (q + i))), .val (.int (Int32.ofNat len)), .val (.int (Int32.ofNat i)), .val (.int (cv A (o + i)))] [])) := c4.trans (by
        refine XS.istoreS Xl.here hexec rfl (hb hbytes d13) rfl rfl hz ?_
        exact Steps.refl _)
      have c6 : Steps p.tables e below (s₁.setTop (entryFrame m #[.ref b, .int (Int32.ofNat o), .ref d, .int (Int32.ofNat q), .int (Int32.ofNat len)] 7)) (Tl.setTop (mkF m 31 #[.val (.ref b), .val (.int (Int32.ofNat (o + i))), .val (.ref d), .val (.int (Int32.ofNat (q + i))), .val (.int (Int32.ofNat len)), .val (.int (Int32.ofNat i)), .val (.int (cv A (o + i)))] [.int (lo8 (cv A (o + i))), .int (Int32.ofNat (q + i)), .ref d])) := c5.trans (by
        refine XS.iload Xl.here hexec rfl (hb hbytes d15) rfl ?_
        refine sipushV Xl.here hexec rfl 255 (hb hbytes d17) (by decide) ?_
        refine XS.icmpYes Xl.here hexec rfl (pc0 := 20) rfl (hb hbytes d20) rfl (ii_le_t (hp i (by omega))) (by decide) rfl ?_
        refine XS.aloadN Xl.here hexec rfl (hb hbytes d26) rfl rfl ?_
        refine XS.iloadN Xl.here hexec rfl (hb hbytes d27) rfl ?_
        refine XS.iload Xl.here hexec rfl (hb hbytes d28) rfl ?_
        refine i2b Xl.here hexec rfl (hb hbytes d30) rfl ?_
        exact Steps.refl _)
      obtain ⟨T7, X7, p7, st7⟩ := Xl.aput hexec hBk rfl hlt rfl (fits_lo8 (cv A (o + i))) (g := (mkF m 31 #[.val (.ref b), .val (.int (Int32.ofNat (o + i))), .val (.ref d), .val (.int (Int32.ofNat (q + i))), .val (.int (Int32.ofNat len)), .val (.int (Int32.ofNat i)), .val (.int (cv A (o + i)))] [.int (lo8 (cv A (o + i))), .int (Int32.ofNat (q + i)), .ref d])) rfl (rest := []) rfl (hb hbytes d31)
      have c8 : Steps p.tables e below (s₁.setTop (entryFrame m #[.ref b, .int (Int32.ofNat o), .ref d, .int (Int32.ofNat q), .int (Int32.ofNat len)] 7)) (T7.setTop (mkF m 32 #[.val (.ref b), .val (.int (Int32.ofNat (o + i))), .val (.ref d), .val (.int (Int32.ofNat (q + i))), .val (.int (Int32.ofNat len)), .val (.int (Int32.ofNat i)), .val (.int (cv A (o + i)))] [])) := c6.trans (st7 _ (Steps.refl _))
      have c9 : Steps p.tables e below (s₁.setTop (entryFrame m #[.ref b, .int (Int32.ofNat o), .ref d, .int (Int32.ofNat q), .int (Int32.ofNat len)] 7)) (T7.setTop (mkF m 3 #[.val (.ref b), .val (.int (Int32.ofNat (o + i) + 1)), .val (.ref d), .val (.int (Int32.ofNat (q + i) + 1)), .val (.int (Int32.ofNat len)), .val (.int (Int32.ofNat i + 1)), .val (.int (cv A (o + i)))] [])) := c8.trans (by
        refine iincV X7.here hexec rfl 1 (hb hbytes d32) (by decide) rfl rfl ?_
        refine iincV X7.here hexec rfl 1 (hb hbytes d35) (by decide) rfl rfl ?_
        refine iincV X7.here hexec rfl 1 (hb hbytes d38) (by decide) rfl rfl ?_
        refine XS.goto X7.here hexec rfl (pc0 := 41) rfl (hb hbytes d41) (by decide) rfl ?_
        exact Steps.refl _)
      have c10 : Steps p.tables e below (s₁.setTop (entryFrame m #[.ref b, .int (Int32.ofNat o), .ref d, .int (Int32.ofNat q), .int (Int32.ofNat len)] 7)) (T7.setTop (mkF m 3 #[.val (.ref b), .val (.int (Int32.ofNat (o + (i + 1)))), .val (.ref d), .val (.int (Int32.ofNat (q + (i + 1)))), .val (.int (Int32.ofNat len)), .val (.int (Int32.ofNat (i + 1))), .val (.int (cv A (o + i)))] [])) := by
        have := c9
        rw [succ32, succ32, succ32] at this
        exact this
      exact ih (i + 1) (by omega) _ (Or.inr ⟨_, rfl, rfl⟩) T7 _ (by rw [copyLocs_step, ← List.append_assoc]; exact X7) (pl.trans p7) (fl.step (by omega) hlt (by simp)) c10
  obtain ⟨T9, B9, z9, X9, p9, f9, g9⟩ := loop len 0 (by omega) .unset (Or.inl rfl) s₁ B (by simpa [copyLocs] using X0) ⟨hB0.1, fun _ _ => rfl, rfl⟩ (Laid.zero _ _ _) c2
  have c11 : Steps p.tables e below (s₁.setTop (entryFrame m #[.ref b, .int (Int32.ofNat o), .ref d, .int (Int32.ofNat q), .int (Int32.ofNat len)] 7)) (T9.setTop (mkF m 46 #[.val (.ref b), .val (.int (Int32.ofNat (o + len))), .val (.ref d), .val (.int (Int32.ofNat (q + len))), .val (.int (Int32.ofNat len)), .val (.int (Int32.ofNat len)), z9] [.int (Int32.ofNat len)])) := g9.trans (by
    refine XS.iload X9.here hexec rfl (hb hbytes d3) rfl ?_
    refine XS.iload X9.here hexec rfl (hb hbytes d5) rfl ?_
    refine XS.icmpYes X9.here hexec rfl (pc0 := 7) rfl (hb hbytes d7) rfl (ii_ge_t (nlt32 (by omega) (Nat.le_refl _))) (by decide) rfl ?_
    refine XS.iload X9.here hexec rfl (hb hbytes d44) rfl ?_
    exact Steps.refl _)
  exact ⟨T9, some (.int (Int32.ofNat len)), _, _, _, X9, by simp, rfl, rfl, (fun h => by cases h), ⟨rfl, B9, p9.from hh0, f9⟩, fun fs hl => c11.trans (X9.ireturnOut hexec hret rfl (Or.inl rfl) (hb hbytes d46) hl)⟩
end Cmp5
namespace Cmp3
def yN : MethodName := ⟨"java/lang/StringUTF16", "compress", "([CII)[B"⟩
abbrev yB : ByteArray := jdk_52_method_16_code
theorem d0 : decode yB 0 = .ok (.iload_n 2, 1) := by decide +kernel
theorem d1 : decode yB 1 = .ok (.newarray .byte, 2) := by decide +kernel
theorem d3 : decode yB 3 = .ok (.astore_n 3, 1) := by decide +kernel
theorem d4 : decode yB 4 = .ok (.aload_n 0, 1) := by decide +kernel
theorem d5 : decode yB 5 = .ok (.iload_n 1, 1) := by decide +kernel
theorem d6 : decode yB 6 = .ok (.aload_n 3, 1) := by decide +kernel
theorem d7 : decode yB 7 = .ok (.iconst 0, 1) := by decide +kernel
theorem d8 : decode yB 8 = .ok (.iload_n 2, 1) := by decide +kernel
theorem d9 : decode yB 9 = .ok (.invokestatic 115, 3) := by decide +kernel
theorem d12 : decode yB 12 = .ok (.istore 4, 2) := by decide +kernel
theorem d14 : decode yB 14 = .ok (.iload 4, 2) := by decide +kernel
theorem d16 : decode yB 16 = .ok (.iload_n 2, 1) := by decide +kernel
theorem d17 : decode yB 17 = .ok (.if_icmp (.eq) 40, 3) := by decide +kernel
theorem d57 : decode yB 57 = .ok (.aload_n 3, 1) := by decide +kernel
theorem d58 : decode yB 58 = .ok (.areturn, 1) := by decide +kernel
def site : List Cond := [.arrayClass .byte, Cmp5.tab] ++ staticW U16 115 Cmp5.yN
def tab : Cond := tabOf yN yB 6 (some (.array .byte)) site
def P (b : Addr) (A : Cell) (o len : Nat) (args : Array Value) (s : State) : Prop := args = #[.ref b, .int (Int32.ofNat o), .int (Int32.ofNat len)] ∧ Ch b A s ∧ o + len ≤ A.slots.size ∧ len ≤ 536870912 ∧ ∀ i, i < len → ¬ 255 < cv A (o + i)
def E (b : Addr) (A : Cell) (o len : Nat) (r : Option Value) (s u : State) : Prop := NewArr .byte "[B" len (fun j => .int (lo8 (cv A (o + j)))) r s u ∧ u.heap.size = s.heap.size + 1
/-- no char of the range above 255: a new byte[] of their low bytes -/
theorem law (l : Launch) (b : Addr) (A : Cell) (o len : Nat) : Law l yN 3 3 1 18 yB 6 (some (.array .byte)) site (P b A o len) (E b A o len) [] 1 len := by
  refine Law.of_walk (plainFor_of_name (by decide +kernel)) (by decide +kernel) (by decide +kernel) (by decide) (fun _ _ h => by rw [h.1]; rfl) (fun _ U U' hal hh h => ⟨h.1, h.2.1.mv hal hh, h.2.2⟩) (fun r U U' V V' h1 hal h2 h => ⟨NewArr.mv r U U' V V' h1 hal h2 h.1, by rw [h1, h2]; exact h.2⟩) ?_
  intro p e s m args below meth c s₁ X0 hexec hbytes hml hret hlk hnm hown hh0 W hP
  obtain ⟨rfl, hA, l1, l2, hp⟩ := hP
  have a31 := hA.1.2.2.2
  have c1 : Steps p.tables e below (s₁.setTop (entryFrame m #[.ref b, .int (Int32.ofNat o), .int (Int32.ofNat len)] 6)) (s₁.setTop (mkF m 0 #[.val (.ref b), .val (.int (Int32.ofNat o)), .val (.int (Int32.ofNat len)), .unset, .unset, .unset] [])) := entry rfl
  have c2 : Steps p.tables e below (s₁.setTop (entryFrame m #[.ref b, .int (Int32.ofNat o), .int (Int32.ofNat len)] 6)) (s₁.setTop (mkF m 1 #[.val (.ref b), .val (.int (Int32.ofNat o)), .val (.int (Int32.ofNat len)), .unset, .unset, .unset] [.int (Int32.ofNat len)])) := c1.trans (by
    refine XS.iloadN X0.here hexec rfl (hb hbytes d0) rfl ?_
    exact Steps.refl _)
  obtain ⟨T3, B3, X3, ba3, bs3, bv3, bh3, bf3, st3⟩ := X0.anew hexec (atype := .byte) (wk W (.arrayClass .byte)) rfl (by show len * 1 ≤ _; omega) (by omega) (g := (mkF m 1 #[.val (.ref b), .val (.int (Int32.ofNat o)), .val (.int (Int32.ofNat len)), .unset, .unset, .unset] [.int (Int32.ofNat len)])) rfl (hb hbytes d1) (rest := []) rfl (Nat.le_refl _) (by show 0 + len ≤ len; omega)
  rw [hh0] at ba3 st3
  have kp3 : XT.Kept s T3 := (XT.Kept.of_eq hh0).push bh3
  have hA3 := hA.keep X3.warmed.alike (kp3 _ _ hA.1.1)
  have hne : b ≠ s.heap.size := hA.1.ne
  have c4 : Steps p.tables e below (s₁.setTop (entryFrame m #[.ref b, .int (Int32.ofNat o), .int (Int32.ofNat len)] 6)) (T3.setTop (mkF m 3 #[.val (.ref b), .val (.int (Int32.ofNat o)), .val (.int (Int32.ofNat len)), .unset, .unset, .unset] [.ref s.heap.size])) := c2.trans (st3 _ (Steps.refl _))
  have c5 : Steps p.tables e below (s₁.setTop (entryFrame m #[.ref b, .int (Int32.ofNat o), .int (Int32.ofNat len)] 6)) (T3.setTop (mkF m 9 #[.val (.ref b), .val (.int (Int32.ofNat o)), .val (.int (Int32.ofNat len)), .val (.ref s.heap.size), .unset, .unset] [.int (Int32.ofNat len), .int 0, .ref s.heap.size, .int (Int32.ofNat o), .ref b])) := c4.trans (by
    refine XS.astoreN X3.here hexec rfl (hb hbytes d3) rfl rfl rfl ?_
    refine XS.aloadN X3.here hexec rfl (hb hbytes d4) rfl rfl ?_
    refine XS.iloadN X3.here hexec rfl (hb hbytes d5) rfl ?_
    refine XS.aloadN X3.here hexec rfl (hb hbytes d6) rfl rfl ?_
    refine iconstV X3.here hexec rfl 0 (hb hbytes d7) (by decide) ?_
    refine XS.iloadN X3.here hexec rfl (hb hbytes d8) rfl ?_
    exact Steps.refl _)
  obtain ⟨v6, T6, X6, E6, g6⟩ := X3.callS hexec (Cmp5.law l b A s.heap.size B3 o 0 len) hown (wks W (staticW U16 115 Cmp5.yN)) (wk W Cmp5.tab) (W := 0) (Nat.le_of_ble_eq_true rfl) (Nat.le_of_ble_eq_true rfl) (Nat.le_refl _) (by show 0 + len + 0 ≤ len; omega) (g := (mkF m 9 #[.val (.ref b), .val (.int (Int32.ofNat o)), .val (.int (Int32.ofNat len)), .val (.ref s.heap.size), .unset, .unset] [.int (Int32.ofNat len), .int (Int32.ofNat 0), .ref s.heap.size, .int (Int32.ofNat o), .ref b])) rfl (by rw [hml]; rfl) c5 (argsL := [.ref b, .int (Int32.ofNat o), .ref s.heap.size, .int (Int32.ofNat 0), .int (Int32.ofNat len)]) (rest := []) rfl rfl (by show 2 * 0 + 0 ≤ _; decide) (hb hbytes d9) (⟨rfl, hA3, ba3, hne, l1, by rw [bs3]; simp, hp⟩)
  obtain ⟨rfl, B6, p6, f6⟩ := E6
  have c7 : Steps p.tables e below (s₁.setTop (entryFrame m #[.ref b, .int (Int32.ofNat o), .int (Int32.ofNat len)] 6)) (T6.setTop (mkF m 12 #[.val (.ref b), .val (.int (Int32.ofNat o)), .val (.int (Int32.ofNat len)), .val (.ref s.heap.size), .unset, .unset] [.int (Int32.ofNat len)])) := g6
  have c8 : Steps p.tables e below (s₁.setTop (entryFrame m #[.ref b, .int (Int32.ofNat o), .int (Int32.ofNat len)] 6)) (T6.setTop (mkF m 58 #[.val (.ref b), .val (.int (Int32.ofNat o)), .val (.int (Int32.ofNat len)), .val (.ref s.heap.size), .val (.int (Int32.ofNat len)), .unset] [.ref s.heap.size])) := c7.trans (by
    refine XS.istore X6.here hexec rfl (hb hbytes d12) rfl rfl ?_
    refine XS.iload X6.here hexec rfl (hb hbytes d14) rfl ?_
    refine XS.iloadN X6.here hexec rfl (hb hbytes d16) rfl ?_
    refine XS.icmpYes X6.here hexec rfl (pc0 := 17) rfl (hb hbytes d17) rfl (ii_eq_t rfl) (by decide) rfl ?_
    refine XS.aloadN X6.here hexec rfl (hb hbytes d57) rfl rfl ?_
    exact Steps.refl _)
  have X8 := X6.wide (L' := []) (cells' := 1) (slots' := len) (fun x hx hlt => by
    simp only [List.nil_append, copyLocs, List.mem_map, List.mem_range] at hx
    obtain ⟨i, -, rfl⟩ := hx
    exact absurd hlt (Nat.lt_irrefl _)) (Nat.le_refl _) (by omega)
  exact ⟨T6, some (.ref s.heap.size), _, _, _, X8, rfl, rfl, rfl, (fun h => by cases h), ⟨⟨rfl, B6, ba3.like (X3.warmed.alike.symm.trans X6.warmed.alike) p6.1 f6.1 f6.2.1 f6.2.2.1, f6.2.1.trans bv3, by rw [X6.warmed.alike.findClass, f6.1]; exact bf3, by rw [f6.2.2.1, bs3]; simp, fun j hj => by rw [f6.2.2.2 j, if_pos (by omega)]; rfl, kp3.put p6 (Nat.le_refl _)⟩, by rw [p6.2.2, bh3, hh0]; simp⟩, fun fs hl => c8.trans (X8.areturnOut hexec rfl hret rfl (hb hbytes d58) hl)⟩
end Cmp3
namespace CodL
def yN : MethodName := ⟨"java/lang/StringUTF16", "coderFromArrayLen", "([BI)B"⟩
abbrev yB : ByteArray := jdk_52_method_15_code
theorem d0 : decode yB 0 = .ok (.iload_n 1, 1) := by decide +kernel
theorem d1 : decode yB 1 = .ok (.aload_n 0, 1) := by decide +kernel
theorem d2 : decode yB 2 = .ok (.arraylength, 1) := by decide +kernel
theorem d3 : decode yB 3 = .ok (.isub, 1) := by decide +kernel
theorem d4 : decode yB 4 = .ok (.bipush 31, 2) := by decide +kernel
theorem d6 : decode yB 6 = .ok (.iushr, 1) := by decide +kernel
theorem d7 : decode yB 7 = .ok (.i2b, 1) := by decide +kernel
theorem d8 : decode yB 8 = .ok (.ireturn, 1) := by decide +kernel
def site : List Cond := []
def tab : Cond := tabOf yN yB 2 (some .byte) site
def P (d : Addr) (B : Cell) (args : Array Value) (s : State) : Prop := args = #[.ref d, .int (Int32.ofNat B.slots.size)] ∧ Arr .byte d B s
def E (r : Option Value) (s u : State) : Prop := XT.PureE (some (.int 0)) r s u
/-- an array as long as the number of chars: LATIN1 -/
theorem law (l : Launch) (d : Addr) (B : Cell) : Law l yN 2 2 0 0 yB 2 (some .byte) site (P d B) E [] 0 0 := by
  refine Law.of_walk (plainFor_of_name (by decide +kernel)) (by decide +kernel) (by decide +kernel) (by decide) (fun _ _ h => by rw [h.1]; rfl) (fun _ U U' hal hh h => ⟨h.1, h.2.mv hal hh⟩) (fun r U U' V V' h1 hal h2 h => XT.PureE.mv r U U' V V' h1 hal h2 h) ?_
  intro p e s m args below meth c s₁ X0 hexec hbytes hml hret hlk hnm hown hh0 W hP
  obtain ⟨rfl, hB⟩ := hP
  have hB0 := hB.mv X0.warmed.alike hh0
  have c1 : Steps p.tables e below (s₁.setTop (entryFrame m #[.ref d, .int (Int32.ofNat B.slots.size)] 2)) (s₁.setTop (mkF m 0 #[.val (.ref d), .val (.int (Int32.ofNat B.slots.size))] [])) := entry rfl
  have c2 : Steps p.tables e below (s₁.setTop (entryFrame m #[.ref d, .int (Int32.ofNat B.slots.size)] 2)) (s₁.setTop (mkF m 2 #[.val (.ref d), .val (.int (Int32.ofNat B.slots.size))] [.ref d, .int (Int32.ofNat B.slots.size)])) := c1.trans (by
    refine XS.iloadN X0.here hexec rfl (hb hbytes d0) rfl ?_
    refine XS.aloadN X0.here hexec rfl (hb hbytes d1) rfl rfl ?_
    exact Steps.refl _)
  have c3 : Steps p.tables e below (s₁.setTop (entryFrame m #[.ref d, .int (Int32.ofNat B.slots.size)] 2)) (s₁.setTop (mkF m 8 #[.val (.ref d), .val (.int (Int32.ofNat B.slots.size))] [.int (lo8 (ushr (Int32.ofNat B.slots.size - Int32.ofNat B.slots.size) 31))])) := c2.trans (by
    refine X0.alen hexec hB0 rfl rfl (hb hbytes d2) ?_
    refine XS.isub X0.here hexec rfl (hb hbytes d3) rfl ?_
    refine bipushV X0.here hexec rfl 31 (hb hbytes d4) (by decide) ?_
    refine iushr X0.here hexec rfl (hb hbytes d6) rfl ?_
    refine i2b X0.here hexec rfl (hb hbytes d7) rfl ?_
    exact Steps.refl _)
  have e0 : lo8 (ushr (Int32.ofNat B.slots.size - Int32.ofNat B.slots.size) 31) = 0 := by rw [Int32.sub_self]; decide
  rw [e0] at c3
  exact ⟨s₁, some (.int 0), _, _, _, X0, rfl, rfl, rfl, (fun h => by cases h), ⟨rfl, hh0⟩, fun fs hl => c3.trans (X0.ireturnOut hexec hret rfl (Or.inr (Or.inr (Or.inl rfl))) (hb hbytes d8) hl)⟩
end CodL
/-- the String at a is Latin-1 over a new byte[] (the heap's one new cell): the low bytes of the len chars of A from o on; every cell but a is kept -/
def Got (a : Addr) (D : Cell) (fV fC : Field) (A : Cell) (o len : Nat) (r : Option Value) (s u : State) : Prop := r = none ∧ ∃ D' V : Cell, Blank "java/lang/String" a D' u ∧ Same D D' [fV.slot, fC.slot] ∧ D'.slots[fV.slot]? = some (.ref s.heap.size) ∧ D'.slots[fC.slot]? = some (.int 0) ∧ Arr .byte s.heap.size V u ∧ V.vm = .none ∧ u.vm.findClass "[B" = some V.cls ∧ V.slots.size = len ∧ (∀ j, j < len → V.slots[j]? = some (.int (lo8 (cv A (o + j))))) ∧ (∀ (y : Addr) (c : Cell), y ≠ a → s.heap[y]? = some c → u.heap[y]? = some c) ∧ u.heap.size = s.heap.size + 1
theorem Got.mv {a : Addr} {D A : Cell} {fV fC : Field} {o len : Nat} : ∀ r (U U' V V' : State), U'.heap = U.heap → V.vm.Alike V'.vm → V'.heap = V.heap → Got a D fV fC A o len r U V → Got a D fV fC A o len r U' V' :=
  fun r U U' V V' h1 hal h2 ⟨e0, D', X, a1, a2, a3, a4, a5, a6, a7, a8, a9, a10, a11⟩ => ⟨e0, D', X, a1.mv hal h2, a2, by rw [h1]; exact a3, a4, by rw [h1]; exact a5.mv hal h2, a6, by rw [hal.findClass]; exact a7, a8, a9, by rw [h1, h2]; exact a10, by rw [h1, h2]; exact a11⟩
namespace New4
def yN : MethodName := ⟨"java/lang/String", "<init>", "([CIILjava/lang/Void;)V"⟩
abbrev yB : ByteArray := jdk_42_method_149_code
theorem d0 : decode yB 0 = .ok (.aload_n 0, 1) := by decide +kernel
theorem d1 : decode yB 1 = .ok (.invokespecial 1, 3) := by decide +kernel
theorem d4 : decode yB 4 = .ok (.iload_n 3, 1) := by decide +kernel
theorem d5 : decode yB 5 = .ok (.ifCond (.ne) 22, 3) := by decide +kernel
theorem d27 : decode yB 27 = .ok (.getstatic 38, 3) := by decide +kernel
theorem d30 : decode yB 30 = .ok (.ifCond (.eq) 28, 3) := by decide +kernel
theorem d33 : decode yB 33 = .ok (.aload_n 1, 1) := by decide +kernel
theorem d34 : decode yB 34 = .ok (.iload_n 2, 1) := by decide +kernel
theorem d35 : decode yB 35 = .ok (.iload_n 3, 1) := by decide +kernel
theorem d36 : decode yB 36 = .ok (.invokestatic 177, 3) := by decide +kernel
theorem d39 : decode yB 39 = .ok (.astore 5, 2) := by decide +kernel
theorem d41 : decode yB 41 = .ok (.aload_n 0, 1) := by decide +kernel
theorem d42 : decode yB 42 = .ok (.aload 5, 2) := by decide +kernel
theorem d44 : decode yB 44 = .ok (.iload_n 3, 1) := by decide +kernel
theorem d45 : decode yB 45 = .ok (.invokestatic 47, 3) := by decide +kernel
theorem d48 : decode yB 48 = .ok (.putfield 15, 3) := by decide +kernel
theorem d51 : decode yB 51 = .ok (.aload_n 0, 1) := by decide +kernel
theorem d52 : decode yB 52 = .ok (.aload 5, 2) := by decide +kernel
theorem d54 : decode yB 54 = .ok (.putfield 9, 3) := by decide +kernel
theorem d57 : decode yB 57 = .ok (.return_, 1) := by decide +kernel
def site : List Cond := [.fieldLink "java/lang/String" 38 "java/lang/String" "COMPACT_STRINGS" "Z", Cmp3.tab, CodL.tab, .laysFinal "java/lang/String" "java/lang/String" "value" "[B", .fieldLink "java/lang/String" 9 "java/lang/String" "value" "[B", .laysFinal "java/lang/String" "java/lang/String" "coder" "B", .fieldLink "java/lang/String" 15 "java/lang/String" "coder" "B"] ++ objW "java/lang/String" 1 ++ staticW "java/lang/String" 177 Cmp3.yN ++ staticW "java/lang/String" 47 CodL.yN
def tab : Cond := tabOf yN yB 6 none site
def P (a : Addr) (D : Cell) (fV fC : Field) (b : Addr) (A : Cell) (z : Int32) (o len : Nat) (args : Array Value) (s : State) : Prop := args = #[.ref a, .ref b, .int (Int32.ofNat o), .int (Int32.ofNat len), .null] ∧ Blank "java/lang/String" a D s ∧ Found "java/lang/String" "value" "[B" fV s ∧ Found "java/lang/String" "coder" "B" fC s ∧ Ch b A s ∧ StaticIs s "java/lang/String" "COMPACT_STRINGS" "Z" (.int z) ∧ ¬ z = 0 ∧ 0 < len ∧ o + len ≤ A.slots.size ∧ len ≤ 536870912 ∧ ∀ i, i < len → ¬ 255 < cv A (o + i)
def E (a : Addr) (D : Cell) (fV fC : Field) (A : Cell) (o len : Nat) (r : Option Value) (s u : State) : Prop := Got a D fV fC A o len r s u
/-- len > 0, no char of the range above 255: a Latin-1 String of their low bytes -/
theorem law (l : Launch) (a : Addr) (D : Cell) (fV fC : Field) (b : Addr) (A : Cell) (z : Int32) (o len : Nat) : Law l yN 5 4 2 35 yB 6 none site (P a D fV fC b A z o len) (E a D fV fC A o len) [⟨a, fC.slot⟩, ⟨a, fV.slot⟩] 1 len := by
  refine Law.of_walk (plainFor_of_name (by decide +kernel)) (by decide +kernel) (by decide +kernel) (by decide) (fun _ _ h => by rw [h.1]; rfl) (fun _ U U' hal hh h => ⟨h.1, h.2.1.mv hal hh, h.2.2.1.al hal, h.2.2.2.1.al hal, h.2.2.2.2.1.mv hal hh, h.2.2.2.2.2.1.there hal hh, h.2.2.2.2.2.2⟩) (fun r U U' V V' h1 hal h2 h => Got.mv r U U' V V' h1 hal h2 h) ?_
  intro p e s m args below meth c s₁ X0 hexec hbytes hml hret hlk hnm hown hh0 W hP
  obtain ⟨rfl, hB, f1, f2, hA, s1, hz, l0, l1, l2, hp⟩ := hP
  have a31 := hA.1.2.2.2
  have c1 : Steps p.tables e below (s₁.setTop (entryFrame m #[.ref a, .ref b, .int (Int32.ofNat o), .int (Int32.ofNat len), .null] 6)) (s₁.setTop (mkF m 0 #[.val (.ref a), .val (.ref b), .val (.int (Int32.ofNat o)), .val (.int (Int32.ofNat len)), .val .null, .unset] [])) := entry rfl
  have c2 : Steps p.tables e below (s₁.setTop (entryFrame m #[.ref a, .ref b, .int (Int32.ofNat o), .int (Int32.ofNat len), .null] 6)) (s₁.setTop (mkF m 1 #[.val (.ref a), .val (.ref b), .val (.int (Int32.ofNat o)), .val (.int (Int32.ofNat len)), .val .null, .unset] [.ref a])) := c1.trans (by
    refine XS.aloadN X0.here hexec rfl (hb hbytes d0) rfl rfl ?_
    exact Steps.refl _)
  obtain ⟨T3, X3, q3, st3⟩ := X0.oinit hexec hown (wks W (objW "java/lang/String" 1)) (g := (mkF m 1 #[.val (.ref a), .val (.ref b), .val (.int (Int32.ofNat o)), .val (.int (Int32.ofNat len)), .val .null, .unset] [.ref a])) rfl (by rw [hml]; rfl) (rest := []) rfl (hb hbytes d1) (W := 0) (by show 2 * 0 + 0 ≤ _; decide) (Nat.le_of_ble_eq_true rfl) (Nat.le_of_ble_eq_true rfl)
  have hh3 := q3.trans hh0
  have c4 : Steps p.tables e below (s₁.setTop (entryFrame m #[.ref a, .ref b, .int (Int32.ofNat o), .int (Int32.ofNat len), .null] 6)) (T3.setTop (mkF m 27 #[.val (.ref a), .val (.ref b), .val (.int (Int32.ofNat o)), .val (.int (Int32.ofNat len)), .val .null, .unset] [])) := (c2.trans (st3 _ (Steps.refl _))).trans (by
    refine XS.iloadN X3.here hexec rfl (hb hbytes d4) rfl ?_
    refine XS.ifYes X3.here hexec rfl (pc0 := 5) rfl (hb hbytes d5) rfl (i0_ne_t (nz32 (by omega) l0)) (by decide) rfl ?_
    exact Steps.refl _)
  obtain ⟨T5, X5, q5, st5⟩ := X3.sget hexec hown (wk W (.fieldLink "java/lang/String" 38 "java/lang/String" "COMPACT_STRINGS" "Z")) s1 (fun _ _ h => by rw [hh3]; exact h) (g := (mkF m 27 #[.val (.ref a), .val (.ref b), .val (.int (Int32.ofNat o)), .val (.int (Int32.ofNat len)), .val .null, .unset] [])) rfl (hb hbytes d27)
  have hh5 := q5.trans hh3
  have c6 : Steps p.tables e below (s₁.setTop (entryFrame m #[.ref a, .ref b, .int (Int32.ofNat o), .int (Int32.ofNat len), .null] 6)) (T5.setTop (mkF m 30 #[.val (.ref a), .val (.ref b), .val (.int (Int32.ofNat o)), .val (.int (Int32.ofNat len)), .val .null, .unset] [.int z])) := c4.trans (st5 _ (Steps.refl _))
  have c7 : Steps p.tables e below (s₁.setTop (entryFrame m #[.ref a, .ref b, .int (Int32.ofNat o), .int (Int32.ofNat len), .null] 6)) (T5.setTop (mkF m 36 #[.val (.ref a), .val (.ref b), .val (.int (Int32.ofNat o)), .val (.int (Int32.ofNat len)), .val .null, .unset] [.int (Int32.ofNat len), .int (Int32.ofNat o), .ref b])) := c6.trans (by
    refine XS.ifNo X5.here hexec rfl (hb hbytes d30) rfl (i0_eq_f hz) ?_
    refine XS.aloadN X5.here hexec rfl (hb hbytes d33) rfl rfl ?_
    refine XS.iloadN X5.here hexec rfl (hb hbytes d34) rfl ?_
    refine XS.iloadN X5.here hexec rfl (hb hbytes d35) rfl ?_
    exact Steps.refl _)
  obtain ⟨v8, T8, X8, E8, g8⟩ := X5.callS hexec (Cmp3.law l b A o len) hown (wks W (staticW "java/lang/String" 177 Cmp3.yN)) (wk W Cmp3.tab) (W := 0) (Nat.le_of_ble_eq_true rfl) (Nat.le_of_ble_eq_true rfl) (Nat.le_refl _) (by show 0 + len ≤ len; omega) (g := (mkF m 36 #[.val (.ref a), .val (.ref b), .val (.int (Int32.ofNat o)), .val (.int (Int32.ofNat len)), .val .null, .unset] [.int (Int32.ofNat len), .int (Int32.ofNat o), .ref b])) rfl (by rw [hml]; rfl) c7 (argsL := [.ref b, .int (Int32.ofNat o), .int (Int32.ofNat len)]) (rest := []) rfl rfl (by show 2 * 0 + 0 ≤ _; decide) (hb hbytes d36) (⟨rfl, hA.mv X5.warmed.alike hh5, l1, l2, hp⟩)
  obtain ⟨e8, z8⟩ := E8
  obtain ⟨rfl, N, n1, n2, n3, n4, n5, n6⟩ := NewArr.mv _ T5 s _ _ hh5.symm (Vm.Alike.refl _) rfl e8
  rw [hh5] at z8
  have hB1 := hB.keep X8.warmed.alike (n6 _ _ hB.1)
  have hne : s.heap.size ≠ a := (Nat.ne_of_lt (Array.getElem?_eq_some_iff.mp hB.1).1).symm
  have c9 : Steps p.tables e below (s₁.setTop (entryFrame m #[.ref a, .ref b, .int (Int32.ofNat o), .int (Int32.ofNat len), .null] 6)) (T8.setTop (mkF m 39 #[.val (.ref a), .val (.ref b), .val (.int (Int32.ofNat o)), .val (.int (Int32.ofNat len)), .val .null, .unset] [.ref s.heap.size])) := g8
  have c10 : Steps p.tables e below (s₁.setTop (entryFrame m #[.ref a, .ref b, .int (Int32.ofNat o), .int (Int32.ofNat len), .null] 6)) (T8.setTop (mkF m 45 #[.val (.ref a), .val (.ref b), .val (.int (Int32.ofNat o)), .val (.int (Int32.ofNat len)), .val .null, .val (.ref s.heap.size)] [.int (Int32.ofNat N.slots.size), .ref s.heap.size, .ref a])) := by
    have hc : Steps p.tables e below (s₁.setTop (entryFrame m #[.ref a, .ref b, .int (Int32.ofNat o), .int (Int32.ofNat len), .null] 6)) (T8.setTop (mkF m 45 #[.val (.ref a), .val (.ref b), .val (.int (Int32.ofNat o)), .val (.int (Int32.ofNat len)), .val .null, .val (.ref s.heap.size)] [.int (Int32.ofNat len), .ref s.heap.size, .ref a])) := c9.trans (by
      refine XS.astore X8.here hexec rfl (hb hbytes d39) rfl rfl rfl ?_
      refine XS.aloadN X8.here hexec rfl (hb hbytes d41) rfl rfl ?_
      refine XS.aload X8.here hexec rfl (hb hbytes d42) rfl rfl ?_
      refine XS.iloadN X8.here hexec rfl (hb hbytes d44) rfl ?_
      exact Steps.refl _)
    rw [n4]; exact hc
  obtain ⟨v11, T11, X11, E11, g11⟩ := X8.callS hexec (CodL.law l s.heap.size N) hown (wks W (staticW "java/lang/String" 47 CodL.yN)) (wk W CodL.tab) (W := 1) (Nat.le_of_ble_eq_true rfl) (Nat.le_of_ble_eq_true rfl) (Nat.le_refl _) (by show 0 + len + 0 ≤ len; omega) (g := (mkF m 45 #[.val (.ref a), .val (.ref b), .val (.int (Int32.ofNat o)), .val (.int (Int32.ofNat len)), .val .null, .val (.ref s.heap.size)] [.int (Int32.ofNat N.slots.size), .ref s.heap.size, .ref a])) rfl (by rw [hml]; rfl) c10 (argsL := [.ref s.heap.size, .int (Int32.ofNat N.slots.size)]) (rest := [.ref a]) rfl rfl (by show 2 * 0 + (1 + 0) ≤ _; decide) (hb hbytes d45) (⟨rfl, n1⟩)
  obtain ⟨rfl, q11⟩ := E11
  have hB11 := hB1.mv (X8.warmed.alike.symm.trans X11.warmed.alike) q11
  have c12 : Steps p.tables e below (s₁.setTop (entryFrame m #[.ref a, .ref b, .int (Int32.ofNat o), .int (Int32.ofNat len), .null] 6)) (T11.setTop (mkF m 48 #[.val (.ref a), .val (.ref b), .val (.int (Int32.ofNat o)), .val (.int (Int32.ofNat len)), .val .null, .val (.ref s.heap.size)] [.int 0, .ref a])) := g11
  obtain ⟨T13, X13, p13, bl13, sl13, st13⟩ := X11.finit hexec hown (wk W (.fieldLink "java/lang/String" 15 "java/lang/String" "coder" "B")) (Or.inr ⟨_, (wk W (.laysFinal "java/lang/String" "java/lang/String" "coder" "B"))⟩) (Or.inl ⟨rfl, hnm⟩) f2 (Or.inl rfl) hB11 (t := .byte) (by decide +kernel) rfl (g := (mkF m 48 #[.val (.ref a), .val (.ref b), .val (.int (Int32.ofNat o)), .val (.int (Int32.ofNat len)), .val .null, .val (.ref s.heap.size)] [.int 0, .ref a])) rfl (rest := []) rfl (hb hbytes d48)
  have c14 : Steps p.tables e below (s₁.setTop (entryFrame m #[.ref a, .ref b, .int (Int32.ofNat o), .int (Int32.ofNat len), .null] 6)) (T13.setTop (mkF m 54 #[.val (.ref a), .val (.ref b), .val (.int (Int32.ofNat o)), .val (.int (Int32.ofNat len)), .val .null, .val (.ref s.heap.size)] [.ref s.heap.size, .ref a])) := (c12.trans (st13 _ (Steps.refl _))).trans (by
    refine XS.aloadN X13.here hexec rfl (hb hbytes d51) rfl rfl ?_
    refine XS.aload X13.here hexec rfl (hb hbytes d52) rfl rfl ?_
    exact Steps.refl _)
  obtain ⟨T15, X15, p15, bl15, sl15, st15⟩ := X13.finit hexec hown (wk W (.fieldLink "java/lang/String" 9 "java/lang/String" "value" "[B")) (Or.inr ⟨_, (wk W (.laysFinal "java/lang/String" "java/lang/String" "value" "[B"))⟩) (Or.inl ⟨rfl, hnm⟩) f1 (Or.inl rfl) bl13 (t := (.array .byte)) (by decide +kernel) rfl (g := (mkF m 54 #[.val (.ref a), .val (.ref b), .val (.int (Int32.ofNat o)), .val (.int (Int32.ofNat len)), .val .null, .val (.ref s.heap.size)] [.ref s.heap.size, .ref a])) rfl (rest := []) rfl (hb hbytes d54)
  have c16 : Steps p.tables e below (s₁.setTop (entryFrame m #[.ref a, .ref b, .int (Int32.ofNat o), .int (Int32.ofNat len), .null] 6)) (T15.setTop (mkF m 57 #[.val (.ref a), .val (.ref b), .val (.int (Int32.ofNat o)), .val (.int (Int32.ofNat len)), .val .null, .val (.ref s.heap.size)] [])) := c14.trans (st15 _ (Steps.refl _))
  have ap := apart (Or.inr ⟨_, (wk W (.laysFinal "java/lang/String" "java/lang/String" "value" "[B"))⟩) (Or.inr ⟨_, (wk W (.laysFinal "java/lang/String" "java/lang/String" "coder" "B"))⟩) f1 f2 (t₁ := .array .byte) (t₂ := .byte) (by decide +kernel) (by decide +kernel) (by decide)
  have al := X8.warmed.alike.symm.trans X15.warmed.alike
  have n7 : T11.heap[s.heap.size]? = some N := by rw [q11]; exact n1.1
  exact ⟨T15, none, _, _, _, X15, by simp, rfl, by omega, (fun _ => rfl), ⟨rfl, _, N, bl15, ((Same.refl D _).set _ (by simp)).set _ (by simp), sl15, (Cell.slots_setSlot_ne _ ap).trans sl13, n1.keep al (p15.other hne (p13.other hne n7)), n2, by rw [al.findClass]; exact n3, n4, n5, fun y c h1 h2 => p15.other h1 (p13.other h1 (by rw [q11]; exact n6 y c h2)), by rw [p15.2.2, p13.2.2, q11]; exact z8⟩, fun fs hl => c16.trans (X15.returnOut hexec hret (hb hbytes d57) hl)⟩
end New4
namespace New1
def yN : MethodName := ⟨"java/lang/String", "<init>", "([C)V"⟩
abbrev yB : ByteArray := jdk_42_method_3_code
theorem d0 : decode yB 0 = .ok (.aload_n 0, 1) := by decide +kernel
theorem d1 : decode yB 1 = .ok (.aload_n 1, 1) := by decide +kernel
theorem d2 : decode yB 2 = .ok (.iconst 0, 1) := by decide +kernel
theorem d3 : decode yB 3 = .ok (.aload_n 1, 1) := by decide +kernel
theorem d4 : decode yB 4 = .ok (.arraylength, 1) := by decide +kernel
theorem d5 : decode yB 5 = .ok (.aconst_null, 1) := by decide +kernel
theorem d6 : decode yB 6 = .ok (.invokespecial 27, 3) := by decide +kernel
theorem d9 : decode yB 9 = .ok (.return_, 1) := by decide +kernel
def site : List Cond := [New4.tab] ++ initW "java/lang/String" 27 New4.yN
def tab : Cond := tabOf yN yB 2 none site
def P (a : Addr) (D : Cell) (fV fC : Field) (b : Addr) (A : Cell) (z : Int32) (args : Array Value) (s : State) : Prop := args = #[.ref a, .ref b] ∧ Blank "java/lang/String" a D s ∧ Found "java/lang/String" "value" "[B" fV s ∧ Found "java/lang/String" "coder" "B" fC s ∧ Ch b A s ∧ StaticIs s "java/lang/String" "COMPACT_STRINGS" "Z" (.int z) ∧ ¬ z = 0 ∧ 0 < A.slots.size ∧ A.slots.size ≤ 536870912 ∧ ∀ i, i < A.slots.size → ¬ 255 < cv A i
def E (a : Addr) (D : Cell) (fV fC : Field) (A : Cell) (r : Option Value) (s u : State) : Prop := Got a D fV fC A 0 A.slots.size r s u
/-- new String(chars), not empty, no char above 255: a Latin-1 String of their low bytes -/
theorem law (l : Launch) (a : Addr) (D : Cell) (fV fC : Field) (b : Addr) (A : Cell) (z : Int32) : Law l yN 2 1 3 52 yB 2 none site (P a D fV fC b A z) (E a D fV fC A) [⟨a, fC.slot⟩, ⟨a, fV.slot⟩] 1 A.slots.size := by
  refine Law.of_walk (plainFor_of_name (by decide +kernel)) (by decide +kernel) (by decide +kernel) (by decide) (fun _ _ h => by rw [h.1]; rfl) (fun _ U U' hal hh h => ⟨h.1, h.2.1.mv hal hh, h.2.2.1.al hal, h.2.2.2.1.al hal, h.2.2.2.2.1.mv hal hh, h.2.2.2.2.2.1.there hal hh, h.2.2.2.2.2.2⟩) (fun r U U' V V' h1 hal h2 h => Got.mv r U U' V V' h1 hal h2 h) ?_
  intro p e s m args below meth c s₁ X0 hexec hbytes hml hret hlk hnm hown hh0 W hP
  obtain ⟨rfl, hB, f1, f2, hA, s1, hz, l0, l2, hp⟩ := hP
  have c1 : Steps p.tables e below (s₁.setTop (entryFrame m #[.ref a, .ref b] 2)) (s₁.setTop (mkF m 0 #[.val (.ref a), .val (.ref b)] [])) := entry rfl
  have c2 : Steps p.tables e below (s₁.setTop (entryFrame m #[.ref a, .ref b] 2)) (s₁.setTop (mkF m 6 #[.val (.ref a), .val (.ref b)] [.null, .int (Int32.ofNat A.slots.size), .int 0, .ref b, .ref a])) := c1.trans (by
    refine XS.aloadN X0.here hexec rfl (hb hbytes d0) rfl rfl ?_
    refine XS.aloadN X0.here hexec rfl (hb hbytes d1) rfl rfl ?_
    refine iconstV X0.here hexec rfl 0 (hb hbytes d2) (by decide) ?_
    refine XS.aloadN X0.here hexec rfl (hb hbytes d3) rfl rfl ?_
    refine X0.alen hexec (hA.1.mv X0.warmed.alike hh0) rfl rfl (hb hbytes d4) ?_
    refine XS.aconstNull X0.here hexec rfl (hb hbytes d5) ?_
    exact Steps.refl _)
  obtain ⟨v3, T3, X3, E3, g3⟩ := X0.callN hexec (New4.law l a D fV fC b A z 0 A.slots.size) rfl hown (wks W (initW "java/lang/String" 27 New4.yN)) (W New4.tab (by simp only [site, List.mem_cons, List.mem_append, true_or, or_true])) (W := 0) (Nat.le_of_ble_eq_true rfl) (Nat.le_of_ble_eq_true rfl) (Nat.le_refl _) (by show 0 + A.slots.size ≤ A.slots.size; omega) (g := (mkF m 6 #[.val (.ref a), .val (.ref b)] [.null, .int (Int32.ofNat A.slots.size), .int (Int32.ofNat 0), .ref b, .ref a])) rfl (by rw [hml]; rfl) c2 (argsL := [.ref b, .int (Int32.ofNat 0), .int (Int32.ofNat A.slots.size), .null]) (rest := []) rfl rfl (by show 2 * 0 + 0 ≤ _; decide) (hb hbytes d6) (⟨rfl, hB.mv X0.warmed.alike hh0, f1.al X0.warmed.alike, f2.al X0.warmed.alike, hA.mv X0.warmed.alike hh0, s1.there X0.warmed.alike hh0, hz, l0, by omega, l2, fun i hi => by rw [Nat.zero_add]; exact hp i hi⟩)
  have e0 := Got.mv _ s₁ s _ _ hh0.symm (Vm.Alike.refl _) rfl E3
  obtain rfl := e0.1
  have c4 : Steps p.tables e below (s₁.setTop (entryFrame m #[.ref a, .ref b] 2)) (T3.setTop (mkF m 9 #[.val (.ref a), .val (.ref b)] [])) := g3
  exact ⟨T3, none, _, _, _, X3, by simp, rfl, by omega, (fun _ => rfl), e0, fun fs hl => c4.trans (X3.returnOut hexec hret (hb hbytes d9) hl)⟩
theorem pays {l : Launch} {R : Room} {p : Program} {e : Env} {below : List Frame} {s : State} {sargs : Array Value} {len W : Nat} (a : Addr) (D : Cell) (fV fC : Field) (b : Addr) (A : Cell) (z : Int32) (htab : tab.before sargs s = true) (hfr : 4 ≤ R.frames) (hlo : W + 65 ≤ R.locals) :
    Back l R p e below s sargs yN len W (fun A₁ a₁ => A₁.cells + 1 ≤ R.cells ∧ A₁.slots + A.slots.size ≤ R.slots ∧ P a D fV fC b A z a₁ A₁.U) (fun A₁ _ v₁ B₁ => E a D fV fC A v₁ A₁.U B₁.U ∧ B₁.locs = A₁.locs ++ [⟨a, fC.slot⟩, ⟨a, fV.slot⟩] ∧ B₁.cells = A₁.cells + 1 ∧ B₁.slots = A₁.slots + A.slots.size) :=
  (law l a D fV fC b A z).pays htab hfr (by omega)
end New1
/-- the byte, read back as charAt reads it, is the char -/
theorem lo8_mask {x : Int32} (h0 : ¬ x < 0) (h1 : ¬ 255 < x) : lo8 x &&& 255 = x := by
  have t : ∀ k : Fin 256, lo8 (Int32.ofNat k.val) &&& 255 = Int32.ofNat k.val := by decide +kernel
  rw [Int32.lt_iff_toInt_lt] at h0 h1
  have e0 : (0 : Int32).toInt = 0 := rfl
  have e1 : (255 : Int32).toInt = 255 := rfl
  obtain ⟨k, hk⟩ : ∃ k : Nat, x.toInt = k := ⟨x.toInt.toNat, by omega⟩
  have hx : x = Int32.ofNat k := Int32.toInt_inj.mp (by rw [hk, Int32.toInt_ofNat_small (by omega)])
  rw [hx]
  exact t ⟨k, by omega⟩
end StrChars
namespace StrChars.Road
open Jvm Sem ClassFile Op Lib Jvm.Stand Jvm.Free Jvm.Free.XT
open Jvm.Lib.Cold (StaticIs)
abbrev ST : String := "java/lang/String"
/-- every table word that New1's law asks, flat -/
abbrev words : List Jvm.Cond := [.code New1.yN New1.yB 2 none, .initialized ST, .methodLink ST 27 New4.yN, .instanceMethod New4.yN,
  .code New4.yN New4.yB 6 none, .fieldLink ST 38 ST "COMPACT_STRINGS" "Z", .laysFinal ST ST "value" "[B", .fieldLink ST 9 ST "value" "[B", .laysFinal ST ST "coder" "B", .fieldLink ST 15 ST "coder" "B",
  .methodLink ST 1 Lib.objectInit, .instanceMethod Lib.objectInit, .code Lib.objectInit ⟨#[0xb1]⟩ 1 none, .methodLink ST 177 Cmp3.yN, .static Cmp3.yN, .methodLink ST 47 CodL.yN, .static CodL.yN,
  .code Cmp3.yN Cmp3.yB 6 (some (.array .byte)), .initialized U16, .arrayClass .byte, .methodLink U16 115 Cmp5.yN, .static Cmp5.yN, .code Cmp5.yN Cmp5.yB 7 (some .int), .code CodL.yN CodL.yB 2 (some .byte)]
theorem tab_of {a : Array Value} {s : State} (h : ∀ w ∈ words, w.before a s = true) : New1.tab.before a s = true := by
  have h5 : Cmp5.tab.before a s = true := unparts (wk h (.code Cmp5.yN Cmp5.yB 7 (some .int))) (wks h (.initialized Cmp5.yN.cls :: Cmp5.site))
  have hc : CodL.tab.before a s = true := unparts (wk h (.code CodL.yN CodL.yB 2 (some .byte))) (wks h (.initialized CodL.yN.cls :: CodL.site))
  have q5 : ∀ w ∈ Cmp5.tab :: words, w.before a s = true := fun w hw => (List.mem_cons.mp hw).elim (fun e => e ▸ h5) (h w)
  have h3 : Cmp3.tab.before a s = true := unparts (wk q5 (.code Cmp3.yN Cmp3.yB 6 (some (.array .byte)))) (wks q5 (.initialized Cmp3.yN.cls :: Cmp3.site))
  have q3 : ∀ w ∈ Cmp3.tab :: CodL.tab :: words, w.before a s = true := fun w hw => (List.mem_cons.mp hw).elim (fun e => e ▸ h3) fun hw => (List.mem_cons.mp hw).elim (fun e => e ▸ hc) (h w)
  have h4 : New4.tab.before a s = true := unparts (wk q3 (.code New4.yN New4.yB 6 none)) (wks q3 (.initialized New4.yN.cls :: New4.site))
  have q4 : ∀ w ∈ New4.tab :: words, w.before a s = true := fun w hw => (List.mem_cons.mp hw).elim (fun e => e ▸ h4) (h w)
  exact unparts (wk q4 (.code New1.yN New1.yB 2 none)) (wks q4 (.initialized New1.yN.cls :: New1.site))
/-- the words ride from the start Z to the walk's own state -/
theorem moved {Z s : State} {a0 args : Array Value} (hZ : Z.Warmed39 s.vm) (hw : ∀ d ∈ words, d.before a0 Z = true) : ∀ d ∈ words, d.before args s = true := fun d hd => by
  have q := hw d hd
  have t : ∀ d ∈ words, d = .arrayClass .byte ∨ (d.onTables && d.keepsFace) = true := by decide +kernel
  rcases t d hd with rfl | t
  · exact RoadKit.mvA hZ q
  · exact RoadKit.mv hZ q t
/-- WHAT COMES BACK, over the tables of the start Z: h the heap at the call, h' behind it -/
def Q (Z : State) (x : Addr) (A : Cell) (h : Heap) (v : Option Value) (h' : Heap) (L : List Loc) : Prop := v = none ∧ (∀ y ∈ L, y.base = x) ∧ RoadKit.Keep h h' [x] ∧ h'.size = h.size + 1 ∧ RoadKit.Exa Z h' x ST ∧ RoadKit.Fld Z h' x ST "value" "[B" (.ref h.size) ∧ RoadKit.Fld Z h' x ST "coder" "B" (.int 0) ∧
  (∃ V : Cell, RoadKit.Arr Z h' h.size V .byte ∧ V.vm = .none ∧ Z.vm.findClass "[B" = some V.cls ∧ V.slots.size = A.slots.size ∧ ∀ j, j < A.slots.size → V.slots[j]? = some (.int (lo8 (cv A j)))) ∧
  ∀ (O n d : String) (w : Value), RoadKit.Fld Z h x O n d w → RoadKit.slotOf Z O n d ≠ RoadKit.slotOf Z ST "value" "[B" → RoadKit.slotOf Z O n d ≠ RoadKit.slotOf Z ST "coder" "B" → RoadKit.Fld Z h' x O n d w
/-- **new String(chars) AT A CALL, IN THE ROAD'S FORM**: for specialBack behind newO: x the fresh String, b the char[] with the cell A -/
theorem back {p : Program} {l : Launch} {e : Env} {R : Room} {s : State} {args : Array Value} {below : List Frame} {len W : Nat} {Z : State} {a0 : Array Value} {h : Heap} (hZ : Z.Warmed39 s.vm) (hw : ∀ d ∈ words, d.before a0 Z = true) {kI : Nat} (wi : (Jvm.Cond.instantiable ST kI).before a0 Z = true)
    {x b : Addr} {A : Cell} {z : Int32} {v0 c0 : Value} (E : RoadKit.Exa Z h x ST) (V : RoadKit.Fld Z h x ST "value" "[B" v0) (C : RoadKit.Fld Z h x ST "coder" "B" c0) (K : RoadKit.Arr Z h b A .char) (hty : Typed .char A) (S : RoadKit.Sta Z h ST "COMPACT_STRINGS" "Z" (.int z)) (hz : ¬ z = 0)
    (l0 : 0 < A.slots.size) (l2 : A.slots.size ≤ 536870912) (hp : ∀ i, i < A.slots.size → ¬ 255 < cv A i) (hfr : 4 ≤ R.frames) (hlo : W + 65 ≤ R.locals) :
    Back l R p e below s args New1.yN len W (fun P a => a = #[.ref x, .ref b] ∧ P.U.heap = h ∧ P.cells + 1 ≤ R.cells ∧ P.slots + A.slots.size ≤ R.slots)
      (fun P _ v B => ∃ L, Q Z x A h v B.U.heap L ∧ B.locs = P.locs ++ L ∧ B.cells = P.cells + 1 ∧ B.slots = P.slots + A.slots.size) := by
  intro m meth c P g ig mk a X hg hsize hdg hW hn hp'
  obtain ⟨rfl, rfl, r1, r2⟩ := hp'
  have al : Z.vm.Alike P.U.vm := hZ.alike.trans X.warmed.alike
  obtain ⟨D, cfV, kV, iV, fV, hD, gV, stV, knV, obV, asV, slV⟩ := id V
  obtain ⟨D', cfC, kC, iC, fC, hD', gC, stC, -, -, asC, slC⟩ := id C
  cases hD.symm.trans hD'
  obtain ⟨D2, kD, e1, e2, e3, e4, e5⟩ := id E
  cases hD.symm.trans e1
  obtain ⟨c2, k2, i1, i2, i3, -⟩ := Cond.instantiable_spec wi
  cases e2.symm.trans i1
  cases e3.symm.trans i2
  obtain ⟨kU, u1, u2⟩ := al.2.2 _ _ e3
  have hB : Blank ST x D P.U := ⟨hD, ⟨knV, fun q hq => by rw [hq] at obV; cases obV⟩, by rw [al.findClass]; exact e2, kU, u1, by rw [u2]; exact i3, by rw [u2]; exact e5 i3⟩
  have F1 : Found ST "value" "[B" fV P.U := ⟨SBG.found_only al ⟨cfV, kV, iV, gV⟩, stV⟩
  have F2 : Found ST "coder" "B" fC P.U := ⟨SBG.found_only al ⟨cfC, kC, iC, gC⟩, stC⟩
  have hA : Ch b A P.U := ⟨⟨K.1, State.isArrayOf_alike al K.2.1, K.2.2, by omega⟩, hty⟩
  have hS : StaticIs P.U ST "COMPACT_STRINGS" "Z" (.int z) := by
    obtain ⟨cfS, iS, kS, fS, st, cS, t1, t2, t3, t4, t5, t6, t7⟩ := S
    exact StaticIs.there (s := { Z with heap := P.U.heap }) ⟨cfS, iS, kS, fS, st, cS, t1, t2, t3, t4, t5, (fun q => by rw [q] at t6; cases t6), t7⟩ al rfl
  obtain ⟨v, B, X', ⟨⟨hv, E', V', q1, q2, q3, q4, q5, q6, q7, q8, q9, q10, q11⟩, hl, hc, hs⟩, st⟩ := New1.pays x D fV fC b A z (tab_of (moved hZ hw)) hfr hlo m meth c P g ig mk _ X hg hsize hdg hW hn ⟨r1, r2, rfl, hB, F1, F2, hA, hS, hz, l0, l2, hp⟩
  have al' : Z.vm.Alike B.U.vm := hZ.alike.trans X'.warmed.alike
  have hsz : E'.slots.size = D.slots.size := by
    obtain ⟨-, -, -, kB, w1, w2, w3⟩ := q1
    obtain ⟨kB', y1, y2⟩ := al'.2.2 _ _ e3
    rw [q2.2.1] at w1
    cases w1.symm.trans y1
    rw [w3, e5 i3, y2]
  refine ⟨v, B, X', ⟨_, ⟨hv, ?_, ⟨by omega, fun y cy hy hn' => q10 y cy (by simpa using hn') hy, fun y cy hy => ?_⟩, q11, ⟨E', _, q1.1, by rw [q2.2.1]; exact e2, by rw [q2.2.1]; exact e3, by rw [q2.1]; exact obV, fun _ => by rw [hsz]; exact e5 i3⟩,
    ⟨E', cfV, kV, iV, fV, q1.1, gV, stV, by rw [q2.1]; exact knV, by rw [q2.1]; exact obV, by rw [q2.2.1]; exact asV, q3⟩, ⟨E', cfC, kC, iC, fC, q1.1, gC, stC, by rw [q2.1]; exact knV, by rw [q2.1]; exact obV, by rw [q2.2.1]; exact asC, q4⟩,
    ⟨V', ⟨q5.1, State.isArrayOf_alike al'.symm q5.2.1, q5.2.2.1⟩, q6, by rw [← al'.findClass]; exact q7, q8, fun j hj => by have := q9 j hj; rwa [Nat.zero_add] at this⟩, fun O n d w F n1 n2 => ?_⟩, hl, hc, hs⟩, st⟩
  · intro y hy
    simp only [List.mem_cons, List.not_mem_nil, or_false] at hy
    rcases hy with rfl | rfl <;> rfl
  · by_cases q : y = x
    · subst q
      cases hD.symm.trans hy
      exact ⟨E', q1.1, q2.2.1, q2.1, hsz⟩
    · exact ⟨cy, q10 y cy q hy, rfl, rfl, rfl⟩
  · obtain ⟨D3, cf, k, i, f, g1, g2, g3, g4, g5, g6, g7⟩ := F
    cases hD.symm.trans g1
    simp only [RoadKit.slotOf, g2, gV, gC, Option.map_some, Option.getD_some] at n1 n2
    exact ⟨E', cf, k, i, f, q1.1, g2, g3, by rw [q2.1]; exact g4, by rw [q2.1]; exact g5, by rw [q2.2.1]; exact g6, by rw [q2.2.2 f.slot (by simp [n1, n2])]; exact g7⟩
end StrChars.Road
namespace StrChars.Road
open Jvm Sem ClassFile Op Lib Jvm.Stand Jvm.Free Jvm.Free.XT
/-- WHAT COMES BACK, the byte[] as a list of values -/
def QA (Z : State) (x : Addr) (zn : Int32) (cs : List Int32) (h : Heap) (v : Option Value) (h' : Heap) (L : List Loc) : Prop := v = none ∧ (∀ y ∈ L, y.base = x) ∧ RoadKit.Keep h h' [x] ∧ h'.size = h.size + 1 ∧ RoadKit.Exa Z h' x ST ∧ RoadKit.Fld Z h' x ST "value" "[B" (.ref h.size) ∧ RoadKit.Fld Z h' x ST "coder" "B" (.int 0) ∧
  (∃ kb, Z.vm.findClass "[B" = some kb ∧ RoadKit.Arv Z h' h.size kb .byte zn (cs.map fun c => .int (lo8 c)) (.int 0)) ∧
  ∀ (O n d : String) (w : Value), RoadKit.Fld Z h x O n d w → RoadKit.slotOf Z O n d ≠ RoadKit.slotOf Z ST "value" "[B" → RoadKit.slotOf Z O n d ≠ RoadKit.slotOf Z ST "coder" "B" → RoadKit.Fld Z h' x O n d w
/-- **new String(chars) AT A CALL, THE ARRAYS AS LISTS**: the char[] at b holds cs, not empty, no char above 255 -/
theorem backArv {p : Program} {l : Launch} {e : Env} {R : Room} {s : State} {args : Array Value} {below : List Frame} {len W : Nat} {Z : State} {a0 : Array Value} {h : Heap} (hZ : Z.Warmed39 s.vm) (hw : ∀ d ∈ words, d.before a0 Z = true) {kI : Nat} (wi : (Jvm.Cond.instantiable ST kI).before a0 Z = true)
    {x b : Addr} {k : ClassId} {zn z : Int32} {cs : List Int32} {dv v0 c0 : Value} (E : RoadKit.Exa Z h x ST) (V : RoadKit.Fld Z h x ST "value" "[B" v0) (C : RoadKit.Fld Z h x ST "coder" "B" c0) (K : RoadKit.Arv Z h b k .char zn (cs.map Value.int) dv) (S : RoadKit.Sta Z h ST "COMPACT_STRINGS" "Z" (.int z)) (hz : ¬ z = 0)
    (hlen : zn.toNatClampNeg = cs.length) (h0 : 0 < cs.length) (hbig : cs.length ≤ 536870912) (hall : ∀ c ∈ cs, ¬ 255 < c) (hfr : 4 ≤ R.frames) (hlo : W + 65 ≤ R.locals) :
    Back l R p e below s args New1.yN len W (fun P a => a = #[.ref x, .ref b] ∧ P.U.heap = h ∧ P.cells + 1 ≤ R.cells ∧ P.slots + cs.length ≤ R.slots)
      (fun P _ v B => ∃ L, QA Z x zn cs h v B.U.heap L ∧ B.locs = P.locs ++ L ∧ B.cells = P.cells + 1 ∧ B.slots = P.slots + cs.length) := by
  obtain ⟨A, K1, K2, K3, K4, K5, K6⟩ := K
  have e : A.slots.size = cs.length := K3.trans hlen
  have hat : ∀ (i : Nat) (hi : i < cs.length), A.slots[i]? = some (.int cs[i]) := fun i hi => by rw [K5 i (by omega)]; simp [List.getD_eq_getElem?_getD, hi]
  have hcv : ∀ (i : Nat) (hi : i < cs.length), cv A i = cs[i] := fun i hi => by unfold cv; rw [hat i hi]
  have hty : Typed .char A := fun i v hv => by
    have hi : i < A.slots.size := (Array.getElem?_eq_some_iff.mp hv).1
    have q := K5 i hi
    rw [hv] at q
    rw [Option.some.inj q]
    exact K6 i hi
  refine Back.mono (back hZ hw wi E V C K1 hty S hz (by omega) (by omega) (fun i hi => by rw [hcv i (by omega)]; exact hall _ (List.getElem_mem _)) hfr hlo) (fun P a hp => ⟨hp.1, hp.2.1, hp.2.2.1, by rw [e]; exact hp.2.2.2⟩) (fun P a v B hp hq => ?_)
  obtain ⟨L, ⟨q1, q2, q3, q4, q5, q6, q7, ⟨V', v1, v2, v3, v4, v5⟩, q9⟩, hl, hc, hs⟩ := hq
  refine ⟨L, ⟨q1, q2, q3, q4, q5, q6, q7, ⟨V'.cls, v3, V', v1, rfl, by rw [v4, e, hlen], K4, fun i hi => ?_, fun i hi => ?_⟩, q9⟩, hl, hc, by rw [hs, e]⟩
  · have hi' : i < cs.length := by omega
    rw [v5 i (by omega), hcv i hi']; simp [List.getD_eq_getElem?_getD, hi']
  · have hi' : i < cs.length := by omega
    simp only [List.getD_eq_getElem?_getD, List.getElem?_map, List.getElem?_eq_getElem hi', Option.map_some, Option.getD_some]
    exact fits_lo8 _
end StrChars.Road
namespace StrChars.Road
open Jvm Sem ClassFile Op Lib Jvm.Stand Jvm.Free Jvm.Free.XT
/-- WHAT COMES BACK, in the writer's own shape -/
def QV (Z : State) (x : Addr) (N : Int32) (bs : List Int32) (h : Heap) (n0 : Nat) (v : Option Value) (h' : Heap) (L : List Loc) : Prop := v = none ∧ RoadKit.Fr n0 L ∧ RoadKit.Keep h h' [x] ∧ RoadKit.Exa Z h' x ST ∧ RoadKit.Fld Z h' x ST "coder" "B" (.int 0) ∧
  ∃ (t : Addr) (kb : ClassId), n0 ≤ t ∧ h.size ≤ t ∧ ¬ t = x ∧ RoadKit.Fld Z h' x ST "value" "[B" (.ref t) ∧ RoadKit.Arv Z h' t kb .byte N (bs.map Value.int) (.int 0)
/-- **new String(chars) AT A CALL, FOR THE WRITER**: a char[] of n known ints, each 0 to 255 -/
theorem backV {p : Program} {l : Launch} {e : Env} {R : Room} {s : State} {args : Array Value} {below : List Frame} {len W : Nat} {Z : State} {a0 : Array Value} {h : Heap} (hZ : Z.Warmed39 s.vm) (hw : ∀ d ∈ words, d.before a0 Z = true) {kI : Nat} (wi : (Jvm.Cond.instantiable ST kI).before a0 Z = true)
    {x b : Addr} {kC : ClassId} {cs bs : List Int32} {d v0 c0 : Value} {z N : Int32} {n n0 : Nat} (hx0 : n0 ≤ x) (hh0 : n0 ≤ h.size) (E : RoadKit.Exa Z h x ST) (V : RoadKit.Fld Z h x ST "value" "[B" v0) (C : RoadKit.Fld Z h x ST "coder" "B" c0) (K : RoadKit.Arv Z h b kC .char N (cs.map Value.int) d) (S : RoadKit.Sta Z h ST "COMPACT_STRINGS" "Z" (.int z)) (hz : ¬ z = 0)
    (hn : cs.length = n) (hN : N = Int32.ofNat n) (l0 : 0 < n) (l2 : n ≤ 4000) (hp : ∀ c ∈ cs, ¬ c < 0 ∧ ¬ (255 : Int32) < c) (hb : bs = cs.map (fun c => c.toInt8.toInt32)) (hfr : 4 ≤ R.frames) (hlo : W + 65 ≤ R.locals) :
    Back l R p e below s args (⟨"java/lang/String", "<init>", "([C)V"⟩ : MethodName) len W (fun P a => a = #[.ref x, .ref b] ∧ P.U.heap = h ∧ P.cells + 1 ≤ R.cells ∧ P.slots + n ≤ R.slots)
      (fun P _ v B => ∃ L, QV Z x N bs h n0 v B.U.heap L ∧ B.locs = P.locs ++ L ∧ B.cells = P.cells + 1 ∧ B.slots = P.slots + n) := by
  subst hn hN hb
  refine Back.mono (backArv hZ hw wi E V C K S hz (n32 (by omega)) l0 (by omega) (fun c hc => (hp c hc).2) hfr hlo) (fun P a hp => hp) (fun P a v B hp hq => ?_)
  obtain ⟨L, ⟨q1, q2, q3, q4, q5, q6, q7, ⟨kb, v1, v2⟩, q9⟩, hl, hc, hs⟩ := hq
  exact ⟨L, ⟨q1, fun y hy => by rw [q2 y hy]; exact hx0, q3, q5, q7, h.size, kb, hh0, Nat.le_refl _, Nat.ne_of_gt E.lt, q6, by rw [List.map_map]; exact v2⟩, hl, hc, hs⟩
end StrChars.Road
namespace StrChars
open Jvm Sem ClassFile Op Lib Jvm.Stand Jvm.Free.XT Jvm.Free.ALB Jvm.Free.JM Jvm.Free
open Jvm.Lib.Cold (StaticIs)
def hi8 (x : Int32) : Int32 := lo8 (x >>> ((8 : Int32) &&& 31))
/-- what StringUTF16.getChar makes of two bytes -/
def pairCh (u v : Int32) : Int32 := (((u &&& 255) <<< ((0 : Int32) &&& 31)) ||| ((v &&& 255) <<< ((8 : Int32) &&& 31))).toUInt32.toUInt16.toUInt32.toInt32
theorem shr0 (c : Int32) : c >>> ((0 : Int32) &&& 31) = c := by
  have e : ((0 : Int32) &&& 31) = 0 := by decide
  rw [e]
  apply Int32.toBitVec_inj.mp
  rw [Int32.toBitVec_shiftRight]
  have e1 : ((0 : Int32).toBitVec.smod 32) = 0#32 := by decide
  rw [e1, BitVec.sshiftRight_eq']
  exact BitVec.sshiftRight_zero
theorem lo8_and (x : Int32) : (lo8 x &&& 255).toBitVec.toNat = x.toBitVec.toNat % 256 := by
  have h : (lo8 x).toBitVec = (x.toBitVec.signExtend 8).signExtend 32 := by rw [lo8, Int8.toBitVec_toInt32, Int32.toBitVec_toInt8]
  rw [Int32.toBitVec_and, BitVec.toNat_and, h]
  have e : ((x.toBitVec.signExtend 8).signExtend 32).toNat % 256 = x.toBitVec.toNat % 256 := by
    rw [BitVec.toNat_signExtend]
    have hlt := x.toBitVec.isLt
    simp only [BitVec.toNat_setWidth, BitVec.toNat_signExtend]
    split <;> split <;> omega
  rw [← e]
  exact Nat.and_two_pow_sub_one_eq_mod _ 8
theorem pair_says {c : Int32} (h0 : ¬ c < 0) (h1 : ¬ 65535 < c) : pairCh (lo8 c) (hi8 c) = c := by
  rw [Int32.lt_iff_toInt_lt] at h0 h1
  have e0 : (0 : Int32).toInt = 0 := rfl
  have e1 : (65535 : Int32).toInt = 65535 := rfl
  have hc : c.toInt = c.toBitVec.toNat := by
    have := c.toBitVec.isLt
    have e : c.toInt = c.toBitVec.toInt := rfl
    rw [e] at h0 h1
    rw [e]
    rw [BitVec.toInt_eq_toNat_cond] at h0 h1 ⊢
    split at h0 <;> split <;> omega
  have hn : c.toBitVec.toNat < 65536 := by omega
  have a1 := lo8_and c
  have a2 : (hi8 c &&& 255).toBitVec.toNat = c.toBitVec.toNat / 256 := by
    rw [hi8, lo8_and]
    have e : ((8 : Int32) &&& 31) = 8 := by decide
    rw [e, Int32.toBitVec_shiftRight]
    have e2 : ((8 : Int32).toBitVec.smod 32) = 8#32 := by decide
    rw [e2, BitVec.sshiftRight_eq', BitVec.toNat_sshiftRight_of_msb_false (by rw [BitVec.msb_eq_false_iff_two_mul_lt]; omega)]
    show c.toBitVec.toNat >>> 8 % 256 = _
    rw [Nat.shiftRight_eq_div_pow]
    omega
  unfold pairCh
  apply Int32.toBitVec_inj.mp
  apply BitVec.eq_of_toNat_eq
  have f0 : ((0 : Int32) &&& 31) = 0 := by decide
  have f8 : ((8 : Int32) &&& 31) = 8 := by decide
  rw [f0, f8]
  have g : (((lo8 c &&& 255) <<< (0 : Int32)) ||| ((hi8 c &&& 255) <<< (8 : Int32))).toBitVec.toNat = c.toBitVec.toNat := by
    rw [Int32.toBitVec_or, Int32.toBitVec_shiftLeft, Int32.toBitVec_shiftLeft]
    have s0 : ((0 : Int32).toBitVec.smod 32) = 0#32 := by decide
    have s8 : ((8 : Int32).toBitVec.smod 32) = 8#32 := by decide
    rw [s0, s8, BitVec.toNat_or]
    simp only [BitVec.shiftLeft_eq', BitVec.toNat_shiftLeft, a1, a2]
    show (c.toBitVec.toNat % 256) <<< 0 % 2 ^ 32 ||| (c.toBitVec.toNat / 256) <<< 8 % 2 ^ 32 = _
    rw [Nat.shiftLeft_zero, Nat.mod_eq_of_lt (show c.toBitVec.toNat % 256 < 2 ^ 32 by omega), Nat.mod_eq_of_lt (show (c.toBitVec.toNat / 256) <<< 8 < 2 ^ 32 by rw [Nat.shiftLeft_eq]; omega), Nat.or_comm, ← Nat.shiftLeft_add_eq_or_of_lt (by omega), Nat.shiftLeft_eq]
    omega
  show BitVec.toNat (((((lo8 c &&& 255) <<< (0 : Int32)) ||| ((hi8 c &&& 255) <<< (8 : Int32))).toBitVec.setWidth 16).setWidth 32) = _
  rw [BitVec.toNat_setWidth, BitVec.toNat_setWidth, g]
  omega
end StrChars
namespace StrChars
open Jvm Sem ClassFile Op Lib Jvm.Stand Jvm.Free.XT Jvm.Free.ALB Jvm.Free.JM Jvm.Free
open Jvm.Lib.Cold (StaticIs)
theorem shr1 {n : Nat} (h : 2 * n < 2 ^ 31) : Int32.ofNat (2 * n) >>> ((1 : Int32) &&& 31) = Int32.ofNat n := by
  have e : ((1 : Int32) &&& 31) = 1 := by decide
  rw [e]
  apply Int32.toBitVec_inj.mp
  rw [Int32.toBitVec_shiftRight]
  have e1 : ((1 : Int32).toBitVec.smod 32) = 1#32 := by decide
  have hm : (BitVec.ofNat 32 (2 * n)).toNat = 2 * n := by rw [BitVec.toNat_ofNat, Nat.mod_eq_of_lt (by omega)]
  rw [e1, BitVec.sshiftRight_eq']
  apply BitVec.eq_of_toNat_eq
  show ((BitVec.ofNat 32 (2 * n)).sshiftRight 1).toNat = (BitVec.ofNat 32 n).toNat
  rw [BitVec.toNat_sshiftRight_of_msb_false (by rw [BitVec.msb_eq_false_iff_two_mul_lt, hm]; omega), hm, BitVec.toNat_ofNat, Nat.shiftRight_eq_div_pow]
  omega
/-- charAt's cast of a byte read back -/
def chr8 (u : Int32) : Int32 := (u &&& 255).toUInt32.toUInt16.toUInt32.toInt32
theorem chr8_lo8 {c : Int32} (h0 : ¬ c < 0) (h1 : ¬ 255 < c) : chr8 (lo8 c) = c := by
  have t : ∀ k : Fin 256, (Int32.ofNat k.val).toUInt32.toUInt16.toUInt32.toInt32 = Int32.ofNat k.val := by decide +kernel
  unfold chr8
  rw [lo8_mask h0 h1]
  rw [Int32.lt_iff_toInt_lt] at h0 h1
  have e0 : (0 : Int32).toInt = 0 := rfl
  have e1 : (255 : Int32).toInt = 255 := rfl
  obtain ⟨k, hk⟩ : ∃ k : Nat, c.toInt = k := ⟨c.toInt.toNat, by omega⟩
  have hx : c = Int32.ofNat k := Int32.toInt_inj.mp (by rw [hk, Int32.toInt_ofNat_small (by omega)])
  rw [hx]
  exact t ⟨k, by omega⟩
theorem narrow_ch {c : Int32} (h0 : ¬ c < 0) (h1 : ¬ 65535 < c) : narrow .char (.int c) = .int c := by
  have q : narrow .char (.int (pairCh (lo8 c) (hi8 c))) = .int (pairCh (lo8 c) (hi8 c)) := narrow_c _
  rwa [pair_says h0 h1] at q
/-- the array's cell V codes the n chars f 0 .. f (n - 1) by the coder cd, as the JDK does: coder 1 just where some char is above 255 -/
def Cod (cd : Int32) (n : Nat) (f : Nat → Int32) (V : Cell) : Prop := (cd = 0 ∧ V.slots.size = n ∧ ∀ j, j < n → V.slots[j]? = some (.int (lo8 (f j))) ∧ ¬ 255 < f j) ∨ (cd = 1 ∧ V.slots.size = 2 * n ∧ (∀ j, j < n → V.slots[2 * j]? = some (.int (lo8 (f j))) ∧ V.slots[2 * j + 1]? = some (.int (hi8 (f j)))) ∧ ∃ j, j < n ∧ 255 < f j)
theorem Cod.cd {cd : Int32} {n : Nat} {f : Nat → Int32} {V : Cell} (h : Cod cd n f V) : cd = 0 ∨ cd = 1 := h.imp (fun q => q.1) fun q => q.1
theorem Cod.len {cd : Int32} {n : Nat} {f : Nat → Int32} {V : Cell} (h : Cod cd n f V) (hs : V.slots.size < 2 ^ 31) : Int32.ofNat V.slots.size >>> (cd &&& 31) = Int32.ofNat n := by
  rcases h with ⟨rfl, h, -⟩ | ⟨rfl, h, -⟩
  · rw [shr0, h]
  · rw [h, shr1 (by omega)]
/-- **x is a String of the n chars f 0 .. f (n - 1)**, Latin-1 or UTF-16; its array at t has the cell V -/
def Txt (x t : Addr) (V : Cell) (cd : Int32) (n : Nat) (f : Nat → Int32) (U : State) : Prop := Exact "java/lang/String" x U ∧ Has x "java/lang/String" "value" "[B" (.ref t) U ∧ Has x "java/lang/String" "coder" "B" (.int cd) U ∧ XT.Arr .byte t V U ∧ Cod cd n f V ∧ ∀ j, j < n → ¬ f j < 0 ∧ ¬ 65535 < f j
theorem Txt.mv {x t : Addr} {V : Cell} {cd : Int32} {n : Nat} {f : Nat → Int32} {U U' : State} (h : Txt x t V cd n f U) (hal : U.vm.Alike U'.vm) (hh : U'.heap = U.heap) : Txt x t V cd n f U' := ⟨h.1.mv hal hh, h.2.1.mv hal hh, h.2.2.1.mv hal hh, h.2.2.2.1.mv hal hh, h.2.2.2.2⟩
namespace Cdr
def yN : MethodName := ⟨"java/lang/String", "coder", "()B"⟩
abbrev yB : ByteArray := jdk_42_method_152_code
theorem d0 : decode yB 0 = .ok (.getstatic 38, 3) := by decide +kernel
theorem d3 : decode yB 3 = .ok (.ifCond (.eq) 10, 3) := by decide +kernel
theorem d6 : decode yB 6 = .ok (.aload_n 0, 1) := by decide +kernel
theorem d7 : decode yB 7 = .ok (.getfield 15, 3) := by decide +kernel
theorem d10 : decode yB 10 = .ok (.goto 4, 3) := by decide +kernel
theorem d14 : decode yB 14 = .ok (.ireturn, 1) := by decide +kernel
def site : List Cond := [.fieldLink "java/lang/String" 38 "java/lang/String" "COMPACT_STRINGS" "Z", .fieldLink "java/lang/String" 15 "java/lang/String" "coder" "B"]
def tab : Cond := tabOf yN yB 1 (some .byte) site
def P (x : Addr) (cd z : Int32) (args : Array Value) (s : State) : Prop := args = #[.ref x] ∧ Has x "java/lang/String" "coder" "B" (.int cd) s ∧ (cd = 0 ∨ cd = 1) ∧ StaticIs s "java/lang/String" "COMPACT_STRINGS" "Z" (.int z) ∧ ¬ z = 0
def E (cd : Int32) (r : Option Value) (s u : State) : Prop := XT.PureE (some (.int cd)) r s u
theorem law (l : Launch) (x : Addr) (cd z : Int32) : Law l yN 1 0 0 0 yB 1 (some .byte) site (P x cd z) (E cd) [] 0 0 := by
  refine Law.of_walk (plainFor_of_name (by decide +kernel)) (by decide +kernel) (by decide +kernel) (by decide) (fun _ _ h => by rw [h.1]; rfl) (fun _ U U' hal hh h => ⟨h.1, h.2.1.mv hal hh, h.2.2.1, h.2.2.2.1.there hal hh, h.2.2.2.2⟩) (fun r U U' V V' h1 hal h2 h => XT.PureE.mv r U U' V V' h1 hal h2 h) ?_
  intro p e s m args below meth c s₁ X0 hexec hbytes hml hret hlk hnm hown hh0 W hP
  obtain ⟨rfl, hx, hc, s1, hz⟩ := hP
  have c1 : Steps p.tables e below (s₁.setTop (entryFrame m #[.ref x] 1)) (s₁.setTop (mkF m 0 #[.val (.ref x)] [])) := entry rfl
  obtain ⟨T2, X2, q2, st2⟩ := X0.sget hexec hown (wk W (.fieldLink "java/lang/String" 38 "java/lang/String" "COMPACT_STRINGS" "Z")) s1 (fun _ _ h => by rw [hh0]; exact h) (g := (mkF m 0 #[.val (.ref x)] [])) rfl (hb hbytes d0)
  have hh2 := q2.trans hh0
  have c3 : Steps p.tables e below (s₁.setTop (entryFrame m #[.ref x] 1)) (T2.setTop (mkF m 7 #[.val (.ref x)] [.ref x])) := (c1.trans (st2 _ (Steps.refl _))).trans (by
    refine XS.ifNo X2.here hexec rfl (hb hbytes d3) rfl (i0_eq_f hz) ?_
    refine XS.aloadN X2.here hexec rfl (hb hbytes d6) rfl rfl ?_
    exact Steps.refl _)
  obtain ⟨T4, X4, q4, st4⟩ := X2.hget hexec hown (wk W (.fieldLink "java/lang/String" 15 "java/lang/String" "coder" "B")) (hx.mv X2.warmed.alike hh2) (g := (mkF m 7 #[.val (.ref x)] [.ref x])) rfl (rest := []) rfl (hb hbytes d7)
  have c5 : Steps p.tables e below (s₁.setTop (entryFrame m #[.ref x] 1)) (T4.setTop (mkF m 14 #[.val (.ref x)] [.int cd])) := (c3.trans (st4 _ (Steps.refl _))).trans (by
    refine XS.goto X4.here hexec rfl (pc0 := 10) rfl (hb hbytes d10) (by decide) rfl ?_
    exact Steps.refl _)
  exact ⟨T4, some (.int cd), _, _, _, X4, rfl, rfl, rfl, (fun h => by cases h), ⟨rfl, q4.trans hh2⟩, fun fs hl => c5.trans (X4.ireturnOut hexec hret (by rcases hc with rfl | rfl <;> rfl) (Or.inr (Or.inr (Or.inl rfl))) (hb hbytes d14) hl)⟩
end Cdr
namespace Len
def yN : MethodName := ⟨"java/lang/String", "length", "()I"⟩
abbrev yB : ByteArray := jdk_42_method_54_code
theorem d0 : decode yB 0 = .ok (.aload_n 0, 1) := by decide +kernel
theorem d1 : decode yB 1 = .ok (.getfield 9, 3) := by decide +kernel
theorem d4 : decode yB 4 = .ok (.arraylength, 1) := by decide +kernel
theorem d5 : decode yB 5 = .ok (.aload_n 0, 1) := by decide +kernel
theorem d6 : decode yB 6 = .ok (.invokevirtual 335, 3) := by decide +kernel
theorem d9 : decode yB 9 = .ok (.ishr, 1) := by decide +kernel
theorem d10 : decode yB 10 = .ok (.ireturn, 1) := by decide +kernel
def site : List Cond := [.fieldLink "java/lang/String" 9 "java/lang/String" "value" "[B", Cdr.tab] ++ virtW "java/lang/String" 335 "java/lang/String" Cdr.yN Cdr.yN
def tab : Cond := tabOf yN yB 1 (some .int) site
def P (x t : Addr) (V : Cell) (cd : Int32) (n : Nat) (f : Nat → Int32) (z : Int32) (args : Array Value) (s : State) : Prop := args = #[.ref x] ∧ Txt x t V cd n f s ∧ StaticIs s "java/lang/String" "COMPACT_STRINGS" "Z" (.int z) ∧ ¬ z = 0
def E (n : Nat) (r : Option Value) (s u : State) : Prop := XT.PureE (some (.int (Int32.ofNat n))) r s u
/-- length() of a String of n chars, in either coding -/
theorem law (l : Launch) (x t : Addr) (V : Cell) (cd : Int32) (n : Nat) (f : Nat → Int32) (z : Int32) : Law l yN 1 0 1 13 yB 1 (some .int) site (P x t V cd n f z) (E n) [] 0 0 := by
  refine Law.of_walk (plainFor_of_name (by decide +kernel)) (by decide +kernel) (by decide +kernel) (by decide) (fun _ _ h => by rw [h.1]; rfl) (fun _ U U' hal hh h => ⟨h.1, h.2.1.mv hal hh, h.2.2.1.there hal hh, h.2.2.2⟩) (fun r U U' V V' h1 hal h2 h => XT.PureE.mv r U U' V V' h1 hal h2 h) ?_
  intro p e s m args below meth c s₁ X0 hexec hbytes hml hret hlk hnm hown hh0 W hP
  obtain ⟨rfl, hx, s1, hz⟩ := hP
  have v31 := hx.2.2.2.1.2.2.2
  have c1 : Steps p.tables e below (s₁.setTop (entryFrame m #[.ref x] 1)) (s₁.setTop (mkF m 1 #[.val (.ref x)] [.ref x])) := Steps.trans (entry rfl) (by
    show Steps p.tables e below (s₁.setTop (mkF m 0 #[.val (.ref x)] [])) _
    refine XS.aloadN X0.here hexec rfl (hb hbytes d0) rfl rfl ?_
    exact Steps.refl _)
  obtain ⟨T2, X2, q2, st2⟩ := X0.hget hexec hown (wk W (.fieldLink "java/lang/String" 9 "java/lang/String" "value" "[B")) (hx.mv X0.warmed.alike hh0).2.1 (g := (mkF m 1 #[.val (.ref x)] [.ref x])) rfl (rest := []) rfl (hb hbytes d1)
  have hh2 := q2.trans hh0
  have hx2 := hx.mv X2.warmed.alike hh2
  have c3 : Steps p.tables e below (s₁.setTop (entryFrame m #[.ref x] 1)) (T2.setTop (mkF m 6 #[.val (.ref x)] [.ref x, .int (Int32.ofNat V.slots.size)])) := (c1.trans (st2 _ (Steps.refl _))).trans (by
    refine X2.alen hexec hx2.2.2.2.1 rfl rfl (hb hbytes d4) ?_
    refine XS.aloadN X2.here hexec rfl (hb hbytes d5) rfl rfl ?_
    exact Steps.refl _)
  obtain ⟨v4, T4, X4, E4, g4⟩ := X2.callV hexec (Cdr.law l x cd z) hown (wks W (virtW "java/lang/String" 335 "java/lang/String" Cdr.yN Cdr.yN)) rfl (by decide) (wk W Cdr.tab) (W := 1) (Nat.le_of_ble_eq_true rfl) (Nat.le_of_ble_eq_true rfl) (Nat.le_refl _) (Nat.le_refl _) (hx2.1.fc X2.warmed.alike) hx2.1.is (g := (mkF m 6 #[.val (.ref x)] [.ref x, .int (Int32.ofNat V.slots.size)])) rfl (by rw [hml]; rfl) c3 (argsL := []) (rest := [.int (Int32.ofNat V.slots.size)]) rfl rfl (by show 2 * 0 + (1 + 0) ≤ _; decide) (hb hbytes d6) (⟨rfl, hx2.2.2.1, hx.2.2.2.2.1.cd, s1.there X2.warmed.alike hh2, hz⟩)
  obtain ⟨rfl, q4⟩ := E4
  have c5 : Steps p.tables e below (s₁.setTop (entryFrame m #[.ref x] 1)) (T4.setTop (mkF m 10 #[.val (.ref x)] [.int (Int32.ofNat V.slots.size >>> (cd &&& 31))])) := Steps.trans g4 (by
    refine ishr X4.here hexec rfl (hb hbytes d9) rfl ?_
    exact Steps.refl _)
  rw [hx.2.2.2.2.1.len v31] at c5
  exact ⟨T4, some (.int (Int32.ofNat n)), _, _, _, X4, rfl, rfl, rfl, (fun h => by cases h), ⟨rfl, q4.trans hh2⟩, fun fs hl => c5.trans (X4.ireturnOut hexec hret rfl (Or.inl rfl) (hb hbytes d10) hl)⟩
theorem pays {l : Launch} {R : Room} {p : Program} {e : Env} {below : List Frame} {s : State} {sargs : Array Value} {len W : Nat} (x t : Addr) (V : Cell) (cd : Int32) (n : Nat) (f : Nat → Int32) (z : Int32) (htab : tab.before sargs s = true) (hfr : 2 ≤ R.frames) (hlo : W + 25 ≤ R.locals) :
    Back l R p e below s sargs yN len W (fun A₁ a₁ => A₁.cells + 0 ≤ R.cells ∧ A₁.slots + 0 ≤ R.slots ∧ P x t V cd n f z a₁ A₁.U) (fun A₁ _ v₁ B₁ => E n v₁ A₁.U B₁.U ∧ B₁.locs = A₁.locs ++ [] ∧ B₁.cells = A₁.cells + 0 ∧ B₁.slots = A₁.slots + 0) :=
  (law l x t V cd n f z).pays htab hfr (by omega)
end Len
namespace IsL
def yN : MethodName := ⟨"java/lang/String", "isLatin1", "()Z"⟩
abbrev yB : ByteArray := jdk_42_method_154_code
theorem d0 : decode yB 0 = .ok (.getstatic 38, 3) := by decide +kernel
theorem d3 : decode yB 3 = .ok (.ifCond (.eq) 14, 3) := by decide +kernel
theorem d6 : decode yB 6 = .ok (.aload_n 0, 1) := by decide +kernel
theorem d7 : decode yB 7 = .ok (.getfield 15, 3) := by decide +kernel
theorem d10 : decode yB 10 = .ok (.ifCond (.ne) 7, 3) := by decide +kernel
theorem d13 : decode yB 13 = .ok (.iconst 1, 1) := by decide +kernel
theorem d14 : decode yB 14 = .ok (.goto 4, 3) := by decide +kernel
theorem d17 : decode yB 17 = .ok (.iconst 0, 1) := by decide +kernel
theorem d18 : decode yB 18 = .ok (.ireturn, 1) := by decide +kernel
def site : List Cond := [.fieldLink "java/lang/String" 38 "java/lang/String" "COMPACT_STRINGS" "Z", .fieldLink "java/lang/String" 15 "java/lang/String" "coder" "B"]
def tab : Cond := tabOf yN yB 1 (some .boolean) site
def P (x : Addr) (cd z : Int32) (args : Array Value) (s : State) : Prop := args = #[.ref x] ∧ Has x "java/lang/String" "coder" "B" (.int cd) s ∧ (cd = 0 ∨ cd = 1) ∧ StaticIs s "java/lang/String" "COMPACT_STRINGS" "Z" (.int z) ∧ ¬ z = 0
def E (cd : Int32) (r : Option Value) (s u : State) : Prop := XT.PureE (some (.int (1 - cd))) r s u
theorem law (l : Launch) (x : Addr) (cd z : Int32) : Law l yN 1 0 0 0 yB 1 (some .boolean) site (P x cd z) (E cd) [] 0 0 := by
  refine Law.of_walk (plainFor_of_name (by decide +kernel)) (by decide +kernel) (by decide +kernel) (by decide) (fun _ _ h => by rw [h.1]; rfl) (fun _ U U' hal hh h => ⟨h.1, h.2.1.mv hal hh, h.2.2.1, h.2.2.2.1.there hal hh, h.2.2.2.2⟩) (fun r U U' V V' h1 hal h2 h => XT.PureE.mv r U U' V V' h1 hal h2 h) ?_
  intro p e s m args below meth c s₁ X0 hexec hbytes hml hret hlk hnm hown hh0 W hP
  obtain ⟨rfl, hx, hc, s1, hz⟩ := hP
  have c1 : Steps p.tables e below (s₁.setTop (entryFrame m #[.ref x] 1)) (s₁.setTop (mkF m 0 #[.val (.ref x)] [])) := entry rfl
  obtain ⟨T2, X2, q2, st2⟩ := X0.sget hexec hown (wk W (.fieldLink "java/lang/String" 38 "java/lang/String" "COMPACT_STRINGS" "Z")) s1 (fun _ _ h => by rw [hh0]; exact h) (g := (mkF m 0 #[.val (.ref x)] [])) rfl (hb hbytes d0)
  have hh2 := q2.trans hh0
  have c3 : Steps p.tables e below (s₁.setTop (entryFrame m #[.ref x] 1)) (T2.setTop (mkF m 7 #[.val (.ref x)] [.ref x])) := (c1.trans (st2 _ (Steps.refl _))).trans (by
    refine XS.ifNo X2.here hexec rfl (hb hbytes d3) rfl (i0_eq_f hz) ?_
    refine XS.aloadN X2.here hexec rfl (hb hbytes d6) rfl rfl ?_
    exact Steps.refl _)
  obtain ⟨T4, X4, q4, st4⟩ := X2.hget hexec hown (wk W (.fieldLink "java/lang/String" 15 "java/lang/String" "coder" "B")) (hx.mv X2.warmed.alike hh2) (g := (mkF m 7 #[.val (.ref x)] [.ref x])) rfl (rest := []) rfl (hb hbytes d7)
  have c5 : Steps p.tables e below (s₁.setTop (entryFrame m #[.ref x] 1)) (T4.setTop (mkF m 10 #[.val (.ref x)] [.int cd])) := c3.trans (st4 _ (Steps.refl _))
  have c6 : Steps p.tables e below (s₁.setTop (entryFrame m #[.ref x] 1)) (T4.setTop (mkF m 18 #[.val (.ref x)] [.int (1 - cd)])) := by
    rcases hc with rfl | rfl
    · exact c5.trans (by
        refine XS.ifNo X4.here hexec rfl (hb hbytes d10) rfl (i0_ne_f rfl) ?_
        refine iconstV X4.here hexec rfl 1 (hb hbytes d13) (by decide) ?_
        refine XS.goto X4.here hexec rfl (pc0 := 14) rfl (hb hbytes d14) (by decide) rfl ?_
        exact Steps.refl _)
    · exact c5.trans (by
        refine XS.ifYes X4.here hexec rfl (pc0 := 10) rfl (hb hbytes d10) rfl (i0_ne_t (by decide)) (by decide) rfl ?_
        refine iconstV X4.here hexec rfl 0 (hb hbytes d17) (by decide) ?_
        exact Steps.refl _)
  exact ⟨T4, some (.int (1 - cd)), _, _, _, X4, rfl, rfl, rfl, (fun h => by cases h), ⟨rfl, q4.trans hh2⟩, fun fs hl => c6.trans (X4.ireturnOut hexec hret (by rcases hc with rfl | rfl <;> rfl) (Or.inr (Or.inl rfl)) (hb hbytes d18) hl)⟩
end IsL
namespace LChA
def yN : MethodName := ⟨"java/lang/StringLatin1", "charAt", "([BI)C"⟩
abbrev yB : ByteArray := jdk_43_method_2_code
theorem d0 : decode yB 0 = .ok (.iload_n 1, 1) := by decide +kernel
theorem d1 : decode yB 1 = .ok (.aload_n 0, 1) := by decide +kernel
theorem d2 : decode yB 2 = .ok (.arraylength, 1) := by decide +kernel
theorem d3 : decode yB 3 = .ok (.invokestatic 9, 3) := by decide +kernel
theorem d6 : decode yB 6 = .ok (.aload_n 0, 1) := by decide +kernel
theorem d7 : decode yB 7 = .ok (.iload_n 1, 1) := by decide +kernel
theorem d8 : decode yB 8 = .ok (.baload, 1) := by decide +kernel
theorem d9 : decode yB 9 = .ok (.sipush 255, 3) := by decide +kernel
theorem d12 : decode yB 12 = .ok (.iand, 1) := by decide +kernel
theorem d13 : decode yB 13 = .ok (.i2c, 1) := by decide +kernel
theorem d14 : decode yB 14 = .ok (.ireturn, 1) := by decide +kernel
def site : List Cond := [JO.Str_checkIndex.tab] ++ staticW "java/lang/StringLatin1" 9 JO.Str_checkIndex.yN
def tab : Cond := tabOf yN yB 2 (some .char) site
def P (t : Addr) (V : Cell) (i : Nat) (u : Int32) (fm : Value) (args : Array Value) (s : State) : Prop := args = #[.ref t, .int (Int32.ofNat i)] ∧ XT.Arr .byte t V s ∧ V.slots[i]? = some (.int u) ∧ (StaticIs s "jdk/internal/util/Preconditions" "SIOOBE_FORMATTER" "Ljava/util/function/BiFunction;" fm ∧ fm.isRef = true)
def E (u : Int32) (r : Option Value) (s w : State) : Prop := XT.PureE (some (.int (chr8 u))) r s w
theorem law (l : Launch) (t : Addr) (V : Cell) (i : Nat) (u : Int32) (fm : Value) : Law l yN 2 2 2 27 yB 2 (some .char) site (P t V i u fm) (E u) [] 0 0 := by
  refine Law.of_walk (plainFor_of_name (by decide +kernel)) (by decide +kernel) (by decide +kernel) (by decide) (fun _ _ h => by rw [h.1]; rfl) (fun _ U U' hal hh h => ⟨h.1, h.2.1.mv hal hh, h.2.2.1, h.2.2.2.1.there hal hh, h.2.2.2.2⟩) (fun r U U' V V' h1 hal h2 h => XT.PureE.mv r U U' V V' h1 hal h2 h) ?_
  intro p e s m args below meth c s₁ X0 hexec hbytes hml hret hlk hnm hown hh0 W hP
  obtain ⟨rfl, hV, hu, s1, rf⟩ := hP
  have v31 := hV.2.2.2
  have hi : i < V.slots.size := (Array.getElem?_eq_some_iff.mp hu).1
  have c1 : Steps p.tables e below (s₁.setTop (entryFrame m #[.ref t, .int (Int32.ofNat i)] 2)) (s₁.setTop (mkF m 0 #[.val (.ref t), .val (.int (Int32.ofNat i))] [])) := entry rfl
  have c2 : Steps p.tables e below (s₁.setTop (entryFrame m #[.ref t, .int (Int32.ofNat i)] 2)) (s₁.setTop (mkF m 3 #[.val (.ref t), .val (.int (Int32.ofNat i))] [.int (Int32.ofNat V.slots.size), .int (Int32.ofNat i)])) := c1.trans (by
    refine XS.iloadN X0.here hexec rfl (hb hbytes d0) rfl ?_
    refine XS.aloadN X0.here hexec rfl (hb hbytes d1) rfl rfl ?_
    refine X0.alen hexec (hV.mv X0.warmed.alike hh0) rfl rfl (hb hbytes d2) ?_
    exact Steps.refl _)
  obtain ⟨v3, T3, X3, E3, g3⟩ := X0.callS hexec (JO.Str_checkIndex.law l (Int32.ofNat i) (Int32.ofNat V.slots.size) fm) hown (wks W (staticW "java/lang/StringLatin1" 9 JO.Str_checkIndex.yN)) (wk W JO.Str_checkIndex.tab) (W := 0) (Nat.le_of_ble_eq_true rfl) (Nat.le_of_ble_eq_true rfl) (Nat.le_refl _) (Nat.le_refl _) (g := (mkF m 3 #[.val (.ref t), .val (.int (Int32.ofNat i))] [.int (Int32.ofNat V.slots.size), .int (Int32.ofNat i)])) rfl (by rw [hml]; rfl) c2 (argsL := [.int (Int32.ofNat i), .int (Int32.ofNat V.slots.size)]) (rest := []) rfl rfl (by show 2 * 0 + 0 ≤ _; decide) (hb hbytes d3) (⟨rfl, rf, s1.there X0.warmed.alike hh0, Int32.ofNat_not_neg (by omega), lt32 v31 hi⟩)
  obtain ⟨rfl, q3⟩ := E3
  have hh3 := q3.trans hh0
  have c4 : Steps p.tables e below (s₁.setTop (entryFrame m #[.ref t, .int (Int32.ofNat i)] 2)) (T3.setTop (mkF m 14 #[.val (.ref t), .val (.int (Int32.ofNat i))] [.int (chr8 u)])) := Steps.trans g3 (by
    refine XS.aloadN X3.here hexec rfl (hb hbytes d6) rfl rfl ?_
    refine XS.iloadN X3.here hexec rfl (hb hbytes d7) rfl ?_
    refine X3.aget hexec (hV.mv X3.warmed.alike hh3) rfl hu rfl rfl (hb hbytes d8) ?_
    refine sipushV X3.here hexec rfl 255 (hb hbytes d9) (by decide) ?_
    refine XS.iand X3.here hexec rfl (hb hbytes d12) rfl ?_
    refine i2c X3.here hexec rfl (hb hbytes d13) rfl ?_
    exact Steps.refl _)
  exact ⟨T3, some (.int (chr8 u)), _, _, _, X3, rfl, rfl, rfl, (fun h => by cases h), ⟨rfl, hh3⟩, fun fs hl => c4.trans (X3.ireturnOut hexec hret (narrow_c _) (Or.inr (Or.inr (Or.inr (Or.inl rfl)))) (hb hbytes d14) hl)⟩
end LChA
end StrChars
namespace StrChars.Road
open Jvm Sem ClassFile Op Lib Jvm.Stand Jvm.Free Jvm.Free.XT
open Jvm.Lib.Cold (StaticIs)
theorem consq {a : Array Value} {s : State} {c : Jvm.Cond} {L : List Jvm.Cond} (h0 : c.before a s = true) (h : ∀ w ∈ L, w.before a s = true) : ∀ w ∈ c :: L, w.before a s = true := fun w hw => (List.mem_cons.mp hw).elim (fun e => e ▸ h0) (h w)
/-- the words of String.length(), either coding -/
abbrev wordsLen : List Jvm.Cond := [.code Len.yN Len.yB 1 (some .int), .initialized ST, .fieldLink ST 9 ST "value" "[B", .fieldLink ST 38 ST "COMPACT_STRINGS" "Z", .fieldLink ST 15 ST "coder" "B", .code Cdr.yN Cdr.yB 1 (some .byte), .methodLink ST 335 Cdr.yN, .declares Cdr.yN, .selects ST Cdr.yN Cdr.yN, .instanceMethod Cdr.yN]
theorem tabLen_of {a : Array Value} {s : State} (h : ∀ w ∈ wordsLen, w.before a s = true) : Len.tab.before a s = true := by
  have hc : Cdr.tab.before a s = true := unparts (wk h (.code Cdr.yN Cdr.yB 1 (some .byte))) (wks h (.initialized Cdr.yN.cls :: Cdr.site))
  have q := consq hc h
  exact unparts (wk q (.code Len.yN Len.yB 1 (some .int))) (wks q (.initialized Len.yN.cls :: Len.site))
theorem movedLen {Z s : State} {a0 args : Array Value} (hZ : Z.Warmed39 s.vm) (hw : ∀ d ∈ wordsLen, d.before a0 Z = true) : ∀ d ∈ wordsLen, d.before args s = true := fun d hd => by
  have q := hw d hd
  have t : ∀ d ∈ wordsLen, d = .arrayClass .byte ∨ (d.onTables && d.keepsFace) = true := by decide +kernel
  rcases t d hd with rfl | t
  · exact RoadKit.mvA hZ q
  · exact RoadKit.mv hZ q t
/-- the bytes of the chars cs, low before high -/
def wideBytes : List Int32 → List Value
  | [] => []
  | c :: cs => .int (lo8 c) :: .int (hi8 c) :: wideBytes cs
theorem wide_lo (d : Value) : ∀ (cs : List Int32) (j : Nat), j < cs.length → (wideBytes cs).getD (2 * j) d = .int (lo8 (cs.getD j 0))
  | [], j, h => absurd h (Nat.not_lt_zero j)
  | c :: cs, 0, _ => rfl
  | c :: cs, j + 1, h => by
    have q := wide_lo d cs j (by simpa using h)
    rw [show 2 * (j + 1) = 2 * j + 1 + 1 from by omega]
    simpa [wideBytes] using q
theorem wide_hi (d : Value) : ∀ (cs : List Int32) (j : Nat), j < cs.length → (wideBytes cs).getD (2 * j + 1) d = .int (hi8 (cs.getD j 0))
  | [], j, h => absurd h (Nat.not_lt_zero j)
  | c :: cs, 0, _ => rfl
  | c :: cs, j + 1, h => by
    have q := wide_hi d cs j (by simpa using h)
    rw [show 2 * (j + 1) + 1 = 2 * j + 1 + 1 + 1 from by omega]
    simpa [wideBytes] using q
theorem low_at (d : Value) (cs : List Int32) (j : Nat) (h : j < cs.length) : (cs.map fun c => Value.int (lo8 c)).getD j d = .int (lo8 (cs.getD j 0)) := by
  simp [List.getD_eq_getElem?_getD, h]
/-- an array of N2 bytes vs codes the chars cs by the coder cd -/
def CodA (cs : List Int32) (cd N2 : Int32) (vs : List Value) : Prop := (cd = 0 ∧ N2 = Int32.ofNat cs.length ∧ vs = (cs.map fun c => Value.int (lo8 c)) ∧ ∀ c ∈ cs, ¬ 255 < c) ∨ (cd = 1 ∧ N2 = Int32.ofNat (2 * cs.length) ∧ vs = wideBytes cs ∧ ∃ c ∈ cs, 255 < c)
theorem CodA.cod {cs : List Int32} {cd N2 : Int32} {vs : List Value} {V : Cell} (h : CodA cs cd N2 vs) (hn : 2 * cs.length < 2 ^ 31) (hs : V.slots.size = N2.toNatClampNeg) (hv : RoadKit.Has V vs (.int 0)) : Cod cd cs.length (fun j => cs.getD j 0) V := by
  rcases h with ⟨rfl, rfl, rfl, h⟩ | ⟨rfl, rfl, rfl, c, hc, hw⟩
  · rw [n32 (by omega)] at hs
    exact Or.inl ⟨rfl, hs, fun j hj => ⟨by rw [hv j (by omega), low_at _ _ _ hj], by
      have e : cs.getD j 0 = cs[j] := by simp [List.getD_eq_getElem?_getD, hj]
      show ¬ 255 < cs.getD j 0
      rw [e]; exact h _ (List.getElem_mem _)⟩⟩
  · rw [n32 (by omega)] at hs
    obtain ⟨j, hj, rfl⟩ := List.getElem_of_mem hc
    exact Or.inr ⟨rfl, hs, fun j hj => ⟨by rw [hv _ (by omega), wide_lo _ _ _ hj], by rw [hv _ (by omega), wide_hi _ _ _ hj]⟩, j, hj, by
      have e : cs.getD j 0 = cs[j] := by simp [List.getD_eq_getElem?_getD, hj]
      show 255 < cs.getD j 0
      rw [e]; exact hw⟩
/-- an object of exactly java/lang/String, its two fields found: as the laws ask it -/
theorem strObj {Z U : State} {a0 : Array Value} {kI : Nat} (wi : (Jvm.Cond.instantiable ST kI).before a0 Z = true) (al : Z.vm.Alike U.vm) {x : Addr} {v0 c0 : Value} (E : RoadKit.Exa Z U.heap x ST) (V : RoadKit.Fld Z U.heap x ST "value" "[B" v0) (C : RoadKit.Fld Z U.heap x ST "coder" "B" c0) :
    ∃ (D : Cell) (fV fC : Field), Blank ST x D U ∧ Found ST "value" "[B" fV U ∧ Found ST "coder" "B" fC U ∧ D.slots[fV.slot]? = some v0 ∧ D.slots[fC.slot]? = some c0 ∧ RoadKit.slotOf Z ST "value" "[B" = fV.slot ∧ RoadKit.slotOf Z ST "coder" "B" = fC.slot := by
  obtain ⟨D, cfV, kV, iV, fV, hD, gV, stV, knV, obV, asV, slV⟩ := V
  obtain ⟨D', cfC, kC, iC, fC, hD', gC, stC, -, -, asC, slC⟩ := C
  cases hD.symm.trans hD'
  obtain ⟨D2, kD, e1, e2, e3, e4, e5⟩ := E
  cases hD.symm.trans e1
  obtain ⟨c2, k2, i1, i2, i3, -⟩ := Cond.instantiable_spec wi
  cases e2.symm.trans i1
  cases e3.symm.trans i2
  obtain ⟨kU, u1, u2⟩ := al.2.2 _ _ e3
  exact ⟨D, fV, fC, ⟨hD, ⟨knV, fun q hq => by rw [hq] at obV; cases obV⟩, by rw [al.findClass]; exact e2, kU, u1, by rw [u2]; exact i3, by rw [u2]; exact e5 i3⟩, ⟨SBG.found_only al ⟨cfV, kV, iV, gV⟩, stV⟩, ⟨SBG.found_only al ⟨cfC, kC, iC, gC⟩, stC⟩, slV, slC, by simp [RoadKit.slotOf, gV], by simp [RoadKit.slotOf, gC]⟩
theorem sta_is {Z U : State} (al : Z.vm.Alike U.vm) {C n d : String} {v : Value} (S : RoadKit.Sta Z U.heap C n d v) : StaticIs U C n d v := by
  obtain ⟨cfS, iS, kS, fS, st, cS, t1, t2, t3, t4, t5, t6, t7⟩ := S
  exact StaticIs.there (s := { Z with heap := U.heap }) ⟨cfS, iS, kS, fS, st, cS, t1, t2, t3, t4, t5, (fun q => by rw [q] at t6; cases t6), t7⟩ al rfl
/-- **length() OF SUCH A STRING** -/
theorem lenW {p : Program} {l : Launch} {e : Env} {R : Room} {s : State} {args : Array Value} {below : List Frame} {len W : Nat} {Z : State} {a0 : Array Value} {h : Heap} (hZ : Z.Warmed39 s.vm) (hw : ∀ d ∈ wordsLen, d.before a0 Z = true) {kI : Nat} (wi : (Jvm.Cond.instantiable ST kI).before a0 Z = true)
    {x t : Addr} {kb : ClassId} {cs : List Int32} {cd N2 z : Int32} {vs : List Value} (E : RoadKit.Exa Z h x ST) (V : RoadKit.Fld Z h x ST "value" "[B" (.ref t)) (C : RoadKit.Fld Z h x ST "coder" "B" (.int cd)) (K : RoadKit.Arv Z h t kb .byte N2 vs (.int 0)) (hc : CodA cs cd N2 vs) (hb : ∀ c ∈ cs, ¬ c < 0 ∧ ¬ (65535 : Int32) < c)
    (S : RoadKit.Sta Z h ST "COMPACT_STRINGS" "Z" (.int z)) (hz : ¬ z = 0) (l2 : cs.length ≤ 4000) (hfr : 2 ≤ R.frames) (hlo : W + 25 ≤ R.locals) :
    Back l R p e below s args (⟨"java/lang/String", "length", "()I"⟩ : MethodName) len W (fun P a => a = #[.ref x] ∧ P.U.heap = h ∧ P.cells + 0 ≤ R.cells ∧ P.slots + 0 ≤ R.slots)
      (fun P _ v B => ∃ L, (v = some (.int (Int32.ofNat cs.length)) ∧ L = [] ∧ B.U.heap = h) ∧ B.locs = P.locs ++ L ∧ B.cells = P.cells + 0 ∧ B.slots = P.slots + 0) := by
  obtain ⟨A, K1, K2, K3, K4, K5, K6⟩ := K
  have hcod := hc.cod (by omega) K3 K5
  intro m meth c P g ig mk a X hg hsize hdg hW hn hp'
  obtain ⟨rfl, rfl, r1, r2⟩ := hp'
  have al : Z.vm.Alike P.U.vm := hZ.alike.trans X.warmed.alike
  obtain ⟨D, fV, fC, hB, F1, F2, g1, g2, -, -⟩ := strObj wi al E V C
  have hx : Txt x t A cd cs.length (fun j => cs.getD j 0) P.U := ⟨⟨_, hB.2.2.1, D, hB.1, rfl, by cases q : D.vm <;> first | rfl | exact absurd q (hB.2.1.2 _)⟩, Has.of hB F1 g1, Has.of hB F2 g2, ⟨K1.1, State.isArrayOf_alike al K1.2.1, K1.2.2, by rcases hcod with ⟨-, q, -⟩ | ⟨-, q, -⟩ <;> omega⟩, hcod, fun j hj => by
    have e : cs.getD j 0 = cs[j] := by simp [List.getD_eq_getElem?_getD, hj]
    show ¬ cs.getD j 0 < 0 ∧ ¬ 65535 < cs.getD j 0
    rw [e]; exact hb _ (List.getElem_mem _)⟩
  obtain ⟨v, B, X', ⟨⟨hv, hh⟩, hl, hk, hs⟩, st⟩ := Len.pays x t A cd cs.length (fun j => cs.getD j 0) z (tabLen_of (movedLen hZ hw)) hfr hlo m meth c P g ig mk _ X hg hsize hdg hW hn ⟨r1, r2, rfl, hx, sta_is al S, hz⟩
  exact ⟨v, B, X', ⟨[], ⟨hv, rfl, hh⟩, hl, hk, hs⟩, st⟩
end StrChars.Road
namespace StrChars.Road
open Jvm Sem ClassFile Op Lib Jvm.Stand Jvm.Free Jvm.Free.XT
open Jvm.Lib.Cold (StaticIs)
/-- the road's facts of a String, as the laws ask it -/
theorem txt_of {Z U : State} {a0 : Array Value} {kI : Nat} (wi : (Jvm.Cond.instantiable ST kI).before a0 Z = true) (al : Z.vm.Alike U.vm) {x t : Addr} {kb : ClassId} {cs : List Int32} {cd N2 : Int32} {vs : List Value} (E : RoadKit.Exa Z U.heap x ST) (V : RoadKit.Fld Z U.heap x ST "value" "[B" (.ref t)) (C : RoadKit.Fld Z U.heap x ST "coder" "B" (.int cd)) (K : RoadKit.Arv Z U.heap t kb .byte N2 vs (.int 0)) (hc : CodA cs cd N2 vs) (hb : ∀ c ∈ cs, ¬ c < 0 ∧ ¬ (65535 : Int32) < c) (l2 : cs.length ≤ 4000) :
    ∃ A, Txt x t A cd cs.length (fun j => cs.getD j 0) U := by
  obtain ⟨A, K1, K2, K3, K4, K5, K6⟩ := K
  have hcod := hc.cod (by omega) K3 K5
  obtain ⟨D, fV, fC, hB, F1, F2, g1, g2, -, -⟩ := strObj wi al E V C
  exact ⟨A, ⟨_, hB.2.2.1, D, hB.1, rfl, by cases q : D.vm <;> first | rfl | exact absurd q (hB.2.1.2 _)⟩, Has.of hB F1 g1, Has.of hB F2 g2, ⟨K1.1, State.isArrayOf_alike al K1.2.1, K1.2.2, by rcases hcod with ⟨-, q, -⟩ | ⟨-, q, -⟩ <;> omega⟩, hcod, fun j hj => by
    have e : cs.getD j 0 = cs[j] := by simp [List.getD_eq_getElem?_getD, hj]
    show ¬ cs.getD j 0 < 0 ∧ ¬ 65535 < cs.getD j 0
    rw [e]; exact hb _ (List.getElem_mem _)⟩
end StrChars.Road
namespace StrChars
open Jvm Sem ClassFile Op Lib Jvm.Stand Jvm.Free.XT Jvm.Free.ALB Jvm.Free.JM Jvm.Free
open Jvm.Lib.Cold (StaticIs)
namespace ChN
def yN : MethodName := ⟨"java/lang/String", "charAt", "(I)C"⟩
abbrev yB : ByteArray := jdk_42_method_56_code
theorem d0 : decode yB 0 = .ok (.aload_n 0, 1) := by decide +kernel
theorem d1 : decode yB 1 = .ok (.invokevirtual 492, 3) := by decide +kernel
theorem d4 : decode yB 4 = .ok (.ifCond (.eq) 12, 3) := by decide +kernel
theorem d7 : decode yB 7 = .ok (.aload_n 0, 1) := by decide +kernel
theorem d8 : decode yB 8 = .ok (.getfield 9, 3) := by decide +kernel
theorem d11 : decode yB 11 = .ok (.iload_n 1, 1) := by decide +kernel
theorem d12 : decode yB 12 = .ok (.invokestatic 495, 3) := by decide +kernel
theorem d15 : decode yB 15 = .ok (.ireturn, 1) := by decide +kernel
def site : List Cond := [.fieldLink "java/lang/String" 9 "java/lang/String" "value" "[B", IsL.tab, LChA.tab] ++ virtW "java/lang/String" 492 "java/lang/String" IsL.yN IsL.yN ++ staticW "java/lang/String" 495 LChA.yN
def tab : Cond := tabOf yN yB 2 (some .char) site
def P (x t : Addr) (V : Cell) (n : Nat) (f : Nat → Int32) (z : Int32) (fm : Value) (i : Nat) (args : Array Value) (s : State) : Prop := args = #[.ref x, .int (Int32.ofNat i)] ∧ Txt x t V 0 n f s ∧ i < n ∧ StaticIs s "java/lang/String" "COMPACT_STRINGS" "Z" (.int z) ∧ ¬ z = 0 ∧ StaticIs s "jdk/internal/util/Preconditions" "SIOOBE_FORMATTER" "Ljava/util/function/BiFunction;" fm ∧ fm.isRef = true
def E (f : Nat → Int32) (i : Nat) (r : Option Value) (s u : State) : Prop := XT.PureE (some (.int (f i))) r s u
/-- charAt(i) of a Latin-1 String of n chars, i < n: f i -/
theorem law (l : Launch) (x t : Addr) (V : Cell) (n : Nat) (f : Nat → Int32) (z : Int32) (fm : Value) (i : Nat) : Law l yN 2 1 3 40 yB 2 (some .char) site (P x t V n f z fm i) (E f i) [] 0 0 := by
  refine Law.of_walk (plainFor_of_name (by decide +kernel)) (by decide +kernel) (by decide +kernel) (by decide) (fun _ _ h => by rw [h.1]; rfl) (fun _ U U' hal hh h => ⟨h.1, h.2.1.mv hal hh, h.2.2.1, h.2.2.2.1.there hal hh, h.2.2.2.2.1, h.2.2.2.2.2.1.there hal hh, h.2.2.2.2.2.2⟩) (fun r U U' V V' h1 hal h2 h => XT.PureE.mv r U U' V V' h1 hal h2 h) ?_
  intro p e s m args below meth c s₁ X0 hexec hbytes hml hret hlk hnm hown hh0 W hP
  obtain ⟨rfl, hx, hi, s1, hz, s3, rf⟩ := hP
  have v31 := hx.2.2.2.1.2.2.2
  have hr := hx.2.2.2.2.2 i hi
  have hx0 := hx.mv X0.warmed.alike hh0
  have c1 : Steps p.tables e below (s₁.setTop (entryFrame m #[.ref x, .int (Int32.ofNat i)] 2)) (s₁.setTop (mkF m 1 #[.val (.ref x), .val (.int (Int32.ofNat i))] [.ref x])) := Steps.trans (entry rfl) (by
    show Steps p.tables e below (s₁.setTop (mkF m 0 #[.val (.ref x), .val (.int (Int32.ofNat i))] [])) _
    refine XS.aloadN X0.here hexec rfl (hb hbytes d0) rfl rfl ?_
    exact Steps.refl _)
  obtain ⟨v2, T2, X2, E2, g2⟩ := X0.callV hexec (IsL.law l x 0 z) hown (wks W (virtW "java/lang/String" 492 "java/lang/String" IsL.yN IsL.yN)) rfl (by decide) (wk W IsL.tab) (W := 0) (Nat.le_of_ble_eq_true rfl) (Nat.le_of_ble_eq_true rfl) (Nat.le_refl _) (Nat.le_refl _) (hx0.1.fc X0.warmed.alike) hx0.1.is (g := (mkF m 1 #[.val (.ref x), .val (.int (Int32.ofNat i))] [.ref x])) rfl (by rw [hml]; rfl) c1 (argsL := []) (rest := []) rfl rfl (by show 2 * 0 + 0 ≤ _; decide) (hb hbytes d1) (⟨rfl, hx0.2.2.1, hx.2.2.2.2.1.cd, s1.there X0.warmed.alike hh0, hz⟩)
  obtain ⟨rfl, q2⟩ := E2
  have hh2 := q2.trans hh0
  have hx2 := hx.mv X2.warmed.alike hh2
  obtain ⟨-, k1, k2⟩ | ⟨k0, -⟩ := hx.2.2.2.2.1
  · have c3 : Steps p.tables e below (s₁.setTop (entryFrame m #[.ref x, .int (Int32.ofNat i)] 2)) (T2.setTop (mkF m 8 #[.val (.ref x), .val (.int (Int32.ofNat i))] [.ref x])) := Steps.trans g2 (by
      refine XS.ifNo X2.here hexec rfl (hb hbytes d4) rfl (i0_eq_f (by decide)) ?_
      refine XS.aloadN X2.here hexec rfl (hb hbytes d7) rfl rfl ?_
      exact Steps.refl _)
    obtain ⟨T4, X4, q4, st4⟩ := X2.hget hexec hown (wk W (.fieldLink "java/lang/String" 9 "java/lang/String" "value" "[B")) hx2.2.1 (g := (mkF m 8 #[.val (.ref x), .val (.int (Int32.ofNat i))] [.ref x])) rfl (rest := []) rfl (hb hbytes d8)
    have hh4 := q4.trans hh2
    have c5 : Steps p.tables e below (s₁.setTop (entryFrame m #[.ref x, .int (Int32.ofNat i)] 2)) (T4.setTop (mkF m 12 #[.val (.ref x), .val (.int (Int32.ofNat i))] [.int (Int32.ofNat i), .ref t])) := (c3.trans (st4 _ (Steps.refl _))).trans (by
      refine XS.iloadN X4.here hexec rfl (hb hbytes d11) rfl ?_
      exact Steps.refl _)
    obtain ⟨v6, T6, X6, E6, g6⟩ := X4.callS hexec (LChA.law l t V i (lo8 (f i)) fm) hown (wks W (staticW "java/lang/String" 495 LChA.yN)) (wk W LChA.tab) (W := 0) (Nat.le_of_ble_eq_true rfl) (Nat.le_of_ble_eq_true rfl) (Nat.le_refl _) (Nat.le_refl _) (g := (mkF m 12 #[.val (.ref x), .val (.int (Int32.ofNat i))] [.int (Int32.ofNat i), .ref t])) rfl (by rw [hml]; rfl) c5 (argsL := [.ref t, .int (Int32.ofNat i)]) (rest := []) rfl rfl (by show 2 * 0 + 0 ≤ _; decide) (hb hbytes d12) (⟨rfl, hx.2.2.2.1.mv X4.warmed.alike hh4, (k2 i hi).1, s3.there X4.warmed.alike hh4, rf⟩)
    obtain ⟨rfl, q6⟩ := E6
    rw [chr8_lo8 hr.1 (k2 i hi).2] at g6
    exact ⟨T6, some (.int (f i)), _, _, _, X6, rfl, rfl, rfl, (fun h => by cases h), ⟨rfl, q6.trans hh4⟩, fun fs hl => Steps.trans g6 (X6.ireturnOut hexec hret (narrow_ch hr.1 hr.2) (Or.inr (Or.inr (Or.inr (Or.inl rfl)))) (hb hbytes d15) hl)⟩
  · exact absurd k0 (by decide)
theorem pays {l : Launch} {R : Room} {p : Program} {e : Env} {below : List Frame} {s : State} {sargs : Array Value} {len W : Nat} (x t : Addr) (V : Cell) (n : Nat) (f : Nat → Int32) (z : Int32) (fm : Value) (i : Nat) (htab : tab.before sargs s = true) (hfr : 4 ≤ R.frames) (hlo : W + 53 ≤ R.locals) :
    Back l R p e below s sargs yN len W (fun A₁ a₁ => A₁.cells + 0 ≤ R.cells ∧ A₁.slots + 0 ≤ R.slots ∧ P x t V n f z fm i a₁ A₁.U) (fun A₁ _ v₁ B₁ => E f i v₁ A₁.U B₁.U ∧ B₁.locs = A₁.locs ++ [] ∧ B₁.cells = A₁.cells + 0 ∧ B₁.slots = A₁.slots + 0) :=
  (law l x t V n f z fm i).pays htab hfr (by omega)
end ChN
end StrChars
namespace StrChars.Road
open Jvm Sem ClassFile Op Lib Jvm.Stand Jvm.Free Jvm.Free.XT
open Jvm.Lib.Cold (StaticIs)
/-- the words of String.charAt(int), the Latin-1 road alone -/
abbrev wordsChN : List Jvm.Cond := [.code ChN.yN ChN.yB 2 (some .char), .initialized ST, .fieldLink ST 9 ST "value" "[B", .fieldLink ST 38 ST "COMPACT_STRINGS" "Z", .fieldLink ST 15 ST "coder" "B", .code IsL.yN IsL.yB 1 (some .boolean), .methodLink ST 492 IsL.yN, .declares IsL.yN, .selects ST IsL.yN IsL.yN, .instanceMethod IsL.yN,
  .methodLink ST 495 LChA.yN, .static LChA.yN, .code LChA.yN LChA.yB 2 (some .char), .initialized "java/lang/StringLatin1", .methodLink "java/lang/StringLatin1" 9 JO.Str_checkIndex.yN, .static JO.Str_checkIndex.yN, .code JO.Str_checkIndex.yN JO.Str_checkIndex.yB 2 none,
  .fieldLink ST 1053 "jdk/internal/util/Preconditions" "SIOOBE_FORMATTER" "Ljava/util/function/BiFunction;", .methodLink ST 1059 JC.PreCheck.yN, .static JC.PreCheck.yN, .code JC.PreCheck.yN JC.PreCheck.yB 3 (some .int), .initialized "jdk/internal/util/Preconditions"]
theorem tabChN_of {a : Array Value} {s : State} (h : ∀ w ∈ wordsChN, w.before a s = true) : ChN.tab.before a s = true := by
  have hp : JC.PreCheck.tab.before a s = true := unparts (wk h (.code JC.PreCheck.yN JC.PreCheck.yB 3 (some .int))) (wks h (.initialized JC.PreCheck.yN.cls :: JC.PreCheck.site))
  have qk := consq hp h
  have hk : JO.Str_checkIndex.tab.before a s = true := unparts (wk qk (.code JO.Str_checkIndex.yN JO.Str_checkIndex.yB 2 none)) (wks qk (.initialized JO.Str_checkIndex.yN.cls :: JO.Str_checkIndex.site))
  have ql := consq hk h
  have hl : LChA.tab.before a s = true := unparts (wk ql (.code LChA.yN LChA.yB 2 (some .char))) (wks ql (.initialized LChA.yN.cls :: LChA.site))
  have hi : IsL.tab.before a s = true := unparts (wk h (.code IsL.yN IsL.yB 1 (some .boolean))) (wks h (.initialized IsL.yN.cls :: IsL.site))
  have q := consq hi (consq hl h)
  exact unparts (wk q (.code ChN.yN ChN.yB 2 (some .char))) (wks q (.initialized ChN.yN.cls :: ChN.site))
theorem movedChN {Z s : State} {a0 args : Array Value} (hZ : Z.Warmed39 s.vm) (hw : ∀ d ∈ wordsChN, d.before a0 Z = true) : ∀ d ∈ wordsChN, d.before args s = true := fun d hd => by
  have t : ∀ d ∈ wordsChN, (d.onTables && d.keepsFace) = true := by decide +kernel
  exact RoadKit.mv hZ (hw d hd) (t d hd)
/-- **charAt(i) OF A LATIN-1 STRING**, i < n: the char -/
theorem chN {p : Program} {l : Launch} {e : Env} {R : Room} {s : State} {args : Array Value} {below : List Frame} {len W : Nat} {Z : State} {a0 : Array Value} {h : Heap} (hZ : Z.Warmed39 s.vm) (hw : ∀ d ∈ wordsChN, d.before a0 Z = true) {kI : Nat} (wi : (Jvm.Cond.instantiable ST kI).before a0 Z = true)
    {x t : Addr} {kb : ClassId} {cs : List Int32} {N2 z : Int32} {vs : List Value} {fm : Value} {i : Nat} {j : Int32} (E : RoadKit.Exa Z h x ST) (V : RoadKit.Fld Z h x ST "value" "[B" (.ref t)) (C : RoadKit.Fld Z h x ST "coder" "B" (.int 0)) (K : RoadKit.Arv Z h t kb .byte N2 vs (.int 0)) (hc : CodA cs 0 N2 vs) (hb : ∀ c ∈ cs, ¬ c < 0 ∧ ¬ (65535 : Int32) < c)
    (S : RoadKit.Sta Z h ST "COMPACT_STRINGS" "Z" (.int z)) (hz : ¬ z = 0) (F : RoadKit.Sta Z h "jdk/internal/util/Preconditions" "SIOOBE_FORMATTER" "Ljava/util/function/BiFunction;" fm) (rf : fm.isRef = true) (l2 : cs.length ≤ 4000) (hi : i < cs.length) (hj : j = Int32.ofNat i) (hfr : 4 ≤ R.frames) (hlo : W + 53 ≤ R.locals) :
    Back l R p e below s args (⟨"java/lang/String", "charAt", "(I)C"⟩ : MethodName) len W (fun P a => a = #[.ref x, .int j] ∧ P.U.heap = h ∧ P.cells + 0 ≤ R.cells ∧ P.slots + 0 ≤ R.slots)
      (fun P _ v B => ∃ L, (v = some (.int (cs.getD i 0)) ∧ L = [] ∧ B.U.heap = h) ∧ B.locs = P.locs ++ L ∧ B.cells = P.cells + 0 ∧ B.slots = P.slots + 0) := by
  subst hj
  intro m meth c P g ig mk a X hg hsize hdg hW hn hp'
  obtain ⟨rfl, rfl, r1, r2⟩ := hp'
  have al : Z.vm.Alike P.U.vm := hZ.alike.trans X.warmed.alike
  obtain ⟨A, hx⟩ := txt_of wi al E V C K hc hb l2
  obtain ⟨v, B, X', ⟨⟨hv, hh⟩, hl, hk, hs⟩, st⟩ := ChN.pays x t A cs.length (fun j => cs.getD j 0) z fm i (tabChN_of (movedChN hZ hw)) hfr hlo m meth c P g ig mk _ X hg hsize hdg hW hn ⟨r1, r2, rfl, hx, hi, sta_is al S, hz, sta_is al F, rf⟩
  exact ⟨v, B, X', ⟨[], ⟨hv, rfl, hh⟩, hl, hk, hs⟩, st⟩
/-- what backV says of its String, as the contracts of this text ask it: cs's low bytes, coder 0 -/
theorem codOf {cs : List Int32} {n : Nat} (hn : cs.length = n) (hb : ∀ c ∈ cs, ¬ 255 < c) : CodA cs 0 (Int32.ofNat n) ((cs.map lo8).map Value.int) := Or.inl ⟨rfl, by rw [hn], by simp [List.map_map, Function.comp_def], hb⟩
end StrChars.Road
end Jvm.Pilot.@@N@@
namespace Jvm.Pilot.@@N@@
open Jvm Jvm.ClassFile Sem Op Lib Jvm.Free Jvm.Stand Jvm.LawKit Jvm.RoadKit Bundle Jvm.Pilot.@@N@@.Jvm.D
/-! own text: a small calculus of roads: 'Go' says that from here the method comes to its end. Third form: the constants of the list PL are paid once. -/
abbrev Cx : Type := (Program × Launch × Env × Room) × (State × MethodId × Array Value × List Frame) × (Method × Code) × (Nat × Nat × Bool × String × List (String × Nat)) × (List (String × Nat) × Nat × Nat)
abbrev Cx.p (C : Cx) : Program := C.1.1
abbrev Cx.l (C : Cx) : Launch := C.1.2.1
abbrev Cx.e (C : Cx) : Env := C.1.2.2.1
abbrev Cx.R (C : Cx) : Room := C.1.2.2.2
abbrev Cx.s (C : Cx) : State := C.2.1.1
abbrev Cx.m (C : Cx) : MethodId := C.2.1.2.1
abbrev Cx.args (C : Cx) : Array Value := C.2.1.2.2.1
abbrev Cx.below (C : Cx) : List Frame := C.2.1.2.2.2
abbrev Cx.meth (C : Cx) : Method := C.2.2.1.1
abbrev Cx.c (C : Cx) : Code := C.2.2.1.2
abbrev Cx.ck (C : Cx) : Nat := C.2.2.2.1.1
abbrev Cx.ns (C : Cx) : Nat := C.2.2.2.1.2.1
abbrev Cx.wide (C : Cx) : Bool := C.2.2.2.1.2.2.1
abbrev Cx.own (C : Cx) : String := C.2.2.2.1.2.2.2.1
abbrev Cx.EL (C : Cx) : List (String × Nat) := C.2.2.2.1.2.2.2.2
abbrev Cx.PL (C : Cx) : List (String × Nat) := C.2.2.2.2.1
abbrev Cx.cs (C : Cx) : Nat := C.2.2.2.2.2.1
abbrev Cx.r (C : Cx) : Nat := C.2.2.2.2.2.2
abbrev StandC (C : Cx) (vm0 : Vm) (T : State) (locs : List Loc) (k n : Nat) : Prop := Stand C.p C.l C.e C.R (C.s.setVm vm0) C.m C.args C.below C.meth C.c T locs k n
abbrev StepsC (C : Cx) (a b : State) : Prop := Steps C.p.tables C.e C.below a b
/-- how many of the constants are not resolved yet -/
def rho (Z : State) (PL : List (String × Nat)) (vm : Vm) : Nat := (PL.filter fun p => ((Z.setVm vm).resolvedAt? p.1 p.2).isNone).length
def big (rm : Room) (r cs : Nat) : Room := { frames := rm.frames, cells := rm.cells + 2 * r, slots := rm.slots + cs * r, locals := rm.locals }
def Ok (C : Cx) (Z : State) (a0 : Array Value) (b : ByteArray) (ml : Nat) (ret : Option FieldType) (nm own : String) (rm : Room) : Prop :=
  C.p.tables.exec = Jvm.exec ∧ C.c.code = b ∧ C.c.maxLocals = ml ∧ C.meth.sig.returnType = ret ∧ C.meth.name = nm ∧ C.own = own ∧ (C.R = big rm C.r C.cs ∧ rho Z C.PL C.s.vm ≤ C.r) ∧ C.meth.locks = false ∧ C.ck = rm.cells ∧ C.ns = rm.slots ∧ EW Z a0 C.EL ∧ (∀ d ∈ tables_1, d.before a0 Z = true)
def Bal (C : Cx) (Z : State) (vm0 : Vm) (k' n' k n : Nat) : Prop := k' + 2 * rho Z C.PL vm0 ≤ k + 2 * rho Z C.PL C.s.vm ∧ n' + C.cs * rho Z C.PL vm0 ≤ n + C.cs * rho Z C.PL C.s.vm
def Hr (C : Cx) (Z : State) (n0 : Nat) (M : List Addr) (T : State) (h : Heap) (k n : Nat) : Prop :=
  ∃ (vm0 : Vm) (locs : List Loc) (k0 k' n' : Nat), StandC C vm0 T locs k' n' ∧ Bal C Z vm0 k' n' k n ∧ T.heap = h ∧ Z.Warmed39 vm0 ∧ vm0.findClass C.own = some C.m.cls ∧ C.s.Since vm0 k0 ∧ k0 ≤ h.size ∧ Fr n0 locs ∧ (C.wide = true ∨ vm0 = C.s.vm) ∧ CHr Z C.EL C.s.vm C.s.heap vm0 h ∧ (∀ x ∈ M, x < h.size ∧ Safe Z C.EL vm0 h x)
/-- a may be written: no constant's String lies there -/
def SafeOk (C : Cx) (Z : State) (M : List Addr) (h : Heap) (a : Addr) : Prop := C.EL = [] ∨ a ∈ M ∨ ∀ vm : Vm, Z.vm.Alike vm → Safe Z C.EL vm h a
def EndC (C : Cx) (Z : State) (o : Outcome) (s₂ : State) (L : List Loc) : Prop := CHr Z C.EL C.s.vm C.s.heap s₂.vm s₂.heap ∧ (C.wide = true → ∃ k n, ReturnedEndW C.s o s₂ L k n ∧ Bal C Z s₂.vm k n C.ck C.ns) ∧ (C.wide = false → FrameEnd C.s o s₂ L C.ck C.ns)
def Go (C : Cx) (Z : State) (n0 : Nat) (Q : Option Value → Heap → Prop) (M : List Addr) (h : Heap) (k n pc : Nat) (L : Array Slot) (S : List Value) : Prop :=
  ∀ T, Hr C Z n0 M T h k n → ∃ (s₂ : State) (o : Outcome), StepsC C (T.setTop (mkF C.m pc L S)) s₂ ∧ s₂.status = .running ∧ Ended s₂ C.below o ∧ ∃ (v : Option Value) (Lc : List Loc), o = .returned v ∧ (Q v s₂.heap ∧ Fr n0 Lc ∧ C.s.heap.size ≤ s₂.heap.size) ∧ EndC C Z o s₂ Lc
section Cal
variable {C : Cx} {Z : State} {a0 : Array Value} {b : ByteArray} {ml : Nat} {ret : Option FieldType} {nm own : String} {rm : Room} {n0 : Nat} {Q : Option Value → Heap → Prop} {M : List Addr} {h : Heap} {k n pc : Nat} {L : Array Slot} {S : List Value}
theorem Ok.hw (o : Ok C Z a0 b ml ret nm own rm) : ∀ d ∈ tables_1, d.before a0 Z = true := o.2.2.2.2.2.2.2.2.2.2.2
theorem Ok.ew (o : Ok C Z a0 b ml ret nm own rm) : EW Z a0 C.EL := o.2.2.2.2.2.2.2.2.2.2.1
theorem Ok.bigR (o : Ok C Z a0 b ml ret nm own rm) : C.R = big rm C.r C.cs := o.2.2.2.2.2.2.1.1
theorem Ok.rr (o : Ok C Z a0 b ml ret nm own rm) : rho Z C.PL C.s.vm ≤ C.r := o.2.2.2.2.2.2.1.2
theorem Ok.rf (o : Ok C Z a0 b ml ret nm own rm) {x : Nat} (h : x ≤ rm.frames) : x ≤ C.R.frames := by rw [o.bigR]; exact h
theorem Ok.rl (o : Ok C Z a0 b ml ret nm own rm) {x : Nat} (h : x ≤ rm.locals) : x ≤ C.R.locals := by rw [o.bigR]; exact h
theorem rho_le (PL : List (String × Nat)) (vm : Vm) : rho Z PL vm ≤ PL.length := List.length_filter_le _ _
theorem Ok.rc (o : Ok C Z a0 b ml ret nm own rm) {vm0 : Vm} {k' n' d : Nat} (B : Bal C Z vm0 k' n' k n) (h : k + d ≤ rm.cells) : k' + d ≤ C.R.cells := by
  rw [o.bigR]; show k' + d ≤ rm.cells + 2 * C.r
  have := o.rr; have := B.1; omega
theorem Ok.rs (o : Ok C Z a0 b ml ret nm own rm) {vm0 : Vm} {k' n' d : Nat} (B : Bal C Z vm0 k' n' k n) (h : n + d ≤ rm.slots) : n' + d ≤ C.R.slots := by
  rw [o.bigR]; show n' + d ≤ rm.slots + C.cs * C.r
  have := Nat.mul_le_mul_left C.cs o.rr; have := B.2; omega
theorem Bal.add {vm0 : Vm} {k' n' : Nat} (B : Bal C Z vm0 k' n' k n) (d e : Nat) : Bal C Z vm0 (k' + d) (n' + e) (k + d) (n + e) := ⟨by have := B.1; omega, by have := B.2; omega⟩
theorem rho_mono {PL : List (String × Nat)} {vm0 vm1 : Vm} (hW : (Z.setVm vm0).Warmed39 vm1) : rho Z PL vm1 ≤ rho Z PL vm0 := by
  induction PL with
  | nil => exact Nat.le_refl _
  | cons p t ih =>
    have ih : (t.filter fun p => ((Z.setVm vm1).resolvedAt? p.1 p.2).isNone).length ≤ (t.filter fun p => ((Z.setVm vm0).resolvedAt? p.1 p.2).isNone).length := ih
    show ((p :: t).filter fun p => ((Z.setVm vm1).resolvedAt? p.1 p.2).isNone).length ≤ ((p :: t).filter fun p => ((Z.setVm vm0).resolvedAt? p.1 p.2).isNone).length
    rw [List.filter_cons, List.filter_cons]
    cases h0 : (Z.setVm vm0).resolvedAt? p.1 p.2 with
    | none =>
      simp only [Option.isNone_none, if_true, List.length_cons]
      split
      · simp only [List.length_cons]; omega
      · omega
    | some r =>
      have h1 : (Z.setVm vm1).resolvedAt? p.1 p.2 = some r := State.resolvedAt?_warmed39 (s := Z.setVm vm0) hW h0
      rw [h1]; simpa using ih
theorem rho_step {PL : List (String × Nat)} {vm0 vm1 : Vm} (hW : (Z.setVm vm0).Warmed39 vm1) {p : String × Nat} (hp : p ∈ PL) (h0 : (Z.setVm vm0).resolvedAt? p.1 p.2 = none) {r : Resolved} (h1 : (Z.setVm vm1).resolvedAt? p.1 p.2 = some r) : rho Z PL vm1 + 1 ≤ rho Z PL vm0 := by
  induction PL with
  | nil => cases hp
  | cons q t ih =>
    have hm : rho Z t vm1 ≤ rho Z t vm0 := rho_mono hW
    have hm' : (t.filter fun p => ((Z.setVm vm1).resolvedAt? p.1 p.2).isNone).length ≤ (t.filter fun p => ((Z.setVm vm0).resolvedAt? p.1 p.2).isNone).length := hm
    show ((q :: t).filter fun p => ((Z.setVm vm1).resolvedAt? p.1 p.2).isNone).length + 1 ≤ ((q :: t).filter fun p => ((Z.setVm vm0).resolvedAt? p.1 p.2).isNone).length
    rw [List.filter_cons, List.filter_cons]
    rcases List.mem_cons.mp hp with rfl | hp
    · rw [h0, h1]; simp; omega
    · have ih : (t.filter fun p => ((Z.setVm vm1).resolvedAt? p.1 p.2).isNone).length + 1 ≤ (t.filter fun p => ((Z.setVm vm0).resolvedAt? p.1 p.2).isNone).length := ih hp
      cases hq : (Z.setVm vm0).resolvedAt? q.1 q.2 with
      | none =>
        simp only [Option.isNone_none, if_true, List.length_cons]
        split
        · simp only [List.length_cons]; omega
        · omega
      | some r' =>
        have hq1 : (Z.setVm vm1).resolvedAt? q.1 q.2 = some r' := State.resolvedAt?_warmed39 (s := Z.setVm vm0) hW hq
        rw [hq1]; simpa using ih
theorem Bal.warm {vm0 vm1 : Vm} {k' n' : Nat} (B : Bal C Z vm0 k' n' k n) (hW : (Z.setVm vm0).Warmed39 vm1) : Bal C Z vm1 k' n' k n := by
  have q := rho_mono (Z := Z) (PL := C.PL) hW
  exact ⟨by have := B.1; omega, by have := B.2; have := Nat.mul_le_mul_left C.cs q; omega⟩
theorem Ok.hown (o : Ok C Z a0 b ml ret nm own rm) : C.own = own := o.2.2.2.2.2.1
theorem Ok.hret (o : Ok C Z a0 b ml ret nm own rm) : C.meth.sig.returnType = ret := o.2.2.2.1
theorem Go.by {pc' : Nat} {L' : Array Slot} {S' : List Value} (K : Go C Z n0 Q M h k n pc' L' S')
    (st : ∀ (T : State) (vm0 : Vm) (locs : List Loc) (k' n' : Nat) (target : State), StandC C vm0 T locs k' n' → Z.Warmed39 vm0 → vm0.findClass C.own = some C.m.cls → T.heap = h → StepsC C (T.setTop (mkF C.m pc' L' S')) target → StepsC C (T.setTop (mkF C.m pc L S)) target) : Go C Z n0 Q M h k n pc L S := fun T H => by
  obtain ⟨s₂, oc, s1, r⟩ := K T H
  obtain ⟨vm0, locs, k0, k', n', X, B, e1, e2, e3, -⟩ := H
  exact ⟨s₂, oc, st T vm0 locs k' n' s₂ X e2 e3 e1 s1, r⟩
/-- the heap goes on from h to h', and the constants' invariant with it -/
def Mv (C : Cx) (Z : State) (M M' : List Addr) (h h' : Heap) : Prop := ∀ vm0 : Vm, Z.Warmed39 vm0 → CHv Z C.EL vm0 h → (∀ x ∈ M, x < h.size ∧ Safe Z C.EL vm0 h x) → CHr Z C.EL vm0 h vm0 h' ∧ ∀ x ∈ M', x < h'.size ∧ Safe Z C.EL vm0 h' x
theorem safe_nil {vm : Vm} {a : Addr} {EL : List (String × Nat)} (hE : EL = []) : Safe Z EL vm h a := fun B => by
  obtain ⟨p, hp, -⟩ := B
  rw [hE] at hp; cases hp
theorem chr_nil {vm vm1 : Vm} {h' : Heap} {EL : List (String × Nat)} (hE : EL = []) (hs : h.size ≤ h'.size) : CHr Z EL vm h vm1 h' := ⟨fun p hp => (by rw [hE] at hp; cases hp), hs, fun y q => absurd q (safe_nil hE)⟩
theorem SafeOk.safe {a : Addr} (q : SafeOk C Z M h a) {vm0 : Vm} (hZ : Z.Warmed39 vm0) (hM : ∀ x ∈ M, x < h.size ∧ Safe Z C.EL vm0 h x) : Safe Z C.EL vm0 h a := by
  rcases q with q | q | q
  · exact safe_nil q
  · exact (hM a q).2
  · exact q vm0 hZ.alike
theorem Mv.refl : Mv C Z M M h h := fun vm0 hZ H hM => ⟨CHr.refl H, hM⟩
theorem Mv.ext {h' : Heap} (E : Ext h h') : Mv C Z M M h h' := fun vm0 hZ H hM => ⟨CHr.ext E H, fun x hx => ⟨Nat.lt_of_lt_of_le (hM x hx).1 E.1, Safe.ext E H (hM x hx).2⟩⟩
theorem Mv.new {h' : Heap} {M' : List Addr} (E : Ext h h') (hl : h.size < h'.size) (hM' : ∀ x ∈ M', x ∈ M ∨ x = h.size) : Mv C Z M M' h h' := fun vm0 hZ H hM => ⟨CHr.ext E H, fun x hx => by
  rcases hM' x hx with q | rfl
  · exact ⟨Nat.lt_of_lt_of_le (hM x q).1 E.1, Safe.ext E H (hM x q).2⟩
  · exact ⟨hl, Safe.ext E H (Safe.new (Nat.le_refl _))⟩⟩
theorem Mv.wr {h' : Heap} {a : Addr} {sl : Nat} {v : Value} (W : Wr h h' a sl v) (q : SafeOk C Z M h a) : Mv C Z M M h h' := fun vm0 hZ H hM => ⟨CHr.wr W (q.safe hZ hM) H, fun x hx => ⟨by rw [W.size]; exact (hM x hx).1, Safe.wr W (q.safe hZ hM) H (hM x hx).2⟩⟩
theorem Mv.keep {h' : Heap} {ws : List Addr} (K : Keep h h' ws) (q : ∀ x ∈ ws, SafeOk C Z M h x) : Mv C Z M M h h' := fun vm0 hZ H hM =>
  have hs : ∀ x ∈ ws, Safe Z C.EL vm0 h x := fun x hx => (q x hx).safe hZ hM
  ⟨CHr.keep K hs H, fun x hx => ⟨Nat.lt_of_lt_of_le (hM x hx).1 K.1, Safe.keep K hs H (hM x hx).2⟩⟩
theorem Mv.triv {h' : Heap} (hE : C.EL = []) (hs : h.size ≤ h'.size) : Mv C Z M M h h' := fun vm0 hZ H hM => ⟨chr_nil hE hs, fun x hx => ⟨Nat.lt_of_lt_of_le (hM x hx).1 hs, safe_nil hE⟩⟩
theorem Go.via {ι : Type} {P : ι → Heap → Prop} {S' : ι → List Value} {dk dn pc' : Nat} {L' : Array Slot} {M' : List Addr} (K : ∀ i h', P i h' → Go C Z n0 Q M' h' (k + dk) (n + dn) pc' L' (S' i))
    (st : ∀ (T : State) (vm0 : Vm) (locs : List Loc) (k' n' : Nat), StandC C vm0 T locs k' n' → Bal C Z vm0 k' n' k n → Z.Warmed39 vm0 → vm0.findClass C.own = some C.m.cls → T.heap = h → Fr n0 locs →
      ∃ (i : ι) (T' : State) (locs' : List Loc) (h' : Heap), P i h' ∧ StandC C vm0 T' locs' (k' + dk) (n' + dn) ∧ T'.heap = h' ∧ Fr n0 locs' ∧ Mv C Z M M' h h' ∧ ∀ target, StepsC C (T'.setTop (mkF C.m pc' L' (S' i))) target → StepsC C (T.setTop (mkF C.m pc L S)) target) : Go C Z n0 Q M h k n pc L S := fun T H => by
  obtain ⟨vm0, locs, k0, k', n', X, B, e1, e2, e3, e4, e5, e6, e7, e8, e9⟩ := H
  obtain ⟨i, T', locs', h', hP, X', e1', N', mv', step⟩ := st T vm0 locs k' n' X B e2 e3 e1 e6
  obtain ⟨m1, m2⟩ := mv' vm0 e2 e8.1 e9
  obtain ⟨s₂, oc, s1, r⟩ := K i h' hP T' ⟨vm0, locs', k0, _, _, X', B.add dk dn, e1', e2, e3, e4, Nat.le_trans e5 m1.2.1, N', e7, e8.trans m1, m2⟩
  exact ⟨s₂, oc, step _ s1, r⟩
theorem Go.viaW (hwide : C.wide = true) {ι : Type} {P : ι → Heap → Prop} {S' : ι → List Value} {dk dn pc' : Nat} {L' : Array Slot} (K : ∀ i h', P i h' → Go C Z n0 Q M h' (k + dk) (n + dn) pc' L' (S' i))
    (st : ∀ (T : State) (vm0 : Vm) (locs : List Loc) (k0 k' n' : Nat), StandC C vm0 T locs k' n' → Bal C Z vm0 k' n' k n → Z.Warmed39 vm0 → vm0.findClass C.own = some C.m.cls → T.heap = h → Fr n0 locs → C.s.Since vm0 k0 → k0 ≤ h.size → CHv Z C.EL vm0 h → (∀ x ∈ M, x < h.size ∧ Safe Z C.EL vm0 h x) →
      ∃ (i : ι) (T' : State) (vm1 : Vm) (locs' : List Loc) (h' : Heap) (k1 k2 n2 : Nat), P i h' ∧ StandC C vm1 T' locs' k2 n2 ∧ Bal C Z vm1 k2 n2 (k + dk) (n + dn) ∧ T'.heap = h' ∧ Fr n0 locs' ∧ C.s.Since vm1 k1 ∧ k1 ≤ h'.size ∧ Z.Warmed39 vm1 ∧ vm1.findClass C.own = some C.m.cls ∧ CHr Z C.EL vm0 h vm1 h' ∧
        ∀ target, StepsC C (T'.setTop (mkF C.m pc' L' (S' i))) target → StepsC C (T.setTop (mkF C.m pc L S)) target) : Go C Z n0 Q M h k n pc L S := fun T H => by
  obtain ⟨vm0, locs, k0, k', n', X, B, e1, e2, e3, e4, e5, e6, e7, e8, e9⟩ := H
  obtain ⟨i, T', vm1, locs', h', k1, k2, n2, hP, X', B', e1', N', hS, hk, hW, hf, hC, step⟩ := st T vm0 locs k0 k' n' X B e2 e3 e1 e6 e4 e5 e8.1 e9
  obtain ⟨s₂, oc, s1, r⟩ := K i h' hP T' ⟨vm1, locs', k1, k2, n2, X', B', e1', hW, hf, hS, hk, N', Or.inl hwide, e8.trans hC, fun x hx => ⟨Nat.lt_of_lt_of_le (e9 x hx).1 hC.2.1, hC.safe (e9 x hx).1 (e9 x hx).2⟩⟩
  exact ⟨s₂, oc, step _ s1, r⟩
theorem Go.mine {x : Addr} (hx : x < h.size) (hs : ∀ vm : Vm, Z.vm.Alike vm → Safe Z C.EL vm h x) (K : Go C Z n0 Q (x :: M) h k n pc L S) : Go C Z n0 Q M h k n pc L S := fun T H => by
  obtain ⟨vm0, locs, k0, k', n', X, B, e1, e2, e3, e4, e5, e6, e7, e8, e9⟩ := H
  exact K T ⟨vm0, locs, k0, k', n', X, B, e1, e2, e3, e4, e5, e6, e7, e8, fun y hy => by
    rcases List.mem_cons.mp hy with rfl | q
    · exact ⟨hx, hs vm0 e2.alike⟩
    · exact e9 y q⟩
theorem Go.less {M' : List Addr} (hM : ∀ x ∈ M', x ∈ M) (K : Go C Z n0 Q M' h k n pc L S) : Go C Z n0 Q M h k n pc L S := fun T H => by
  obtain ⟨vm0, locs, k0, k', n', X, B, e1, e2, e3, e4, e5, e6, e7, e8, e9⟩ := H
  exact K T ⟨vm0, locs, k0, k', n', X, B, e1, e2, e3, e4, e5, e6, e7, e8, fun y hy => e9 y (hM y hy)⟩
theorem Go.mono {k1 n1 : Nat} (hk : k ≤ k1) (hn : n ≤ n1) (K : Go C Z n0 Q M h k1 n1 pc L S) : Go C Z n0 Q M h k n pc L S := fun T H => by
  obtain ⟨vm0, locs, k0, k', n', X, B, r⟩ := H
  exact K T ⟨vm0, locs, k0, k', n', X, ⟨by have := B.1; omega, by have := B.2; omega⟩, r⟩
theorem Go.at {pc' : Nat} {L' : Array Slot} {S' : List Value} (K : Go C Z n0 Q M h k n pc' L' S') (hp : pc' = pc) (hL : L' = L) (hS : S' = S) : Go C Z n0 Q M h k n pc L S := by subst hp hL hS; exact K
/-! the return -/
theorem g_end (o : Ok C Z a0 b ml ret nm own rm) {v : Option Value} (q : Q v h) (hk : k ≤ rm.cells) (hn : n ≤ rm.slots) (hv : ret = none → v = none)
    (st : ∀ (T : State) (vm0 : Vm) (locs : List Loc) (k' n' : Nat) (fs : List Frame), StandC C vm0 T locs k' n' → (∀ (f : JFrame) (acts : List Action), f.method = C.m → f.locked = none → f.entered = [] → (doReturn C.e (T.setTop f) acts v).1 = T.setFrames fs) → StepsC C (T.setTop (mkF C.m pc L S)) (T.setFrames fs)) : Go C Z n0 Q M h k n pc L S := fun T H => by
  obtain ⟨vm0, locs, k0, k', n', X, B, e1, e2, e3, e4, e5, e6, e7, e8, -⟩ := H
  subst e1
  have hch : CHr Z C.EL C.s.vm C.s.heap T.vm T.heap := e8.trans (CHv.at X e2 o.ew e8.1)
  have hlk := o.2.2.2.2.2.2.2.1
  have hk' : k ≤ C.ck := by rw [o.2.2.2.2.2.2.2.2.1]; exact hk
  have hn' : n ≤ C.ns := by rw [o.2.2.2.2.2.2.2.2.2.1]; exact hn
  have hsz : C.s.heap.size ≤ T.heap.size := X.same.2.1
  have hwz : (Z.setVm vm0).Warmed39 T.vm := (X.warmed.wide :)
  have B1 : Bal C Z vm0 k' n' C.ck C.ns := ⟨by have := B.1; omega, by have := B.2; omega⟩
  rcases hw : C.wide with _ | _
  · have e8' : vm0 = C.s.vm := by rcases e7 with e7 | e7; · rw [hw] at e7; cases e7
                                  · exact e7
    subst e8'
    have X' := X.more (cells' := C.ck) (slots' := C.ns) (by have := B1.1; omega) (by have := B1.2; omega)
    obtain ⟨fs, hr, hrun, hended, hW, hsame⟩ := X'.leave (v := v) (fun hh => hv (o.hret.symm.trans hh)) hlk
    exact ⟨_, _, st T _ locs _ _ fs X hr, hrun, hended, v, locs, rfl, ⟨q, e6, hsz⟩, hch, fun hh => (by rw [hw] at hh; cases hh), fun _ => ⟨⟨v, rfl⟩, hW, hsame⟩⟩
  · obtain ⟨fs2, hr2, hrun2, hended2, hWW⟩ := X.leaveW (v := v) e4 e5 (fun hh => hv (o.hret.symm.trans hh)) hlk
    exact ⟨_, _, st T _ locs _ _ fs2 X hr2, hrun2, hended2, v, locs, rfl, ⟨q, e6, hsz⟩, hch, fun _ => ⟨_, _, hWW, B1.warm hwz⟩, fun hh => (by rw [hw] at hh; cases hh)⟩
theorem g_ireturn (o : Ok C Z a0 b ml (some .int) nm own rm) {x : Int32} (d : decode b pc = .ok (.ireturn, 1)) (q : Q (some (.int x)) h) (hk : k ≤ rm.cells) (hn : n ≤ rm.slots) : Go C Z n0 Q M h k n pc L (.int x :: S) :=
  g_end o (v := some (.int x)) q hk hn (fun hh => by cases hh) fun T vm0 locs _ _ fs X hr => retOut X o.1 o.hret rfl (Or.inl ⟨rfl, Or.inl rfl, x, rfl⟩) (hb o.2.1 d) hr
theorem g_nreturn {t : FieldType} (o : Ok C Z a0 b ml (some t) nm own rm) {x y : Int32} (ht : t = .boolean ∨ t = .byte ∨ t = .char ∨ t = .short) (d : decode b pc = .ok (.ireturn, 1)) (hy : nar t x = y) (q : Q (some (.int y)) h) (hk : k ≤ rm.cells) (hn : n ≤ rm.slots) : Go C Z n0 Q M h k n pc L (.int x :: S) :=
  g_end o (v := some (.int y)) q hk hn (fun hh => by cases hh) fun T vm0 locs _ _ fs X hr => retN X o.1 o.hret ht (hb o.2.1 d) (by rw [hy]; exact hr)
theorem g_areturn {t : FieldType} (o : Ok C Z a0 b ml (some t) nm own rm) {w : Value} (ht : t.isReference = true) (hw : w.isRef = true) (d : decode b pc = .ok (.areturn, 1)) (q : Q (some w) h) (hk : k ≤ rm.cells) (hn : n ≤ rm.slots) : Go C Z n0 Q M h k n pc L (w :: S) :=
  g_end o (v := some w) q hk hn (fun hh => by cases hh) fun T vm0 locs _ _ fs X hr => retOut X o.1 o.hret (by cases t <;> first | (cases ht; done) | (rcases ref_cases hw with rfl | ⟨z, rfl⟩ <;> rfl)) (Or.inr (Or.inr (Or.inr (Or.inr ⟨rfl, ht, hw⟩)))) (hb o.2.1 d) hr
theorem g_return (o : Ok C Z a0 b ml none nm own rm) (d : decode b pc = .ok (.return_, 1)) (q : Q none h) (hk : k ≤ rm.cells) (hn : n ≤ rm.slots) : Go C Z n0 Q M h k n pc L [] :=
  g_end o (v := none) q hk hn (fun _ => rfl) fun T vm0 locs _ _ fs X hr => X.returnOut o.1 o.hret (hb o.2.1 d) hr
/-! plain steps -/
theorem g_aload_n (o : Ok C Z a0 b ml ret nm own rm) {j : Fin 4} {v : Value} (d : decode b pc = .ok (.aload_n j, 1)) (hl : L[j.val]? = some (.val (v))) (hv : v.isRef = true) (K : Go C Z n0 Q M h k n (pc + 1) L (v :: S)) : Go C Z n0 Q M h k n pc L (S) :=
  K.by fun T vm0 locs _ _ target X _ _ _ st => XS.aloadN X.here o.1 rfl (hb o.2.1 d) hl hv st
theorem g_aload (o : Ok C Z a0 b ml ret nm own rm) {j : Nat} {v : Value} (d : decode b pc = .ok (.aload j, 2)) (hl : L[j]? = some (.val (v))) (hv : v.isRef = true) (K : Go C Z n0 Q M h k n (pc + 2) L (v :: S)) : Go C Z n0 Q M h k n pc L (S) :=
  K.by fun T vm0 locs _ _ target X _ _ _ st => XS.aload X.here o.1 rfl (hb o.2.1 d) hl hv st
theorem g_iload_n (o : Ok C Z a0 b ml ret nm own rm) {j : Fin 4} {v : Int32} (d : decode b pc = .ok (.iload_n j, 1)) (hl : L[j.val]? = some (.val (.int v))) (K : Go C Z n0 Q M h k n (pc + 1) L (.int v :: S)) : Go C Z n0 Q M h k n pc L (S) :=
  K.by fun T vm0 locs _ _ target X _ _ _ st => XS.iloadN X.here o.1 rfl (hb o.2.1 d) hl st
theorem g_iload (o : Ok C Z a0 b ml ret nm own rm) {j : Nat} {v : Int32} (d : decode b pc = .ok (.iload j, 2)) (hl : L[j]? = some (.val (.int v))) (K : Go C Z n0 Q M h k n (pc + 2) L (.int v :: S)) : Go C Z n0 Q M h k n pc L (S) :=
  K.by fun T vm0 locs _ _ target X _ _ _ st => XS.iload X.here o.1 rfl (hb o.2.1 d) hl st
theorem g_lload_n (o : Ok C Z a0 b ml ret nm own rm) {j : Fin 4} {v : Int64} (d : decode b pc = .ok (.lload_n j, 1)) (hl : L[j.val]? = some (.val (.long v))) (K : Go C Z n0 Q M h k n (pc + 1) L (.long v :: S)) : Go C Z n0 Q M h k n pc L (S) :=
  K.by fun T vm0 locs _ _ target X _ _ _ st => XT.lloadN X.here o.1 rfl (hb o.2.1 d) hl st
theorem g_lload (o : Ok C Z a0 b ml ret nm own rm) {j : Nat} {v : Int64} (d : decode b pc = .ok (.lload j, 2)) (hl : L[j]? = some (.val (.long v))) (K : Go C Z n0 Q M h k n (pc + 2) L (.long v :: S)) : Go C Z n0 Q M h k n pc L (S) :=
  K.by fun T vm0 locs _ _ target X _ _ _ st => XT.lload X.here o.1 rfl (hb o.2.1 d) hl st
theorem g_astore_n (o : Ok C Z a0 b ml ret nm own rm) {j : Fin 4} {v : Value} {L' : Array Slot} (d : decode b pc = .ok (.astore_n j, 1)) (hv : v.isRef = true) (hl : storeLocals L j.val (v) = some L') (K : Go C Z n0 Q M h k n (pc + 1) L' (S)) : Go C Z n0 Q M h k n pc L (v :: S) :=
  K.by fun T vm0 locs _ _ target X _ _ _ st => XS.astoreN X.here o.1 rfl (hb o.2.1 d) rfl hv hl st
theorem g_astore (o : Ok C Z a0 b ml ret nm own rm) {j : Nat} {v : Value} {L' : Array Slot} (d : decode b pc = .ok (.astore j, 2)) (hv : v.isRef = true) (hl : storeLocals L j (v) = some L') (K : Go C Z n0 Q M h k n (pc + 2) L' (S)) : Go C Z n0 Q M h k n pc L (v :: S) :=
  K.by fun T vm0 locs _ _ target X _ _ _ st => XS.astore X.here o.1 rfl (hb o.2.1 d) rfl hv hl st
theorem g_istore_n (o : Ok C Z a0 b ml ret nm own rm) {j : Fin 4} {v : Int32} {L' : Array Slot} (d : decode b pc = .ok (.istore_n j, 1)) (hl : storeLocals L j.val (.int v) = some L') (K : Go C Z n0 Q M h k n (pc + 1) L' (S)) : Go C Z n0 Q M h k n pc L (.int v :: S) :=
  K.by fun T vm0 locs _ _ target X _ _ _ st => XS.istoreN X.here o.1 rfl (hb o.2.1 d) rfl hl st
theorem g_istore (o : Ok C Z a0 b ml ret nm own rm) {j : Nat} {v : Int32} {L' : Array Slot} (d : decode b pc = .ok (.istore j, 2)) (hl : storeLocals L j (.int v) = some L') (K : Go C Z n0 Q M h k n (pc + 2) L' (S)) : Go C Z n0 Q M h k n pc L (.int v :: S) :=
  K.by fun T vm0 locs _ _ target X _ _ _ st => XS.istore X.here o.1 rfl (hb o.2.1 d) rfl hl st
theorem g_lstore_n (o : Ok C Z a0 b ml ret nm own rm) {j : Fin 4} {v : Int64} {L' : Array Slot} (d : decode b pc = .ok (.lstore_n j, 1)) (hl : storeLocals L j.val (.long v) = some L') (K : Go C Z n0 Q M h k n (pc + 1) L' (S)) : Go C Z n0 Q M h k n pc L (.long v :: S) :=
  K.by fun T vm0 locs _ _ target X _ _ _ st => XT.lstoreN X.here o.1 rfl (hb o.2.1 d) rfl hl st
theorem g_lstore (o : Ok C Z a0 b ml ret nm own rm) {j : Nat} {v : Int64} {L' : Array Slot} (d : decode b pc = .ok (.lstore j, 2)) (hl : storeLocals L j (.long v) = some L') (K : Go C Z n0 Q M h k n (pc + 2) L' (S)) : Go C Z n0 Q M h k n pc L (.long v :: S) :=
  K.by fun T vm0 locs _ _ target X _ _ _ st => XT.lstore X.here o.1 rfl (hb o.2.1 d) rfl hl st
theorem g_iinc (o : Ok C Z a0 b ml ret nm own rm) {j : Nat} {i : Int} {v w : Int32} {L' : Array Slot} (d : decode b pc = .ok (.iinc j i, 3)) (hl : L[j]? = some (.val (.int v))) (hv : v + Int32.ofInt i = w) (hl' : storeLocals L j (.int w) = some L') (K : Go C Z n0 Q M h k n (pc + 3) L' (S)) : Go C Z n0 Q M h k n pc L (S) :=
  K.by fun T vm0 locs _ _ target X _ _ _ st => XS.iinc X.here o.1 rfl (hb o.2.1 d) hl (hv ▸ hl') st
theorem g_iconst (o : Ok C Z a0 b ml ret nm own rm) {i : Int} {v : Int32} (d : decode b pc = .ok (.iconst i, 1)) (hv : Int32.ofInt i = v) (K : Go C Z n0 Q M h k n (pc + 1) L (.int v :: S)) : Go C Z n0 Q M h k n pc L (S) :=
  K.by fun T vm0 locs _ _ target X _ _ _ st => XS.iconst X.here o.1 rfl (hb o.2.1 d) (hv ▸ st)
theorem g_bipush (o : Ok C Z a0 b ml ret nm own rm) {i : Int} {v : Int32} (d : decode b pc = .ok (.bipush i, 2)) (hv : (Int8.ofInt i).toInt32 = v) (K : Go C Z n0 Q M h k n (pc + 2) L (.int v :: S)) : Go C Z n0 Q M h k n pc L (S) :=
  K.by fun T vm0 locs _ _ target X _ _ _ st => XS.bipush X.here o.1 rfl (hb o.2.1 d) (hv ▸ st)
theorem g_sipush (o : Ok C Z a0 b ml ret nm own rm) {i : Int} {v : Int32} (d : decode b pc = .ok (.sipush i, 3)) (hv : (Int16.ofInt i).toInt32 = v) (K : Go C Z n0 Q M h k n (pc + 3) L (.int v :: S)) : Go C Z n0 Q M h k n pc L (S) :=
  K.by fun T vm0 locs _ _ target X _ _ _ st => XS.sipush X.here o.1 rfl (hb o.2.1 d) (hv ▸ st)
theorem g_lconst (o : Ok C Z a0 b ml ret nm own rm) {i : Fin 2} {v : Int64} (d : decode b pc = .ok (.lconst i, 1)) (hv : Int64.ofNat i = v) (K : Go C Z n0 Q M h k n (pc + 1) L (.long v :: S)) : Go C Z n0 Q M h k n pc L (S) :=
  K.by fun T vm0 locs _ _ target X _ _ _ st => XT.lconst X.here o.1 rfl (hb o.2.1 d) (hv ▸ st)
theorem g_aconst_null (o : Ok C Z a0 b ml ret nm own rm)  (d : decode b pc = .ok (.aconst_null, 1)) (K : Go C Z n0 Q M h k n (pc + 1) L (.null :: S)) : Go C Z n0 Q M h k n pc L (S) :=
  K.by fun T vm0 locs _ _ target X _ _ _ st => XS.aconstNull X.here o.1 rfl (hb o.2.1 d) st
theorem g_iadd (o : Ok C Z a0 b ml ret nm own rm) {x y v : Int32} (d : decode b pc = .ok (.iadd, 1)) (hv : x + y = v) (K : Go C Z n0 Q M h k n (pc + 1) L (.int v :: S)) : Go C Z n0 Q M h k n pc L (.int y :: .int x :: S) :=
  K.by fun T vm0 locs _ _ target X _ _ _ st => XS.iadd X.here o.1 rfl (hb o.2.1 d) rfl (hv ▸ st)
theorem g_isub (o : Ok C Z a0 b ml ret nm own rm) {x y v : Int32} (d : decode b pc = .ok (.isub, 1)) (hv : x - y = v) (K : Go C Z n0 Q M h k n (pc + 1) L (.int v :: S)) : Go C Z n0 Q M h k n pc L (.int y :: .int x :: S) :=
  K.by fun T vm0 locs _ _ target X _ _ _ st => XS.isub X.here o.1 rfl (hb o.2.1 d) rfl (hv ▸ st)
theorem g_imul (o : Ok C Z a0 b ml ret nm own rm) {x y v : Int32} (d : decode b pc = .ok (.imul, 1)) (hv : x * y = v) (K : Go C Z n0 Q M h k n (pc + 1) L (.int v :: S)) : Go C Z n0 Q M h k n pc L (.int y :: .int x :: S) :=
  K.by fun T vm0 locs _ _ target X _ _ _ st => XS.imul X.here o.1 rfl (hb o.2.1 d) rfl (hv ▸ st)
theorem g_iand (o : Ok C Z a0 b ml ret nm own rm) {x y v : Int32} (d : decode b pc = .ok (.iand, 1)) (hv : x &&& y = v) (K : Go C Z n0 Q M h k n (pc + 1) L (.int v :: S)) : Go C Z n0 Q M h k n pc L (.int y :: .int x :: S) :=
  K.by fun T vm0 locs _ _ target X _ _ _ st => XS.iand X.here o.1 rfl (hb o.2.1 d) rfl (hv ▸ st)
theorem g_ior (o : Ok C Z a0 b ml ret nm own rm) {x y v : Int32} (d : decode b pc = .ok (.ior, 1)) (hv : x ||| y = v) (K : Go C Z n0 Q M h k n (pc + 1) L (.int v :: S)) : Go C Z n0 Q M h k n pc L (.int y :: .int x :: S) :=
  K.by fun T vm0 locs _ _ target X _ _ _ st => XT.ior X.here o.1 rfl (hb o.2.1 d) rfl (hv ▸ st)
theorem g_ixor (o : Ok C Z a0 b ml ret nm own rm) {x y v : Int32} (d : decode b pc = .ok (.ixor, 1)) (hv : x ^^^ y = v) (K : Go C Z n0 Q M h k n (pc + 1) L (.int v :: S)) : Go C Z n0 Q M h k n pc L (.int y :: .int x :: S) :=
  K.by fun T vm0 locs _ _ target X _ _ _ st => XT.ixor X.here o.1 rfl (hb o.2.1 d) rfl (hv ▸ st)
theorem g_ishl (o : Ok C Z a0 b ml ret nm own rm) {x y v : Int32} (d : decode b pc = .ok (.ishl, 1)) (hv : x <<< (y &&& 31) = v) (K : Go C Z n0 Q M h k n (pc + 1) L (.int v :: S)) : Go C Z n0 Q M h k n pc L (.int y :: .int x :: S) :=
  K.by fun T vm0 locs _ _ target X _ _ _ st => XT.ishl X.here o.1 rfl (hb o.2.1 d) rfl (hv ▸ st)
theorem g_ishr (o : Ok C Z a0 b ml ret nm own rm) {x y v : Int32} (d : decode b pc = .ok (.ishr, 1)) (hv : x >>> (y &&& 31) = v) (K : Go C Z n0 Q M h k n (pc + 1) L (.int v :: S)) : Go C Z n0 Q M h k n pc L (.int y :: .int x :: S) :=
  K.by fun T vm0 locs _ _ target X _ _ _ st => XT.ishr X.here o.1 rfl (hb o.2.1 d) rfl (hv ▸ st)
theorem g_iushr (o : Ok C Z a0 b ml ret nm own rm) {x y v : Int32} (d : decode b pc = .ok (.iushr, 1)) (hv : XT.ushr x y = v) (K : Go C Z n0 Q M h k n (pc + 1) L (.int v :: S)) : Go C Z n0 Q M h k n pc L (.int y :: .int x :: S) :=
  K.by fun T vm0 locs _ _ target X _ _ _ st => XT.iushr X.here o.1 rfl (hb o.2.1 d) rfl (hv ▸ st)
theorem g_idiv (o : Ok C Z a0 b ml ret nm own rm) {x y v : Int32} (d : decode b pc = .ok (.idiv, 1)) (hy : y ≠ 0) (hv : x / y = v) (K : Go C Z n0 Q M h k n (pc + 1) L (.int v :: S)) : Go C Z n0 Q M h k n pc L (.int y :: .int x :: S) :=
  K.by fun T vm0 locs _ _ target X _ _ _ st => XS.idiv X.here o.1 rfl (hb o.2.1 d) rfl hy (hv ▸ st)
theorem g_irem (o : Ok C Z a0 b ml ret nm own rm) {x y v : Int32} (d : decode b pc = .ok (.irem, 1)) (hy : y ≠ 0) (hv : x % y = v) (K : Go C Z n0 Q M h k n (pc + 1) L (.int v :: S)) : Go C Z n0 Q M h k n pc L (.int y :: .int x :: S) :=
  K.by fun T vm0 locs _ _ target X _ _ _ st => iremM X o.1 rfl (hb o.2.1 d) rfl hy (hv ▸ st)
theorem g_ineg (o : Ok C Z a0 b ml ret nm own rm) {x : Int32} {v : Int32} (d : decode b pc = .ok (.ineg, 1)) (hv : -x = v) (K : Go C Z n0 Q M h k n (pc + 1) L (.int v :: S)) : Go C Z n0 Q M h k n pc L (.int x :: S) :=
  K.by fun T vm0 locs _ _ target X _ _ _ st => XS.ineg X.here o.1 rfl (hb o.2.1 d) rfl (hv ▸ st)
theorem g_i2b (o : Ok C Z a0 b ml ret nm own rm) {x : Int32} {v : Int32} (d : decode b pc = .ok (.i2b, 1)) (hv : x.toInt8.toInt32 = v) (K : Go C Z n0 Q M h k n (pc + 1) L (.int v :: S)) : Go C Z n0 Q M h k n pc L (.int x :: S) :=
  K.by fun T vm0 locs _ _ target X _ _ _ st => XT.i2b X.here o.1 rfl (hb o.2.1 d) rfl (hv ▸ st)
theorem g_i2c (o : Ok C Z a0 b ml ret nm own rm) {x : Int32} {v : Int32} (d : decode b pc = .ok (.i2c, 1)) (hv : x.toUInt32.toUInt16.toUInt32.toInt32 = v) (K : Go C Z n0 Q M h k n (pc + 1) L (.int v :: S)) : Go C Z n0 Q M h k n pc L (.int x :: S) :=
  K.by fun T vm0 locs _ _ target X _ _ _ st => XT.i2c X.here o.1 rfl (hb o.2.1 d) rfl (hv ▸ st)
theorem g_i2s (o : Ok C Z a0 b ml ret nm own rm) {x : Int32} {v : Int32} (d : decode b pc = .ok (.i2s, 1)) (hv : x.toInt16.toInt32 = v) (K : Go C Z n0 Q M h k n (pc + 1) L (.int v :: S)) : Go C Z n0 Q M h k n pc L (.int x :: S) :=
  K.by fun T vm0 locs _ _ target X _ _ _ st => XT.i2s X.here o.1 rfl (hb o.2.1 d) rfl (hv ▸ st)
theorem g_i2l (o : Ok C Z a0 b ml ret nm own rm) {x : Int32} {v : Int64} (d : decode b pc = .ok (.i2l, 1)) (hv : x.toInt64 = v) (K : Go C Z n0 Q M h k n (pc + 1) L (.long v :: S)) : Go C Z n0 Q M h k n pc L (.int x :: S) :=
  K.by fun T vm0 locs _ _ target X _ _ _ st => XT.i2l X.here o.1 rfl (hb o.2.1 d) rfl (hv ▸ st)
theorem g_l2i (o : Ok C Z a0 b ml ret nm own rm) {x : Int64} {v : Int32} (d : decode b pc = .ok (.l2i, 1)) (hv : x.toInt32 = v) (K : Go C Z n0 Q M h k n (pc + 1) L (.int v :: S)) : Go C Z n0 Q M h k n pc L (.long x :: S) :=
  K.by fun T vm0 locs _ _ target X _ _ _ st => XT.l2i X.here o.1 rfl (hb o.2.1 d) rfl (hv ▸ st)
theorem g_ladd (o : Ok C Z a0 b ml ret nm own rm) {x y v : Int64} (d : decode b pc = .ok (.ladd, 1)) (hv : x + y = v) (K : Go C Z n0 Q M h k n (pc + 1) L (.long v :: S)) : Go C Z n0 Q M h k n pc L (.long y :: .long x :: S) :=
  K.by fun T vm0 locs _ _ target X _ _ _ st => XT.ladd X.here o.1 rfl (hb o.2.1 d) rfl (hv ▸ st)
theorem g_lsub (o : Ok C Z a0 b ml ret nm own rm) {x y v : Int64} (d : decode b pc = .ok (.lsub, 1)) (hv : x - y = v) (K : Go C Z n0 Q M h k n (pc + 1) L (.long v :: S)) : Go C Z n0 Q M h k n pc L (.long y :: .long x :: S) :=
  K.by fun T vm0 locs _ _ target X _ _ _ st => XT.lsub X.here o.1 rfl (hb o.2.1 d) rfl (hv ▸ st)
theorem g_land (o : Ok C Z a0 b ml ret nm own rm) {x y v : Int64} (d : decode b pc = .ok (.land, 1)) (hv : x &&& y = v) (K : Go C Z n0 Q M h k n (pc + 1) L (.long v :: S)) : Go C Z n0 Q M h k n pc L (.long y :: .long x :: S) :=
  K.by fun T vm0 locs _ _ target X _ _ _ st => XT.land X.here o.1 rfl (hb o.2.1 d) rfl (hv ▸ st)
theorem g_lcmp (o : Ok C Z a0 b ml ret nm own rm) {x y : Int64} {v : Int32} (d : decode b pc = .ok (.lcmp, 1)) (hv : XT.cmpL x y = v) (K : Go C Z n0 Q M h k n (pc + 1) L (.int v :: S)) : Go C Z n0 Q M h k n pc L (.long y :: .long x :: S) :=
  K.by fun T vm0 locs _ _ target X _ _ _ st => XT.lcmp X.here o.1 rfl (hb o.2.1 d) rfl (hv ▸ st)
theorem g_lushr (o : Ok C Z a0 b ml ret nm own rm) {x v : Int64} {y : Int32} (d : decode b pc = .ok (.lushr, 1)) (hv : XT.ushrL x y = v) (K : Go C Z n0 Q M h k n (pc + 1) L (.long v :: S)) : Go C Z n0 Q M h k n pc L (.int y :: .long x :: S) :=
  K.by fun T vm0 locs _ _ target X _ _ _ st => XT.lushr X.here o.1 rfl (hb o.2.1 d) rfl (hv ▸ st)
theorem g_dup (o : Ok C Z a0 b ml ret nm own rm) {x : Value} (d : decode b pc = .ok (.dup, 1)) (hc : x.category = 1) (K : Go C Z n0 Q M h k n (pc + 1) L (x :: x :: S)) : Go C Z n0 Q M h k n pc L (x :: S) :=
  K.by fun T vm0 locs _ _ target X _ _ _ st => XS.dup X.here o.1 rfl (hb o.2.1 d) rfl hc st
theorem g_pop (o : Ok C Z a0 b ml ret nm own rm) {x : Value} (d : decode b pc = .ok (.pop, 1)) (hc : x.category = 1) (K : Go C Z n0 Q M h k n (pc + 1) L (S)) : Go C Z n0 Q M h k n pc L (x :: S) :=
  K.by fun T vm0 locs _ _ target X _ _ _ st => XT.pop X.here o.1 rfl (hb o.2.1 d) rfl hc st
theorem g_dup_x1 (o : Ok C Z a0 b ml ret nm own rm) {x y : Value} (d : decode b pc = .ok (.dup_x1, 1)) (hc : x.category = 1) (hc' : y.category = 1) (K : Go C Z n0 Q M h k n (pc + 1) L (x :: y :: x :: S)) : Go C Z n0 Q M h k n pc L (x :: y :: S) :=
  K.by fun T vm0 locs _ _ target X _ _ _ st => XT.dupX1 X.here o.1 rfl (hb o.2.1 d) rfl hc hc' st
theorem g_dup2 (o : Ok C Z a0 b ml ret nm own rm) {x y : Value} (d : decode b pc = .ok (.dup2, 1)) (hc : x.category = 1) (hc' : y.category = 1) (K : Go C Z n0 Q M h k n (pc + 1) L (x :: y :: x :: y :: S)) : Go C Z n0 Q M h k n pc L (x :: y :: S) :=
  K.by fun T vm0 locs _ _ target X _ _ _ st => XT.dup2 X.here o.1 rfl (hb o.2.1 d) rfl hc hc' st
theorem g_goto (o : Ok C Z a0 b ml ret nm own rm) {i : Int} {t : Nat} (d : decode b pc = .ok (.goto i, 3)) (ho : 0 ≤ (pc : Int) + i) (ht : ((pc : Int) + i).toNat = t) (K : Go C Z n0 Q M h k n t L S) : Go C Z n0 Q M h k n pc L S :=
  K.by fun T vm0 locs _ _ target X _ _ _ st => XS.goto X.here o.1 rfl (pc0 := pc) rfl (hb o.2.1 d) ho ht st
theorem g_ifC (o : Ok C Z a0 b ml ret nm own rm) {cd : ClassFile.Cond} {P : Prop} {x : Int32} {i : Int} {t : Nat} (d : decode b pc = .ok (.ifCond cd i, 3)) (ho : 0 ≤ (pc : Int) + i) (ht : ((pc : Int) + i).toNat = t) (hP : if_icmp.holds cd x 0 = true ↔ P)
    (Ky : P → Go C Z n0 Q M h k n t L S) (Kn : ¬ P → Go C Z n0 Q M h k n (pc + 3) L S) : Go C Z n0 Q M h k n pc L (.int x :: S) := by
  rw [← if0] at hP
  by_cases hp : P
  · exact (Ky hp).by fun T vm0 locs _ _ target X _ _ _ st => XS.ifYes X.here o.1 rfl (pc0 := pc) rfl (hb o.2.1 d) rfl (hP.mpr hp) ho ht st
  · exact (Kn hp).by fun T vm0 locs _ _ target X _ _ _ st => XS.ifNo X.here o.1 rfl (hb o.2.1 d) rfl (Bool.eq_false_iff.mpr fun q => hp (hP.mp q)) st
theorem g_icmp (o : Ok C Z a0 b ml ret nm own rm) {cd : ClassFile.Cond} {P : Prop} {x y : Int32} {i : Int} {t : Nat} (d : decode b pc = .ok (.if_icmp cd i, 3)) (ho : 0 ≤ (pc : Int) + i) (ht : ((pc : Int) + i).toNat = t) (hP : if_icmp.holds cd x y = true ↔ P)
    (Ky : P → Go C Z n0 Q M h k n t L S) (Kn : ¬ P → Go C Z n0 Q M h k n (pc + 3) L S) : Go C Z n0 Q M h k n pc L (.int y :: .int x :: S) := by
  by_cases hp : P
  · exact (Ky hp).by fun T vm0 locs _ _ target X _ _ _ st => XS.icmpYes X.here o.1 rfl (pc0 := pc) rfl (hb o.2.1 d) rfl (hP.mpr hp) ho ht st
  · exact (Kn hp).by fun T vm0 locs _ _ target X _ _ _ st => XS.icmpNo X.here o.1 rfl (hb o.2.1 d) rfl (Bool.eq_false_iff.mpr fun q => hp (hP.mp q)) st
theorem g_ifCN (o : Ok C Z a0 b ml ret nm own rm) {cd : ClassFile.Cond} {P : Prop} {x : Int32} {i : Int} {t : Nat} (d : decode b pc = .ok (.ifCond cd i, 3)) (ho : 0 ≤ (pc : Int) + i) (ht : ((pc : Int) + i).toNat = t) (hP : if_icmp.holds cd x 0 = true ↔ ¬ P)
    (Ky : ¬ P → Go C Z n0 Q M h k n t L S) (Kn : P → Go C Z n0 Q M h k n (pc + 3) L S) : Go C Z n0 Q M h k n pc L (.int x :: S) := g_ifC o d ho ht hP Ky fun q => Kn (Classical.not_not.mp q)
theorem g_icmpN (o : Ok C Z a0 b ml ret nm own rm) {cd : ClassFile.Cond} {P : Prop} {x y : Int32} {i : Int} {t : Nat} (d : decode b pc = .ok (.if_icmp cd i, 3)) (ho : 0 ≤ (pc : Int) + i) (ht : ((pc : Int) + i).toNat = t) (hP : if_icmp.holds cd x y = true ↔ ¬ P)
    (Ky : ¬ P → Go C Z n0 Q M h k n t L S) (Kn : P → Go C Z n0 Q M h k n (pc + 3) L S) : Go C Z n0 Q M h k n pc L (.int y :: .int x :: S) := g_icmp o d ho ht hP Ky fun q => Kn (Classical.not_not.mp q)
theorem c_eq {x y : Int32} : if_icmp.holds .eq x y = true ↔ x = y := ⟨fun q => Classical.byContradiction fun z => (by rw [(feq z).1] at q; cases q), fun z => (teq z).1⟩
theorem c_ne {x y : Int32} : if_icmp.holds .ne x y = true ↔ ¬ x = y := ⟨fun q z => (by rw [(teq z).2] at q; cases q), fun z => (feq z).2⟩
theorem c_lt {x y : Int32} : if_icmp.holds .lt x y = true ↔ x < y := ⟨fun q => Classical.byContradiction fun z => (by rw [(flt z).1] at q; cases q), fun z => (tlt z).1⟩
theorem c_ge {x y : Int32} : if_icmp.holds .ge x y = true ↔ ¬ x < y := ⟨fun q z => (by rw [(tlt z).2.1] at q; cases q), fun z => (flt z).2.1⟩
theorem c_gt {x y : Int32} : if_icmp.holds .gt x y = true ↔ y < x := ⟨fun q => Classical.byContradiction fun z => (by rw [(flt z).2.2.1] at q; cases q), fun z => (tlt z).2.2.1⟩
theorem c_le {x y : Int32} : if_icmp.holds .le x y = true ↔ ¬ y < x := ⟨fun q z => (by rw [(tlt z).2.2.2] at q; cases q), fun z => (flt z).2.2.2⟩
theorem g_ifnullY (o : Ok C Z a0 b ml ret nm own rm) {i : Int} {t : Nat} (d : decode b pc = .ok (.ifnull i, 3)) (ho : 0 ≤ (pc : Int) + i) (ht : ((pc : Int) + i).toNat = t) (K : Go C Z n0 Q M h k n t L S) : Go C Z n0 Q M h k n pc L (.null :: S) :=
  K.by fun T vm0 locs _ _ target X _ _ _ st => XS.ifnullYes X.here o.1 rfl (pc0 := pc) rfl (hb o.2.1 d) rfl ho ht st
theorem g_ifnullN (o : Ok C Z a0 b ml ret nm own rm) {i : Int} {a : Addr} (d : decode b pc = .ok (.ifnull i, 3)) (K : Go C Z n0 Q M h k n (pc + 3) L S) : Go C Z n0 Q M h k n pc L (.ref a :: S) :=
  K.by fun T vm0 locs _ _ target X _ _ _ st => XS.ifnullNo X.here o.1 rfl (hb o.2.1 d) rfl st
theorem g_ifnonnullY (o : Ok C Z a0 b ml ret nm own rm) {i : Int} {t : Nat} {a : Addr} (d : decode b pc = .ok (.ifnonnull i, 3)) (ho : 0 ≤ (pc : Int) + i) (ht : ((pc : Int) + i).toNat = t) (K : Go C Z n0 Q M h k n t L S) : Go C Z n0 Q M h k n pc L (.ref a :: S) :=
  K.by fun T vm0 locs _ _ target X _ _ _ st => XT.ifnonnullYes X.here o.1 rfl (pc0 := pc) rfl (hb o.2.1 d) rfl ho ht st
theorem g_ifnonnullN (o : Ok C Z a0 b ml ret nm own rm) {i : Int} (d : decode b pc = .ok (.ifnonnull i, 3)) (K : Go C Z n0 Q M h k n (pc + 3) L S) : Go C Z n0 Q M h k n pc L (.null :: S) :=
  K.by fun T vm0 locs _ _ target X _ _ _ st => XT.ifnonnullNo X.here o.1 rfl (hb o.2.1 d) rfl st
theorem g_acmpEq (o : Ok C Z a0 b ml ret nm own rm) {x y : Value} {i : Int} {t : Nat} (d : decode b pc = .ok (.if_acmp .eq i, 3)) (ho : 0 ≤ (pc : Int) + i) (ht : ((pc : Int) + i).toNat = t) (hx : x.isRef = true) (hy : y.isRef = true)
    (Ky : x = y → Go C Z n0 Q M h k n t L S) (Kn : ¬ x = y → Go C Z n0 Q M h k n (pc + 3) L S) : Go C Z n0 Q M h k n pc L (y :: x :: S) := by
  by_cases hp : x = y
  · exact (Ky hp).by fun T vm0 locs _ _ target X _ _ _ st => XT.acmpYes X.here o.1 rfl (pc0 := pc) rfl (hb o.2.1 d) rfl hx hy (decide_eq_true hp) ho ht st
  · exact (Kn hp).by fun T vm0 locs _ _ target X _ _ _ st => XT.acmpNo X.here o.1 rfl (hb o.2.1 d) rfl hx hy (decide_eq_false hp) st
theorem g_acmpNe (o : Ok C Z a0 b ml ret nm own rm) {x y : Value} {i : Int} {t : Nat} (d : decode b pc = .ok (.if_acmp .ne i, 3)) (ho : 0 ≤ (pc : Int) + i) (ht : ((pc : Int) + i).toNat = t) (hx : x.isRef = true) (hy : y.isRef = true)
    (Ky : ¬ x = y → Go C Z n0 Q M h k n t L S) (Kn : x = y → Go C Z n0 Q M h k n (pc + 3) L S) : Go C Z n0 Q M h k n pc L (y :: x :: S) := by
  by_cases hp : x = y
  · exact (Kn hp).by fun T vm0 locs _ _ target X _ _ _ st => XT.acmpNo X.here o.1 rfl (hb o.2.1 d) rfl hx hy (decide_eq_false (fun q => q hp)) st
  · exact (Ky hp).by fun T vm0 locs _ _ target X _ _ _ st => XT.acmpYes X.here o.1 rfl (pc0 := pc) rfl (hb o.2.1 d) rfl hx hy (decide_eq_true hp) ho ht st
theorem g_ldcI (o : Ok C Z a0 b ml ret nm own rm) {ix : Nat} {v : Int32} (d : decode b pc = .ok (.ldc ix, 2)) (w : (Jvm.Cond.constant own ix v).before a0 Z = true) (K : Go C Z n0 Q M h k n (pc + 2) L (.int v :: S)) : Go C Z n0 Q M h k n pc L S :=
  K.by fun T vm0 locs _ _ target X hZ hf _ st => X.ldcInt o.1 (own := own) (by rw [← o.hown]; exact hf) (mvT (s := C.s.setVm vm0) hZ w) (g := mkF C.m pc L S) rfl (hb o.2.1 d) _ st
theorem g_ldc2L (o : Ok C Z a0 b ml ret nm own rm) {ix : Nat} {v : Int64} (d : decode b pc = .ok (.ldc2_w ix, 3)) (w : (Jvm.Cond.constantLong own ix v).before a0 Z = true) (K : Go C Z n0 Q M h k n (pc + 3) L (.long v :: S)) : Go C Z n0 Q M h k n pc L S :=
  K.by fun T vm0 locs _ _ target X hZ hf _ st => X.ldc2Long o.1 (own := own) (by rw [← o.hown]; exact hf) (mvT (s := C.s.setVm vm0) hZ w) (g := mkF C.m pc L S) rfl (hb o.2.1 d) _ st
/-! steps that read the tables or the heap -/
theorem g_getF (o : Ok C Z a0 b ml ret nm own rm) {R0 O f ds : String} {ix : Nat} {a : Addr} {v : Value} (d : decode b pc = .ok (.getfield ix, 3)) (w : (Jvm.Cond.fieldLink own ix R0 f ds).before a0 Z = true) (via : Via Z R0 O f ds) (F : Fld Z h a O f ds v)
    (K : Go C Z n0 Q M h k n (pc + 3) L (v :: S)) : Go C Z n0 Q M h k n pc L (.ref a :: S) := by
  refine Go.via (dk := 0) (dn := 0) (ι := Unit) (P := fun _ h' => h' = h) (S' := fun _ => v :: S) (fun _ h' e => by have e : h' = h := e; rw [e]; exact K) fun T vm0 locs k' n' X B hZ hf eT N => ?_
  obtain ⟨T', X', e', st⟩ := getF (host := "") X o.1 (Z := Z) hZ (by rw [← o.hown]; exact hf) (Or.inl w) via eT F (g := mkF C.m pc L (.ref a :: S)) rfl rfl (hb o.2.1 d)
  exact ⟨(), T', locs, h, rfl, X', e', N, Mv.refl, st⟩
theorem g_getS (o : Ok C Z a0 b ml ret nm own rm) {R0 O f ds : String} {ix : Nat} {v : Value} (d : decode b pc = .ok (.getstatic ix, 3)) (w : (Jvm.Cond.fieldLink own ix R0 f ds).before a0 Z = true) (via : Via Z R0 O f ds) (F : Sta Z h O f ds v)
    (K : Go C Z n0 Q M h k n (pc + 3) L (v :: S)) : Go C Z n0 Q M h k n pc L S := by
  refine Go.via (dk := 0) (dn := 0) (ι := Unit) (P := fun _ h' => h' = h) (S' := fun _ => v :: S) (fun _ h' e => by have e : h' = h := e; rw [e]; exact K) fun T vm0 locs k' n' X B hZ hf eT N => ?_
  obtain ⟨T', X', e', st⟩ := getS (host := "") X o.1 (Z := Z) hZ (by rw [← o.hown]; exact hf) w via eT F (g := mkF C.m pc L S) rfl (hb o.2.1 d)
  exact ⟨(), T', locs, h, rfl, X', e', N, Mv.refl, st⟩
theorem g_putF (o : Ok C Z a0 b ml ret nm own rm) {R0 O f ds Cn : String} {ix kk : Nat} {ty : FieldType} {a : Addr} {v old : Value} (d : decode b pc = .ok (.putfield ix, 3)) (w : (Jvm.Cond.fieldLink own ix R0 f ds).before a0 Z = true) (via : Via Z R0 O f ds) (F : Fld Z h a O f ds old) (E : Exa Z h a Cn)
    (Lf : (Jvm.Cond.lays Cn O f ds).before a0 Z = true ∨ ((Jvm.Cond.laysFinal Cn O f ds).before a0 Z = true ∧ own = O ∧ nm = "<init>")) (wi : (Jvm.Cond.instantiable Cn kk).before a0 Z = true) (hty : parseFieldDescriptor ds = some ty) (hn' : narrow ty v = v) (hf' : fits ty v = true) (ha : n0 ≤ a) (hs : SafeOk C Z M h a)
    (K : ∀ h', Wr h h' a (Jvm.RoadKit.slotOf Z O f ds) v → Go C Z n0 Q M h' k n (pc + 3) L S) : Go C Z n0 Q M h k n pc L (v :: .ref a :: S) := by
  refine Go.via (dk := 0) (dn := 0) (ι := Unit) (P := fun _ h' => Wr h h' a (Jvm.RoadKit.slotOf Z O f ds) v) (S' := fun _ => S) (fun _ h' e => K h' e) fun T vm0 locs k' n' X B hZ hf eT N => ?_
  obtain ⟨T', h', X', e', W, st⟩ := putF (host := "") X o.1 (Z := Z) hZ (by rw [← o.hown]; exact hf) (Or.inl w) via eT F E (Lf.imp id fun q => ⟨q.1, q.2.1, o.2.2.2.2.1.trans q.2.2⟩) wi hty hn' hf' (g := mkF C.m pc L (v :: .ref a :: S)) rfl rfl (hb o.2.1 d)
  exact ⟨(), T', _, h', W, X', e', Fr.snoc X' N ha, Mv.wr W hs, st⟩
theorem g_new (o : Ok C Z a0 b ml ret nm own rm) {Cn : String} {ix nf : Nat} (d : decode b pc = .ok (.new ix, 3)) (w : (Jvm.Cond.classLink own ix Cn).before a0 Z = true) (wi : (Jvm.Cond.instantiable Cn nf).before a0 Z = true) (wz : (Jvm.Cond.initialized Cn).before a0 Z = true) (hc : k + 1 ≤ rm.cells) (hl : n + nf ≤ rm.slots) {M' : Addr → List Addr} (hM : ∀ a, ∀ x ∈ M' a, x ∈ M ∨ x = a)
    (K : ∀ a h', a = h.size → Ext h h' → Exa Z h' a Cn → (∀ {O f ds : String} {ty : FieldType}, Laid Z a0 Cn O f ds → parseFieldDescriptor ds = some ty → Fld Z h' a O f ds (defaultValue ty)) → Go C Z n0 Q (M' a) h' (k + 1) (n + nf) (pc + 3) L (.ref a :: S)) : Go C Z n0 Q M h k n pc L S := by
  refine Go.via (dk := 1) (dn := nf) (ι := Unit) (P := fun _ h' => Ext h h' ∧ Exa Z h' h.size Cn ∧ (∀ {O f ds : String} {ty : FieldType}, Laid Z a0 Cn O f ds → parseFieldDescriptor ds = some ty → Fld Z h' h.size O f ds (defaultValue ty))) (S' := fun _ => .ref h.size :: S) (fun _ h' e => K h.size h' rfl e.1 e.2.1 (fun {O f ds ty} q r => e.2.2 q r)) fun T vm0 locs k' n' X B hZ hf eT N => ?_
  obtain ⟨T', h', X', e', E, A, D, -, st⟩ := newO X o.1 (Z := Z) hZ (by rw [← o.hown]; exact hf) w wi wz eT (g := mkF C.m pc L S) rfl (hb o.2.1 d) (o.rc B hc) (o.rs B hl)
  exact ⟨(), T', locs, h', ⟨E, A, fun {O f ds ty} q r => D q r⟩, X', e', N, Mv.new E A.lt (hM _), st⟩
theorem g_newarr (o : Ok C Z a0 b ml ret nm own rm) {aty : ArrayType} {ty : FieldType} {z : Int32} {m : Nat} {dv : Value} (d : decode b pc = .ok (.newarray aty, 2)) (hty : newarray.typeOf aty = ty) (hdv : defaultValue ty = dv) (w : (Jvm.Cond.arrayClass ty).before a0 Z = true) (hz : ¬ z < 0) (hm : z.toNatClampNeg = m) (hbig : m ≤ 67108864) (hc : k + 1 ≤ rm.cells) (hl : n + m ≤ rm.slots) {M' : Addr → List Addr} (hM : ∀ a, ∀ x ∈ M' a, x ∈ M ∨ x = a)
    (K : ∀ a h' kc, a = h.size → Ext h h' → Arv Z h' a kc ty z (List.replicate m dv) dv → Go C Z n0 Q (M' a) h' (k + 1) (n + m) (pc + 2) L (.ref a :: S)) : Go C Z n0 Q M h k n pc L (.int z :: S) := by
  subst hty hdv
  refine Go.via (dk := 1) (dn := m) (ι := ClassId) (P := fun kc h' => Ext h h' ∧ Arv Z h' h.size kc (newarray.typeOf aty) z (List.replicate m (defaultValue (newarray.typeOf aty))) (defaultValue (newarray.typeOf aty))) (S' := fun _ => .ref h.size :: S) (fun kc h' e => K h.size h' kc rfl e.1 e.2) fun T vm0 locs k' n' X B hZ hf eT N => ?_
  obtain ⟨T', h', kc, X', e', E, A, st⟩ := newP X o.1 (Z := Z) hZ w eT (g := mkF C.m pc L (.int z :: S)) rfl (hb o.2.1 d) rfl hz (cap := m) (Nat.le_of_eq hm) (by omega) (o.rc B hc) (o.rs B hl)
  exact ⟨kc, T', locs, h', ⟨E, by simpa using (Arv.new A hz).pad (pad_rep [] _ m)⟩, X', e', N, Mv.new E A.lt (hM _), st⟩
theorem idx_ok {vs : List Value} {z j : Int32} {i : Nat} {c : Cell} (S : c.slots.size = z.toNatClampNeg) (hz : z.toNatClampNeg = vs.length) (h0 : ¬ j < 0) (hj : j.toNatClampNeg = i) (hi : i < vs.length) : ¬ (j < 0 ∨ c.slots.size ≤ j.toNatClampNeg) := fun q => q.elim h0 fun r => by omega
theorem g_castore (o : Ok C Z a0 b ml ret nm own rm) {a : Addr} {kc : ClassId} {z j x y : Int32} {vs : List Value} {dv : Value} {i : Nat} (d : decode b pc = .ok (.castore, 1)) (V : Arv Z h a kc .char z vs dv) (hz : z.toNatClampNeg = vs.length) (h0 : ¬ j < 0) (hj : j.toNatClampNeg = i) (hi : i < vs.length) (hy : nar .char x = y) (ha : n0 ≤ a) (hs : SafeOk C Z M h a)
    (K : ∀ h', Wr h h' a i (.int y) → Arv Z h' a kc .char z (vs.set i (.int y)) dv → Go C Z n0 Q M h' k n (pc + 1) L S) : Go C Z n0 Q M h k n pc L (.int x :: .int j :: .ref a :: S) := by
  obtain ⟨cl, A, q1, q2, q3, H, G⟩ := V
  subst hy hj
  refine Go.via (dk := 0) (dn := 0) (ι := Unit) (P := fun _ h' => Wr h h' a j.toNatClampNeg (.int (nar .char x))) (S' := fun _ => S) (fun _ h' e => K h' e (Arv.set A q1 q2 q3 H G (fits_nar_char x) e _ rfl hi)) fun T vm0 locs k' n' X B hZ hf eT N => ?_
  obtain ⟨T', h', X', e', W, st⟩ := stC X o.1 (Z := Z) hZ eT A (idx_ok q2 hz h0 rfl hi) (g := mkF C.m pc L (.int x :: .int j :: .ref a :: S)) rfl rfl (hb o.2.1 d)
  exact ⟨(), T', _, h', W, X', e', Fr.snoc X' N ha, Mv.wr W hs, st⟩
theorem g_iastore (o : Ok C Z a0 b ml ret nm own rm) {a : Addr} {kc : ClassId} {z j x : Int32} {vs : List Value} {dv : Value} {i : Nat} (d : decode b pc = .ok (.iastore, 1)) (V : Arv Z h a kc .int z vs dv) (hz : z.toNatClampNeg = vs.length) (h0 : ¬ j < 0) (hj : j.toNatClampNeg = i) (hi : i < vs.length) (ha : n0 ≤ a) (hs : SafeOk C Z M h a)
    (K : ∀ h', Wr h h' a i (.int x) → Arv Z h' a kc .int z (vs.set i (.int x)) dv → Go C Z n0 Q M h' k n (pc + 1) L S) : Go C Z n0 Q M h k n pc L (.int x :: .int j :: .ref a :: S) := by
  obtain ⟨cl, A, q1, q2, q3, H, G⟩ := V
  subst hj
  refine Go.via (dk := 0) (dn := 0) (ι := Unit) (P := fun _ h' => Wr h h' a j.toNatClampNeg (.int x)) (S' := fun _ => S) (fun _ h' e => K h' e (Arv.set A q1 q2 q3 H G rfl e _ rfl hi)) fun T vm0 locs k' n' X B hZ hf eT N => ?_
  obtain ⟨T', h', X', e', W, st⟩ := stI X o.1 (Z := Z) hZ eT A (idx_ok q2 hz h0 rfl hi) (g := mkF C.m pc L (.int x :: .int j :: .ref a :: S)) rfl rfl (hb o.2.1 d)
  exact ⟨(), T', _, h', W, X', e', Fr.snoc X' N ha, Mv.wr W hs, st⟩
theorem g_zastore (o : Ok C Z a0 b ml ret nm own rm) {a : Addr} {kc : ClassId} {z j x y : Int32} {vs : List Value} {dv : Value} {i : Nat} (d : decode b pc = .ok (.bastore, 1)) (V : Arv Z h a kc .boolean z vs dv) (hz : z.toNatClampNeg = vs.length) (h0 : ¬ j < 0) (hj : j.toNatClampNeg = i) (hi : i < vs.length) (hy : nar .boolean x = y) (ha : n0 ≤ a) (hs : SafeOk C Z M h a)
    (K : ∀ h', Wr h h' a i (.int y) → Arv Z h' a kc .boolean z (vs.set i (.int y)) dv → Go C Z n0 Q M h' k n (pc + 1) L S) : Go C Z n0 Q M h k n pc L (.int x :: .int j :: .ref a :: S) := by
  obtain ⟨cl, A, q1, q2, q3, H, G⟩ := V
  subst hy hj
  refine Go.via (dk := 0) (dn := 0) (ι := Unit) (P := fun _ h' => Wr h h' a j.toNatClampNeg (.int (nar .boolean x))) (S' := fun _ => S) (fun _ h' e => K h' e (Arv.set A q1 q2 q3 H G (fits_nar_bool x) e _ rfl hi)) fun T vm0 locs k' n' X B hZ hf eT N => ?_
  obtain ⟨T', h', X', e', W, st⟩ := stZ X o.1 (Z := Z) hZ eT A (idx_ok q2 hz h0 rfl hi) (g := mkF C.m pc L (.int x :: .int j :: .ref a :: S)) rfl rfl (hb o.2.1 d)
  exact ⟨(), T', _, h', W, X', e', Fr.snoc X' N ha, Mv.wr W hs, st⟩
theorem g_alen (o : Ok C Z a0 b ml ret nm own rm) {a : Addr} {kc : ClassId} {ty : FieldType} {z : Int32} {vs : List Value} {dv : Value} (d : decode b pc = .ok (.arraylength, 1)) (V : Arv Z h a kc ty z vs dv) (K : Go C Z n0 Q M h k n (pc + 1) L (.int z :: S)) : Go C Z n0 Q M h k n pc L (.ref a :: S) := by
  obtain ⟨cl, A, q1, q2, q3, H, G⟩ := V
  exact K.by fun T vm0 locs _ _ target X hZ _ eT st => X.arraylength o.1 (cell := cl) (by rw [eT]; exact A.1) (State.isArrayOf_alike hZ.alike A.2.1) (g := mkF C.m pc L (.ref a :: S)) rfl rfl (hb o.2.1 d) _ (by rw [len_of q2 q3]; exact st)
theorem g_caload (o : Ok C Z a0 b ml ret nm own rm) {a : Addr} {kc : ClassId} {z j : Int32} {vs : List Value} {dv v : Value} {i : Nat} (d : decode b pc = .ok (.caload, 1)) (V : Arv Z h a kc .char z vs dv) (hz : z.toNatClampNeg = vs.length) (h0 : ¬ j < 0) (hj : j.toNatClampNeg = i) (hi : i < vs.length) (hv : vs.getD i dv = v)
    (K : Go C Z n0 Q M h k n (pc + 1) L (v :: S)) : Go C Z n0 Q M h k n pc L (.int j :: .ref a :: S) := by
  obtain ⟨cl, A, q1, q2, q3, H, G⟩ := V
  subst hj
  exact K.by fun T vm0 locs _ _ target X hZ _ eT st => X.caload o.1 (cell := cl) (j := j) (v := v) (by rw [eT]; exact A.1) (State.isArrayOf_alike hZ.alike A.2.1) A.2.2 (idx_ok q2 hz h0 rfl hi) (H.at (idx_ok q2 hz h0 rfl hi) hv) (g := mkF C.m pc L (.int j :: .ref a :: S)) rfl rfl (hb o.2.1 d) _ st
theorem g_iaload (o : Ok C Z a0 b ml ret nm own rm) {a : Addr} {kc : ClassId} {z j : Int32} {vs : List Value} {dv v : Value} {i : Nat} (d : decode b pc = .ok (.iaload, 1)) (V : Arv Z h a kc .int z vs dv) (hz : z.toNatClampNeg = vs.length) (h0 : ¬ j < 0) (hj : j.toNatClampNeg = i) (hi : i < vs.length) (hv : vs.getD i dv = v)
    (K : Go C Z n0 Q M h k n (pc + 1) L (v :: S)) : Go C Z n0 Q M h k n pc L (.int j :: .ref a :: S) := by
  obtain ⟨cl, A, q1, q2, q3, H, G⟩ := V
  subst hj
  exact K.by fun T vm0 locs _ _ target X hZ _ eT st => X.iaload o.1 (cell := cl) (j := j) (v := v) (by rw [eT]; exact A.1) (State.isArrayOf_alike hZ.alike A.2.1) A.2.2 (idx_ok q2 hz h0 rfl hi) (H.at (idx_ok q2 hz h0 rfl hi) hv) (g := mkF C.m pc L (.int j :: .ref a :: S)) rfl rfl (hb o.2.1 d) _ st
theorem g_zaload (o : Ok C Z a0 b ml ret nm own rm) {a : Addr} {kc : ClassId} {z j : Int32} {vs : List Value} {dv v : Value} {i : Nat} (d : decode b pc = .ok (.baload, 1)) (V : Arv Z h a kc .boolean z vs dv) (hz : z.toNatClampNeg = vs.length) (h0 : ¬ j < 0) (hj : j.toNatClampNeg = i) (hi : i < vs.length) (hv : vs.getD i dv = v)
    (K : Go C Z n0 Q M h k n (pc + 1) L (v :: S)) : Go C Z n0 Q M h k n pc L (.int j :: .ref a :: S) := by
  obtain ⟨cl, A, q1, q2, q3, H, G⟩ := V
  subst hj
  exact K.by fun T vm0 locs _ _ target X hZ _ eT st => X.baloadBooleans o.1 (cell := cl) (j := j) (v := v) (by rw [eT]; exact A.1) (State.isArrayOf_alike hZ.alike A.2.1) A.2.2 (idx_ok q2 hz h0 rfl hi) (H.at (idx_ok q2 hz h0 rfl hi) hv) (g := mkF C.m pc L (.int j :: .ref a :: S)) rfl rfl (hb o.2.1 d) _ st
theorem g_instY (o : Ok C Z a0 b ml ret nm own rm) {ix : Nat} {a : Addr} {Kn : String} (d : decode b pc = .ok (.instanceof ix, 3)) (w : (Jvm.Cond.classLink own ix Kn).before a0 Z = true) (F : Ins Z h a Kn true) (K : Go C Z n0 Q M h k n (pc + 3) L (.int 1 :: S)) : Go C Z n0 Q M h k n pc L (.ref a :: S) := by
  refine Go.via (dk := 0) (dn := 0) (ι := Unit) (P := fun _ h' => h' = h) (S' := fun _ => .int 1 :: S) (fun _ h' e => by have e : h' = h := e; rw [e]; exact K) fun T vm0 locs k' n' X B hZ hf eT N => ?_
  obtain ⟨T', X', e', st⟩ := instY X o.1 (Z := Z) hZ (by rw [← o.hown]; exact hf) w eT F (g := mkF C.m pc L (.ref a :: S)) rfl rfl (hb o.2.1 d)
  exact ⟨(), T', locs, h, rfl, X', e', N, Mv.refl, st⟩
theorem g_castY (o : Ok C Z a0 b ml ret nm own rm) {ix : Nat} {a : Addr} {Kn : String} (d : decode b pc = .ok (.checkcast ix, 3)) (w : (Jvm.Cond.classLink own ix Kn).before a0 Z = true) (F : Ins Z h a Kn true) (K : Go C Z n0 Q M h k n (pc + 3) L (.ref a :: S)) : Go C Z n0 Q M h k n pc L (.ref a :: S) := by
  refine Go.via (dk := 0) (dn := 0) (ι := Unit) (P := fun _ h' => h' = h) (S' := fun _ => .ref a :: S) (fun _ h' e => by have e : h' = h := e; rw [e]; exact K) fun T vm0 locs k' n' X B hZ hf eT N => ?_
  obtain ⟨T', X', e', st⟩ := castY X o.1 (Z := Z) hZ (by rw [← o.hown]; exact hf) w eT F (g := mkF C.m pc L (.ref a :: S)) rfl rfl (hb o.2.1 d)
  exact ⟨(), T', locs, h, rfl, X', e', N, Mv.refl, st⟩
theorem g_initO (o : Ok C Z a0 b ml ret nm own rm) {ix : Nat} {a : Addr} (d : decode b pc = .ok (.invokespecial ix, 3)) (w1 : (Jvm.Cond.methodLink own ix Lib.objectInit).before a0 Z = true) (w2 : (Jvm.Cond.instanceMethod Lib.objectInit).before a0 Z = true) (w3 : (Jvm.Cond.code Lib.objectInit ⟨#[0xb1]⟩ 1 none).before a0 Z = true) (hL : L.size = ml) (hf : 1 ≤ rm.frames) (hl : (S.map fun v => v.category).sum + 12 ≤ rm.locals)
    (K : Go C Z n0 Q M h k n (pc + 3) L S) : Go C Z n0 Q M h k n pc L (.ref a :: S) := by
  refine Go.via (dk := 0) (dn := 0) (ι := Unit) (P := fun _ h' => h' = h) (S' := fun _ => S) (fun _ h' e => by have e : h' = h := e; rw [e]; exact K) fun T vm0 locs k' n' X B hZ hfc eT N => ?_
  obtain ⟨T', X', e', st⟩ := initO X o.1 (Z := Z) hZ (by rw [← o.hown]; exact hfc) w1 w2 w3 eT (g := mkF C.m pc L (.ref a :: S)) rfl (hL.trans o.2.2.1.symm) rfl (hb o.2.1 d) (o.rf hf) (W := (S.map fun v => v.category).sum) (by show 2 * 0 + _ ≤ _; omega) (o.rl hl)
  exact ⟨(), T', locs, h, rfl, X', e', N, Mv.refl, st⟩
/-! calls -/
abbrev BackQ (C : Cx) (vm0 : Vm) (y : MethodName) (W : Nat) (as : Array Value) (h : Heap) (kc ks : Nat) (P : Option Value → Heap → List Loc → Prop) : Prop :=
  Back C.l C.R C.p C.e C.below (C.s.setVm vm0) C.args y 3 W (fun A a => a = as ∧ A.U.heap = h ∧ A.cells + kc ≤ C.R.cells ∧ A.slots + ks ≤ C.R.slots) (fun A _ v B => ∃ L, P v B.U.heap L ∧ B.locs = A.locs ++ L ∧ B.cells = A.cells + kc ∧ B.slots = A.slots + ks)
abbrev wt (S : List Value) : Nat := (S.map fun v => v.category).sum
theorem g_static (o : Ok C Z a0 b ml ret nm own rm) {ix mL kc ks W : Nat} {y : MethodName} {by' : ByteArray} {rt : Option FieldType} {P : Option Value → Heap → List Loc → Prop} {Q' : Option Value → Heap → Prop} {ps : List FieldType} {r : Option FieldType} (as rest : List Value) (d : decode b pc = .ok (.invokestatic ix, 3))
    (w1 : (Jvm.Cond.methodLink own ix y).before a0 Z = true) (w2 : (Jvm.Cond.static y).before a0 Z = true) (w3 : (Jvm.Cond.initialized y.cls).before a0 Z = true) (w4 : (Jvm.Cond.code y by' mL rt).before a0 Z = true) (hy : y.cls ≠ "java/lang/invoke/MethodHandle" ∧ y.cls ≠ "java/lang/invoke/VarHandle")
    (By : ∀ vm0, Z.Warmed39 vm0 → BackQ C vm0 y W as.toArray h kc ks P) (hP : ∀ v h' L, P v h' L → Q' v h' ∧ Fr n0 L ∧ h.size ≤ h'.size) (hmv : C.EL = [] ∨ ∀ v h', Q' v h' → Mv C Z M M h h') (hpd : parseMethodDescriptor y.desc = some ⟨ps, r⟩) (hlen : as.length = ps.length) (hS : S = as.reverse ++ rest) (hW : wt rest = W) (hL : L.size = ml) (hc : k + kc ≤ rm.cells) (hl : n + ks ≤ rm.slots)
    (K : ∀ v h', Q' v h' → Go C Z n0 Q M h' (k + kc) (n + ks) (pc + 3) L (v.toList ++ rest)) : Go C Z n0 Q M h k n pc L S := by
  subst hS
  refine Go.via (dk := kc) (dn := ks) (ι := Option Value) (P := Q') (S' := fun v => v.toList ++ rest) K fun T vm0 locs k' n' X B hZ hf eT N => ?_
  obtain ⟨v, vm₁, ⟨T', L', kk, nn⟩, -, X', ⟨Lc, hQ, l1, l2, l3⟩, st⟩ := Jvm.LawKit.callS X o.1 (y := y) (own := own) (by rw [← o.hown]; exact hf) (mvT (s := C.s.setVm vm0) hZ w1) (mvT (s := C.s.setVm vm0) hZ w2) (mvT (s := C.s.setVm vm0) hZ w3) (mvT (s := C.s.setVm vm0) hZ w4) hy (By vm0 hZ) (g := mkF C.m pc L (as.reverse ++ rest)) rfl (hL.trans o.2.2.1.symm) (argsL := as) (rest := rest) (lenOf hpd hlen) rfl (by show 2 * 0 + wt rest ≤ _; omega) (hb o.2.1 d) (fun _ _ => ⟨rfl, eT, o.rc B hc, o.rs B hl⟩)
  dsimp only [Pt.U, Pt.locs, Pt.cells, Pt.slots] at X' hQ l1 l2 l3 st
  subst l1 l2 l3
  obtain ⟨q1, q2, q3⟩ := hP _ _ _ hQ
  exact ⟨v, T', _, _, q1, X', rfl, N.app q2, hmv.elim (fun hE => Mv.triv hE q3) (fun f => f _ _ q1), st⟩
theorem g_special (o : Ok C Z a0 b ml ret nm own rm) {ix mL kc ks W : Nat} {y : MethodName} {by' : ByteArray} {P : Option Value → Heap → List Loc → Prop} {Q' : Option Value → Heap → Prop} {ps : List FieldType} {r : Option FieldType} (a : Addr) (as rest : List Value) (d : decode b pc = .ok (.invokespecial ix, 3)) (hy1 : y.name = "<init>")
    (w1 : (Jvm.Cond.methodLink own ix y).before a0 Z = true) (w2 : (Jvm.Cond.instanceMethod y).before a0 Z = true) (w4 : (Jvm.Cond.code y by' mL none).before a0 Z = true) (hy : y.cls ≠ "java/lang/invoke/MethodHandle" ∧ y.cls ≠ "java/lang/invoke/VarHandle")
    (By : ∀ vm0, Z.Warmed39 vm0 → BackQ C vm0 y W (.ref a :: as).toArray h kc ks P) (hP : ∀ v h' L, P v h' L → Q' v h' ∧ Fr n0 L ∧ h.size ≤ h'.size) (hmv : C.EL = [] ∨ ∀ v h', Q' v h' → Mv C Z M M h h') (hpd : parseMethodDescriptor y.desc = some ⟨ps, r⟩) (hlen : as.length = ps.length) (hS : S = as.reverse ++ .ref a :: rest) (hW : wt rest = W) (hL : L.size = ml) (hc : k + kc ≤ rm.cells) (hl : n + ks ≤ rm.slots)
    (K : ∀ v h', Q' v h' → Go C Z n0 Q M h' (k + kc) (n + ks) (pc + 3) L (v.toList ++ rest)) : Go C Z n0 Q M h k n pc L S := by
  subst hS
  refine Go.via (dk := kc) (dn := ks) (ι := Option Value) (P := Q') (S' := fun v => v.toList ++ rest) K fun T vm0 locs k' n' X B hZ hf eT N => ?_
  obtain ⟨v, vm₁, ⟨T', L', kk, nn⟩, -, X', ⟨Lc, hQ, l1, l2, l3⟩, st⟩ := X.specialBack o.1 (y := y) (own := own) hy1 (by rw [← o.hown]; exact hf) (mvT (s := C.s.setVm vm0) hZ w1) (mvT (s := C.s.setVm vm0) hZ w2) (mvT (s := C.s.setVm vm0) hZ w4) hy (By vm0 hZ) (g := mkF C.m pc L (as.reverse ++ .ref a :: rest)) rfl (hL.trans o.2.2.1.symm) (Steps.refl _) (a := a) (argsL := as) (rest := rest) (lenOf hpd hlen) rfl (by show 2 * 0 + wt rest ≤ _; omega) (hb o.2.1 d) (fun _ _ => ⟨rfl, eT, o.rc B hc, o.rs B hl⟩)
  dsimp only [Pt.U, Pt.locs, Pt.cells, Pt.slots] at X' hQ l1 l2 l3 st
  subst l1 l2 l3
  obtain ⟨q1, q2, q3⟩ := hP _ _ _ hQ
  exact ⟨v, T', _, _, q1, X', rfl, N.app q2, hmv.elim (fun hE => Mv.triv hE q3) (fun f => f _ _ q1), fun target z => st.trans z⟩
theorem g_virtual (o : Ok C Z a0 b ml ret nm own rm) {ix kc ks W : Nat} {Cn : String} {y z : MethodName} {P : Option Value → Heap → List Loc → Prop} {Q' : Option Value → Heap → Prop} {ps : List FieldType} {r : Option FieldType} (a : Addr) (as rest : List Value) (d : decode b pc = .ok (.invokevirtual ix, 3))
    (w1 : (Jvm.Cond.methodLink own ix y).before a0 Z = true) (w2 : (Jvm.Cond.declares y).before a0 Z = true) (w3 : (Jvm.Cond.selects Cn y z).before a0 Z = true) (w4 : (Jvm.Cond.instanceMethod z).before a0 Z = true) (nf : ∀ s : State, (Jvm.Cond.selects Cn y z).before C.args s = true → NotFace s y) (hy : y.cls ≠ "java/lang/invoke/MethodHandle" ∧ y.cls ≠ "java/lang/invoke/VarHandle") (E : Exa Z h a Cn)
    (By : ∀ vm0, Z.Warmed39 vm0 → BackQ C vm0 z W (.ref a :: as).toArray h kc ks P) (hP : ∀ v h' L, P v h' L → Q' v h' ∧ Fr n0 L ∧ h.size ≤ h'.size) (hmv : C.EL = [] ∨ ∀ v h', Q' v h' → Mv C Z M M h h') (hpd : parseMethodDescriptor y.desc = some ⟨ps, r⟩) (hlen : as.length = ps.length) (hS : S = as.reverse ++ .ref a :: rest) (hW : wt rest = W) (hL : L.size = ml) (hc : k + kc ≤ rm.cells) (hl : n + ks ≤ rm.slots)
    (K : ∀ v h', Q' v h' → Go C Z n0 Q M h' (k + kc) (n + ks) (pc + 3) L (v.toList ++ rest)) : Go C Z n0 Q M h k n pc L S := by
  subst hS
  refine Go.via (dk := kc) (dn := ks) (ι := Option Value) (P := Q') (S' := fun v => v.toList ++ rest) K fun T vm0 locs k' n' X B hZ hf eT N => ?_
  obtain ⟨cq, kq, qa, qb, qc⟩ := isOf (s := C.s.setVm vm0) (T := T) hZ eT E
  have hsel := mvT (s := C.s.setVm vm0) (args := C.args) hZ w3
  obtain ⟨v, vm₁, ⟨T', L', kk, nn⟩, -, X', ⟨Lc, hQ, l1, l2, l3⟩, st⟩ := X.virtualBack o.1 (y := y) (z := z) (own := own) (by rw [← o.hown]; exact hf) (mvT (s := C.s.setVm vm0) hZ w1) (mvT (s := C.s.setVm vm0) hZ w2) (nf _ hsel) hsel (mvT (s := C.s.setVm vm0) hZ w4) hy (By vm0 hZ) qa qc (g := mkF C.m pc L (as.reverse ++ .ref a :: rest)) rfl (hL.trans o.2.2.1.symm) (Steps.refl _) (argsL := as) (rest := rest) (lenOf hpd hlen) rfl (by show 2 * 0 + wt rest ≤ _; omega) (hb o.2.1 d) (fun _ _ => ⟨rfl, eT, o.rc B hc, o.rs B hl⟩)
  dsimp only [Pt.U, Pt.locs, Pt.cells, Pt.slots] at X' hQ l1 l2 l3 st
  subst l1 l2 l3
  obtain ⟨q1, q2, q3⟩ := hP _ _ _ hQ
  exact ⟨v, T', _, _, q1, X', rfl, N.app q2, hmv.elim (fun hE => Mv.triv hE q3) (fun f => f _ _ q1), fun target z => st.trans z⟩
/-! contracts -/
def Met (l : Launch) (Z : State) (n0 : Nat) (y : MethodName) (b : ByteArray) (ml : Nat) (ret : Option FieldType) (rm : Room) (as : Array Value) (h : Heap) (Q : Option Value → Heap → Prop) : Prop :=
  MetFree l y (head1 [Jvm.Cond.code y b ml ret] rm) (fun a U => a = as ∧ Z.Warmed39 U.vm ∧ U.heap = h) (fun _ _ _ _ _ => True) (fun _ U o U' => ∃ v L, o = .returned v ∧ (Q v U'.heap ∧ Fr n0 L ∧ h.size ≤ U'.heap.size) ∧ FrameEnd U o U' L rm.cells rm.slots)
def MetW (l : Launch) (Z : State) (n0 : Nat) (EL PL : List (String × Nat)) (cs r : Nat) (y : MethodName) (b : ByteArray) (ml : Nat) (ret : Option FieldType) (rm : Room) (as : Array Value) (h : Heap) (Q : Option Value → Heap → Prop) : Prop :=
  MetFree l y (head1 [Jvm.Cond.code y b ml ret] (big rm r cs)) (fun a U => a = as ∧ Z.Warmed39 U.vm ∧ U.heap = h ∧ CHv Z EL U.vm h ∧ rho Z PL U.vm ≤ r) (fun _ _ _ _ _ => True) (fun _ U o U' => ∃ v L k n, o = .returned v ∧ (Q v U'.heap ∧ Fr n0 L ∧ h.size ≤ U'.heap.size) ∧ CHr Z EL U.vm U.heap U'.vm U'.heap ∧ ReturnedEndW U o U' L k n ∧ k + 2 * rho Z PL U'.vm ≤ rm.cells + 2 * rho Z PL U.vm ∧ n + cs * rho Z PL U'.vm ≤ rm.slots + cs * rho Z PL U.vm)
theorem go_body {l : Launch} {y : MethodName} {S : Spec} {p : Program} {e : Env} {s : State} {m : MethodId} {args : Array Value} {below : List Frame} {meth : Method} {c : Code} {s₁ : State} (PL : List (String × Nat)) (cs r : Nat) (hrr : rho Z PL s.vm ≤ r) (hR : S.room = big rm r cs) (Bd : BodyLoose p l y S b ml ret e s m args below meth c s₁) (hml : c.maxLocals = ml) (hw : ∀ d ∈ tables_1, d.before a0 Z = true) (wide : Bool) (EL : List (String × Nat)) (hEW : EW Z a0 EL) (hZ : Z.Warmed39 s.vm) (hh : s.heap = h) (hCH : CHv Z EL s.vm h) (hM : ∀ x ∈ M, x < h.size ∧ Safe Z EL s.vm h x)
    (he : entryFrame m args ml = mkF m 0 L []) (K : ∀ C : Cx, C.l = l → C.wide = wide → C.EL = EL → C.PL = PL → C.cs = cs → C.r = r → Ok C Z a0 b ml ret y.name y.cls rm → Go C Z n0 Q M h 0 0 0 L []) :
    ∃ s₂ o, Steps p.tables e below (s₁.setTop (entryFrame m args ml)) s₂ ∧ s₂.status = .running ∧ Ended s₂ below o ∧ ∃ v Lc, o = .returned v ∧ (Q v s₂.heap ∧ Fr n0 Lc ∧ h.size ≤ s₂.heap.size) ∧ CHr Z EL s.vm s.heap s₂.vm s₂.heap ∧ (wide = true → ∃ k n, ReturnedEndW s o s₂ Lc k n ∧ k + 2 * rho Z PL s₂.vm ≤ rm.cells + 2 * rho Z PL s.vm ∧ n + cs * rho Z PL s₂.vm ≤ rm.slots + cs * rho Z PL s.vm) ∧ (wide = false → FrameEnd s o s₂ Lc rm.cells rm.slots) := by
  have hown : s.vm.findClass y.cls = some m.cls := findClass_of_methodNamed Bd.named
  have hnm := (name_of_methodNamed Bd.named Bd.method).1
  have X0 : Stand p l e (big rm r cs) s m args below meth c s₁ [] 0 0 := by rw [← hR]; exact Stand.of_body Bd
  have e0 : s₁.heap = h := by rw [← hh, Bd.state]; rfl
  obtain ⟨s₂, o, st, r1, r2, v, Lc, r3, r4, r5⟩ := K ((p, l, e, big rm r cs), (s, m, args, below), (meth, c), (rm.cells, rm.slots, wide, y.cls, EL), (PL, cs, r)) rfl rfl rfl rfl rfl rfl ⟨Bd.exec, Bd.bytes, hml, Bd.returns, hnm, rfl, ⟨rfl, hrr⟩, Bd.notSynchronized, rfl, rfl, hEW, hw⟩ s₁
    ⟨s.vm, [], s.heap.size, 0, 0, X0, ⟨Nat.le_refl _, Nat.le_refl _⟩, e0, hZ, hown, ⟨State.Warmed39.refl s, fun j p hj hp => absurd (Array.getElem?_eq_some_iff.mp hp).1 (Nat.not_lt.mpr hj)⟩, by rw [hh]; exact Nat.le_refl _, Fr.nil n0, Or.inr rfl, by rw [← hh] at hCH ⊢; exact CHr.refl hCH, hM⟩
  refine ⟨s₂, o, castTop he st, r1, r2, v, Lc, r3, ⟨r4.1, r4.2.1, by rw [← hh]; exact r4.2.2⟩, r5⟩
theorem big_nil {cs : Nat} : rm = big rm 0 cs := by cases rm; rfl
theorem met_of {l : Launch} {y : MethodName} {as : Array Value} (hp : plainFor y = true) (hw : ∀ d ∈ tables_1, d.before a0 Z = true) (he : ∀ m, entryFrame m as ml = mkF m 0 L [])
    (K : ∀ C : Cx, C.l = l → C.wide = false → C.EL = [] → C.PL = [] → C.cs = 0 → C.r = 0 → Ok C Z a0 b ml ret y.name y.cls rm → Go C Z n0 Q [] h 0 0 0 L []) : Met l Z n0 y b ml ret rm as h Q := by
  refine MetFree.of_bodySF hp hisR ?_
  intro p e s m args below meth c s₁ Bd hml hP _
  obtain ⟨rfl, hZ, hh⟩ := hP
  obtain ⟨s₂, o, r⟩ := go_body [] 0 0 (Nat.le_refl _) big_nil Bd hml hw false [] EW.nil hZ hh (fun p hp => by cases hp) (fun x hx => by cases hx) (he m) K
  exact ⟨s₂, o, r.1, r.2.1, r.2.2.1, by obtain ⟨v, Lc, q1, q2, -, q3, q4⟩ := r.2.2.2; exact ⟨v, Lc, q1, q2, q4 rfl⟩⟩
theorem metW_of {l : Launch} {y : MethodName} {as : Array Value} {EL PL : List (String × Nat)} {cs r : Nat} (hp : plainFor y = true) (hw : ∀ d ∈ tables_1, d.before a0 Z = true) (hEW : EW Z a0 EL) (he : ∀ m, entryFrame m as ml = mkF m 0 L [])
    (K : ∀ C : Cx, C.l = l → C.wide = true → C.EL = EL → C.PL = PL → C.cs = cs → C.r = r → Ok C Z a0 b ml ret y.name y.cls rm → Go C Z n0 Q [] h 0 0 0 L []) : MetW l Z n0 EL PL cs r y b ml ret rm as h Q := by
  refine MetFree.of_bodySF hp hisR ?_
  intro p e s m args below meth c s₁ Bd hml hP _
  obtain ⟨rfl, hZ, hh, hCH, hrr⟩ := hP
  obtain ⟨s₂, o, w⟩ := go_body PL cs r hrr rfl Bd hml hw true EL hEW hZ hh hCH (fun x hx => by cases hx) (he m) K
  exact ⟨s₂, o, w.1, w.2.1, w.2.2.1, by obtain ⟨v, Lc, q1, q2, q5, q3, q4⟩ := w.2.2.2; obtain ⟨k, n, q6, q7⟩ := q3 rfl; exact ⟨v, Lc, k, n, q1, q2, q5, q6, q7⟩⟩
theorem Met.back {y : MethodName} {as : Array Value} {mL : Nat} {by' : ByteArray} {rt : Option FieldType} {rm' : Room} {Q' : Option Value → Heap → Prop} {W : Nat} (o : Ok C Z a0 b ml ret nm own rm) (M : Met C.l Z n0 y by' mL rt rm' as h Q') (w4 : (Jvm.Cond.code y by' mL rt).before a0 Z = true) (w3 : (Jvm.Cond.initialized y.cls).before a0 Z = true) (hf : rm'.frames + 1 ≤ rm.frames) (hl : W + (mL + 11) + rm'.locals ≤ rm.locals) :
    ∀ vm0, Z.Warmed39 vm0 → BackQ C vm0 y W as h rm'.cells rm'.slots (fun v h' L => Q' v h' ∧ Fr n0 L ∧ h.size ≤ h'.size) := fun vm0 hZ =>
  backOf (s := C.s.setVm vm0) (Z := Z) (a0 := a0) (h := h) (Q := fun v h' L => Q' v h' ∧ Fr n0 L ∧ h.size ≤ h'.size) M hZ w4 w3 (o.rf hf) (o.rl hl)
end Cal
/-! own text: small facts -/
section Ext1
variable {Z : State} {a0 : Array Value} {h h' h0 : Heap} {n0 : Nat} {a b : Addr} {ws : List Addr}
theorem ne_new (hb : b = h.size) (q : a < h.size) : a ≠ b := fun e => Nat.lt_irrefl _ (by rw [e, ← hb] at q; exact q)
theorem Old.sz (X : Old Z n0 h) : n0 ≤ h.size := by rw [← X.1]; exact X.2.1
theorem ge_new (hb : b = h.size) (X : Old Z n0 h) : n0 ≤ b := by rw [hb]; exact Old.sz X
theorem keep_new (hb : b = h.size) (K : Keep h0 h ws) : h0.size ≤ b := by rw [hb]; exact K.1
theorem cat_ref {v : Value} (q : v.isRef = true) : v.category = 1 := by rcases ref_cases q with rfl | ⟨z, rfl⟩ <;> rfl
theorem store_cat {l l' : Array Slot} {i : Nat} {v : Value} {o : Slot} (hold : l[i]? = some o) (ho : o = .unset ∨ ∃ w, o = .val w ∧ w.category = 1) (hv : v.category = 1) (e : l.setIfInBounds i (.val v) = l') : storeLocals l i v = some l' := e ▸ XS.store1 hold ho hv
theorem nref {t : FieldType} {v : Value} (ht : t.isReference = true) (q : v.isRef = true) : narrow t v = v := by rcases ref_cases q with rfl | ⟨z, rfl⟩ <;> cases t <;> first | rfl | (cases ht; done)
theorem fref {t : FieldType} {v : Value} (ht : t.isReference = true) (q : v.isRef = true) : fits t v = true := by rcases ref_cases q with rfl | ⟨z, rfl⟩ <;> cases t <;> first | rfl | (cases ht; done)
theorem nz {x : Int32} (q : nar .boolean x = x) : narrow .boolean (.int x) = .int x := congrArg Value.int q
theorem fz {x : Int32} (q : nar .boolean x = x) : fits .boolean (.int x) = true := by rw [← q]; exact fits_nar_bool x
/-- w is no String and no byte[] of the heap -/
def Off (Z : State) (h : Heap) (w : Addr) : Prop := (∀ x, Exa Z h x "java/lang/String" → x ≠ w) ∧ ∀ (t : Addr) (k : ClassId) (z : Int32) (vs : List Value) (d : Value), Arv Z h t k .byte z vs d → t ≠ w
theorem Off.exa {Cn : String} {nf : Nat} (E : Exa Z h a Cn) (hn : Cn ≠ "java/lang/String") (wi : (Jvm.Cond.instantiable Cn nf).before a0 Z = true) : Off Z h a :=
  ⟨fun x F => F.ne E hn.symm, fun t k z vs d F => (E.neArv F wi).symm⟩
theorem arv_ty {k k' : ClassId} {t t' : FieldType} {z z' : Int32} {vs vs' : List Value} {d d' : Value} (A : Arv Z h a k t z vs d) (B : Arv Z h a k' t' z' vs' d') : t = t' := by
  obtain ⟨c, A1, -⟩ := A
  obtain ⟨c', B1, -⟩ := B
  cases A1.1.symm.trans B1.1
  obtain ⟨-, k1, j1, c1, j2⟩ := A1.2.1
  obtain ⟨-, k2, i1, c2, i2⟩ := B1.2.1
  cases j1.symm.trans i1
  rw [j2] at i2
  cases i2
  rfl
theorem Off.arv {k : ClassId} {t : FieldType} {z : Int32} {vs : List Value} {d : Value} (A : Arv Z h a k t z vs d) (ht : t ≠ .byte) (wi : (Jvm.Cond.instantiable "java/lang/String" 4).before a0 Z = true) : Off Z h a :=
  ⟨fun x F e => F.neArv (b := a) A wi e, fun t' k' z' vs' d' F e => by subst e; exact ht (arv_ty A F)⟩
theorem Off.new (q : h.size ≤ a) : Off Z h a := ⟨fun x F e => by subst e; exact Nat.not_lt.mpr q F.lt, fun t k z vs d F e => by subst e; exact Nat.not_lt.mpr q F.lt⟩
/-- no object of the class C is one of the class K -/
theorem no_inst {Cn Sn Kn : String} {nf : Nat} (w : (Jvm.Cond.superclass Cn Sn).before a0 Z = true) (w0 : (Jvm.Cond.noSuperclass Sn).before a0 Z = true) (wk : (Jvm.Cond.instantiable Kn nf).before a0 Z = true) (h1 : Cn ≠ Kn) (h2 : Sn ≠ Kn) : ∃ c t, Z.vm.findClass Cn = some c ∧ Z.vm.findClass Kn = some t ∧ Z.vm.assignable c t = false := by
  obtain ⟨t, kt, g1, g2, g3, g4⟩ := Cond.instantiable_spec wk
  obtain ⟨cs, ks, s1, s2, s3, -, -⟩ := Cond.noSuperclass_spec w0
  have ne2 := ids_ne s1 g1 h2
  have nroot : NS Z Sn Kn := ⟨cs, t, s1, g1, fun fuel => by
    cases fuel with
    | zero => rfl
    | succ f => simp [Vm.isSubclassAux, ne2, s2, s3]⟩
  have n := NS.step w nroot h1
  obtain ⟨c, t', h0, g0, n3⟩ := n
  cases g1.symm.trans g0
  obtain ⟨p, k, kp, p1, p2, p3, p4, p5, -, p7⟩ := Cond.superclass_spec h0 w
  have ne := ids_ne h0 g1 h1
  refine ⟨c, t, h0, g1, ?_⟩
  show Z.vm.assignableAux (255 + 1) c t = false
  have g5 : kt.isInterface = false := by have q := g4.1; simp only [Bool.or_eq_false_iff] at q; exact q.1
  simp [Vm.assignableAux, ne, p2, g2, p5, g3, g5, Vm.isSubclass, n3]
theorem no_inst2 {Cn Rn Sn Kn : String} {nf : Nat} (w : (Jvm.Cond.superclass Cn Rn).before a0 Z = true) (w1 : (Jvm.Cond.superclass Rn Sn).before a0 Z = true) (w0 : (Jvm.Cond.noSuperclass Sn).before a0 Z = true) (wk : (Jvm.Cond.instantiable Kn nf).before a0 Z = true) (h1 : Cn ≠ Kn) (h3 : Rn ≠ Kn) (h2 : Sn ≠ Kn) : ∃ c t, Z.vm.findClass Cn = some c ∧ Z.vm.findClass Kn = some t ∧ Z.vm.assignable c t = false := by
  obtain ⟨t, kt, g1, g2, g3, g4⟩ := Cond.instantiable_spec wk
  obtain ⟨cs, ks, s1, s2, s3, -, -⟩ := Cond.noSuperclass_spec w0
  have ne2 := ids_ne s1 g1 h2
  have nroot : NS Z Sn Kn := ⟨cs, t, s1, g1, fun fuel => by
    cases fuel with
    | zero => rfl
    | succ f => simp [Vm.isSubclassAux, ne2, s2, s3]⟩
  have n := NS.step w (NS.step w1 nroot h3) h1
  obtain ⟨c, t', h0, g0, n3⟩ := n
  cases g1.symm.trans g0
  obtain ⟨p, k, kp, p1, p2, p3, p4, p5, -, p7⟩ := Cond.superclass_spec h0 w
  have ne := ids_ne h0 g1 h1
  refine ⟨c, t, h0, g1, ?_⟩
  show Z.vm.assignableAux (255 + 1) c t = false
  have g5 : kt.isInterface = false := by have q := g4.1; simp only [Bool.or_eq_false_iff] at q; exact q.1
  simp [Vm.assignableAux, ne, p2, g2, p5, g3, g5, Vm.isSubclass, n3]
end Ext1
section Ext2
variable {C : Cx} {Z : State} {a0 : Array Value} {b : ByteArray} {ml : Nat} {ret : Option FieldType} {nm own : String} {rm : Room} {n0 : Nat} {Q : Option Value → Heap → Prop} {M : List Addr} {h : Heap} {k n pc : Nat} {L : Array Slot} {S : List Value}
theorem g_instN (o : Ok C Z a0 b ml ret nm own rm) {ix : Nat} {a : Addr} {Kn Cn : String} (d : decode b pc = .ok (.instanceof ix, 3)) (w : (Jvm.Cond.classLink own ix Kn).before a0 Z = true) (E : Exa Z h a Cn) (F : ∃ c t, Z.vm.findClass Cn = some c ∧ Z.vm.findClass Kn = some t ∧ Z.vm.assignable c t = false) (K : Go C Z n0 Q M h k n (pc + 3) L (.int 0 :: S)) : Go C Z n0 Q M h k n pc L (.ref a :: S) := by
  refine Go.via (dk := 0) (dn := 0) (ι := Unit) (P := fun _ h' => h' = h) (S' := fun _ => .int 0 :: S) (fun _ h' e => by have e : h' = h := e; rw [e]; exact K) fun T vm0 locs k' n' X B hZ hf eT N => ?_
  obtain ⟨T', X', e', st⟩ := instNo X o.1 (Z := Z) hZ (by rw [← o.hown]; exact hf) w eT E F (g := mkF C.m pc L (.ref a :: S)) rfl rfl (hb o.2.1 d)
  exact ⟨(), T', locs, h, rfl, X', e', N, Mv.refl, st⟩
theorem g_instNull (o : Ok C Z a0 b ml ret nm own rm) {ix : Nat} (d : decode b pc = .ok (.instanceof ix, 3)) (K : Go C Z n0 Q M h k n (pc + 3) L (.int 0 :: S)) : Go C Z n0 Q M h k n pc L (.null :: S) :=
  K.by fun T vm0 locs _ _ target X _ _ _ st => instanceofNull X o.1 (g := mkF C.m pc L (.null :: S)) rfl rfl (hb o.2.1 d) _ st
theorem g_bbload (o : Ok C Z a0 b ml ret nm own rm) {a : Addr} {kc : ClassId} {z j : Int32} {vs : List Value} {dv v : Value} {i : Nat} (d : decode b pc = .ok (.baload, 1)) (V : Arv Z h a kc .byte z vs dv) (hz : z.toNatClampNeg = vs.length) (h0 : ¬ j < 0) (hj : j.toNatClampNeg = i) (hi : i < vs.length) (hv : vs.getD i dv = v)
    (K : Go C Z n0 Q M h k n (pc + 1) L (v :: S)) : Go C Z n0 Q M h k n pc L (.int j :: .ref a :: S) := by
  obtain ⟨cl, A, q1, q2, q3, H, G⟩ := V
  subst hj
  exact K.by fun T vm0 locs _ _ target X hZ _ eT st => X.baloadBytes o.1 (cell := cl) (j := j) (v := v) (by rw [eT]; exact A.1) (State.isArrayOf_alike hZ.alike A.2.1) A.2.2 (idx_ok q2 hz h0 rfl hi) (H.at (idx_ok q2 hz h0 rfl hi) hv) (g := mkF C.m pc L (.int j :: .ref a :: S)) rfl rfl (hb o.2.1 d) _ st
theorem g_bbstore (o : Ok C Z a0 b ml ret nm own rm) {a : Addr} {kc : ClassId} {z j x y : Int32} {vs : List Value} {dv : Value} {i : Nat} (d : decode b pc = .ok (.bastore, 1)) (V : Arv Z h a kc .byte z vs dv) (hz : z.toNatClampNeg = vs.length) (h0 : ¬ j < 0) (hj : j.toNatClampNeg = i) (hi : i < vs.length) (hy : x.toInt8.toInt32 = y) (ha : n0 ≤ a) (hs : SafeOk C Z M h a)
    (K : ∀ h', Wr h h' a i (.int y) → Arv Z h' a kc .byte z (vs.set i (.int y)) dv → Go C Z n0 Q M h' k n (pc + 1) L S) : Go C Z n0 Q M h k n pc L (.int x :: .int j :: .ref a :: S) := by
  obtain ⟨cl, A, q1, q2, q3, H, G⟩ := V
  subst hy hj
  refine Go.via (dk := 0) (dn := 0) (ι := Unit) (P := fun _ h' => Wr h h' a j.toNatClampNeg (.int x.toInt8.toInt32)) (S' := fun _ => S) (fun _ h' e => K h' e (Arv.set A q1 q2 q3 H G (fits_byte_narrow x) e _ rfl hi)) fun T vm0 locs k' n' X B hZ hf eT N => ?_
  obtain ⟨T', h', X', e', W, st⟩ := stB X o.1 (Z := Z) hZ eT A (idx_ok q2 hz h0 rfl hi) (g := mkF C.m pc L (.int x :: .int j :: .ref a :: S)) rfl rfl (hb o.2.1 d)
  exact ⟨(), T', _, h', W, X', e', Fr.snoc X' N ha, Mv.wr W hs, st⟩
theorem law_of {l : Launch} {y : MethodName} {as : Array Value} {ws : List Jvm.Cond} {rmL : Room} (hp : plainName y.cls = true) (hw : ∀ d ∈ tables_1, d.before a0 Z = true) (he : ∀ m, entryFrame m as ml = mkF m 0 L []) (wide : Bool) (EL : List (String × Nat)) (hEW : EW Z a0 EL) (hCH : CHv Z EL Z.vm h) (PL : List (String × Nat)) (cs r : Nat) (hr : PL.length ≤ r) (hrm : rmL = big rm r cs)
    (K : ∀ C : Cx, C.l = l → C.wide = wide → C.EL = EL → C.PL = PL → C.cs = cs → C.r = r → Ok C Z a0 b ml ret y.name y.cls rm → Go C Z n0 Q [] h 0 0 0 L []) : MetFree l y (head1 (Jvm.Cond.code y b ml ret :: ws) rmL) (fun a U => a = as ∧ Z.Warmed39 U.vm ∧ U.vm = Z.vm ∧ U.heap = h) (fun _ _ _ _ _ => True) (fun _ U o U' => ∃ v L, o = .returned v ∧ (Q v U'.heap ∧ Fr n0 L) ∧ (wide = true → ∃ k n, ReturnedEndW U o U' L k n ∧ k ≤ rmL.cells ∧ n ≤ rmL.slots) ∧ (wide = false → FrameEnd U o U' L rmL.cells rmL.slots)) := by
  refine MetFree.of_bodySF (plainFor_of_name hp) hisR ?_
  intro p e s m args below meth c s₁ Bd hml hP _
  obtain ⟨rfl, hZ, hvm, hh⟩ := hP
  obtain ⟨s₂, o, w⟩ := go_body PL cs r (Nat.le_trans (rho_le _ _) hr) hrm Bd hml hw wide EL hEW hZ hh (by rw [hvm]; exact hCH) (fun x hx => by cases hx) (he m) K
  refine ⟨s₂, o, w.1, w.2.1, w.2.2.1, ?_⟩
  obtain ⟨v, Lc, q1, q2, -, q3, q4⟩ := w.2.2.2
  refine ⟨v, Lc, q1, ⟨q2.1, q2.2.1⟩, fun hq => ?_, fun hq => ?_⟩
  · obtain ⟨k, n, q5, q6, q7⟩ := q3 hq
    have b1 := Nat.le_trans (rho_le (Z := Z) PL s.vm) hr
    have b2 := Nat.mul_le_mul_left cs b1
    refine ⟨k, n, q5, ?_, ?_⟩
    · rw [hrm]; show k ≤ rm.cells + 2 * r; omega
    · rw [hrm]; show n ≤ rm.slots + cs * r; omega
  · obtain ⟨w1, w2, w3⟩ := q4 hq
    exact ⟨w1, w2, w3.mono (by rw [hrm]; exact Nat.le_add_right _ _) (by rw [hrm]; exact Nat.le_add_right _ _)⟩
end Ext2
theorem wd_113 {a0 : Array Value} {Z : State} (hw : ∀ d ∈ tables_1, d.before a0 Z = true) : (Jvm.Cond.stringLink "com/example/traceloom/traceloom/TraceIdsIsAcceptedPinLaw" (22 : Nat) "").before a0 Z = true := hw _ (List.mem_of_getElem? (i := 113) rfl)
theorem d_jdk_41_method_11_0 : decode jdk_41_method_11_code 0 = .ok (.iload_n 0, 1) := by decide +kernel
theorem d_jdk_41_method_11_1 : decode jdk_41_method_11_code 1 = .ok (.ifCond .lt 8, 3) := by decide +kernel
theorem d_jdk_41_method_11_4 : decode jdk_41_method_11_code 4 = .ok (.iload_n 0, 1) := by decide +kernel
theorem d_jdk_41_method_11_5 : decode jdk_41_method_11_code 5 = .ok (.iload_n 1, 1) := by decide +kernel
theorem d_jdk_41_method_11_6 : decode jdk_41_method_11_code 6 = .ok (.if_icmp .lt 10, 3) := by decide +kernel
theorem d_jdk_41_method_11_16 : decode jdk_41_method_11_code 16 = .ok (.iload_n 0, 1) := by decide +kernel
theorem d_jdk_41_method_11_17 : decode jdk_41_method_11_code 17 = .ok (.ireturn, 1) := by decide +kernel
theorem pn_0 : plainName "jdk/internal/util/Preconditions" = true := by first | (simp [plainName, overriddenIn]; done) | decide +kernel
theorem d_jdk_42_method_155_0 : decode jdk_42_method_155_code 0 = .ok (.iload_n 0, 1) := by decide +kernel
theorem d_jdk_42_method_155_1 : decode jdk_42_method_155_code 1 = .ok (.iload_n 1, 1) := by decide +kernel
theorem d_jdk_42_method_155_2 : decode jdk_42_method_155_code 2 = .ok (.getstatic 1053, 3) := by decide +kernel
theorem wd_72 {a0 : Array Value} {Z : State} (hw : ∀ d ∈ tables_1, d.before a0 Z = true) : (Jvm.Cond.fieldLink "java/lang/String" (1053 : Nat) "jdk/internal/util/Preconditions" "SIOOBE_FORMATTER" "Ljava/util/function/BiFunction;").before a0 Z = true := hw _ (List.mem_of_getElem? (i := 72) rfl)
theorem d_jdk_42_method_155_5 : decode jdk_42_method_155_code 5 = .ok (.invokestatic 1059, 3) := by decide +kernel
theorem wd_74 {a0 : Array Value} {Z : State} (hw : ∀ d ∈ tables_1, d.before a0 Z = true) : (Jvm.Cond.methodLink "java/lang/String" (1059 : Nat) ({ cls := "jdk/internal/util/Preconditions", name := "checkIndex", desc := "(IILjava/util/function/BiFunction;)I" } : Jvm.MethodName)).before a0 Z = true := hw _ (List.mem_of_getElem? (i := 74) rfl)
theorem wd_76 {a0 : Array Value} {Z : State} (hw : ∀ d ∈ tables_1, d.before a0 Z = true) : (Jvm.Cond.code ({ cls := "jdk/internal/util/Preconditions", name := "checkIndex", desc := "(IILjava/util/function/BiFunction;)I" } : Jvm.MethodName) jdk_41_method_11_code (3 : Nat) (Option.some Jvm.ClassFile.FieldType.int)).before a0 Z = true := hw _ (List.mem_of_getElem? (i := 76) rfl)
theorem wd_73 {a0 : Array Value} {Z : State} (hw : ∀ d ∈ tables_1, d.before a0 Z = true) : (Jvm.Cond.initialized "jdk/internal/util/Preconditions").before a0 Z = true := hw _ (List.mem_of_getElem? (i := 73) rfl)
theorem wd_75 {a0 : Array Value} {Z : State} (hw : ∀ d ∈ tables_1, d.before a0 Z = true) : (Jvm.Cond.static ({ cls := "jdk/internal/util/Preconditions", name := "checkIndex", desc := "(IILjava/util/function/BiFunction;)I" } : Jvm.MethodName)).before a0 Z = true := hw _ (List.mem_of_getElem? (i := 75) rfl)
theorem pd_0 : parseMethodDescriptor "(IILjava/util/function/BiFunction;)I" = some ⟨[.int, .int, (.object "java/util/function/BiFunction")], some .int⟩ := by decide +kernel
theorem d_jdk_42_method_155_8 : decode jdk_42_method_155_code 8 = .ok (.pop, 1) := by decide +kernel
theorem d_jdk_42_method_155_9 : decode jdk_42_method_155_code 9 = .ok (.return_, 1) := by decide +kernel
theorem pn_1 : plainName "java/lang/String" = true := by first | (simp [plainName, overriddenIn]; done) | decide +kernel
theorem d_jdk_52_method_6_0 : decode jdk_52_method_6_code 0 = .ok (.aload_n 0, 1) := by decide +kernel
theorem d_jdk_52_method_6_1 : decode jdk_52_method_6_code 1 = .ok (.arraylength, 1) := by decide +kernel
theorem d_jdk_52_method_6_2 : decode jdk_52_method_6_code 2 = .ok (.iconst 1, 1) := by decide +kernel
theorem d_jdk_52_method_6_3 : decode jdk_52_method_6_code 3 = .ok (.ishr, 1) := by decide +kernel
theorem d_jdk_52_method_6_4 : decode jdk_52_method_6_code 4 = .ok (.ireturn, 1) := by decide +kernel
theorem pn_2 : plainName "java/lang/StringUTF16" = true := by first | (simp [plainName, overriddenIn]; done) | decide +kernel
theorem d_jdk_52_method_91_0 : decode jdk_52_method_91_code 0 = .ok (.iload_n 0, 1) := by decide +kernel
theorem d_jdk_52_method_91_1 : decode jdk_52_method_91_code 1 = .ok (.aload_n 1, 1) := by decide +kernel
theorem d_jdk_52_method_91_2 : decode jdk_52_method_91_code 2 = .ok (.invokestatic 48, 3) := by decide +kernel
theorem wd_109 {a0 : Array Value} {Z : State} (hw : ∀ d ∈ tables_1, d.before a0 Z = true) : (Jvm.Cond.methodLink "java/lang/StringUTF16" (48 : Nat) ({ cls := "java/lang/StringUTF16", name := "length", desc := "([B)I" } : Jvm.MethodName)).before a0 Z = true := hw _ (List.mem_of_getElem? (i := 109) rfl)
theorem wd_111 {a0 : Array Value} {Z : State} (hw : ∀ d ∈ tables_1, d.before a0 Z = true) : (Jvm.Cond.code ({ cls := "java/lang/StringUTF16", name := "length", desc := "([B)I" } : Jvm.MethodName) jdk_52_method_6_code (1 : Nat) (Option.some Jvm.ClassFile.FieldType.int)).before a0 Z = true := hw _ (List.mem_of_getElem? (i := 111) rfl)
theorem wd_27 {a0 : Array Value} {Z : State} (hw : ∀ d ∈ tables_1, d.before a0 Z = true) : (Jvm.Cond.initialized "java/lang/StringUTF16").before a0 Z = true := hw _ (List.mem_of_getElem? (i := 27) rfl)
theorem wd_110 {a0 : Array Value} {Z : State} (hw : ∀ d ∈ tables_1, d.before a0 Z = true) : (Jvm.Cond.static ({ cls := "java/lang/StringUTF16", name := "length", desc := "([B)I" } : Jvm.MethodName)).before a0 Z = true := hw _ (List.mem_of_getElem? (i := 110) rfl)
theorem pd_1 : parseMethodDescriptor "([B)I" = some ⟨[(.array .byte)], some .int⟩ := by decide +kernel
theorem d_jdk_52_method_91_5 : decode jdk_52_method_91_code 5 = .ok (.invokestatic 414, 3) := by decide +kernel
theorem wd_112 {a0 : Array Value} {Z : State} (hw : ∀ d ∈ tables_1, d.before a0 Z = true) : (Jvm.Cond.methodLink "java/lang/StringUTF16" (414 : Nat) ({ cls := "java/lang/String", name := "checkIndex", desc := "(II)V" } : Jvm.MethodName)).before a0 Z = true := hw _ (List.mem_of_getElem? (i := 112) rfl)
theorem wd_71 {a0 : Array Value} {Z : State} (hw : ∀ d ∈ tables_1, d.before a0 Z = true) : (Jvm.Cond.code ({ cls := "java/lang/String", name := "checkIndex", desc := "(II)V" } : Jvm.MethodName) jdk_42_method_155_code (2 : Nat) (Option.none : Option Jvm.ClassFile.FieldType)).before a0 Z = true := hw _ (List.mem_of_getElem? (i := 71) rfl)
theorem wd_13 {a0 : Array Value} {Z : State} (hw : ∀ d ∈ tables_1, d.before a0 Z = true) : (Jvm.Cond.initialized "java/lang/String").before a0 Z = true := hw _ (List.mem_of_getElem? (i := 13) rfl)
theorem wd_70 {a0 : Array Value} {Z : State} (hw : ∀ d ∈ tables_1, d.before a0 Z = true) : (Jvm.Cond.static ({ cls := "java/lang/String", name := "checkIndex", desc := "(II)V" } : Jvm.MethodName)).before a0 Z = true := hw _ (List.mem_of_getElem? (i := 70) rfl)
theorem pd_2 : parseMethodDescriptor "(II)V" = some ⟨[.int, .int], none⟩ := by decide +kernel
theorem d_jdk_52_method_91_8 : decode jdk_52_method_91_code 8 = .ok (.return_, 1) := by decide +kernel
theorem d_jdk_52_method_5_0 : decode jdk_52_method_5_code 0 = .ok (.getstatic 44, 3) := by decide +kernel
theorem wd_97 {a0 : Array Value} {Z : State} (hw : ∀ d ∈ tables_1, d.before a0 Z = true) : (Jvm.Cond.fieldLink "java/lang/StringUTF16" (44 : Nat) "java/lang/StringUTF16" "$assertionsDisabled" "Z").before a0 Z = true := hw _ (List.mem_of_getElem? (i := 97) rfl)
theorem d_jdk_52_method_5_3 : decode jdk_52_method_5_code 3 = .ok (.ifCond .ne 25, 3) := by decide +kernel
theorem d_jdk_52_method_5_28 : decode jdk_52_method_5_code 28 = .ok (.iload_n 1, 1) := by decide +kernel
theorem d_jdk_52_method_5_29 : decode jdk_52_method_5_code 29 = .ok (.iconst 1, 1) := by decide +kernel
theorem d_jdk_52_method_5_30 : decode jdk_52_method_5_code 30 = .ok (.ishl, 1) := by decide +kernel
theorem d_jdk_52_method_5_31 : decode jdk_52_method_5_code 31 = .ok (.istore_n 1, 1) := by decide +kernel
theorem d_jdk_52_method_5_32 : decode jdk_52_method_5_code 32 = .ok (.aload_n 0, 1) := by decide +kernel
theorem d_jdk_52_method_5_33 : decode jdk_52_method_5_code 33 = .ok (.iload_n 1, 1) := by decide +kernel
theorem d_jdk_52_method_5_34 : decode jdk_52_method_5_code 34 = .ok (.iinc 1 1, 3) := by decide +kernel
theorem d_jdk_52_method_5_37 : decode jdk_52_method_5_code 37 = .ok (.baload, 1) := by decide +kernel
theorem d_jdk_52_method_5_38 : decode jdk_52_method_5_code 38 = .ok (.sipush 255, 3) := by decide +kernel
theorem d_jdk_52_method_5_41 : decode jdk_52_method_5_code 41 = .ok (.iand, 1) := by decide +kernel
theorem d_jdk_52_method_5_42 : decode jdk_52_method_5_code 42 = .ok (.getstatic 59, 3) := by decide +kernel
theorem wd_98 {a0 : Array Value} {Z : State} (hw : ∀ d ∈ tables_1, d.before a0 Z = true) : (Jvm.Cond.fieldLink "java/lang/StringUTF16" (59 : Nat) "java/lang/StringUTF16" "HI_BYTE_SHIFT" "I").before a0 Z = true := hw _ (List.mem_of_getElem? (i := 98) rfl)
theorem d_jdk_52_method_5_45 : decode jdk_52_method_5_code 45 = .ok (.ishl, 1) := by decide +kernel
theorem d_jdk_52_method_5_46 : decode jdk_52_method_5_code 46 = .ok (.aload_n 0, 1) := by decide +kernel
theorem d_jdk_52_method_5_47 : decode jdk_52_method_5_code 47 = .ok (.iload_n 1, 1) := by decide +kernel
theorem d_jdk_52_method_5_48 : decode jdk_52_method_5_code 48 = .ok (.baload, 1) := by decide +kernel
theorem d_jdk_52_method_5_49 : decode jdk_52_method_5_code 49 = .ok (.sipush 255, 3) := by decide +kernel
theorem d_jdk_52_method_5_52 : decode jdk_52_method_5_code 52 = .ok (.iand, 1) := by decide +kernel
theorem d_jdk_52_method_5_53 : decode jdk_52_method_5_code 53 = .ok (.getstatic 63, 3) := by decide +kernel
theorem wd_99 {a0 : Array Value} {Z : State} (hw : ∀ d ∈ tables_1, d.before a0 Z = true) : (Jvm.Cond.fieldLink "java/lang/StringUTF16" (63 : Nat) "java/lang/StringUTF16" "LO_BYTE_SHIFT" "I").before a0 Z = true := hw _ (List.mem_of_getElem? (i := 99) rfl)
theorem d_jdk_52_method_5_56 : decode jdk_52_method_5_code 56 = .ok (.ishl, 1) := by decide +kernel
theorem d_jdk_52_method_5_57 : decode jdk_52_method_5_code 57 = .ok (.ior, 1) := by decide +kernel
theorem d_jdk_52_method_5_58 : decode jdk_52_method_5_code 58 = .ok (.i2c, 1) := by decide +kernel
theorem d_jdk_52_method_5_59 : decode jdk_52_method_5_code 59 = .ok (.ireturn, 1) := by decide +kernel
theorem d_jdk_52_method_83_0 : decode jdk_52_method_83_code 0 = .ok (.iload_n 1, 1) := by decide +kernel
theorem d_jdk_52_method_83_1 : decode jdk_52_method_83_code 1 = .ok (.aload_n 0, 1) := by decide +kernel
theorem d_jdk_52_method_83_2 : decode jdk_52_method_83_code 2 = .ok (.invokestatic 67, 3) := by decide +kernel
theorem wd_106 {a0 : Array Value} {Z : State} (hw : ∀ d ∈ tables_1, d.before a0 Z = true) : (Jvm.Cond.methodLink "java/lang/StringUTF16" (67 : Nat) ({ cls := "java/lang/StringUTF16", name := "checkIndex", desc := "(I[B)V" } : Jvm.MethodName)).before a0 Z = true := hw _ (List.mem_of_getElem? (i := 106) rfl)
theorem wd_108 {a0 : Array Value} {Z : State} (hw : ∀ d ∈ tables_1, d.before a0 Z = true) : (Jvm.Cond.code ({ cls := "java/lang/StringUTF16", name := "checkIndex", desc := "(I[B)V" } : Jvm.MethodName) jdk_52_method_91_code (2 : Nat) (Option.none : Option Jvm.ClassFile.FieldType)).before a0 Z = true := hw _ (List.mem_of_getElem? (i := 108) rfl)
theorem wd_107 {a0 : Array Value} {Z : State} (hw : ∀ d ∈ tables_1, d.before a0 Z = true) : (Jvm.Cond.static ({ cls := "java/lang/StringUTF16", name := "checkIndex", desc := "(I[B)V" } : Jvm.MethodName)).before a0 Z = true := hw _ (List.mem_of_getElem? (i := 107) rfl)
theorem pd_3 : parseMethodDescriptor "(I[B)V" = some ⟨[.int, (.array .byte)], none⟩ := by decide +kernel
theorem d_jdk_52_method_83_5 : decode jdk_52_method_83_code 5 = .ok (.aload_n 0, 1) := by decide +kernel
theorem d_jdk_52_method_83_6 : decode jdk_52_method_83_code 6 = .ok (.iload_n 1, 1) := by decide +kernel
theorem d_jdk_52_method_83_7 : decode jdk_52_method_83_code 7 = .ok (.invokestatic 71, 3) := by decide +kernel
theorem wd_100 {a0 : Array Value} {Z : State} (hw : ∀ d ∈ tables_1, d.before a0 Z = true) : (Jvm.Cond.methodLink "java/lang/StringUTF16" (71 : Nat) ({ cls := "java/lang/StringUTF16", name := "getChar", desc := "([BI)C" } : Jvm.MethodName)).before a0 Z = true := hw _ (List.mem_of_getElem? (i := 100) rfl)
theorem wd_102 {a0 : Array Value} {Z : State} (hw : ∀ d ∈ tables_1, d.before a0 Z = true) : (Jvm.Cond.code ({ cls := "java/lang/StringUTF16", name := "getChar", desc := "([BI)C" } : Jvm.MethodName) jdk_52_method_5_code (2 : Nat) (Option.some Jvm.ClassFile.FieldType.char)).before a0 Z = true := hw _ (List.mem_of_getElem? (i := 102) rfl)
theorem wd_101 {a0 : Array Value} {Z : State} (hw : ∀ d ∈ tables_1, d.before a0 Z = true) : (Jvm.Cond.static ({ cls := "java/lang/StringUTF16", name := "getChar", desc := "([BI)C" } : Jvm.MethodName)).before a0 Z = true := hw _ (List.mem_of_getElem? (i := 101) rfl)
theorem pd_4 : parseMethodDescriptor "([BI)C" = some ⟨[(.array .byte), .int], some .char⟩ := by decide +kernel
theorem d_jdk_52_method_83_10 : decode jdk_52_method_83_code 10 = .ok (.ireturn, 1) := by decide +kernel
theorem d_jdk_42_method_154_0 : decode jdk_42_method_154_code 0 = .ok (.getstatic 38, 3) := by decide +kernel
theorem wd_24 {a0 : Array Value} {Z : State} (hw : ∀ d ∈ tables_1, d.before a0 Z = true) : (Jvm.Cond.fieldLink "java/lang/String" (38 : Nat) "java/lang/String" "COMPACT_STRINGS" "Z").before a0 Z = true := hw _ (List.mem_of_getElem? (i := 24) rfl)
theorem d_jdk_42_method_154_3 : decode jdk_42_method_154_code 3 = .ok (.ifCond .eq 14, 3) := by decide +kernel
theorem d_jdk_42_method_154_6 : decode jdk_42_method_154_code 6 = .ok (.aload_n 0, 1) := by decide +kernel
theorem d_jdk_42_method_154_7 : decode jdk_42_method_154_code 7 = .ok (.getfield 15, 3) := by decide +kernel
theorem wd_36 {a0 : Array Value} {Z : State} (hw : ∀ d ∈ tables_1, d.before a0 Z = true) : (Jvm.Cond.fieldLink "java/lang/String" (15 : Nat) "java/lang/String" "coder" "B").before a0 Z = true := hw _ (List.mem_of_getElem? (i := 36) rfl)
theorem d_jdk_42_method_154_10 : decode jdk_42_method_154_code 10 = .ok (.ifCond .ne 7, 3) := by decide +kernel
theorem d_jdk_42_method_154_17 : decode jdk_42_method_154_code 17 = .ok (.iconst 0, 1) := by decide +kernel
theorem d_jdk_42_method_154_18 : decode jdk_42_method_154_code 18 = .ok (.ireturn, 1) := by decide +kernel
theorem d_jdk_42_method_56_0 : decode jdk_42_method_56_code 0 = .ok (.aload_n 0, 1) := by decide +kernel
theorem d_jdk_42_method_56_1 : decode jdk_42_method_56_code 1 = .ok (.invokevirtual 492, 3) := by decide +kernel
theorem wd_60 {a0 : Array Value} {Z : State} (hw : ∀ d ∈ tables_1, d.before a0 Z = true) : (Jvm.Cond.methodLink "java/lang/String" (492 : Nat) ({ cls := "java/lang/String", name := "isLatin1", desc := "()Z" } : Jvm.MethodName)).before a0 Z = true := hw _ (List.mem_of_getElem? (i := 60) rfl)
theorem wd_64 {a0 : Array Value} {Z : State} (hw : ∀ d ∈ tables_1, d.before a0 Z = true) : (Jvm.Cond.code ({ cls := "java/lang/String", name := "isLatin1", desc := "()Z" } : Jvm.MethodName) jdk_42_method_154_code (1 : Nat) (Option.some Jvm.ClassFile.FieldType.boolean)).before a0 Z = true := hw _ (List.mem_of_getElem? (i := 64) rfl)
theorem wd_61 {a0 : Array Value} {Z : State} (hw : ∀ d ∈ tables_1, d.before a0 Z = true) : (Jvm.Cond.declares ({ cls := "java/lang/String", name := "isLatin1", desc := "()Z" } : Jvm.MethodName)).before a0 Z = true := hw _ (List.mem_of_getElem? (i := 61) rfl)
theorem wd_63 {a0 : Array Value} {Z : State} (hw : ∀ d ∈ tables_1, d.before a0 Z = true) : (Jvm.Cond.selects "java/lang/String" ({ cls := "java/lang/String", name := "isLatin1", desc := "()Z" } : Jvm.MethodName) ({ cls := "java/lang/String", name := "isLatin1", desc := "()Z" } : Jvm.MethodName)).before a0 Z = true := hw _ (List.mem_of_getElem? (i := 63) rfl)
theorem wd_62 {a0 : Array Value} {Z : State} (hw : ∀ d ∈ tables_1, d.before a0 Z = true) : (Jvm.Cond.instanceMethod ({ cls := "java/lang/String", name := "isLatin1", desc := "()Z" } : Jvm.MethodName)).before a0 Z = true := hw _ (List.mem_of_getElem? (i := 62) rfl)
theorem pd_5 : parseMethodDescriptor "()Z" = some ⟨[], some .boolean⟩ := by decide +kernel
theorem d_jdk_42_method_56_4 : decode jdk_42_method_56_code 4 = .ok (.ifCond .eq 12, 3) := by decide +kernel
theorem d_jdk_42_method_56_16 : decode jdk_42_method_56_code 16 = .ok (.aload_n 0, 1) := by decide +kernel
theorem d_jdk_42_method_56_17 : decode jdk_42_method_56_code 17 = .ok (.getfield 9, 3) := by decide +kernel
theorem wd_38 {a0 : Array Value} {Z : State} (hw : ∀ d ∈ tables_1, d.before a0 Z = true) : (Jvm.Cond.fieldLink "java/lang/String" (9 : Nat) "java/lang/String" "value" "[B").before a0 Z = true := hw _ (List.mem_of_getElem? (i := 38) rfl)
theorem d_jdk_42_method_56_20 : decode jdk_42_method_56_code 20 = .ok (.iload_n 1, 1) := by decide +kernel
theorem d_jdk_42_method_56_21 : decode jdk_42_method_56_code 21 = .ok (.invokestatic 498, 3) := by decide +kernel
theorem wd_103 {a0 : Array Value} {Z : State} (hw : ∀ d ∈ tables_1, d.before a0 Z = true) : (Jvm.Cond.methodLink "java/lang/String" (498 : Nat) ({ cls := "java/lang/StringUTF16", name := "charAt", desc := "([BI)C" } : Jvm.MethodName)).before a0 Z = true := hw _ (List.mem_of_getElem? (i := 103) rfl)
theorem wd_105 {a0 : Array Value} {Z : State} (hw : ∀ d ∈ tables_1, d.before a0 Z = true) : (Jvm.Cond.code ({ cls := "java/lang/StringUTF16", name := "charAt", desc := "([BI)C" } : Jvm.MethodName) jdk_52_method_83_code (2 : Nat) (Option.some Jvm.ClassFile.FieldType.char)).before a0 Z = true := hw _ (List.mem_of_getElem? (i := 105) rfl)
theorem wd_104 {a0 : Array Value} {Z : State} (hw : ∀ d ∈ tables_1, d.before a0 Z = true) : (Jvm.Cond.static ({ cls := "java/lang/StringUTF16", name := "charAt", desc := "([BI)C" } : Jvm.MethodName)).before a0 Z = true := hw _ (List.mem_of_getElem? (i := 104) rfl)
theorem d_jdk_42_method_56_24 : decode jdk_42_method_56_code 24 = .ok (.ireturn, 1) := by decide +kernel
theorem d_jdk_43_method_2_0 : decode jdk_43_method_2_code 0 = .ok (.iload_n 1, 1) := by decide +kernel
theorem d_jdk_43_method_2_1 : decode jdk_43_method_2_code 1 = .ok (.aload_n 0, 1) := by decide +kernel
theorem d_jdk_43_method_2_2 : decode jdk_43_method_2_code 2 = .ok (.arraylength, 1) := by decide +kernel
theorem d_jdk_43_method_2_3 : decode jdk_43_method_2_code 3 = .ok (.invokestatic 9, 3) := by decide +kernel
theorem wd_69 {a0 : Array Value} {Z : State} (hw : ∀ d ∈ tables_1, d.before a0 Z = true) : (Jvm.Cond.methodLink "java/lang/StringLatin1" (9 : Nat) ({ cls := "java/lang/String", name := "checkIndex", desc := "(II)V" } : Jvm.MethodName)).before a0 Z = true := hw _ (List.mem_of_getElem? (i := 69) rfl)
theorem d_jdk_43_method_2_6 : decode jdk_43_method_2_code 6 = .ok (.aload_n 0, 1) := by decide +kernel
theorem d_jdk_43_method_2_7 : decode jdk_43_method_2_code 7 = .ok (.iload_n 1, 1) := by decide +kernel
theorem d_jdk_43_method_2_8 : decode jdk_43_method_2_code 8 = .ok (.baload, 1) := by decide +kernel
theorem d_jdk_43_method_2_9 : decode jdk_43_method_2_code 9 = .ok (.sipush 255, 3) := by decide +kernel
theorem d_jdk_43_method_2_12 : decode jdk_43_method_2_code 12 = .ok (.iand, 1) := by decide +kernel
theorem d_jdk_43_method_2_13 : decode jdk_43_method_2_code 13 = .ok (.i2c, 1) := by decide +kernel
theorem d_jdk_43_method_2_14 : decode jdk_43_method_2_code 14 = .ok (.ireturn, 1) := by decide +kernel
theorem pn_3 : plainName "java/lang/StringLatin1" = true := by first | (simp [plainName, overriddenIn]; done) | decide +kernel
theorem d_jdk_42_method_154_13 : decode jdk_42_method_154_code 13 = .ok (.iconst 1, 1) := by decide +kernel
theorem d_jdk_42_method_154_14 : decode jdk_42_method_154_code 14 = .ok (.goto 4, 3) := by decide +kernel
theorem d_jdk_42_method_56_7 : decode jdk_42_method_56_code 7 = .ok (.aload_n 0, 1) := by decide +kernel
theorem d_jdk_42_method_56_8 : decode jdk_42_method_56_code 8 = .ok (.getfield 9, 3) := by decide +kernel
theorem d_jdk_42_method_56_11 : decode jdk_42_method_56_code 11 = .ok (.iload_n 1, 1) := by decide +kernel
theorem d_jdk_42_method_56_12 : decode jdk_42_method_56_code 12 = .ok (.invokestatic 495, 3) := by decide +kernel
theorem wd_65 {a0 : Array Value} {Z : State} (hw : ∀ d ∈ tables_1, d.before a0 Z = true) : (Jvm.Cond.methodLink "java/lang/String" (495 : Nat) ({ cls := "java/lang/StringLatin1", name := "charAt", desc := "([BI)C" } : Jvm.MethodName)).before a0 Z = true := hw _ (List.mem_of_getElem? (i := 65) rfl)
theorem wd_68 {a0 : Array Value} {Z : State} (hw : ∀ d ∈ tables_1, d.before a0 Z = true) : (Jvm.Cond.code ({ cls := "java/lang/StringLatin1", name := "charAt", desc := "([BI)C" } : Jvm.MethodName) jdk_43_method_2_code (2 : Nat) (Option.some Jvm.ClassFile.FieldType.char)).before a0 Z = true := hw _ (List.mem_of_getElem? (i := 68) rfl)
theorem wd_67 {a0 : Array Value} {Z : State} (hw : ∀ d ∈ tables_1, d.before a0 Z = true) : (Jvm.Cond.initialized "java/lang/StringLatin1").before a0 Z = true := hw _ (List.mem_of_getElem? (i := 67) rfl)
theorem wd_66 {a0 : Array Value} {Z : State} (hw : ∀ d ∈ tables_1, d.before a0 Z = true) : (Jvm.Cond.static ({ cls := "java/lang/StringLatin1", name := "charAt", desc := "([BI)C" } : Jvm.MethodName)).before a0 Z = true := hw _ (List.mem_of_getElem? (i := 66) rfl)
theorem d_jdk_42_method_56_15 : decode jdk_42_method_56_code 15 = .ok (.ireturn, 1) := by decide +kernel
theorem d_jdk_42_method_152_0 : decode jdk_42_method_152_code 0 = .ok (.getstatic 38, 3) := by decide +kernel
theorem d_jdk_42_method_152_3 : decode jdk_42_method_152_code 3 = .ok (.ifCond .eq 10, 3) := by decide +kernel
theorem d_jdk_42_method_152_6 : decode jdk_42_method_152_code 6 = .ok (.aload_n 0, 1) := by decide +kernel
theorem d_jdk_42_method_152_7 : decode jdk_42_method_152_code 7 = .ok (.getfield 15, 3) := by decide +kernel
theorem d_jdk_42_method_152_10 : decode jdk_42_method_152_code 10 = .ok (.goto 4, 3) := by decide +kernel
theorem d_jdk_42_method_152_14 : decode jdk_42_method_152_code 14 = .ok (.ireturn, 1) := by decide +kernel
theorem d_jdk_42_method_54_0 : decode jdk_42_method_54_code 0 = .ok (.aload_n 0, 1) := by decide +kernel
theorem d_jdk_42_method_54_1 : decode jdk_42_method_54_code 1 = .ok (.getfield 9, 3) := by decide +kernel
theorem d_jdk_42_method_54_4 : decode jdk_42_method_54_code 4 = .ok (.arraylength, 1) := by decide +kernel
theorem d_jdk_42_method_54_5 : decode jdk_42_method_54_code 5 = .ok (.aload_n 0, 1) := by decide +kernel
theorem d_jdk_42_method_54_6 : decode jdk_42_method_54_code 6 = .ok (.invokevirtual 335, 3) := by decide +kernel
theorem wd_50 {a0 : Array Value} {Z : State} (hw : ∀ d ∈ tables_1, d.before a0 Z = true) : (Jvm.Cond.methodLink "java/lang/String" (335 : Nat) ({ cls := "java/lang/String", name := "coder", desc := "()B" } : Jvm.MethodName)).before a0 Z = true := hw _ (List.mem_of_getElem? (i := 50) rfl)
theorem wd_54 {a0 : Array Value} {Z : State} (hw : ∀ d ∈ tables_1, d.before a0 Z = true) : (Jvm.Cond.code ({ cls := "java/lang/String", name := "coder", desc := "()B" } : Jvm.MethodName) jdk_42_method_152_code (1 : Nat) (Option.some Jvm.ClassFile.FieldType.byte)).before a0 Z = true := hw _ (List.mem_of_getElem? (i := 54) rfl)
theorem wd_51 {a0 : Array Value} {Z : State} (hw : ∀ d ∈ tables_1, d.before a0 Z = true) : (Jvm.Cond.declares ({ cls := "java/lang/String", name := "coder", desc := "()B" } : Jvm.MethodName)).before a0 Z = true := hw _ (List.mem_of_getElem? (i := 51) rfl)
theorem wd_53 {a0 : Array Value} {Z : State} (hw : ∀ d ∈ tables_1, d.before a0 Z = true) : (Jvm.Cond.selects "java/lang/String" ({ cls := "java/lang/String", name := "coder", desc := "()B" } : Jvm.MethodName) ({ cls := "java/lang/String", name := "coder", desc := "()B" } : Jvm.MethodName)).before a0 Z = true := hw _ (List.mem_of_getElem? (i := 53) rfl)
theorem wd_52 {a0 : Array Value} {Z : State} (hw : ∀ d ∈ tables_1, d.before a0 Z = true) : (Jvm.Cond.instanceMethod ({ cls := "java/lang/String", name := "coder", desc := "()B" } : Jvm.MethodName)).before a0 Z = true := hw _ (List.mem_of_getElem? (i := 52) rfl)
theorem pd_6 : parseMethodDescriptor "()B" = some ⟨[], some .byte⟩ := by decide +kernel
theorem d_jdk_42_method_54_9 : decode jdk_42_method_54_code 9 = .ok (.ishr, 1) := by decide +kernel
theorem d_jdk_42_method_54_10 : decode jdk_42_method_54_code 10 = .ok (.ireturn, 1) := by decide +kernel
theorem d_jdk_42_method_55_0 : decode jdk_42_method_55_code 0 = .ok (.aload_n 0, 1) := by decide +kernel
theorem d_jdk_42_method_55_1 : decode jdk_42_method_55_code 1 = .ok (.getfield 9, 3) := by decide +kernel
theorem d_jdk_42_method_55_4 : decode jdk_42_method_55_code 4 = .ok (.arraylength, 1) := by decide +kernel
theorem d_jdk_42_method_55_5 : decode jdk_42_method_55_code 5 = .ok (.ifCond .ne 7, 3) := by decide +kernel
theorem d_jdk_42_method_55_12 : decode jdk_42_method_55_code 12 = .ok (.iconst 0, 1) := by decide +kernel
theorem d_jdk_42_method_55_13 : decode jdk_42_method_55_code 13 = .ok (.ireturn, 1) := by decide +kernel
theorem d_jdk_42_method_55_8 : decode jdk_42_method_55_code 8 = .ok (.iconst 1, 1) := by decide +kernel
theorem d_jdk_42_method_55_9 : decode jdk_42_method_55_code 9 = .ok (.goto 4, 3) := by decide +kernel
theorem d_jdk_52_method_4_0 : decode jdk_52_method_4_code 0 = .ok (.getstatic 44, 3) := by decide +kernel
theorem d_jdk_52_method_4_3 : decode jdk_52_method_4_code 3 = .ok (.ifCond .ne 25, 3) := by decide +kernel
theorem d_jdk_52_method_4_28 : decode jdk_52_method_4_code 28 = .ok (.iload_n 1, 1) := by decide +kernel
theorem d_jdk_52_method_4_29 : decode jdk_52_method_4_code 29 = .ok (.iconst 1, 1) := by decide +kernel
theorem d_jdk_52_method_4_30 : decode jdk_52_method_4_code 30 = .ok (.ishl, 1) := by decide +kernel
theorem d_jdk_52_method_4_31 : decode jdk_52_method_4_code 31 = .ok (.istore_n 1, 1) := by decide +kernel
theorem d_jdk_52_method_4_32 : decode jdk_52_method_4_code 32 = .ok (.aload_n 0, 1) := by decide +kernel
theorem d_jdk_52_method_4_33 : decode jdk_52_method_4_code 33 = .ok (.iload_n 1, 1) := by decide +kernel
theorem d_jdk_52_method_4_34 : decode jdk_52_method_4_code 34 = .ok (.iinc 1 1, 3) := by decide +kernel
theorem d_jdk_52_method_4_37 : decode jdk_52_method_4_code 37 = .ok (.iload_n 2, 1) := by decide +kernel
theorem d_jdk_52_method_4_38 : decode jdk_52_method_4_code 38 = .ok (.getstatic 59, 3) := by decide +kernel
theorem d_jdk_52_method_4_41 : decode jdk_52_method_4_code 41 = .ok (.ishr, 1) := by decide +kernel
theorem d_jdk_52_method_4_42 : decode jdk_52_method_4_code 42 = .ok (.i2b, 1) := by decide +kernel
theorem d_jdk_52_method_4_43 : decode jdk_52_method_4_code 43 = .ok (.bastore, 1) := by decide +kernel
theorem d_jdk_52_method_4_44 : decode jdk_52_method_4_code 44 = .ok (.aload_n 0, 1) := by decide +kernel
theorem d_jdk_52_method_4_45 : decode jdk_52_method_4_code 45 = .ok (.iload_n 1, 1) := by decide +kernel
theorem d_jdk_52_method_4_46 : decode jdk_52_method_4_code 46 = .ok (.iload_n 2, 1) := by decide +kernel
theorem d_jdk_52_method_4_47 : decode jdk_52_method_4_code 47 = .ok (.getstatic 63, 3) := by decide +kernel
theorem d_jdk_52_method_4_50 : decode jdk_52_method_4_code 50 = .ok (.ishr, 1) := by decide +kernel
theorem d_jdk_52_method_4_51 : decode jdk_52_method_4_code 51 = .ok (.i2b, 1) := by decide +kernel
theorem d_jdk_52_method_4_52 : decode jdk_52_method_4_code 52 = .ok (.bastore, 1) := by decide +kernel
theorem d_jdk_52_method_4_53 : decode jdk_52_method_4_code 53 = .ok (.return_, 1) := by decide +kernel
theorem d_jdk_52_method_3_0 : decode jdk_52_method_3_code 0 = .ok (.iload_n 0, 1) := by decide +kernel
theorem d_jdk_52_method_3_1 : decode jdk_52_method_3_code 1 = .ok (.ifCond .ge 11, 3) := by decide +kernel
theorem d_jdk_52_method_3_12 : decode jdk_52_method_3_code 12 = .ok (.iload_n 0, 1) := by decide +kernel
theorem d_jdk_52_method_3_13 : decode jdk_52_method_3_code 13 = .ok (.ldc 20, 2) := by decide +kernel
theorem wd_93 {a0 : Array Value} {Z : State} (hw : ∀ d ∈ tables_1, d.before a0 Z = true) : (Jvm.Cond.constant "java/lang/StringUTF16" (20 : Nat) (1073741823 : Int32)).before a0 Z = true := hw _ (List.mem_of_getElem? (i := 93) rfl)
theorem d_jdk_52_method_3_15 : decode jdk_52_method_3_code 15 = .ok (.if_icmp .lt 40, 3) := by decide +kernel
theorem d_jdk_52_method_3_55 : decode jdk_52_method_3_code 55 = .ok (.iload_n 0, 1) := by decide +kernel
theorem d_jdk_52_method_3_56 : decode jdk_52_method_3_code 56 = .ok (.iconst 1, 1) := by decide +kernel
theorem d_jdk_52_method_3_57 : decode jdk_52_method_3_code 57 = .ok (.ishl, 1) := by decide +kernel
theorem d_jdk_52_method_3_58 : decode jdk_52_method_3_code 58 = .ok (.ireturn, 1) := by decide +kernel
theorem d_jdk_52_method_2_0 : decode jdk_52_method_2_code 0 = .ok (.iload_n 0, 1) := by decide +kernel
theorem d_jdk_52_method_2_1 : decode jdk_52_method_2_code 1 = .ok (.invokestatic 11, 3) := by decide +kernel
theorem wd_90 {a0 : Array Value} {Z : State} (hw : ∀ d ∈ tables_1, d.before a0 Z = true) : (Jvm.Cond.methodLink "java/lang/StringUTF16" (11 : Nat) ({ cls := "java/lang/StringUTF16", name := "newBytesLength", desc := "(I)I" } : Jvm.MethodName)).before a0 Z = true := hw _ (List.mem_of_getElem? (i := 90) rfl)
theorem wd_92 {a0 : Array Value} {Z : State} (hw : ∀ d ∈ tables_1, d.before a0 Z = true) : (Jvm.Cond.code ({ cls := "java/lang/StringUTF16", name := "newBytesLength", desc := "(I)I" } : Jvm.MethodName) jdk_52_method_3_code (1 : Nat) (Option.some Jvm.ClassFile.FieldType.int)).before a0 Z = true := hw _ (List.mem_of_getElem? (i := 92) rfl)
theorem wd_91 {a0 : Array Value} {Z : State} (hw : ∀ d ∈ tables_1, d.before a0 Z = true) : (Jvm.Cond.static ({ cls := "java/lang/StringUTF16", name := "newBytesLength", desc := "(I)I" } : Jvm.MethodName)).before a0 Z = true := hw _ (List.mem_of_getElem? (i := 91) rfl)
theorem pd_7 : parseMethodDescriptor "(I)I" = some ⟨[.int], some .int⟩ := by decide +kernel
theorem d_jdk_52_method_2_4 : decode jdk_52_method_2_code 4 = .ok (.newarray .byte, 2) := by decide +kernel
theorem wd_29 {a0 : Array Value} {Z : State} (hw : ∀ d ∈ tables_1, d.before a0 Z = true) : (Jvm.Cond.arrayClass Jvm.ClassFile.FieldType.byte).before a0 Z = true := hw _ (List.mem_of_getElem? (i := 29) rfl)
theorem d_jdk_52_method_2_6 : decode jdk_52_method_2_code 6 = .ok (.areturn, 1) := by decide +kernel
theorem d_jdk_52_method_14_8 : decode jdk_52_method_14_code 8 = .ok (.iload 4, 2) := by decide +kernel
theorem d_jdk_52_method_14_10 : decode jdk_52_method_14_code 10 = .ok (.iload_n 2, 1) := by decide +kernel
theorem d_jdk_52_method_14_11 : decode jdk_52_method_14_code 11 = .ok (.if_icmp .ge 21, 3) := by decide +kernel
theorem d_jdk_52_method_14_32 : decode jdk_52_method_14_code 32 = .ok (.aload_n 3, 1) := by decide +kernel
theorem d_jdk_52_method_14_33 : decode jdk_52_method_14_code 33 = .ok (.areturn, 1) := by decide +kernel
theorem d_jdk_52_method_14_14 : decode jdk_52_method_14_code 14 = .ok (.aload_n 3, 1) := by decide +kernel
theorem d_jdk_52_method_14_15 : decode jdk_52_method_14_code 15 = .ok (.iload 4, 2) := by decide +kernel
theorem d_jdk_52_method_14_17 : decode jdk_52_method_14_code 17 = .ok (.aload_n 0, 1) := by decide +kernel
theorem d_jdk_52_method_14_18 : decode jdk_52_method_14_code 18 = .ok (.iload_n 1, 1) := by decide +kernel
theorem d_jdk_52_method_14_19 : decode jdk_52_method_14_code 19 = .ok (.caload, 1) := by decide +kernel
theorem d_jdk_52_method_14_20 : decode jdk_52_method_14_code 20 = .ok (.invokestatic 111, 3) := by decide +kernel
theorem wd_94 {a0 : Array Value} {Z : State} (hw : ∀ d ∈ tables_1, d.before a0 Z = true) : (Jvm.Cond.methodLink "java/lang/StringUTF16" (111 : Nat) ({ cls := "java/lang/StringUTF16", name := "putChar", desc := "([BII)V" } : Jvm.MethodName)).before a0 Z = true := hw _ (List.mem_of_getElem? (i := 94) rfl)
theorem wd_96 {a0 : Array Value} {Z : State} (hw : ∀ d ∈ tables_1, d.before a0 Z = true) : (Jvm.Cond.code ({ cls := "java/lang/StringUTF16", name := "putChar", desc := "([BII)V" } : Jvm.MethodName) jdk_52_method_4_code (3 : Nat) (Option.none : Option Jvm.ClassFile.FieldType)).before a0 Z = true := hw _ (List.mem_of_getElem? (i := 96) rfl)
theorem wd_95 {a0 : Array Value} {Z : State} (hw : ∀ d ∈ tables_1, d.before a0 Z = true) : (Jvm.Cond.static ({ cls := "java/lang/StringUTF16", name := "putChar", desc := "([BII)V" } : Jvm.MethodName)).before a0 Z = true := hw _ (List.mem_of_getElem? (i := 95) rfl)
theorem pd_8 : parseMethodDescriptor "([BII)V" = some ⟨[(.array .byte), .int, .int], none⟩ := by decide +kernel
theorem d_jdk_52_method_14_23 : decode jdk_52_method_14_code 23 = .ok (.iinc 1 1, 3) := by decide +kernel
theorem d_jdk_52_method_14_26 : decode jdk_52_method_14_code 26 = .ok (.iinc 4 1, 3) := by decide +kernel
theorem d_jdk_52_method_14_29 : decode jdk_52_method_14_code 29 = .ok (.goto (-21), 3) := by decide +kernel
theorem d_jdk_52_method_14_0 : decode jdk_52_method_14_code 0 = .ok (.iload_n 2, 1) := by decide +kernel
theorem d_jdk_52_method_14_1 : decode jdk_52_method_14_code 1 = .ok (.invokestatic 107, 3) := by decide +kernel
theorem wd_87 {a0 : Array Value} {Z : State} (hw : ∀ d ∈ tables_1, d.before a0 Z = true) : (Jvm.Cond.methodLink "java/lang/StringUTF16" (107 : Nat) ({ cls := "java/lang/StringUTF16", name := "newBytesFor", desc := "(I)[B" } : Jvm.MethodName)).before a0 Z = true := hw _ (List.mem_of_getElem? (i := 87) rfl)
theorem wd_89 {a0 : Array Value} {Z : State} (hw : ∀ d ∈ tables_1, d.before a0 Z = true) : (Jvm.Cond.code ({ cls := "java/lang/StringUTF16", name := "newBytesFor", desc := "(I)[B" } : Jvm.MethodName) jdk_52_method_2_code (1 : Nat) (Option.some (Jvm.ClassFile.FieldType.array Jvm.ClassFile.FieldType.byte))).before a0 Z = true := hw _ (List.mem_of_getElem? (i := 89) rfl)
theorem wd_88 {a0 : Array Value} {Z : State} (hw : ∀ d ∈ tables_1, d.before a0 Z = true) : (Jvm.Cond.static ({ cls := "java/lang/StringUTF16", name := "newBytesFor", desc := "(I)[B" } : Jvm.MethodName)).before a0 Z = true := hw _ (List.mem_of_getElem? (i := 88) rfl)
theorem pd_9 : parseMethodDescriptor "(I)[B" = some ⟨[.int], some (.array .byte)⟩ := by decide +kernel
theorem d_jdk_52_method_14_4 : decode jdk_52_method_14_code 4 = .ok (.astore_n 3, 1) := by decide +kernel
theorem d_jdk_52_method_14_5 : decode jdk_52_method_14_code 5 = .ok (.iconst 0, 1) := by decide +kernel
theorem d_jdk_52_method_14_6 : decode jdk_52_method_14_code 6 = .ok (.istore 4, 2) := by decide +kernel
theorem d_jdk_52_method_21_3 : decode jdk_52_method_21_code 3 = .ok (.iload 5, 2) := by decide +kernel
theorem d_jdk_52_method_21_5 : decode jdk_52_method_21_code 5 = .ok (.iload 4, 2) := by decide +kernel
theorem d_jdk_52_method_21_7 : decode jdk_52_method_21_code 7 = .ok (.if_icmp .ge 37, 3) := by decide +kernel
theorem d_jdk_52_method_21_10 : decode jdk_52_method_21_code 10 = .ok (.aload_n 0, 1) := by decide +kernel
theorem d_jdk_52_method_21_11 : decode jdk_52_method_21_code 11 = .ok (.iload_n 1, 1) := by decide +kernel
theorem d_jdk_52_method_21_12 : decode jdk_52_method_21_code 12 = .ok (.caload, 1) := by decide +kernel
theorem d_jdk_52_method_21_13 : decode jdk_52_method_21_code 13 = .ok (.istore 6, 2) := by decide +kernel
theorem d_jdk_52_method_21_15 : decode jdk_52_method_21_code 15 = .ok (.iload 6, 2) := by decide +kernel
theorem d_jdk_52_method_21_17 : decode jdk_52_method_21_code 17 = .ok (.sipush 255, 3) := by decide +kernel
theorem d_jdk_52_method_21_20 : decode jdk_52_method_21_code 20 = .ok (.if_icmp .le 6, 3) := by decide +kernel
theorem d_jdk_52_method_21_26 : decode jdk_52_method_21_code 26 = .ok (.aload_n 2, 1) := by decide +kernel
theorem d_jdk_52_method_21_27 : decode jdk_52_method_21_code 27 = .ok (.iload_n 3, 1) := by decide +kernel
theorem d_jdk_52_method_21_28 : decode jdk_52_method_21_code 28 = .ok (.iload 6, 2) := by decide +kernel
theorem d_jdk_52_method_21_30 : decode jdk_52_method_21_code 30 = .ok (.i2b, 1) := by decide +kernel
theorem d_jdk_52_method_21_31 : decode jdk_52_method_21_code 31 = .ok (.bastore, 1) := by decide +kernel
theorem d_jdk_52_method_21_32 : decode jdk_52_method_21_code 32 = .ok (.iinc 1 1, 3) := by decide +kernel
theorem d_jdk_52_method_21_35 : decode jdk_52_method_21_code 35 = .ok (.iinc 3 1, 3) := by decide +kernel
theorem d_jdk_52_method_21_38 : decode jdk_52_method_21_code 38 = .ok (.iinc 5 1, 3) := by decide +kernel
theorem d_jdk_52_method_21_41 : decode jdk_52_method_21_code 41 = .ok (.goto (-38), 3) := by decide +kernel
theorem d_jdk_52_method_21_23 : decode jdk_52_method_21_code 23 = .ok (.iload 5, 2) := by decide +kernel
theorem d_jdk_52_method_21_25 : decode jdk_52_method_21_code 25 = .ok (.ireturn, 1) := by decide +kernel
theorem d_jdk_52_method_21_0 : decode jdk_52_method_21_code 0 = .ok (.iconst 0, 1) := by decide +kernel
theorem d_jdk_52_method_21_1 : decode jdk_52_method_21_code 1 = .ok (.istore 5, 2) := by decide +kernel
theorem d_jdk_52_method_16_0 : decode jdk_52_method_16_code 0 = .ok (.iload_n 2, 1) := by decide +kernel
theorem d_jdk_52_method_16_1 : decode jdk_52_method_16_code 1 = .ok (.newarray .byte, 2) := by decide +kernel
theorem d_jdk_52_method_16_3 : decode jdk_52_method_16_code 3 = .ok (.astore_n 3, 1) := by decide +kernel
theorem d_jdk_52_method_16_4 : decode jdk_52_method_16_code 4 = .ok (.aload_n 0, 1) := by decide +kernel
theorem d_jdk_52_method_16_5 : decode jdk_52_method_16_code 5 = .ok (.iload_n 1, 1) := by decide +kernel
theorem d_jdk_52_method_16_6 : decode jdk_52_method_16_code 6 = .ok (.aload_n 3, 1) := by decide +kernel
theorem d_jdk_52_method_16_7 : decode jdk_52_method_16_code 7 = .ok (.iconst 0, 1) := by decide +kernel
theorem d_jdk_52_method_16_8 : decode jdk_52_method_16_code 8 = .ok (.iload_n 2, 1) := by decide +kernel
theorem d_jdk_52_method_16_9 : decode jdk_52_method_16_code 9 = .ok (.invokestatic 115, 3) := by decide +kernel
theorem wd_30 {a0 : Array Value} {Z : State} (hw : ∀ d ∈ tables_1, d.before a0 Z = true) : (Jvm.Cond.methodLink "java/lang/StringUTF16" (115 : Nat) ({ cls := "java/lang/StringUTF16", name := "compress", desc := "([CI[BII)I" } : Jvm.MethodName)).before a0 Z = true := hw _ (List.mem_of_getElem? (i := 30) rfl)
theorem wd_32 {a0 : Array Value} {Z : State} (hw : ∀ d ∈ tables_1, d.before a0 Z = true) : (Jvm.Cond.code ({ cls := "java/lang/StringUTF16", name := "compress", desc := "([CI[BII)I" } : Jvm.MethodName) jdk_52_method_21_code (7 : Nat) (Option.some Jvm.ClassFile.FieldType.int)).before a0 Z = true := hw _ (List.mem_of_getElem? (i := 32) rfl)
theorem wd_31 {a0 : Array Value} {Z : State} (hw : ∀ d ∈ tables_1, d.before a0 Z = true) : (Jvm.Cond.static ({ cls := "java/lang/StringUTF16", name := "compress", desc := "([CI[BII)I" } : Jvm.MethodName)).before a0 Z = true := hw _ (List.mem_of_getElem? (i := 31) rfl)
theorem pd_10 : parseMethodDescriptor "([CI[BII)I" = some ⟨[(.array .char), .int, (.array .byte), .int, .int], some .int⟩ := by decide +kernel
theorem d_jdk_52_method_16_12 : decode jdk_52_method_16_code 12 = .ok (.istore 4, 2) := by decide +kernel
theorem d_jdk_52_method_16_14 : decode jdk_52_method_16_code 14 = .ok (.iload 4, 2) := by decide +kernel
theorem d_jdk_52_method_16_16 : decode jdk_52_method_16_code 16 = .ok (.iload_n 2, 1) := by decide +kernel
theorem d_jdk_52_method_16_17 : decode jdk_52_method_16_code 17 = .ok (.if_icmp .eq 40, 3) := by decide +kernel
theorem d_jdk_52_method_16_20 : decode jdk_52_method_16_code 20 = .ok (.aload_n 0, 1) := by decide +kernel
theorem d_jdk_52_method_16_21 : decode jdk_52_method_16_code 21 = .ok (.iload_n 1, 1) := by decide +kernel
theorem d_jdk_52_method_16_22 : decode jdk_52_method_16_code 22 = .ok (.iload_n 2, 1) := by decide +kernel
theorem d_jdk_52_method_16_23 : decode jdk_52_method_16_code 23 = .ok (.invokestatic 119, 3) := by decide +kernel
theorem wd_84 {a0 : Array Value} {Z : State} (hw : ∀ d ∈ tables_1, d.before a0 Z = true) : (Jvm.Cond.methodLink "java/lang/StringUTF16" (119 : Nat) ({ cls := "java/lang/StringUTF16", name := "toBytes", desc := "([CII)[B" } : Jvm.MethodName)).before a0 Z = true := hw _ (List.mem_of_getElem? (i := 84) rfl)
theorem wd_86 {a0 : Array Value} {Z : State} (hw : ∀ d ∈ tables_1, d.before a0 Z = true) : (Jvm.Cond.code ({ cls := "java/lang/StringUTF16", name := "toBytes", desc := "([CII)[B" } : Jvm.MethodName) jdk_52_method_14_code (5 : Nat) (Option.some (Jvm.ClassFile.FieldType.array Jvm.ClassFile.FieldType.byte))).before a0 Z = true := hw _ (List.mem_of_getElem? (i := 86) rfl)
theorem wd_85 {a0 : Array Value} {Z : State} (hw : ∀ d ∈ tables_1, d.before a0 Z = true) : (Jvm.Cond.static ({ cls := "java/lang/StringUTF16", name := "toBytes", desc := "([CII)[B" } : Jvm.MethodName)).before a0 Z = true := hw _ (List.mem_of_getElem? (i := 85) rfl)
theorem pd_11 : parseMethodDescriptor "([CII)[B" = some ⟨[(.array .char), .int, .int], some (.array .byte)⟩ := by decide +kernel
theorem d_jdk_52_method_16_26 : decode jdk_52_method_16_code 26 = .ok (.astore 5, 2) := by decide +kernel
theorem d_jdk_52_method_16_28 : decode jdk_52_method_16_code 28 = .ok (.aload 5, 2) := by decide +kernel
theorem d_jdk_52_method_16_30 : decode jdk_52_method_16_code 30 = .ok (.iload 4, 2) := by decide +kernel
theorem d_jdk_52_method_16_32 : decode jdk_52_method_16_code 32 = .ok (.invokestatic 71, 3) := by decide +kernel
theorem d_jdk_52_method_16_35 : decode jdk_52_method_16_code 35 = .ok (.sipush 255, 3) := by decide +kernel
theorem d_jdk_52_method_16_38 : decode jdk_52_method_16_code 38 = .ok (.if_icmp .gt 16, 3) := by decide +kernel
theorem d_jdk_52_method_16_54 : decode jdk_52_method_16_code 54 = .ok (.aload 5, 2) := by decide +kernel
theorem d_jdk_52_method_16_56 : decode jdk_52_method_16_code 56 = .ok (.areturn, 1) := by decide +kernel
theorem d_jdk_52_method_15_0 : decode jdk_52_method_15_code 0 = .ok (.iload_n 1, 1) := by decide +kernel
theorem d_jdk_52_method_15_1 : decode jdk_52_method_15_code 1 = .ok (.aload_n 0, 1) := by decide +kernel
theorem d_jdk_52_method_15_2 : decode jdk_52_method_15_code 2 = .ok (.arraylength, 1) := by decide +kernel
theorem d_jdk_52_method_15_3 : decode jdk_52_method_15_code 3 = .ok (.isub, 1) := by decide +kernel
theorem d_jdk_52_method_15_4 : decode jdk_52_method_15_code 4 = .ok (.bipush 31, 2) := by decide +kernel
theorem d_jdk_52_method_15_6 : decode jdk_52_method_15_code 6 = .ok (.iushr, 1) := by decide +kernel
theorem d_jdk_52_method_15_7 : decode jdk_52_method_15_code 7 = .ok (.i2b, 1) := by decide +kernel
theorem d_jdk_52_method_15_8 : decode jdk_52_method_15_code 8 = .ok (.ireturn, 1) := by decide +kernel
theorem d_jdk_42_method_149_0 : decode jdk_42_method_149_code 0 = .ok (.aload_n 0, 1) := by decide +kernel
theorem wd_21 {a0 : Array Value} {Z : State} (hw : ∀ d ∈ tables_1, d.before a0 Z = true) : (Jvm.Cond.methodLink "java/lang/String" (1 : Nat) ({ cls := "java/lang/Object", name := "<init>", desc := "()V" } : Jvm.MethodName)).before a0 Z = true := hw _ (List.mem_of_getElem? (i := 21) rfl)
theorem d_jdk_42_method_149_1 : decode jdk_42_method_149_code 1 = .ok (.invokespecial 1, 3) := by decide +kernel
theorem wd_22 {a0 : Array Value} {Z : State} (hw : ∀ d ∈ tables_1, d.before a0 Z = true) : (Jvm.Cond.instanceMethod ({ cls := "java/lang/Object", name := "<init>", desc := "()V" } : Jvm.MethodName)).before a0 Z = true := hw _ (List.mem_of_getElem? (i := 22) rfl)
theorem wd_23 {a0 : Array Value} {Z : State} (hw : ∀ d ∈ tables_1, d.before a0 Z = true) : (Jvm.Cond.code ({ cls := "java/lang/Object", name := "<init>", desc := "()V" } : Jvm.MethodName) object_method_1_code (1 : Nat) (Option.none : Option Jvm.ClassFile.FieldType)).before a0 Z = true := hw _ (List.mem_of_getElem? (i := 23) rfl)
theorem d_jdk_42_method_149_4 : decode jdk_42_method_149_code 4 = .ok (.iload_n 3, 1) := by decide +kernel
theorem d_jdk_42_method_149_5 : decode jdk_42_method_149_code 5 = .ok (.ifCond .ne 22, 3) := by decide +kernel
theorem d_jdk_42_method_149_27 : decode jdk_42_method_149_code 27 = .ok (.getstatic 38, 3) := by decide +kernel
theorem d_jdk_42_method_149_30 : decode jdk_42_method_149_code 30 = .ok (.ifCond .eq 28, 3) := by decide +kernel
theorem d_jdk_42_method_149_33 : decode jdk_42_method_149_code 33 = .ok (.aload_n 1, 1) := by decide +kernel
theorem d_jdk_42_method_149_34 : decode jdk_42_method_149_code 34 = .ok (.iload_n 2, 1) := by decide +kernel
theorem d_jdk_42_method_149_35 : decode jdk_42_method_149_code 35 = .ok (.iload_n 3, 1) := by decide +kernel
theorem d_jdk_42_method_149_36 : decode jdk_42_method_149_code 36 = .ok (.invokestatic 177, 3) := by decide +kernel
theorem wd_25 {a0 : Array Value} {Z : State} (hw : ∀ d ∈ tables_1, d.before a0 Z = true) : (Jvm.Cond.methodLink "java/lang/String" (177 : Nat) ({ cls := "java/lang/StringUTF16", name := "compress", desc := "([CII)[B" } : Jvm.MethodName)).before a0 Z = true := hw _ (List.mem_of_getElem? (i := 25) rfl)
theorem wd_28 {a0 : Array Value} {Z : State} (hw : ∀ d ∈ tables_1, d.before a0 Z = true) : (Jvm.Cond.code ({ cls := "java/lang/StringUTF16", name := "compress", desc := "([CII)[B" } : Jvm.MethodName) jdk_52_method_16_code (6 : Nat) (Option.some (Jvm.ClassFile.FieldType.array Jvm.ClassFile.FieldType.byte))).before a0 Z = true := hw _ (List.mem_of_getElem? (i := 28) rfl)
theorem wd_26 {a0 : Array Value} {Z : State} (hw : ∀ d ∈ tables_1, d.before a0 Z = true) : (Jvm.Cond.static ({ cls := "java/lang/StringUTF16", name := "compress", desc := "([CII)[B" } : Jvm.MethodName)).before a0 Z = true := hw _ (List.mem_of_getElem? (i := 26) rfl)
theorem d_jdk_42_method_149_39 : decode jdk_42_method_149_code 39 = .ok (.astore 5, 2) := by decide +kernel
theorem d_jdk_42_method_149_41 : decode jdk_42_method_149_code 41 = .ok (.aload_n 0, 1) := by decide +kernel
theorem d_jdk_42_method_149_42 : decode jdk_42_method_149_code 42 = .ok (.aload 5, 2) := by decide +kernel
theorem d_jdk_42_method_149_44 : decode jdk_42_method_149_code 44 = .ok (.iload_n 3, 1) := by decide +kernel
theorem d_jdk_42_method_149_45 : decode jdk_42_method_149_code 45 = .ok (.invokestatic 47, 3) := by decide +kernel
theorem wd_33 {a0 : Array Value} {Z : State} (hw : ∀ d ∈ tables_1, d.before a0 Z = true) : (Jvm.Cond.methodLink "java/lang/String" (47 : Nat) ({ cls := "java/lang/StringUTF16", name := "coderFromArrayLen", desc := "([BI)B" } : Jvm.MethodName)).before a0 Z = true := hw _ (List.mem_of_getElem? (i := 33) rfl)
theorem wd_35 {a0 : Array Value} {Z : State} (hw : ∀ d ∈ tables_1, d.before a0 Z = true) : (Jvm.Cond.code ({ cls := "java/lang/StringUTF16", name := "coderFromArrayLen", desc := "([BI)B" } : Jvm.MethodName) jdk_52_method_15_code (2 : Nat) (Option.some Jvm.ClassFile.FieldType.byte)).before a0 Z = true := hw _ (List.mem_of_getElem? (i := 35) rfl)
theorem wd_34 {a0 : Array Value} {Z : State} (hw : ∀ d ∈ tables_1, d.before a0 Z = true) : (Jvm.Cond.static ({ cls := "java/lang/StringUTF16", name := "coderFromArrayLen", desc := "([BI)B" } : Jvm.MethodName)).before a0 Z = true := hw _ (List.mem_of_getElem? (i := 34) rfl)
theorem pd_12 : parseMethodDescriptor "([BI)B" = some ⟨[(.array .byte), .int], some .byte⟩ := by decide +kernel
theorem d_jdk_42_method_149_48 : decode jdk_42_method_149_code 48 = .ok (.putfield 15, 3) := by decide +kernel
theorem wd_37 {a0 : Array Value} {Z : State} (hw : ∀ d ∈ tables_1, d.before a0 Z = true) : (Jvm.Cond.laysFinal "java/lang/String" "java/lang/String" "coder" "B").before a0 Z = true := hw _ (List.mem_of_getElem? (i := 37) rfl)
theorem wd_12 {a0 : Array Value} {Z : State} (hw : ∀ d ∈ tables_1, d.before a0 Z = true) : (Jvm.Cond.instantiable "java/lang/String" (4 : Nat)).before a0 Z = true := hw _ (List.mem_of_getElem? (i := 12) rfl)
theorem d_jdk_42_method_149_51 : decode jdk_42_method_149_code 51 = .ok (.aload_n 0, 1) := by decide +kernel
theorem d_jdk_42_method_149_52 : decode jdk_42_method_149_code 52 = .ok (.aload 5, 2) := by decide +kernel
theorem d_jdk_42_method_149_54 : decode jdk_42_method_149_code 54 = .ok (.putfield 9, 3) := by decide +kernel
theorem wd_39 {a0 : Array Value} {Z : State} (hw : ∀ d ∈ tables_1, d.before a0 Z = true) : (Jvm.Cond.laysFinal "java/lang/String" "java/lang/String" "value" "[B").before a0 Z = true := hw _ (List.mem_of_getElem? (i := 39) rfl)
theorem d_jdk_42_method_149_57 : decode jdk_42_method_149_code 57 = .ok (.return_, 1) := by decide +kernel
theorem d_jdk_42_method_3_0 : decode jdk_42_method_3_code 0 = .ok (.aload_n 0, 1) := by decide +kernel
theorem d_jdk_42_method_3_1 : decode jdk_42_method_3_code 1 = .ok (.aload_n 1, 1) := by decide +kernel
theorem d_jdk_42_method_3_2 : decode jdk_42_method_3_code 2 = .ok (.iconst 0, 1) := by decide +kernel
theorem d_jdk_42_method_3_3 : decode jdk_42_method_3_code 3 = .ok (.aload_n 1, 1) := by decide +kernel
theorem d_jdk_42_method_3_4 : decode jdk_42_method_3_code 4 = .ok (.arraylength, 1) := by decide +kernel
theorem d_jdk_42_method_3_5 : decode jdk_42_method_3_code 5 = .ok (.aconst_null, 1) := by decide +kernel
theorem wd_17 {a0 : Array Value} {Z : State} (hw : ∀ d ∈ tables_1, d.before a0 Z = true) : (Jvm.Cond.methodLink "java/lang/String" (27 : Nat) ({ cls := "java/lang/String", name := "<init>", desc := "([CIILjava/lang/Void;)V" } : Jvm.MethodName)).before a0 Z = true := hw _ (List.mem_of_getElem? (i := 17) rfl)
theorem d_jdk_42_method_3_6 : decode jdk_42_method_3_code 6 = .ok (.invokespecial 27, 3) := by decide +kernel
theorem wd_20 {a0 : Array Value} {Z : State} (hw : ∀ d ∈ tables_1, d.before a0 Z = true) : (Jvm.Cond.code ({ cls := "java/lang/String", name := "<init>", desc := "([CIILjava/lang/Void;)V" } : Jvm.MethodName) jdk_42_method_149_code (6 : Nat) (Option.none : Option Jvm.ClassFile.FieldType)).before a0 Z = true := hw _ (List.mem_of_getElem? (i := 20) rfl)
theorem wd_18 {a0 : Array Value} {Z : State} (hw : ∀ d ∈ tables_1, d.before a0 Z = true) : (Jvm.Cond.instanceMethod ({ cls := "java/lang/String", name := "<init>", desc := "([CIILjava/lang/Void;)V" } : Jvm.MethodName)).before a0 Z = true := hw _ (List.mem_of_getElem? (i := 18) rfl)
theorem pd_13 : parseMethodDescriptor "([CIILjava/lang/Void;)V" = some ⟨[(.array .char), .int, .int, (.object "java/lang/Void")], none⟩ := by decide +kernel
theorem d_jdk_42_method_3_9 : decode jdk_42_method_3_code 9 = .ok (.return_, 1) := by decide +kernel
theorem d_method_3_0 : decode method_3_code 0 = .ok (.iload_n 0, 1) := by decide +kernel
theorem d_method_3_1 : decode method_3_code 1 = .ok (.istore_n 1, 1) := by decide +kernel
theorem d_method_3_2 : decode method_3_code 2 = .ok (.iload_n 1, 1) := by decide +kernel
theorem d_method_3_3 : decode method_3_code 3 = .ok (.bipush 97, 2) := by decide +kernel
theorem d_method_3_5 : decode method_3_code 5 = .ok (.if_icmp .lt 11, 3) := by decide +kernel
theorem d_method_3_16 : decode method_3_code 16 = .ok (.iload_n 1, 1) := by decide +kernel
theorem d_method_3_17 : decode method_3_code 17 = .ok (.bipush 65, 2) := by decide +kernel
theorem d_method_3_19 : decode method_3_code 19 = .ok (.if_icmp .lt 11, 3) := by decide +kernel
theorem d_method_3_30 : decode method_3_code 30 = .ok (.iload_n 1, 1) := by decide +kernel
theorem d_method_3_31 : decode method_3_code 31 = .ok (.bipush 48, 2) := by decide +kernel
theorem d_method_3_33 : decode method_3_code 33 = .ok (.if_icmp .lt 11, 3) := by decide +kernel
theorem d_method_3_44 : decode method_3_code 44 = .ok (.iload_n 1, 1) := by decide +kernel
theorem d_method_3_45 : decode method_3_code 45 = .ok (.bipush 45, 2) := by decide +kernel
theorem d_method_3_47 : decode method_3_code 47 = .ok (.if_icmp .eq 15, 3) := by decide +kernel
theorem d_method_3_62 : decode method_3_code 62 = .ok (.iconst 1, 1) := by decide +kernel
theorem d_method_3_63 : decode method_3_code 63 = .ok (.goto 4, 3) := by decide +kernel
theorem d_method_3_67 : decode method_3_code 67 = .ok (.ireturn, 1) := by decide +kernel
theorem d_method_3_50 : decode method_3_code 50 = .ok (.iload_n 1, 1) := by decide +kernel
theorem d_method_3_51 : decode method_3_code 51 = .ok (.bipush 95, 2) := by decide +kernel
theorem d_method_3_53 : decode method_3_code 53 = .ok (.if_icmp .eq 9, 3) := by decide +kernel
theorem d_method_3_56 : decode method_3_code 56 = .ok (.iload_n 1, 1) := by decide +kernel
theorem d_method_3_57 : decode method_3_code 57 = .ok (.bipush 46, 2) := by decide +kernel
theorem d_method_3_59 : decode method_3_code 59 = .ok (.if_icmp .ne 7, 3) := by decide +kernel
theorem d_method_3_66 : decode method_3_code 66 = .ok (.iconst 0, 1) := by decide +kernel
theorem d_method_3_36 : decode method_3_code 36 = .ok (.iload_n 1, 1) := by decide +kernel
theorem d_method_3_37 : decode method_3_code 37 = .ok (.bipush 57, 2) := by decide +kernel
theorem d_method_3_39 : decode method_3_code 39 = .ok (.if_icmp .gt 5, 3) := by decide +kernel
theorem d_method_3_42 : decode method_3_code 42 = .ok (.iconst 1, 1) := by decide +kernel
theorem d_method_3_43 : decode method_3_code 43 = .ok (.ireturn, 1) := by decide +kernel
theorem d_method_3_22 : decode method_3_code 22 = .ok (.iload_n 1, 1) := by decide +kernel
theorem d_method_3_23 : decode method_3_code 23 = .ok (.bipush 90, 2) := by decide +kernel
theorem d_method_3_25 : decode method_3_code 25 = .ok (.if_icmp .gt 5, 3) := by decide +kernel
theorem d_method_3_28 : decode method_3_code 28 = .ok (.iconst 1, 1) := by decide +kernel
theorem d_method_3_29 : decode method_3_code 29 = .ok (.ireturn, 1) := by decide +kernel
theorem d_method_3_8 : decode method_3_code 8 = .ok (.iload_n 1, 1) := by decide +kernel
theorem d_method_3_9 : decode method_3_code 9 = .ok (.bipush 122, 2) := by decide +kernel
theorem d_method_3_11 : decode method_3_code 11 = .ok (.if_icmp .gt 5, 3) := by decide +kernel
theorem d_method_3_14 : decode method_3_code 14 = .ok (.iconst 1, 1) := by decide +kernel
theorem d_method_3_15 : decode method_3_code 15 = .ok (.ireturn, 1) := by decide +kernel
theorem pn_4 : plainName "com/example/traceloom/traceloom/TraceIdsIsAcceptedPinLaw" = true := by first | (simp [plainName, overriddenIn]; done) | decide +kernel
theorem d_prog_18_method_3_0 : decode prog_18_method_3_code 0 = .ok (.iload_n 0, 1) := by decide +kernel
theorem d_prog_18_method_3_1 : decode prog_18_method_3_code 1 = .ok (.bipush 97, 2) := by decide +kernel
theorem d_prog_18_method_3_3 : decode prog_18_method_3_code 3 = .ok (.if_icmp .lt 9, 3) := by decide +kernel
theorem d_prog_18_method_3_12 : decode prog_18_method_3_code 12 = .ok (.iload_n 0, 1) := by decide +kernel
theorem d_prog_18_method_3_13 : decode prog_18_method_3_code 13 = .ok (.bipush 65, 2) := by decide +kernel
theorem d_prog_18_method_3_15 : decode prog_18_method_3_code 15 = .ok (.if_icmp .lt 9, 3) := by decide +kernel
theorem d_prog_18_method_3_24 : decode prog_18_method_3_code 24 = .ok (.iload_n 0, 1) := by decide +kernel
theorem d_prog_18_method_3_25 : decode prog_18_method_3_code 25 = .ok (.bipush 48, 2) := by decide +kernel
theorem d_prog_18_method_3_27 : decode prog_18_method_3_code 27 = .ok (.if_icmp .lt 9, 3) := by decide +kernel
theorem d_prog_18_method_3_36 : decode prog_18_method_3_code 36 = .ok (.iload_n 0, 1) := by decide +kernel
theorem d_prog_18_method_3_37 : decode prog_18_method_3_code 37 = .ok (.bipush 45, 2) := by decide +kernel
theorem d_prog_18_method_3_39 : decode prog_18_method_3_code 39 = .ok (.if_icmp .eq 15, 3) := by decide +kernel
theorem d_prog_18_method_3_54 : decode prog_18_method_3_code 54 = .ok (.iconst 1, 1) := by decide +kernel
theorem d_prog_18_method_3_55 : decode prog_18_method_3_code 55 = .ok (.goto 4, 3) := by decide +kernel
theorem d_prog_18_method_3_59 : decode prog_18_method_3_code 59 = .ok (.ireturn, 1) := by decide +kernel
theorem d_prog_18_method_3_42 : decode prog_18_method_3_code 42 = .ok (.iload_n 0, 1) := by decide +kernel
theorem d_prog_18_method_3_43 : decode prog_18_method_3_code 43 = .ok (.bipush 95, 2) := by decide +kernel
theorem d_prog_18_method_3_45 : decode prog_18_method_3_code 45 = .ok (.if_icmp .eq 9, 3) := by decide +kernel
theorem d_prog_18_method_3_48 : decode prog_18_method_3_code 48 = .ok (.iload_n 0, 1) := by decide +kernel
theorem d_prog_18_method_3_49 : decode prog_18_method_3_code 49 = .ok (.bipush 46, 2) := by decide +kernel
theorem d_prog_18_method_3_51 : decode prog_18_method_3_code 51 = .ok (.if_icmp .ne 7, 3) := by decide +kernel
theorem d_prog_18_method_3_58 : decode prog_18_method_3_code 58 = .ok (.iconst 0, 1) := by decide +kernel
theorem d_prog_18_method_3_30 : decode prog_18_method_3_code 30 = .ok (.iload_n 0, 1) := by decide +kernel
theorem d_prog_18_method_3_31 : decode prog_18_method_3_code 31 = .ok (.bipush 57, 2) := by decide +kernel
theorem d_prog_18_method_3_33 : decode prog_18_method_3_code 33 = .ok (.if_icmp .le 21, 3) := by decide +kernel
theorem d_prog_18_method_3_18 : decode prog_18_method_3_code 18 = .ok (.iload_n 0, 1) := by decide +kernel
theorem d_prog_18_method_3_19 : decode prog_18_method_3_code 19 = .ok (.bipush 90, 2) := by decide +kernel
theorem d_prog_18_method_3_21 : decode prog_18_method_3_code 21 = .ok (.if_icmp .le 33, 3) := by decide +kernel
theorem d_prog_18_method_3_6 : decode prog_18_method_3_code 6 = .ok (.iload_n 0, 1) := by decide +kernel
theorem d_prog_18_method_3_7 : decode prog_18_method_3_code 7 = .ok (.bipush 122, 2) := by decide +kernel
theorem d_prog_18_method_3_9 : decode prog_18_method_3_code 9 = .ok (.if_icmp .le 45, 3) := by decide +kernel
theorem pn_5 : plainName "com/example/traceloom/traceloom/TraceIds" = true := by first | (simp [plainName, overriddenIn]; done) | decide +kernel
theorem d_method_2_0 : decode method_2_code 0 = .ok (.iload_n 0, 1) := by decide +kernel
theorem d_method_2_1 : decode method_2_code 1 = .ok (.ldc 7, 2) := by decide +kernel
theorem wd_4 {a0 : Array Value} {Z : State} (hw : ∀ d ∈ tables_1, d.before a0 Z = true) : (Jvm.Cond.constant "com/example/traceloom/traceloom/TraceIdsIsAcceptedPinLaw" (7 : Nat) (65536 : Int32)).before a0 Z = true := hw _ (List.mem_of_getElem? (i := 4) rfl)
theorem d_method_2_3 : decode method_2_code 3 = .ok (.iand, 1) := by decide +kernel
theorem d_method_2_4 : decode method_2_code 4 = .ok (.ifCond .eq 9, 3) := by decide +kernel
theorem d_method_2_13 : decode method_2_code 13 = .ok (.iload_n 0, 1) := by decide +kernel
theorem d_method_2_14 : decode method_2_code 14 = .ok (.bipush 127, 2) := by decide +kernel
theorem d_method_2_16 : decode method_2_code 16 = .ok (.iand, 1) := by decide +kernel
theorem d_method_2_17 : decode method_2_code 17 = .ok (.i2c, 1) := by decide +kernel
theorem d_method_2_18 : decode method_2_code 18 = .ok (.ireturn, 1) := by decide +kernel
theorem d_method_2_7 : decode method_2_code 7 = .ok (.iload_n 0, 1) := by decide +kernel
theorem d_method_2_8 : decode method_2_code 8 = .ok (.ldc 8, 2) := by decide +kernel
theorem wd_83 {a0 : Array Value} {Z : State} (hw : ∀ d ∈ tables_1, d.before a0 Z = true) : (Jvm.Cond.constant "com/example/traceloom/traceloom/TraceIdsIsAcceptedPinLaw" (8 : Nat) (65535 : Int32)).before a0 Z = true := hw _ (List.mem_of_getElem? (i := 83) rfl)
theorem d_method_2_10 : decode method_2_code 10 = .ok (.iand, 1) := by decide +kernel
theorem d_method_2_11 : decode method_2_code 11 = .ok (.i2c, 1) := by decide +kernel
theorem d_method_2_12 : decode method_2_code 12 = .ok (.ireturn, 1) := by decide +kernel
theorem d_jdk_43_method_3_0 : decode jdk_43_method_3_code 0 = .ok (.iload_n 0, 1) := by decide +kernel
theorem d_jdk_43_method_3_1 : decode jdk_43_method_3_code 1 = .ok (.sipush 255, 3) := by decide +kernel
theorem d_jdk_43_method_3_4 : decode jdk_43_method_3_code 4 = .ok (.if_icmp .gt 7, 3) := by decide +kernel
theorem d_jdk_43_method_3_11 : decode jdk_43_method_3_code 11 = .ok (.iconst 0, 1) := by decide +kernel
theorem d_jdk_43_method_3_12 : decode jdk_43_method_3_code 12 = .ok (.ireturn, 1) := by decide +kernel
theorem d_jdk_43_method_3_7 : decode jdk_43_method_3_code 7 = .ok (.iconst 1, 1) := by decide +kernel
theorem d_jdk_43_method_3_8 : decode jdk_43_method_3_code 8 = .ok (.goto 4, 3) := by decide +kernel
theorem d_jdk_43_method_46_0 : decode jdk_43_method_46_code 0 = .ok (.iconst 1, 1) := by decide +kernel
theorem d_jdk_43_method_46_1 : decode jdk_43_method_46_code 1 = .ok (.newarray .byte, 2) := by decide +kernel
theorem d_jdk_43_method_46_3 : decode jdk_43_method_46_code 3 = .ok (.dup, 1) := by decide +kernel
theorem d_jdk_43_method_46_4 : decode jdk_43_method_46_code 4 = .ok (.iconst 0, 1) := by decide +kernel
theorem d_jdk_43_method_46_5 : decode jdk_43_method_46_code 5 = .ok (.iload_n 0, 1) := by decide +kernel
theorem d_jdk_43_method_46_6 : decode jdk_43_method_46_code 6 = .ok (.i2b, 1) := by decide +kernel
theorem d_jdk_43_method_46_7 : decode jdk_43_method_46_code 7 = .ok (.bastore, 1) := by decide +kernel
theorem d_jdk_43_method_46_8 : decode jdk_43_method_46_code 8 = .ok (.areturn, 1) := by decide +kernel
theorem d_jdk_52_method_24_0 : decode jdk_52_method_24_code 0 = .ok (.iconst 2, 1) := by decide +kernel
theorem d_jdk_52_method_24_1 : decode jdk_52_method_24_code 1 = .ok (.newarray .byte, 2) := by decide +kernel
theorem d_jdk_52_method_24_3 : decode jdk_52_method_24_code 3 = .ok (.astore_n 1, 1) := by decide +kernel
theorem d_jdk_52_method_24_4 : decode jdk_52_method_24_code 4 = .ok (.aload_n 1, 1) := by decide +kernel
theorem d_jdk_52_method_24_5 : decode jdk_52_method_24_code 5 = .ok (.iconst 0, 1) := by decide +kernel
theorem d_jdk_52_method_24_6 : decode jdk_52_method_24_code 6 = .ok (.iload_n 0, 1) := by decide +kernel
theorem d_jdk_52_method_24_7 : decode jdk_52_method_24_code 7 = .ok (.invokestatic 111, 3) := by decide +kernel
theorem d_jdk_52_method_24_10 : decode jdk_52_method_24_code 10 = .ok (.aload_n 1, 1) := by decide +kernel
theorem d_jdk_52_method_24_11 : decode jdk_52_method_24_code 11 = .ok (.areturn, 1) := by decide +kernel
theorem d_jdk_42_method_151_0 : decode jdk_42_method_151_code 0 = .ok (.aload_n 0, 1) := by decide +kernel
theorem d_jdk_42_method_151_1 : decode jdk_42_method_151_code 1 = .ok (.invokespecial 1, 3) := by decide +kernel
theorem d_jdk_42_method_151_4 : decode jdk_42_method_151_code 4 = .ok (.aload_n 0, 1) := by decide +kernel
theorem d_jdk_42_method_151_5 : decode jdk_42_method_151_code 5 = .ok (.aload_n 1, 1) := by decide +kernel
theorem d_jdk_42_method_151_6 : decode jdk_42_method_151_code 6 = .ok (.putfield 9, 3) := by decide +kernel
theorem d_jdk_42_method_151_9 : decode jdk_42_method_151_code 9 = .ok (.aload_n 0, 1) := by decide +kernel
theorem d_jdk_42_method_151_10 : decode jdk_42_method_151_code 10 = .ok (.iload_n 2, 1) := by decide +kernel
theorem d_jdk_42_method_151_11 : decode jdk_42_method_151_code 11 = .ok (.putfield 15, 3) := by decide +kernel
theorem d_jdk_42_method_151_14 : decode jdk_42_method_151_code 14 = .ok (.return_, 1) := by decide +kernel
theorem d_jdk_42_method_139_0 : decode jdk_42_method_139_code 0 = .ok (.getstatic 38, 3) := by decide +kernel
theorem d_jdk_42_method_139_3 : decode jdk_42_method_139_code 3 = .ok (.ifCond .eq 23, 3) := by decide +kernel
theorem d_jdk_42_method_139_6 : decode jdk_42_method_139_code 6 = .ok (.iload_n 0, 1) := by decide +kernel
theorem d_jdk_42_method_139_7 : decode jdk_42_method_139_code 7 = .ok (.invokestatic 1015, 3) := by decide +kernel
theorem wd_119 {a0 : Array Value} {Z : State} (hw : ∀ d ∈ tables_1, d.before a0 Z = true) : (Jvm.Cond.methodLink "java/lang/String" (1015 : Nat) ({ cls := "java/lang/StringLatin1", name := "canEncode", desc := "(C)Z" } : Jvm.MethodName)).before a0 Z = true := hw _ (List.mem_of_getElem? (i := 119) rfl)
theorem wd_121 {a0 : Array Value} {Z : State} (hw : ∀ d ∈ tables_1, d.before a0 Z = true) : (Jvm.Cond.code ({ cls := "java/lang/StringLatin1", name := "canEncode", desc := "(C)Z" } : Jvm.MethodName) jdk_43_method_3_code (1 : Nat) (Option.some Jvm.ClassFile.FieldType.boolean)).before a0 Z = true := hw _ (List.mem_of_getElem? (i := 121) rfl)
theorem wd_120 {a0 : Array Value} {Z : State} (hw : ∀ d ∈ tables_1, d.before a0 Z = true) : (Jvm.Cond.static ({ cls := "java/lang/StringLatin1", name := "canEncode", desc := "(C)Z" } : Jvm.MethodName)).before a0 Z = true := hw _ (List.mem_of_getElem? (i := 120) rfl)
theorem pd_14 : parseMethodDescriptor "(C)Z" = some ⟨[.char], some .boolean⟩ := by decide +kernel
theorem d_jdk_42_method_139_10 : decode jdk_42_method_139_code 10 = .ok (.ifCond .eq 16, 3) := by decide +kernel
theorem d_jdk_42_method_139_26 : decode jdk_42_method_139_code 26 = .ok (.new 10, 3) := by decide +kernel
theorem wd_122 {a0 : Array Value} {Z : State} (hw : ∀ d ∈ tables_1, d.before a0 Z = true) : (Jvm.Cond.classLink "java/lang/String" (10 : Nat) "java/lang/String").before a0 Z = true := hw _ (List.mem_of_getElem? (i := 122) rfl)
theorem d_jdk_42_method_139_29 : decode jdk_42_method_139_code 29 = .ok (.dup, 1) := by decide +kernel
theorem d_jdk_42_method_139_30 : decode jdk_42_method_139_code 30 = .ok (.iload_n 0, 1) := by decide +kernel
theorem d_jdk_42_method_139_31 : decode jdk_42_method_139_code 31 = .ok (.invokestatic 1021, 3) := by decide +kernel
theorem wd_123 {a0 : Array Value} {Z : State} (hw : ∀ d ∈ tables_1, d.before a0 Z = true) : (Jvm.Cond.methodLink "java/lang/String" (1021 : Nat) ({ cls := "java/lang/StringUTF16", name := "toBytes", desc := "(C)[B" } : Jvm.MethodName)).before a0 Z = true := hw _ (List.mem_of_getElem? (i := 123) rfl)
theorem wd_125 {a0 : Array Value} {Z : State} (hw : ∀ d ∈ tables_1, d.before a0 Z = true) : (Jvm.Cond.code ({ cls := "java/lang/StringUTF16", name := "toBytes", desc := "(C)[B" } : Jvm.MethodName) jdk_52_method_24_code (2 : Nat) (Option.some (Jvm.ClassFile.FieldType.array Jvm.ClassFile.FieldType.byte))).before a0 Z = true := hw _ (List.mem_of_getElem? (i := 125) rfl)
theorem wd_124 {a0 : Array Value} {Z : State} (hw : ∀ d ∈ tables_1, d.before a0 Z = true) : (Jvm.Cond.static ({ cls := "java/lang/StringUTF16", name := "toBytes", desc := "(C)[B" } : Jvm.MethodName)).before a0 Z = true := hw _ (List.mem_of_getElem? (i := 124) rfl)
theorem pd_15 : parseMethodDescriptor "(C)[B" = some ⟨[.char], some (.array .byte)⟩ := by decide +kernel
theorem d_jdk_42_method_139_34 : decode jdk_42_method_139_code 34 = .ok (.iconst 1, 1) := by decide +kernel
theorem wd_126 {a0 : Array Value} {Z : State} (hw : ∀ d ∈ tables_1, d.before a0 Z = true) : (Jvm.Cond.methodLink "java/lang/String" (209 : Nat) ({ cls := "java/lang/String", name := "<init>", desc := "([BB)V" } : Jvm.MethodName)).before a0 Z = true := hw _ (List.mem_of_getElem? (i := 126) rfl)
theorem d_jdk_42_method_139_35 : decode jdk_42_method_139_code 35 = .ok (.invokespecial 209, 3) := by decide +kernel
theorem wd_128 {a0 : Array Value} {Z : State} (hw : ∀ d ∈ tables_1, d.before a0 Z = true) : (Jvm.Cond.code ({ cls := "java/lang/String", name := "<init>", desc := "([BB)V" } : Jvm.MethodName) jdk_42_method_151_code (3 : Nat) (Option.none : Option Jvm.ClassFile.FieldType)).before a0 Z = true := hw _ (List.mem_of_getElem? (i := 128) rfl)
theorem wd_127 {a0 : Array Value} {Z : State} (hw : ∀ d ∈ tables_1, d.before a0 Z = true) : (Jvm.Cond.instanceMethod ({ cls := "java/lang/String", name := "<init>", desc := "([BB)V" } : Jvm.MethodName)).before a0 Z = true := hw _ (List.mem_of_getElem? (i := 127) rfl)
theorem pd_16 : parseMethodDescriptor "([BB)V" = some ⟨[(.array .byte), .byte], none⟩ := by decide +kernel
theorem d_jdk_42_method_139_38 : decode jdk_42_method_139_code 38 = .ok (.areturn, 1) := by decide +kernel
theorem d_jdk_42_method_139_13 : decode jdk_42_method_139_code 13 = .ok (.new 10, 3) := by decide +kernel
theorem d_jdk_42_method_139_16 : decode jdk_42_method_139_code 16 = .ok (.dup, 1) := by decide +kernel
theorem d_jdk_42_method_139_17 : decode jdk_42_method_139_code 17 = .ok (.iload_n 0, 1) := by decide +kernel
theorem d_jdk_42_method_139_18 : decode jdk_42_method_139_code 18 = .ok (.invokestatic 1018, 3) := by decide +kernel
theorem wd_129 {a0 : Array Value} {Z : State} (hw : ∀ d ∈ tables_1, d.before a0 Z = true) : (Jvm.Cond.methodLink "java/lang/String" (1018 : Nat) ({ cls := "java/lang/StringLatin1", name := "toBytes", desc := "(C)[B" } : Jvm.MethodName)).before a0 Z = true := hw _ (List.mem_of_getElem? (i := 129) rfl)
theorem wd_131 {a0 : Array Value} {Z : State} (hw : ∀ d ∈ tables_1, d.before a0 Z = true) : (Jvm.Cond.code ({ cls := "java/lang/StringLatin1", name := "toBytes", desc := "(C)[B" } : Jvm.MethodName) jdk_43_method_46_code (1 : Nat) (Option.some (Jvm.ClassFile.FieldType.array Jvm.ClassFile.FieldType.byte))).before a0 Z = true := hw _ (List.mem_of_getElem? (i := 131) rfl)
theorem wd_130 {a0 : Array Value} {Z : State} (hw : ∀ d ∈ tables_1, d.before a0 Z = true) : (Jvm.Cond.static ({ cls := "java/lang/StringLatin1", name := "toBytes", desc := "(C)[B" } : Jvm.MethodName)).before a0 Z = true := hw _ (List.mem_of_getElem? (i := 130) rfl)
theorem d_jdk_42_method_139_21 : decode jdk_42_method_139_code 21 = .ok (.iconst 0, 1) := by decide +kernel
theorem d_jdk_42_method_139_22 : decode jdk_42_method_139_code 22 = .ok (.invokespecial 209, 3) := by decide +kernel
theorem d_jdk_42_method_139_25 : decode jdk_42_method_139_code 25 = .ok (.areturn, 1) := by decide +kernel
theorem d_prog_18_method_2_24 : decode prog_18_method_2_code 24 = .ok (.iload_n 1, 1) := by decide +kernel
theorem d_prog_18_method_2_25 : decode prog_18_method_2_code 25 = .ok (.aload_n 0, 1) := by decide +kernel
theorem d_prog_18_method_2_26 : decode prog_18_method_2_code 26 = .ok (.invokevirtual 13, 3) := by decide +kernel
theorem wd_45 {a0 : Array Value} {Z : State} (hw : ∀ d ∈ tables_1, d.before a0 Z = true) : (Jvm.Cond.methodLink "com/example/traceloom/traceloom/TraceIds" (13 : Nat) ({ cls := "java/lang/String", name := "length", desc := "()I" } : Jvm.MethodName)).before a0 Z = true := hw _ (List.mem_of_getElem? (i := 45) rfl)
theorem wd_49 {a0 : Array Value} {Z : State} (hw : ∀ d ∈ tables_1, d.before a0 Z = true) : (Jvm.Cond.code ({ cls := "java/lang/String", name := "length", desc := "()I" } : Jvm.MethodName) jdk_42_method_54_code (1 : Nat) (Option.some Jvm.ClassFile.FieldType.int)).before a0 Z = true := hw _ (List.mem_of_getElem? (i := 49) rfl)
theorem wd_46 {a0 : Array Value} {Z : State} (hw : ∀ d ∈ tables_1, d.before a0 Z = true) : (Jvm.Cond.declares ({ cls := "java/lang/String", name := "length", desc := "()I" } : Jvm.MethodName)).before a0 Z = true := hw _ (List.mem_of_getElem? (i := 46) rfl)
theorem wd_48 {a0 : Array Value} {Z : State} (hw : ∀ d ∈ tables_1, d.before a0 Z = true) : (Jvm.Cond.selects "java/lang/String" ({ cls := "java/lang/String", name := "length", desc := "()I" } : Jvm.MethodName) ({ cls := "java/lang/String", name := "length", desc := "()I" } : Jvm.MethodName)).before a0 Z = true := hw _ (List.mem_of_getElem? (i := 48) rfl)
theorem wd_47 {a0 : Array Value} {Z : State} (hw : ∀ d ∈ tables_1, d.before a0 Z = true) : (Jvm.Cond.instanceMethod ({ cls := "java/lang/String", name := "length", desc := "()I" } : Jvm.MethodName)).before a0 Z = true := hw _ (List.mem_of_getElem? (i := 47) rfl)
theorem pd_17 : parseMethodDescriptor "()I" = some ⟨[], some .int⟩ := by decide +kernel
theorem d_prog_18_method_2_29 : decode prog_18_method_2_code 29 = .ok (.if_icmp .ge 22, 3) := by decide +kernel
theorem d_prog_18_method_2_51 : decode prog_18_method_2_code 51 = .ok (.iconst 1, 1) := by decide +kernel
theorem d_prog_18_method_2_52 : decode prog_18_method_2_code 52 = .ok (.ireturn, 1) := by decide +kernel
theorem d_prog_18_method_2_32 : decode prog_18_method_2_code 32 = .ok (.aload_n 0, 1) := by decide +kernel
theorem d_prog_18_method_2_33 : decode prog_18_method_2_code 33 = .ok (.iload_n 1, 1) := by decide +kernel
theorem d_prog_18_method_2_34 : decode prog_18_method_2_code 34 = .ok (.invokevirtual 19, 3) := by decide +kernel
theorem wd_55 {a0 : Array Value} {Z : State} (hw : ∀ d ∈ tables_1, d.before a0 Z = true) : (Jvm.Cond.methodLink "com/example/traceloom/traceloom/TraceIds" (19 : Nat) ({ cls := "java/lang/String", name := "charAt", desc := "(I)C" } : Jvm.MethodName)).before a0 Z = true := hw _ (List.mem_of_getElem? (i := 55) rfl)
theorem wd_59 {a0 : Array Value} {Z : State} (hw : ∀ d ∈ tables_1, d.before a0 Z = true) : (Jvm.Cond.code ({ cls := "java/lang/String", name := "charAt", desc := "(I)C" } : Jvm.MethodName) jdk_42_method_56_code (2 : Nat) (Option.some Jvm.ClassFile.FieldType.char)).before a0 Z = true := hw _ (List.mem_of_getElem? (i := 59) rfl)
theorem wd_56 {a0 : Array Value} {Z : State} (hw : ∀ d ∈ tables_1, d.before a0 Z = true) : (Jvm.Cond.declares ({ cls := "java/lang/String", name := "charAt", desc := "(I)C" } : Jvm.MethodName)).before a0 Z = true := hw _ (List.mem_of_getElem? (i := 56) rfl)
theorem wd_58 {a0 : Array Value} {Z : State} (hw : ∀ d ∈ tables_1, d.before a0 Z = true) : (Jvm.Cond.selects "java/lang/String" ({ cls := "java/lang/String", name := "charAt", desc := "(I)C" } : Jvm.MethodName) ({ cls := "java/lang/String", name := "charAt", desc := "(I)C" } : Jvm.MethodName)).before a0 Z = true := hw _ (List.mem_of_getElem? (i := 58) rfl)
theorem wd_57 {a0 : Array Value} {Z : State} (hw : ∀ d ∈ tables_1, d.before a0 Z = true) : (Jvm.Cond.instanceMethod ({ cls := "java/lang/String", name := "charAt", desc := "(I)C" } : Jvm.MethodName)).before a0 Z = true := hw _ (List.mem_of_getElem? (i := 57) rfl)
theorem pd_18 : parseMethodDescriptor "(I)C" = some ⟨[.int], some .char⟩ := by decide +kernel
theorem d_prog_18_method_2_37 : decode prog_18_method_2_code 37 = .ok (.invokestatic 23, 3) := by decide +kernel
theorem wd_77 {a0 : Array Value} {Z : State} (hw : ∀ d ∈ tables_1, d.before a0 Z = true) : (Jvm.Cond.methodLink "com/example/traceloom/traceloom/TraceIds" (23 : Nat) ({ cls := "com/example/traceloom/traceloom/TraceIds", name := "isAcceptedCharacter", desc := "(C)Z" } : Jvm.MethodName)).before a0 Z = true := hw _ (List.mem_of_getElem? (i := 77) rfl)
theorem wd_79 {a0 : Array Value} {Z : State} (hw : ∀ d ∈ tables_1, d.before a0 Z = true) : (Jvm.Cond.code ({ cls := "com/example/traceloom/traceloom/TraceIds", name := "isAcceptedCharacter", desc := "(C)Z" } : Jvm.MethodName) prog_18_method_3_code (1 : Nat) (Option.some Jvm.ClassFile.FieldType.boolean)).before a0 Z = true := hw _ (List.mem_of_getElem? (i := 79) rfl)
theorem wd_8 {a0 : Array Value} {Z : State} (hw : ∀ d ∈ tables_1, d.before a0 Z = true) : (Jvm.Cond.initialized "com/example/traceloom/traceloom/TraceIds").before a0 Z = true := hw _ (List.mem_of_getElem? (i := 8) rfl)
theorem wd_78 {a0 : Array Value} {Z : State} (hw : ∀ d ∈ tables_1, d.before a0 Z = true) : (Jvm.Cond.static ({ cls := "com/example/traceloom/traceloom/TraceIds", name := "isAcceptedCharacter", desc := "(C)Z" } : Jvm.MethodName)).before a0 Z = true := hw _ (List.mem_of_getElem? (i := 78) rfl)
theorem d_prog_18_method_2_40 : decode prog_18_method_2_code 40 = .ok (.ifCond .ne 5, 3) := by decide +kernel
theorem d_prog_18_method_2_45 : decode prog_18_method_2_code 45 = .ok (.iinc 1 1, 3) := by decide +kernel
theorem d_prog_18_method_2_48 : decode prog_18_method_2_code 48 = .ok (.goto (-24), 3) := by decide +kernel
theorem d_prog_18_method_2_43 : decode prog_18_method_2_code 43 = .ok (.iconst 0, 1) := by decide +kernel
theorem d_prog_18_method_2_44 : decode prog_18_method_2_code 44 = .ok (.ireturn, 1) := by decide +kernel
theorem d_prog_18_method_2_0 : decode prog_18_method_2_code 0 = .ok (.aload_n 0, 1) := by decide +kernel
theorem d_prog_18_method_2_1 : decode prog_18_method_2_code 1 = .ok (.ifnull 19, 3) := by decide +kernel
theorem d_prog_18_method_2_4 : decode prog_18_method_2_code 4 = .ok (.aload_n 0, 1) := by decide +kernel
theorem d_prog_18_method_2_5 : decode prog_18_method_2_code 5 = .ok (.invokevirtual 7, 3) := by decide +kernel
theorem wd_40 {a0 : Array Value} {Z : State} (hw : ∀ d ∈ tables_1, d.before a0 Z = true) : (Jvm.Cond.methodLink "com/example/traceloom/traceloom/TraceIds" (7 : Nat) ({ cls := "java/lang/String", name := "isEmpty", desc := "()Z" } : Jvm.MethodName)).before a0 Z = true := hw _ (List.mem_of_getElem? (i := 40) rfl)
theorem wd_44 {a0 : Array Value} {Z : State} (hw : ∀ d ∈ tables_1, d.before a0 Z = true) : (Jvm.Cond.code ({ cls := "java/lang/String", name := "isEmpty", desc := "()Z" } : Jvm.MethodName) jdk_42_method_55_code (1 : Nat) (Option.some Jvm.ClassFile.FieldType.boolean)).before a0 Z = true := hw _ (List.mem_of_getElem? (i := 44) rfl)
theorem wd_41 {a0 : Array Value} {Z : State} (hw : ∀ d ∈ tables_1, d.before a0 Z = true) : (Jvm.Cond.declares ({ cls := "java/lang/String", name := "isEmpty", desc := "()Z" } : Jvm.MethodName)).before a0 Z = true := hw _ (List.mem_of_getElem? (i := 41) rfl)
theorem wd_43 {a0 : Array Value} {Z : State} (hw : ∀ d ∈ tables_1, d.before a0 Z = true) : (Jvm.Cond.selects "java/lang/String" ({ cls := "java/lang/String", name := "isEmpty", desc := "()Z" } : Jvm.MethodName) ({ cls := "java/lang/String", name := "isEmpty", desc := "()Z" } : Jvm.MethodName)).before a0 Z = true := hw _ (List.mem_of_getElem? (i := 43) rfl)
theorem wd_42 {a0 : Array Value} {Z : State} (hw : ∀ d ∈ tables_1, d.before a0 Z = true) : (Jvm.Cond.instanceMethod ({ cls := "java/lang/String", name := "isEmpty", desc := "()Z" } : Jvm.MethodName)).before a0 Z = true := hw _ (List.mem_of_getElem? (i := 42) rfl)
theorem d_prog_18_method_2_8 : decode prog_18_method_2_code 8 = .ok (.ifCond .ne 12, 3) := by decide +kernel
theorem d_prog_18_method_2_20 : decode prog_18_method_2_code 20 = .ok (.iconst 0, 1) := by decide +kernel
theorem d_prog_18_method_2_21 : decode prog_18_method_2_code 21 = .ok (.ireturn, 1) := by decide +kernel
theorem d_prog_18_method_2_11 : decode prog_18_method_2_code 11 = .ok (.aload_n 0, 1) := by decide +kernel
theorem d_prog_18_method_2_12 : decode prog_18_method_2_code 12 = .ok (.invokevirtual 13, 3) := by decide +kernel
theorem d_prog_18_method_2_15 : decode prog_18_method_2_code 15 = .ok (.bipush 64, 2) := by decide +kernel
theorem d_prog_18_method_2_17 : decode prog_18_method_2_code 17 = .ok (.if_icmp .le 5, 3) := by decide +kernel
theorem d_prog_18_method_2_22 : decode prog_18_method_2_code 22 = .ok (.iconst 0, 1) := by decide +kernel
theorem d_prog_18_method_2_23 : decode prog_18_method_2_code 23 = .ok (.istore_n 1, 1) := by decide +kernel
theorem wd_5 {a0 : Array Value} {Z : State} (hw : ∀ d ∈ tables_1, d.before a0 Z = true) : (Jvm.Cond.constant "com/example/traceloom/traceloom/TraceIdsIsAcceptedPinLaw" (15 : Nat) (2147483647 : Int32)).before a0 Z = true := hw _ (List.mem_of_getElem? (i := 5) rfl)
theorem wd_80 {a0 : Array Value} {Z : State} (hw : ∀ d ∈ tables_1, d.before a0 Z = true) : (Jvm.Cond.methodLink "com/example/traceloom/traceloom/TraceIdsIsAcceptedPinLaw" (30 : Nat) ({ cls := "com/example/traceloom/traceloom/TraceIdsIsAcceptedPinLaw", name := "ok", desc := "(C)Z" } : Jvm.MethodName)).before a0 Z = true := hw _ (List.mem_of_getElem? (i := 80) rfl)
theorem wd_82 {a0 : Array Value} {Z : State} (hw : ∀ d ∈ tables_1, d.before a0 Z = true) : (Jvm.Cond.code ({ cls := "com/example/traceloom/traceloom/TraceIdsIsAcceptedPinLaw", name := "ok", desc := "(C)Z" } : Jvm.MethodName) method_3_code (2 : Nat) (Option.some Jvm.ClassFile.FieldType.boolean)).before a0 Z = true := hw _ (List.mem_of_getElem? (i := 82) rfl)
theorem wd_2 {a0 : Array Value} {Z : State} (hw : ∀ d ∈ tables_1, d.before a0 Z = true) : (Jvm.Cond.initialized "com/example/traceloom/traceloom/TraceIdsIsAcceptedPinLaw").before a0 Z = true := hw _ (List.mem_of_getElem? (i := 2) rfl)
theorem wd_81 {a0 : Array Value} {Z : State} (hw : ∀ d ∈ tables_1, d.before a0 Z = true) : (Jvm.Cond.static ({ cls := "com/example/traceloom/traceloom/TraceIdsIsAcceptedPinLaw", name := "ok", desc := "(C)Z" } : Jvm.MethodName)).before a0 Z = true := hw _ (List.mem_of_getElem? (i := 81) rfl)
theorem wd_11 {a0 : Array Value} {Z : State} (hw : ∀ d ∈ tables_1, d.before a0 Z = true) : (Jvm.Cond.classLink "com/example/traceloom/traceloom/TraceIdsIsAcceptedPinLaw" (25 : Nat) "java/lang/String").before a0 Z = true := hw _ (List.mem_of_getElem? (i := 11) rfl)
theorem wd_14 {a0 : Array Value} {Z : State} (hw : ∀ d ∈ tables_1, d.before a0 Z = true) : (Jvm.Cond.methodLink "com/example/traceloom/traceloom/TraceIdsIsAcceptedPinLaw" (34 : Nat) ({ cls := "java/lang/String", name := "<init>", desc := "([C)V" } : Jvm.MethodName)).before a0 Z = true := hw _ (List.mem_of_getElem? (i := 14) rfl)
theorem wd_15 {a0 : Array Value} {Z : State} (hw : ∀ d ∈ tables_1, d.before a0 Z = true) : (Jvm.Cond.instanceMethod ({ cls := "java/lang/String", name := "<init>", desc := "([C)V" } : Jvm.MethodName)).before a0 Z = true := hw _ (List.mem_of_getElem? (i := 15) rfl)
theorem wd_16 {a0 : Array Value} {Z : State} (hw : ∀ d ∈ tables_1, d.before a0 Z = true) : (Jvm.Cond.code ({ cls := "java/lang/String", name := "<init>", desc := "([C)V" } : Jvm.MethodName) jdk_42_method_3_code (2 : Nat) (Option.none : Option Jvm.ClassFile.FieldType)).before a0 Z = true := hw _ (List.mem_of_getElem? (i := 16) rfl)
theorem pd_19 : parseMethodDescriptor "([C)V" = some ⟨[(.array .char)], none⟩ := by decide +kernel
theorem wd_6 {a0 : Array Value} {Z : State} (hw : ∀ d ∈ tables_1, d.before a0 Z = true) : (Jvm.Cond.methodLink "com/example/traceloom/traceloom/TraceIdsIsAcceptedPinLaw" (16 : Nat) ({ cls := "com/example/traceloom/traceloom/TraceIds", name := "isAccepted", desc := "(Ljava/lang/String;)Z" } : Jvm.MethodName)).before a0 Z = true := hw _ (List.mem_of_getElem? (i := 6) rfl)
theorem wd_9 {a0 : Array Value} {Z : State} (hw : ∀ d ∈ tables_1, d.before a0 Z = true) : (Jvm.Cond.code ({ cls := "com/example/traceloom/traceloom/TraceIds", name := "isAccepted", desc := "(Ljava/lang/String;)Z" } : Jvm.MethodName) prog_18_method_2_code (2 : Nat) (Option.some Jvm.ClassFile.FieldType.boolean)).before a0 Z = true := hw _ (List.mem_of_getElem? (i := 9) rfl)
theorem wd_7 {a0 : Array Value} {Z : State} (hw : ∀ d ∈ tables_1, d.before a0 Z = true) : (Jvm.Cond.static ({ cls := "com/example/traceloom/traceloom/TraceIds", name := "isAccepted", desc := "(Ljava/lang/String;)Z" } : Jvm.MethodName)).before a0 Z = true := hw _ (List.mem_of_getElem? (i := 7) rfl)
theorem pd_20 : parseMethodDescriptor "(Ljava/lang/String;)Z" = some ⟨[(.object "java/lang/String")], some .boolean⟩ := by decide +kernel
theorem wd_0 {a0 : Array Value} {Z : State} (hw : ∀ d ∈ tables_1, d.before a0 Z = true) : (Jvm.Cond.methodLink "com/example/traceloom/traceloom/TraceIdsIsAcceptedPinLaw" (9 : Nat) ({ cls := "com/example/traceloom/traceloom/TraceIdsIsAcceptedPinLaw", name := "draw", desc := "(I)C" } : Jvm.MethodName)).before a0 Z = true := hw _ (List.mem_of_getElem? (i := 0) rfl)
theorem wd_3 {a0 : Array Value} {Z : State} (hw : ∀ d ∈ tables_1, d.before a0 Z = true) : (Jvm.Cond.code ({ cls := "com/example/traceloom/traceloom/TraceIdsIsAcceptedPinLaw", name := "draw", desc := "(I)C" } : Jvm.MethodName) method_2_code (1 : Nat) (Option.some Jvm.ClassFile.FieldType.char)).before a0 Z = true := hw _ (List.mem_of_getElem? (i := 3) rfl)
theorem wd_1 {a0 : Array Value} {Z : State} (hw : ∀ d ∈ tables_1, d.before a0 Z = true) : (Jvm.Cond.static ({ cls := "com/example/traceloom/traceloom/TraceIdsIsAcceptedPinLaw", name := "draw", desc := "(I)C" } : Jvm.MethodName)).before a0 Z = true := hw _ (List.mem_of_getElem? (i := 1) rfl)
theorem wd_116 {a0 : Array Value} {Z : State} (hw : ∀ d ∈ tables_1, d.before a0 Z = true) : (Jvm.Cond.methodLink "com/example/traceloom/traceloom/TraceIdsIsAcceptedPinLaw" (24 : Nat) ({ cls := "java/lang/String", name := "valueOf", desc := "(C)Ljava/lang/String;" } : Jvm.MethodName)).before a0 Z = true := hw _ (List.mem_of_getElem? (i := 116) rfl)
theorem wd_118 {a0 : Array Value} {Z : State} (hw : ∀ d ∈ tables_1, d.before a0 Z = true) : (Jvm.Cond.code ({ cls := "java/lang/String", name := "valueOf", desc := "(C)Ljava/lang/String;" } : Jvm.MethodName) jdk_42_method_139_code (1 : Nat) (Option.some (Jvm.ClassFile.FieldType.object "java/lang/String"))).before a0 Z = true := hw _ (List.mem_of_getElem? (i := 118) rfl)
theorem wd_117 {a0 : Array Value} {Z : State} (hw : ∀ d ∈ tables_1, d.before a0 Z = true) : (Jvm.Cond.static ({ cls := "java/lang/String", name := "valueOf", desc := "(C)Ljava/lang/String;" } : Jvm.MethodName)).before a0 Z = true := hw _ (List.mem_of_getElem? (i := 117) rfl)
theorem pd_21 : parseMethodDescriptor "(C)Ljava/lang/String;" = some ⟨[.char], some (.object "java/lang/String")⟩ := by decide +kernel
theorem wd_10 {a0 : Array Value} {Z : State} (hw : ∀ d ∈ tables_1, d.before a0 Z = true) : (Jvm.Cond.arrayClass Jvm.ClassFile.FieldType.char).before a0 Z = true := hw _ (List.mem_of_getElem? (i := 10) rfl)
theorem wd_114 {a0 : Array Value} {Z : State} (hw : ∀ d ∈ tables_1, d.before a0 Z = true) : (Jvm.Cond.soleField "java/lang/String" "value").before a0 Z = true := hw _ (List.mem_of_getElem? (i := 114) rfl)
theorem wd_115 {a0 : Array Value} {Z : State} (hw : ∀ d ∈ tables_1, d.before a0 Z = true) : (Jvm.Cond.soleField "java/lang/String" "coder").before a0 Z = true := hw _ (List.mem_of_getElem? (i := 115) rfl)

/-- what is left by new String(chars): the String x spells cs -/
def Str (Z : State) (h : Heap) (x : Addr) (cs : List Int32) : Prop := Exa Z h x "java/lang/String" ∧ Fld Z h x "java/lang/String" "coder" "B" (.int 0) ∧ (∀ c ∈ cs, ¬ c < 0 ∧ ¬ (255 : Int32) < c) ∧ ∃ (t : Addr) (kb : ClassId), Fld Z h x "java/lang/String" "value" "[B" (.ref t) ∧ Arv Z h t kb .byte (Int32.ofNat cs.length) ((cs.map fun c => c.toInt8.toInt32).map Value.int) (.int 0)
section StrX
variable {Z : State} {a0 : Array Value} {h h' : Heap} {x w : Addr} {cs : List Int32}
theorem Str.exa (S : Str Z h x cs) : Exa Z h x "java/lang/String" := S.1
theorem Str.lt (S : Str Z h x cs) : x < h.size := S.1.lt
theorem Str.ext (S : Str Z h x cs) (E : Ext h h') : Str Z h' x cs := by
  obtain ⟨A, F, q, t, kb, V, K⟩ := S
  exact ⟨A.ext E, F.ext E, q, t, kb, V.ext E, K.ext E⟩
theorem Str.wr {sl : Nat} {v : Value} (S : Str Z h x cs) (W : Wr h h' w sl v) (o : Off Z h w) : Str Z h' x cs := by
  obtain ⟨A, F, q, t, kb, V, K⟩ := S
  exact ⟨A.wr W, F.other W (Or.inl (o.1 x A)), q, t, kb, V.other W (Or.inl (o.1 x A)), K.other W (o.2 _ _ _ _ _ K)⟩
theorem Str.keep {ws : List Addr} (S : Str Z h x cs) (W : Keep h h' ws) (o : ∀ w ∈ ws, Off Z h w) : Str Z h' x cs := by
  obtain ⟨A, F, q, t, kb, V, K⟩ := S
  have n1 : x ∉ ws := fun m => (o x m).1 x A rfl
  have n2 : t ∉ ws := fun m => (o t m).2 _ _ _ _ _ K rfl
  exact ⟨A.keep W, F.keep W n1, q, t, kb, V.keep W n1, K.keep W n2⟩
def StrOf (Z : State) (n0 : Nat) (h : Heap) (n : Nat) (h' : Heap) (x : Addr) (cs : List Int32) (v : Option Value) : Prop := v = none ∧ Keep h h' [x] ∧ Str Z h' x cs
theorem strOf_of {n0 n : Nat} {v : Option Value} {L : List Loc} (hn : cs.length = n) (hp : ∀ c ∈ cs, ¬ c < 0 ∧ ¬ (255 : Int32) < c) (q : StrChars.Road.QV Z x (Int32.ofNat n) (cs.map fun c => c.toInt8.toInt32) h n0 v h' L) : StrOf Z n0 h n h' x cs v ∧ Fr n0 L ∧ h.size ≤ h'.size := by
  obtain ⟨q1, q2, q3, q4, q5, t, kb, -, -, -, q6, q7⟩ := q
  subst hn
  exact ⟨⟨q1, q3, q4, q5, hp, t, kb, q6, q7⟩, q2, q3.1⟩
theorem and255c (x : Int32) : ¬ (x &&& 255) < 0 ∧ ¬ (255 : Int32) < (x &&& 255) := by
  have h : (x &&& 255).toBitVec.toNat ≤ 255 := by
    rw [Int32.toBitVec_and, BitVec.toNat_and]; exact Nat.and_le_right
  have e : (x &&& 255).toInt = (x &&& 255).toBitVec.toNat := by
    rw [← Int32.toInt_toBitVec, BitVec.toInt_eq_toNat_of_lt (by omega)]
  constructor
  · rw [Int32.lt_iff_toInt_lt, e]; have : (0 : Int32).toInt = 0 := rfl; omega
  · rw [Int32.lt_iff_toInt_lt, e]; have : (255 : Int32).toInt = 255 := rfl; omega
theorem hwS (hw : ∀ d ∈ tables_1, d.before a0 Z = true) : ∀ d ∈ StrChars.Road.words, d.before a0 Z = true := fun d hd => hw d ((by decide +kernel : ∀ d ∈ StrChars.Road.words, d ∈ tables_1) d hd)
end StrX

theorem up16 {cs : List Int32} (h : ∀ c ∈ cs, ¬ c < 0 ∧ ¬ (255 : Int32) < c) : ∀ c ∈ cs, ¬ c < 0 ∧ ¬ (65535 : Int32) < c := fun c hc => ⟨(h c hc).1, fun q => (h c hc).2 (by rw [Int32.lt_iff_toInt_lt] at q ⊢; have e1 : (65535 : Int32).toInt = 65535 := rfl; have e2 : (255 : Int32).toInt = 255 := rfl; omega)⟩
theorem codS {cs : List Int32} (h : ∀ c ∈ cs, ¬ c < 0 ∧ ¬ (255 : Int32) < c) : StrChars.Road.CodA cs 0 (Int32.ofNat cs.length) ((cs.map fun c => c.toInt8.toInt32).map Value.int) := StrChars.Road.codOf rfl fun c hc => (h c hc).2

theorem hwLen {Z : State} {a0 : Array Value} (hw : ∀ d ∈ tables_1, d.before a0 Z = true) : ∀ d ∈ StrChars.Road.wordsLen, d.before a0 Z = true := fun d hd => hw d ((by decide +kernel : ∀ d ∈ StrChars.Road.wordsLen, d ∈ tables_1) d hd)
theorem backLen {C : Cx} {Z : State} {a0 : Array Value} {b : ByteArray} {ml : Nat} {ret : Option FieldType} {nm own : String} {rm : Room} {n0 W : Nat} {h : Heap} {x : Addr} {cs : List Int32} {zc : Int32} (o : Ok C Z a0 b ml ret nm own rm) (wi : (Jvm.Cond.instantiable "java/lang/String" 4).before a0 Z = true) (Sc : Sta Z Z.heap "java/lang/String" "COMPACT_STRINGS" "Z" (.int zc)) (nzc : ¬ zc = 0) (X : Old Z n0 h) (S1 : Str Z h x cs) (l1 : cs.length ≤ 4000) (hf : 2 ≤ rm.frames) (hl : W + 25 ≤ rm.locals) :
    ∀ vm0, Z.Warmed39 vm0 → BackQ C vm0 (⟨"java/lang/String", "length", "()I"⟩ : MethodName) W #[.ref x] h 0 0 (fun v h' L => (v = some (.int (Int32.ofNat cs.length)) ∧ h' = h) ∧ Fr n0 L ∧ h.size ≤ h'.size) := fun vm0 hZ => by
  obtain ⟨A, F, q, t, kb, V, K⟩ := S1
  refine Back.mono (StrChars.Road.lenW (W := W) (s := C.s.setVm vm0) hZ (hwLen o.hw) wi A V F K (codS q) (up16 q) (Sc.ext X.2) nzc l1 (o.rf hf) (o.rl hl)) (fun P a hp => hp) (fun P a v B hp hq => ?_)
  obtain ⟨L, ⟨r1, r2, r3⟩, r4⟩ := hq
  exact ⟨L, ⟨⟨r1, r3⟩, by rw [r2]; exact Fr.nil _, by rw [r3]; exact Nat.le_refl _⟩, r4⟩

theorem hwChN {Z : State} {a0 : Array Value} (hw : ∀ d ∈ tables_1, d.before a0 Z = true) : ∀ d ∈ StrChars.Road.wordsChN, d.before a0 Z = true := fun d hd => hw d ((by decide +kernel : ∀ d ∈ StrChars.Road.wordsChN, d ∈ tables_1) d hd)
theorem backCh {C : Cx} {Z : State} {a0 : Array Value} {b : ByteArray} {ml : Nat} {ret : Option FieldType} {nm own : String} {rm : Room} {n0 W : Nat} {h : Heap} {x : Addr} {cs : List Int32} {zc : Int32} {fm : Value} {i : Nat} {j : Int32} (o : Ok C Z a0 b ml ret nm own rm) (wi : (Jvm.Cond.instantiable "java/lang/String" 4).before a0 Z = true) (Sc : Sta Z Z.heap "java/lang/String" "COMPACT_STRINGS" "Z" (.int zc)) (nzc : ¬ zc = 0) (Sf : Sta Z Z.heap "jdk/internal/util/Preconditions" "SIOOBE_FORMATTER" "Ljava/util/function/BiFunction;" fm) (rf : fm.isRef = true) (X : Old Z n0 h) (S1 : Str Z h x cs) (l1 : cs.length ≤ 4000) (hi : i < cs.length) (hj : j = Int32.ofNat i) (hf : 4 ≤ rm.frames) (hl : W + 53 ≤ rm.locals) :
    ∀ vm0, Z.Warmed39 vm0 → BackQ C vm0 (⟨"java/lang/String", "charAt", "(I)C"⟩ : MethodName) W #[.ref x, .int j] h 0 0 (fun v h' L => (v = some (.int (cs.getD i 0)) ∧ h' = h) ∧ Fr n0 L ∧ h.size ≤ h'.size) := fun vm0 hZ => by
  obtain ⟨A, F, q, t, kb, V, K⟩ := S1
  refine Back.mono (StrChars.Road.chN (W := W) (s := C.s.setVm vm0) hZ (hwChN o.hw) wi A V F K (codS q) (up16 q) (Sc.ext X.2) nzc (Sf.ext X.2) rf l1 hi hj (o.rf hf) (o.rl hl)) (fun P a hp => hp) (fun P a v B hp hq => ?_)
  obtain ⟨L, ⟨r1, r2, r3⟩, r4⟩ := hq
  exact ⟨L, ⟨⟨r1, r3⟩, by rw [r2]; exact Fr.nil _, by rw [r3]; exact Nat.le_refl _⟩, r4⟩
/-! own text: constants (ldc of a String) and callees that load them -/
section Wide
variable {C : Cx} {Z : State} {a0 : Array Value} {b : ByteArray} {ml : Nat} {ret : Option FieldType} {nm own : String} {rm : Room} {n0 : Nat} {Q : Option Value → Heap → Prop} {M : List Addr} {h : Heap} {k n pc : Nat} {L : Array Slot} {S : List Value}
abbrev BackQS (C : Cx) (Z : State) (vm0 : Vm) (y : MethodName) (W : Nat) (as : Array Value) (h : Heap) (rc rs : Nat) (P : Option Value → Heap → List Loc → Prop) : Prop :=
  BackS C.l C.R C.p C.e C.below (C.s.setVm vm0) C.args y 3 W (fun A a => a = as ∧ A.U.heap = h ∧ A.cells + (rc + 2 * rho Z C.PL vm0) ≤ C.R.cells ∧ A.slots + (rs + C.cs * rho Z C.PL vm0) ≤ C.R.slots) (fun A _ v B => ∃ L, P v B.U.heap L ∧ B.locs = A.locs ++ L ∧ B.cells + 2 * rho Z C.PL B.U.vm ≤ A.cells + rc + 2 * rho Z C.PL vm0 ∧ B.slots + C.cs * rho Z C.PL B.U.vm ≤ A.slots + rs + C.cs * rho Z C.PL vm0 ∧ CHr Z C.EL vm0 h B.U.vm B.U.heap)
theorem Ok.wc (o : Ok C Z a0 b ml ret nm own rm) {vm0 : Vm} {k' n' rc : Nat} (B : Bal C Z vm0 k' n' k n) (hc : k + rc ≤ rm.cells) : k' + (rc + 2 * rho Z C.PL vm0) ≤ C.R.cells := by
  rw [o.bigR]; show _ ≤ rm.cells + 2 * C.r
  have := o.rr; have := B.1; omega
theorem Ok.ws (o : Ok C Z a0 b ml ret nm own rm) {vm0 : Vm} {k' n' rs : Nat} (B : Bal C Z vm0 k' n' k n) (hc : n + rs ≤ rm.slots) : n' + (rs + C.cs * rho Z C.PL vm0) ≤ C.R.slots := by
  rw [o.bigR]; show _ ≤ rm.slots + C.cs * C.r
  have := Nat.mul_le_mul_left C.cs o.rr; have := B.2; omega
theorem g_staticW (o : Ok C Z a0 b ml ret nm own rm) (hwd : C.wide = true) {ix mL kc ks W : Nat} {y : MethodName} {by' : ByteArray} {rt : Option FieldType} {P : Option Value → Heap → List Loc → Prop} {Q' : Option Value → Heap → Prop} {ps : List FieldType} {r : Option FieldType} (as rest : List Value) (d : decode b pc = .ok (.invokestatic ix, 3))
    (w1 : (Jvm.Cond.methodLink own ix y).before a0 Z = true) (w2 : (Jvm.Cond.static y).before a0 Z = true) (w3 : (Jvm.Cond.initialized y.cls).before a0 Z = true) (w4 : (Jvm.Cond.code y by' mL rt).before a0 Z = true) (hy : y.cls ≠ "java/lang/invoke/MethodHandle" ∧ y.cls ≠ "java/lang/invoke/VarHandle")
    (By : ∀ vm0, Z.Warmed39 vm0 → CHv Z C.EL vm0 h → BackQS C Z vm0 y W as.toArray h kc ks P) (hP : ∀ v h' L, P v h' L → Q' v h' ∧ Fr n0 L ∧ h.size ≤ h'.size) (hpd : parseMethodDescriptor y.desc = some ⟨ps, r⟩) (hlen : as.length = ps.length) (hS : S = as.reverse ++ rest) (hW : wt rest = W) (hL : L.size = ml) (hc : k + kc ≤ rm.cells) (hl : n + ks ≤ rm.slots)
    (K : ∀ v h', Q' v h' → Go C Z n0 Q M h' (k + kc) (n + ks) (pc + 3) L (v.toList ++ rest)) : Go C Z n0 Q M h k n pc L S := by
  subst hS
  refine Go.viaW hwd (dk := kc) (dn := ks) (ι := Option Value) (P := Q') (S' := fun v => v.toList ++ rest) K fun T vm0 locs k0 k' n' X B hZ hf eT N hSi hk H hM => ?_
  obtain ⟨v, vm₁, ⟨T', L', kk, nn⟩, -, X', hS2, hg, ⟨Lc, hQ, l1, l2, l3, hC⟩, st⟩ := callSS X o.1 (y := y) (own := own) (by rw [← o.hown]; exact hf) (mvT (s := C.s.setVm vm0) hZ w1) (mvT (s := C.s.setVm vm0) hZ w2) (mvT (s := C.s.setVm vm0) hZ w3) (mvT (s := C.s.setVm vm0) hZ w4) hy (By vm0 hZ H) (g := mkF C.m pc L (as.reverse ++ rest)) rfl (hL.trans o.2.2.1.symm) (argsL := as) (rest := rest) (lenOf hpd hlen) rfl (by show 2 * 0 + wt rest ≤ _; omega) (hb o.2.1 d) (fun _ _ => ⟨rfl, eT, o.wc B hc, o.ws B hl⟩)
  dsimp only [Pt.U, Pt.locs, Pt.cells, Pt.slots] at X' hQ l1 l2 l3 st hS2 hg hC
  subst l1
  obtain ⟨q1, q2, q3⟩ := hP _ _ _ hQ
  obtain ⟨X2, hS3, hZ2, hf2⟩ := rebS (own := C.own) hSi hk X' hS2 (by rw [← eT]; exact hg) hZ hf
  exact ⟨v, T', T'.vm, _, _, _, _, _, q1, X2, ⟨by have := B.1; omega, by have := B.2; omega⟩, rfl, N.app q2, hS3, Nat.le_refl _, hZ2, hf2, hC, fun target z => st.trans z⟩
theorem g_specialW (o : Ok C Z a0 b ml ret nm own rm) (hwd : C.wide = true) {ix mL kc ks W : Nat} {y : MethodName} {by' : ByteArray} {P : Option Value → Heap → List Loc → Prop} {Q' : Option Value → Heap → Prop} {ps : List FieldType} {r : Option FieldType} (a : Addr) (as rest : List Value) (d : decode b pc = .ok (.invokespecial ix, 3)) (hy1 : y.name = "<init>")
    (w1 : (Jvm.Cond.methodLink own ix y).before a0 Z = true) (w2 : (Jvm.Cond.instanceMethod y).before a0 Z = true) (w4 : (Jvm.Cond.code y by' mL none).before a0 Z = true) (hy : y.cls ≠ "java/lang/invoke/MethodHandle" ∧ y.cls ≠ "java/lang/invoke/VarHandle")
    (By : ∀ vm0, Z.Warmed39 vm0 → CHv Z C.EL vm0 h → BackQS C Z vm0 y W (.ref a :: as).toArray h kc ks P) (hP : ∀ v h' L, P v h' L → Q' v h' ∧ Fr n0 L ∧ h.size ≤ h'.size) (hpd : parseMethodDescriptor y.desc = some ⟨ps, r⟩) (hlen : as.length = ps.length) (hS : S = as.reverse ++ .ref a :: rest) (hW : wt rest = W) (hL : L.size = ml) (hc : k + kc ≤ rm.cells) (hl : n + ks ≤ rm.slots)
    (K : ∀ v h', Q' v h' → Go C Z n0 Q M h' (k + kc) (n + ks) (pc + 3) L (v.toList ++ rest)) : Go C Z n0 Q M h k n pc L S := by
  subst hS
  refine Go.viaW hwd (dk := kc) (dn := ks) (ι := Option Value) (P := Q') (S' := fun v => v.toList ++ rest) K fun T vm0 locs k0 k' n' X B hZ hf eT N hSi hk H hM => ?_
  obtain ⟨v, vm₁, ⟨T', L', kk, nn⟩, -, X', hS2, hg, ⟨Lc, hQ, l1, l2, l3, hC⟩, st⟩ := X.specialBackS o.1 (y := y) (own := own) hy1 (by rw [← o.hown]; exact hf) (mvT (s := C.s.setVm vm0) hZ w1) (mvT (s := C.s.setVm vm0) hZ w2) (mvT (s := C.s.setVm vm0) hZ w4) hy (By vm0 hZ H) (g := mkF C.m pc L (as.reverse ++ .ref a :: rest)) rfl (hL.trans o.2.2.1.symm) (Steps.refl _) (a := a) (argsL := as) (rest := rest) (lenOf hpd hlen) rfl (by show 2 * 0 + wt rest ≤ _; omega) (hb o.2.1 d) (fun _ _ => ⟨rfl, eT, o.wc B hc, o.ws B hl⟩)
  dsimp only [Pt.U, Pt.locs, Pt.cells, Pt.slots] at X' hQ l1 l2 l3 st hS2 hg hC
  subst l1
  obtain ⟨q1, q2, q3⟩ := hP _ _ _ hQ
  obtain ⟨X2, hS3, hZ2, hf2⟩ := rebS (own := C.own) hSi hk X' hS2 (by rw [← eT]; exact hg) hZ hf
  exact ⟨v, T', T'.vm, _, _, _, _, _, q1, X2, ⟨by have := B.1; omega, by have := B.2; omega⟩, rfl, N.app q2, hS3, Nat.le_refl _, hZ2, hf2, hC, fun target z => st.trans z⟩
theorem g_virtualW (o : Ok C Z a0 b ml ret nm own rm) (hwd : C.wide = true) {ix kc ks W : Nat} {Cn : String} {y z : MethodName} {P : Option Value → Heap → List Loc → Prop} {Q' : Option Value → Heap → Prop} {ps : List FieldType} {r : Option FieldType} (a : Addr) (as rest : List Value) (d : decode b pc = .ok (.invokevirtual ix, 3))
    (w1 : (Jvm.Cond.methodLink own ix y).before a0 Z = true) (w2 : (Jvm.Cond.declares y).before a0 Z = true) (w3 : (Jvm.Cond.selects Cn y z).before a0 Z = true) (w4 : (Jvm.Cond.instanceMethod z).before a0 Z = true) (nf : ∀ s : State, (Jvm.Cond.selects Cn y z).before C.args s = true → NotFace s y) (hy : y.cls ≠ "java/lang/invoke/MethodHandle" ∧ y.cls ≠ "java/lang/invoke/VarHandle") (E : Exa Z h a Cn)
    (By : ∀ vm0, Z.Warmed39 vm0 → CHv Z C.EL vm0 h → BackQS C Z vm0 z W (.ref a :: as).toArray h kc ks P) (hP : ∀ v h' L, P v h' L → Q' v h' ∧ Fr n0 L ∧ h.size ≤ h'.size) (hpd : parseMethodDescriptor y.desc = some ⟨ps, r⟩) (hlen : as.length = ps.length) (hS : S = as.reverse ++ .ref a :: rest) (hW : wt rest = W) (hL : L.size = ml) (hc : k + kc ≤ rm.cells) (hl : n + ks ≤ rm.slots)
    (K : ∀ v h', Q' v h' → Go C Z n0 Q M h' (k + kc) (n + ks) (pc + 3) L (v.toList ++ rest)) : Go C Z n0 Q M h k n pc L S := by
  subst hS
  refine Go.viaW hwd (dk := kc) (dn := ks) (ι := Option Value) (P := Q') (S' := fun v => v.toList ++ rest) K fun T vm0 locs k0 k' n' X B hZ hf eT N hSi hk H hM => ?_
  obtain ⟨cq, kq, qa, qb, qc⟩ := isOf (s := C.s.setVm vm0) (T := T) hZ eT E
  have hsel := mvT (s := C.s.setVm vm0) (args := C.args) hZ w3
  obtain ⟨v, vm₁, ⟨T', L', kk, nn⟩, -, X', hS2, hg, ⟨Lc, hQ, l1, l2, l3, hC⟩, st⟩ := X.virtualBackS o.1 (y := y) (z := z) (own := own) (by rw [← o.hown]; exact hf) (mvT (s := C.s.setVm vm0) hZ w1) (mvT (s := C.s.setVm vm0) hZ w2) (nf _ hsel) hsel (mvT (s := C.s.setVm vm0) hZ w4) hy (By vm0 hZ H) qa qc (g := mkF C.m pc L (as.reverse ++ .ref a :: rest)) rfl (hL.trans o.2.2.1.symm) (Steps.refl _) (argsL := as) (rest := rest) (lenOf hpd hlen) rfl (by show 2 * 0 + wt rest ≤ _; omega) (hb o.2.1 d) (fun _ _ => ⟨rfl, eT, o.wc B hc, o.ws B hl⟩)
  dsimp only [Pt.U, Pt.locs, Pt.cells, Pt.slots] at X' hQ l1 l2 l3 st hS2 hg hC
  subst l1
  obtain ⟨q1, q2, q3⟩ := hP _ _ _ hQ
  obtain ⟨X2, hS3, hZ2, hf2⟩ := rebS (own := C.own) hSi hk X' hS2 (by rw [← eT]; exact hg) hZ hf
  exact ⟨v, T', T'.vm, _, _, _, _, _, q1, X2, ⟨by have := B.1; omega, by have := B.2; omega⟩, rfl, N.app q2, hS3, Nat.le_refl _, hZ2, hf2, hC, fun target z => st.trans z⟩
theorem MetW.back {y : MethodName} {as : Array Value} {mL : Nat} {by' : ByteArray} {rt : Option FieldType} {rm' : Room} {Q' : Option Value → Heap → Prop} {W : Nat} {EL PL : List (String × Nat)} {cs : Nat} (hE : C.EL = EL) (hPL : C.PL = PL) (hcs : C.cs = cs) (o : Ok C Z a0 b ml ret nm own rm) (Mt : ∀ r, MetW C.l Z n0 EL PL cs r y by' mL rt rm' as h Q') (w4 : (Jvm.Cond.code y by' mL rt).before a0 Z = true) (w3 : (Jvm.Cond.initialized y.cls).before a0 Z = true) (hf : rm'.frames + 1 ≤ rm.frames) (hl : W + (mL + 11) + rm'.locals ≤ rm.locals) :
    ∀ vm0, Z.Warmed39 vm0 → CHv Z C.EL vm0 h → BackQS C Z vm0 y W as h rm'.cells rm'.slots (fun v h' L => Q' v h' ∧ Fr n0 L ∧ h.size ≤ h'.size) := fun vm0 hZ H => by
  subst hE hPL hcs
  refine BackS.of_freeW (bytes := by') (maxL := mL) (ret := rt) (E := fun _ U o U' L k n => (∃ v, o = .returned v ∧ Q' v U'.heap ∧ Fr n0 L ∧ h.size ≤ U'.heap.size) ∧ CHr Z C.EL U.vm U.heap U'.vm U'.heap ∧ k + 2 * rho Z C.PL U'.vm ≤ rm'.cells + 2 * rho Z C.PL U.vm ∧ n + C.cs * rho Z C.PL U'.vm ≤ rm'.slots + C.cs * rho Z C.PL U.vm) (Mt (rho Z C.PL vm0)) (o.rf hf) (o.rl hl) ?_ ?_ (fun _ _ _ _ _ _ _ _ _ => trivial) ?_ ?_
  · intro m meth c A a Y hp
    have hU : Z.Warmed39 A.U.vm := wtrans (s := C.s.setVm vm0) hZ Y.warmed
    exact ⟨by show (Cond.and _ .tt).before a A.U = true; rw [Cond.before_and, mv hU w4]; rfl, mv hU w4, mv hU w3, hp.2.2.1, hp.2.2.2⟩
  · intro m meth c A a g mk Y hp
    have hwz : (Z.setVm vm0).Warmed39 A.U.vm := (Y.warmed.wide :)
    exact ⟨hp.1, wtrans (s := C.s.setVm vm0) hZ Y.warmed, hp.2.1, (CHv.at Y hZ o.ew H).1, rho_mono hwz⟩
  · rintro a U oc t ⟨v, L, k, n, h1, h2, h3, h4, h5, h6⟩
    exact ⟨L, k, n, h4, ⟨v, h1, h2⟩, h3, h5, h6⟩
  · rintro m meth c A a g mk v t L k n Y hp - - ⟨⟨v', e3, e4⟩, e5, e6, e7⟩
    cases e3
    have hwz : (Z.setVm vm0).Warmed39 A.U.vm := (Y.warmed.wide :)
    have q := rho_mono (Z := Z) (PL := C.PL) hwz
    have q2 := Nat.mul_le_mul_left C.cs q
    have e6 : k + 2 * rho Z C.PL t.vm ≤ rm'.cells + 2 * rho Z C.PL A.U.vm := e6
    have e7 : n + C.cs * rho Z C.PL t.vm ≤ rm'.slots + C.cs * rho Z C.PL A.U.vm := e7
    refine ⟨L, e4, rfl, ?_, ?_, (CHv.at Y hZ o.ew H).trans ?_⟩
    · show A.cells + k + 2 * rho Z C.PL t.vm ≤ _; omega
    · show A.slots + n + C.cs * rho Z C.PL t.vm ≤ _; omega
    · rw [← hp.2.1]; exact e5
end Wide
/-! own text: constants of PL, paid once -/
section Paid
variable {C : Cx} {Z : State} {a0 : Array Value} {b : ByteArray} {ml : Nat} {ret : Option FieldType} {nm own : String} {rm : Room} {n0 : Nat} {Q : Option Value → Heap → Prop} {M : List Addr} {h : Heap} {k n pc : Nat} {L : Array Slot} {S : List Value}
theorem str_of {vm : Vm} {q : Jvm.Free.SB.SQ} {u : Array UInt16} {cs : List Int32} (hal : Z.vm.Alike vm) (F : SlB (Wst Z vm h) q u) (hlat : u.all (· < 256) = true) (hcs : u.toList.map (fun c => Value.int (Jvm.Lit.byteI c)) = (cs.map fun c => c.toInt8.toInt32).map Value.int)
    (hp : ∀ c ∈ cs, ¬ c < 0 ∧ ¬ (255 : Int32) < c) (hz : ¬ (Int32.ofNat cs.length) < 0) (hzl : (Int32.ofNat cs.length).toNatClampNeg = cs.length) : Str Z h q.sa cs := by
  obtain ⟨cS, ⟨St, hfS, hcS⟩, ⟨kS, k1, k2, k3⟩, hB, hby⟩ := F
  obtain ⟨s1, s2, s3, ⟨cv, kv, iv, s4, s4'⟩, ⟨cc, kc, ic, s5, s5'⟩, s6, s7, s8, s9, s10, ⟨hst, kA, hkA, comp, hkd⟩, s12, s13, s14, s15, s16⟩ := St
  have hcl : Z.vm.findClass "java/lang/String" = some q.sC.cls := by rw [← hal.findClass, hcS]; exact hfS
  have hclB : Z.vm.findClass "[B" = some q.SA.cls := by rw [← hal.findClass]; exact hB
  have exa : Exa Z h q.sa "java/lang/String" := by
    obtain ⟨kz, hkz, -⟩ := Vm.findClass_spec hcl
    obtain ⟨kz', g1, g2⟩ := hal.2.2 _ _ hkz
    have k1 : vm.classes[cS]? = some kS := k1
    rw [hcS] at g1
    cases g1.symm.trans k1
    exact ⟨q.sC, kz, s1, hcl, hkz, s3, fun _ => by rw [k3, g2]⟩
  have fld : ∀ {f d : String} {c i : Nat} {kx : Class} {fd : Field} {v : Value}, (Wst Z vm h).fieldFound? "java/lang/String" f d = some (c, kx, i, fd) → (Wst Z vm h).vm.assignable q.sC.cls c = true → fd.isStatic = false → q.sC.slots[fd.slot]? = some v → Fld Z h q.sa "java/lang/String" f d v := fun h1 h2 h3 h4 => by
    obtain ⟨kx', h5⟩ := ff_back (U := Wst Z vm h) hal h1
    exact ⟨q.sC, _, kx', _, _, s1, h5, h3, s2, s3, by rw [← hal.assignable]; exact h2, h4⟩
  have hsl : q.SA.slots = u.map fun c => Value.int (Jvm.Lit.byteI c) := by rw [hby, Jvm.Free.SBG.stringBytes_lat hlat]; rfl
  have hlist : q.SA.slots.toList = (cs.map fun c => c.toInt8.toInt32).map Value.int := by rw [hsl, Array.toList_map, hcs]
  have hlen : q.SA.slots.size = cs.length := by rw [← Array.length_toList, hlist, List.length_map, List.length_map]
  have has : Has q.SA ((cs.map fun c => c.toInt8.toInt32).map Value.int) (.int 0) := fun j hj => by
    rw [← hlist, ← Array.getElem?_toList, List.getD_eq_getElem?_getD, List.getElem?_eq_getElem (by rw [Array.length_toList]; exact hj)]; rfl
  have arr : Z.isArrayOf q.SA .byte := by
    obtain ⟨kb, hkb, -⟩ := Vm.findClass_spec hclB
    obtain ⟨kb', g1, g2⟩ := hal.2.2 _ _ hkb
    have hkA : vm.classes[q.SA.cls]? = some kA := hkA
    cases g1.symm.trans hkA
    exact ⟨hst, kb, hkb, comp, by rw [g2] at hkd; exact hkd⟩
  refine ⟨exa, fld s5 s5' s7 s9, hp, q.sd, q.SA.cls, fld s4 s4' s6 s8, q.SA, ⟨s10, arr, s12⟩, rfl, by rw [hlen, hzl], hz, has, fun j hj => ?_⟩
  rw [List.getD_eq_getElem?_getD, List.getElem?_map, List.getElem?_map]
  rw [hlen] at hj
  rw [List.getElem?_eq_getElem hj]
  show fits .byte (.int _) = true
  exact fits_byte_narrow _
theorem rho_pos {PL : List (String × Nat)} {vm : Vm} {p : String × Nat} (hp : p ∈ PL) (h0 : (Z.setVm vm).resolvedAt? p.1 p.2 = none) : 1 ≤ rho Z PL vm :=
  List.length_pos_of_mem (List.mem_filter.mpr ⟨hp, by rw [h0]; rfl⟩)
theorem g_ldcP (o : Ok C Z a0 b ml ret nm own rm) (hwd : C.wide = true) {ix : Nat} {text : String} {cs : List Int32} (d : decode b pc = .ok (.ldc ix, 2)) (w : (Jvm.Cond.stringLink own ix text).before a0 Z = true) (wS : ∀ a ∈ Bundle.stringAtoms, a.before a0 Z = true) (hmem : (own, ix) ∈ C.EL) (hpl : (own, ix) ∈ C.PL) (hlat : ∀ c ∈ text.toList, c.toNat < 256) (hcs : text.toList.map (fun c => Value.int (Jvm.Lit.byteI c.toNat.toUInt16)) = (cs.map fun c => c.toInt8.toInt32).map Value.int)
    (hp : ∀ c ∈ cs, ¬ c < 0 ∧ ¬ (255 : Int32) < c) (hz : ¬ (Int32.ofNat cs.length) < 0) (hzl : (Int32.ofNat cs.length).toNatClampNeg = cs.length) {m : Nat} (hm : 4 * text.toList.length ≤ m) (hbig : m ≤ 536870912) (hmc : m + 4 = C.cs) (hk : k ≤ rm.cells) (hn : n ≤ rm.slots)
    (K : ∀ a h', Ext h h' → Str Z h' a cs → Go C Z n0 Q M h' k n (pc + 2) L (.ref a :: S)) : Go C Z n0 Q M h k n pc L S := by
  refine Go.viaW hwd (dk := 0) (dn := 0) (ι := Addr) (P := fun a h' => Ext h h' ∧ Str Z h' a cs) (S' := fun a => .ref a :: S) (fun a h' q => K a h' q.1 q.2) fun T vm0 locs k0 k' n' X B hZ hf eT N hS hk0 H hM => ?_
  have hf' : vm0.findClass own = some C.m.cls := by rw [← o.hown]; exact hf
  cases hr : (Z.setVm vm0).resolvedAt? own ix with
  | none =>
    have hpos := rho_pos hpl hr
    have hr1 := o.wc (rc := 0) B hk
    have hr2 := o.ws (rs := 0) B hn
    have hmul := Nat.mul_le_mul_left C.cs hpos
    obtain ⟨a, T', h', k1, t, kb, X', e', E, hS', hk', hW, hf2, f1, f2, f3, f4, -, -, hC, hL, -, st⟩ := ldcCH (s := C.s.setVm vm0) X o.1 hZ (own := own) hf' w wS eT (k0 := h.size) ⟨State.Warmed39.refl _, fun j p hj hp => absurd (Array.getElem?_eq_some_iff.mp hp).1 (Nat.not_lt.mpr hj)⟩ (Nat.le_refl _) o.ew hmem H ⟨hlat, hcs⟩ hz (by rw [hzl]; simp) (g := mkF C.m pc L S) rfl (hb o.2.1 d) hm hbig (by omega) (by omega)
    have hwz : (Z.setVm vm0).Warmed39 T'.vm := hS'.1
    have h1 : (Z.setVm T'.vm).resolvedAt? own ix = some (.string a) := hL
    have q1 := rho_step hwz hpl hr h1
    have q2 := Nat.mul_le_mul_left C.cs q1
    refine ⟨a, T', T'.vm, locs, h', _, _, _, ⟨E, f1, f2, hp, t, kb, f3, f4⟩, X', ⟨?_, ?_⟩, e', N, hS.trans ⟨hS'.1, hS'.2.mono hk'⟩ (Nat.le_trans hk0 E.1), Nat.le_refl _, hW, by rw [o.hown]; exact hf2, hC, st⟩
    · have := B.1; omega
    · have := B.2; rw [Nat.mul_add] at q2; omega
  | some r =>
    have w2 : (Jvm.Cond.stringLink own ix text).before a0 (Wst Z vm0 h) = true := mvS (s := { Z with heap := h }) hZ w
    obtain ⟨kc, cf, i, units, hkx, hcf, hpo, hu, -, htext, hres⟩ := Cond.stringLink_spec (s := Wst Z vm0 h) hf' w2
    have hra : kc.resolved[ix]? = some (some r) := by
      have hk' : vm0.classes[C.m.cls]? = some kc := hkx
      simp [State.resolvedAt?, hf', hk'] at hr
      cases hq : kc.resolved[ix]? with
      | none => rw [hq] at hr; cases hr
      | some o => rw [hq] at hr; cases o with
        | none => cases hr
        | some r => simpa using hr
    obtain ⟨a, rfl⟩ : ∃ a, r = .string a := by
      rcases hres with h0 | ⟨a, h0⟩
      · rw [h0] at hra; cases hra
      · rw [h0] at hra; cases hra; exact ⟨a, rfl⟩
    have hB0 : Booksv vm0 own ix units a := ⟨C.m.cls, kc, cf, i, hf', hkx, hcf, hpo, hu, Or.inl hra⟩
    obtain ⟨q, rfl, F⟩ := SlB.of (H _ hmem units a hB0)
    have hu2 : units.toList.map (fun c => Value.int (Jvm.Lit.byteI c)) = (cs.map fun c => c.toInt8.toInt32).map Value.int := by rw [← hcs, Jvm.ClassFile.units_of_text htext hlat, List.map_map]; rfl
    have Sa := str_of (cs := cs) hZ.alike F (Jvm.ClassFile.lat_of_text htext hlat) hu2 hp hz hzl
    exact ⟨q.sa, T, vm0, locs, h, k0, k', n', ⟨⟨Nat.le_refl _, fun _ _ q => q⟩, Sa⟩, X, B, eT, N, hS, hk0, hZ, hf, CHr.refl H, ldcAgain X o.1 hZ hf' w (show Lit (C.s.setVm vm0) own ix q.sa from hr) (g := mkF C.m pc L S) rfl (hb o.2.1 d)⟩
theorem safe_blank {vm : Vm} {EL : List (String × Nat)} {x : Addr} (hal : Z.vm.Alike vm) (E : Exa Z h x "java/lang/String") (F : Fld Z h x "java/lang/String" "value" "[B" .null) : Safe Z EL vm h x := fun B => by
  obtain ⟨p, hp, u, a, hb, q, hqa, ⟨cS, ⟨⟨s1, s2, s3, ⟨cv, kv, iv, s4, s4'⟩, ⟨cc, kc, ic, s5, s5'⟩, s6, s7, s8, s9, s10, s11, s12, s13, s14, s15, s16⟩, hfS, hcS⟩, ⟨kS, k1, k2, k3⟩, hB, hbyt⟩, hx⟩ := B
  obtain ⟨cell, cf, k, i, f, h1, h2, h3, h4, h5, h6, h7⟩ := F
  rcases hx with rfl | rfl
  · obtain ⟨kv', z4⟩ := ff_back (U := Wst Z vm h) hal s4
    cases h2.symm.trans z4
    have s1 : h[q.sa]? = some q.sC := s1
    cases h1.symm.trans s1
    cases h7.symm.trans s8
  · obtain ⟨c1, kE, e1, e2, e3, -⟩ := E
    have s10 : h[q.sd]? = some q.SA := s10
    cases e1.symm.trans s10
    have hBZ : Z.vm.findClass "[B" = some q.SA.cls := by rw [← hal.findClass]; exact hB
    obtain ⟨k5, g1, g2⟩ := Vm.findClass_spec e2
    obtain ⟨k6, g3, g4⟩ := Vm.findClass_spec hBZ
    cases g1.symm.trans g3
    exact absurd (g2.symm.trans g4) (by decide)
end Paid
theorem wS_ {Z : State} {a0 : Array Value} (hw : ∀ d ∈ tables_1, d.before a0 Z = true) : ∀ a ∈ Bundle.stringAtoms, a.before a0 Z = true := fun d hd => by
  simp only [Bundle.stringAtoms, List.mem_cons, List.not_mem_nil, or_false] at hd
  rcases hd with rfl | rfl | rfl | rfl | rfl | rfl | rfl
  · exact (wd_13 hw)
  · exact (wd_12 hw)
  · exact (wd_29 hw)
  · exact (wd_39 hw)
  · exact (wd_37 hw)
  · exact (wd_114 hw)
  · exact (wd_115 hw)
theorem ew_ {Z : State} {a0 : Array Value} (hw : ∀ d ∈ tables_1, d.before a0 Z = true) : EW Z a0 consts_1 := (EW.cons (text := "") (wd_113 hw) (by decide +kernel) EW.nil)
/-! own text: small numbers as ints -/
theorem n_int {i : Nat} (hi : i < 100000) : (Int32.ofNat i).toInt = i := by
  rw [Int32.toInt_ofNat']; have e : Int32.size = 4294967296 := rfl
  apply Int.bmod_eq_of_le <;> rw [e] <;> omega
theorem n_lt {i j : Nat} (hi : i < 100000) (hj : j < 100000) : Int32.ofNat i < Int32.ofNat j ↔ i < j := by
  rw [Int32.lt_iff_toInt_lt, n_int hi, n_int hj]; omega
theorem n_nn {i : Nat} (hi : i < 100000) : ¬ Int32.ofNat i < 0 := fun q => by
  have q : Int32.ofNat i < Int32.ofNat 0 := q
  rw [n_lt hi (by decide)] at q; omega
theorem n_clamp {i : Nat} (hi : i < 100000) : (Int32.ofNat i).toNatClampNeg = i := by
  show (Int32.ofNat i).toInt.toNat = i
  rw [n_int hi]; rfl
theorem n_add (i j : Nat) : Int32.ofNat i + Int32.ofNat j = Int32.ofNat (i + j) := (Int32.ofNat_add i j).symm
theorem n_eq {i j : Nat} (hi : i < 100000) (hj : j < 100000) : Int32.ofNat i = Int32.ofNat j ↔ i = j := ⟨fun q => by have q := congrArg Int32.toInt q; rw [n_int hi, n_int hj] at q; omega, fun q => by rw [q]⟩
theorem getD_int {cs : List Int32} {i : Nat} : (cs.map Value.int).getD i (.int 0) = .int (cs.getD i 0) := by
  rw [List.getD_eq_getElem?_getD, List.getElem?_map, List.getD_eq_getElem?_getD]; cases cs[i]? <;> rfl
theorem getD_byte {cs : List Int32} {i : Nat} : ((cs.map fun c => c.toInt8.toInt32).map Value.int).getD i (.int 0) = .int (cs.getD i 0).toInt8.toInt32 := by
  rw [List.getD_eq_getElem?_getD, List.getElem?_map, List.getElem?_map, List.getD_eq_getElem?_getD]; cases cs[i]? <;> rfl
theorem getD_all {cs : List Int32} {P : Int32 → Prop} (h0 : P 0) (h : ∀ c ∈ cs, P c) (i : Nat) : P (cs.getD i 0) := by
  rw [List.getD_eq_getElem?_getD]
  cases q : cs[i]? with
  | none => exact h0
  | some c => exact h c (List.mem_of_getElem? q)
abbrev Lat (x : Int32) : Prop := ¬ x < 0 ∧ ¬ (255 : Int32) < x
theorem lat_nat {x : Int32} (h : Lat x) : ∃ m : Nat, m < 256 ∧ x = Int32.ofNat m := by
  obtain ⟨h0, h1⟩ := h
  rw [Int32.lt_iff_toInt_lt] at h0 h1
  have e0 : (0 : Int32).toInt = 0 := rfl
  have e1 : (255 : Int32).toInt = 255 := rfl
  refine ⟨x.toInt.toNat, by omega, ?_⟩
  apply Int32.toInt_inj.mp
  rw [n_int (by omega)]; omega
theorem byte_inj {x y : Int32} (hx : Lat x) (hy : Lat y) : x.toInt8.toInt32 = y.toInt8.toInt32 ↔ x = y := by
  constructor
  · intro q
    obtain ⟨m, hm, rfl⟩ := lat_nat hx
    obtain ⟨k, hk, rfl⟩ := lat_nat hy
    have q := congrArg Int32.toInt q
    rw [Int8.toInt_toInt32, Int8.toInt_toInt32, Int32.toInt_toInt8, Int32.toInt_toInt8, n_int (by omega), n_int (by omega)] at q
    have d1 : ((m : Int).bmod (2 ^ 8)) % ((2 ^ 8 : Nat) : Int) = m := by rw [Int.bmod_emod]; omega
    have d2 : ((k : Int).bmod (2 ^ 8)) % ((2 ^ 8 : Nat) : Int) = k := by rw [Int.bmod_emod]; omega
    have : (m : Int) = k := by rw [← d1, ← d2, q]
    have : m = k := by omega
    rw [this]
  · intro q; rw [q]
theorem i2c_lat {x : Int32} (h : Lat x) : x.toUInt32.toUInt16.toUInt32.toInt32 = x := by
  obtain ⟨m, hm, rfl⟩ := lat_nat h
  have : ∀ m : Fin 256, (Int32.ofNat m.val).toUInt32.toUInt16.toUInt32.toInt32 = Int32.ofNat m.val := by decide +kernel
  exact this ⟨m, hm⟩
theorem l2i_lat (z : Int64) : Lat (z &&& 255).toInt32 := by
  have hb : (z &&& 255).toBitVec.toNat ≤ 255 := by rw [Int64.toBitVec_and, BitVec.toNat_and]; exact Nat.and_le_right
  have e : (z &&& 255).toInt32 = Int32.ofNat (z &&& 255).toBitVec.toNat := by
    apply Int32.toBitVec_inj.mp
    apply BitVec.eq_of_toNat_eq
    rw [Int64.toBitVec_toInt32]
    show ((z &&& 255).toBitVec.signExtend 32).toNat = (BitVec.ofNat 32 _).toNat
    rw [BitVec.signExtend_eq_setWidth_of_le _ (by decide), BitVec.toNat_setWidth, BitVec.toNat_ofNat]
  rw [e]
  refine ⟨n_nn (by omega), fun q => ?_⟩
  have q : Int32.ofNat 255 < Int32.ofNat (z &&& 255).toBitVec.toNat := q
  rw [n_lt (by decide) (by omega)] at q; omega
theorem par_up {x : Int32} (h : x &&& 1 = 0) : (x + 1) &&& 1 = 1 := by
  apply Int32.toBitVec_inj.mp
  apply BitVec.eq_of_toNat_eq
  have h := congrArg (fun z : Int32 => z.toBitVec.toNat) h
  simp only [Int32.toBitVec_and, BitVec.toNat_and, Int32.toBitVec_add, BitVec.toNat_add] at h ⊢
  change x.toBitVec.toNat &&& 1 = 0 at h
  change (x.toBitVec.toNat + 1) % 2 ^ 32 &&& 1 = 1
  rw [Nat.and_one_is_mod] at h ⊢
  omega
theorem par_dn {x : Int32} (h : x &&& 1 = 1) : (x + 1) &&& 1 = 0 := by
  apply Int32.toBitVec_inj.mp
  apply BitVec.eq_of_toNat_eq
  have h := congrArg (fun z : Int32 => z.toBitVec.toNat) h
  simp only [Int32.toBitVec_and, BitVec.toNat_and, Int32.toBitVec_add, BitVec.toNat_add] at h ⊢
  change x.toBitVec.toNat &&& 1 = 1 at h
  change (x.toBitVec.toNat + 1) % 2 ^ 32 &&& 1 = 0
  rw [Nat.and_one_is_mod] at h ⊢
  omega
/-! what the methods of XPathText reckon -/
def pre (n : Nat) (cs : List Int32) (i : Nat) (a b : Int32) : Prop := i + 2 ≤ n ∧ cs.getD i 0 = a ∧ cs.getD (i + 1) 0 = b
instance {n : Nat} {cs : List Int32} {i : Nat} {a b : Int32} : Decidable (pre n cs i a b) := by unfold pre; infer_instance
def mis (x0 x1 y0 y1 : Int32) : Int32 := if x0 = y0 then if x1 = y1 then -1 else 1 else 0
theorem mis_pre {n : Nat} {cs : List Int32} {i : Nat} {a b : Int32} (hl : ∀ c ∈ cs, Lat c) (ha : Lat a) (hb : Lat b) (hi : i + 2 ≤ n) : mis (cs.getD i 0).toInt8.toInt32 (cs.getD (i + 1) 0).toInt8.toInt32 a.toInt8.toInt32 b.toInt8.toInt32 < 0 ↔ pre n cs i a b := by
  have l0 : Lat (cs.getD i 0) := getD_all (by decide) hl i
  have l1 : Lat (cs.getD (i + 1) 0) := getD_all (by decide) hl (i + 1)
  unfold mis pre
  have b0 := byte_inj l0 ha
  have b1 := byte_inj l1 hb
  by_cases h1 : cs.getD i 0 = a
  · by_cases h2 : cs.getD (i + 1) 0 = b
    · rw [if_pos (b0.mpr h1), if_pos (b1.mpr h2)]; exact ⟨fun _ => ⟨hi, h1, h2⟩, fun _ => by decide⟩
    · rw [if_pos (b0.mpr h1), if_neg (fun z => h2 (b1.mp z))]; exact ⟨fun q => absurd q (by decide), fun q => absurd q.2.2 h2⟩
  · rw [if_neg (fun z => h1 (b0.mp z))]; exact ⟨fun q => absurd q (by decide), fun q => absurd q.2.1 h1⟩
def litF (n : Nat) (cs : List Int32) (q : Int32) : Nat → Nat → Nat
  | 0, i => i
  | f + 1, i => if i < n then (if cs.getD i 0 = q then (if i + 1 < n ∧ cs.getD (i + 1) 0 = q then litF n cs q f (i + 2) else i + 1) else litF n cs q f (i + 1)) else i
def comF (n : Nat) (cs : List Int32) : Nat → Int32 → Nat → Nat
  | 0, _, i => i
  | f + 1, d, i => if i < n then (if pre n cs i 40 58 then comF n cs f (d + 1) (i + 2) else if pre n cs i 58 41 then (if d + (-1) = 0 then i + 2 else comF n cs f (d + (-1)) (i + 2)) else comF n cs f d (i + 1)) else i
def aloc (n : Nat) (cs : List Int32) (i : Nat) : Nat :=
  if cs.getD i 0 = 34 ∨ cs.getD i 0 = 39 then litF n cs (cs.getD i 0) (n + 1) (i + 1) else if pre n cs i 40 58 then comF n cs (n + 1) 0 i else i
/-! what the law's own steps reckon -/
def lst (n : Nat) (cs : List Int32) (j : Nat) (q : Int32) (p : Int32 × Int32) : Int32 × Int32 :=
  if ¬ j < n ∨ ¬ p.2 < 0 then p else
  if ((if cs.getD j 0 = q then p.1 + 1 else p.1) &&& 1 = 1) ∧ (¬ j + 1 < n ∨ ¬ cs.getD (j + 1) 0 = q) then ((if cs.getD j 0 = q then p.1 + 1 else p.1), Int32.ofNat (j + 1)) else ((if cs.getD j 0 = q then p.1 + 1 else p.1), p.2)
def cst (n : Nat) (cs : List Int32) (s k : Nat) (p : Int32 × Int32) : Int32 × Int32 :=
  if ¬ k + 1 < n ∨ ¬ p.2 < 0 then p else
  if cs.getD k 0 = 40 ∧ cs.getD (k + 1) 0 = 58 then (p.1 + 1, p.2) else
  if cs.getD k 0 = 58 ∧ cs.getD (k + 1) 0 = 41 ∧ (k = s ∨ ¬ cs.getD (k - 1) 0 = 40) then (p.1 - 1, if p.1 - 1 = 0 then Int32.ofNat (k + 2) else p.2) else p
def lrun (n : Nat) (cs : List Int32) (q : Int32) : Nat → Nat → Int32 × Int32 → Int32 × Int32
  | 0, _, p => p
  | f + 1, j, p => lrun n cs q f (j + 1) (lst n cs j q p)
def crun (n : Nat) (cs : List Int32) (s : Nat) : Nat → Nat → Int32 × Int32 → Int32 × Int32
  | 0, _, p => p
  | f + 1, j, p => crun n cs s f (j + 1) (cst n cs s j p)
def fin (n : Nat) (p : Int32 × Int32) : Int32 := if p.2 < 0 then Int32.ofNat n else p.2
theorem m1 : (-1 : Int32) < 0 := by decide
theorem fin_neg {n : Nat} {x : Int32} : fin n (x, -1) = Int32.ofNat n := if_pos m1
theorem fin_pos {n m : Nat} {x : Int32} (hm : m < 100000) : fin n (x, Int32.ofNat m) = Int32.ofNat m := if_neg (n_nn hm)
theorem lst_skip {n : Nat} {cs : List Int32} {j : Nat} {q x : Int32} (h : j < n) (hc : ¬ cs.getD j 0 = q) (hx : x &&& 1 = 0) : lst n cs j q (x, -1) = (x, -1) := by
  unfold lst
  rw [if_neg (fun z => z.elim (fun z => z h) (fun z => z m1)), if_neg hc, if_neg (fun z => absurd (z.1.symm.trans hx) (by decide))]
theorem lst_odd {n : Nat} {cs : List Int32} {j : Nat} {q x : Int32} (h : j < n) (hc : cs.getD j 0 = q) (hx : x &&& 1 = 1) : lst n cs j q (x, -1) = (x + 1, -1) := by
  unfold lst
  rw [if_neg (fun z => z.elim (fun z => z h) (fun z => z m1)), if_pos hc, if_neg (fun z => absurd (z.1.symm.trans (par_dn hx)) (by decide))]
theorem lst_dbl {n : Nat} {cs : List Int32} {j : Nat} {q x : Int32} (h : j < n) (hc : cs.getD j 0 = q) (h2 : j + 1 < n ∧ cs.getD (j + 1) 0 = q) : lst n cs j q (x, -1) = (x + 1, -1) := by
  unfold lst
  rw [if_neg (fun z => z.elim (fun z => z h) (fun z => z m1)), if_pos hc, if_neg (fun z => z.2.elim (fun z => z h2.1) (fun z => z h2.2))]
theorem lst_end {n : Nat} {cs : List Int32} {j : Nat} {q x : Int32} (h : j < n) (hc : cs.getD j 0 = q) (hx : x &&& 1 = 0) (h2 : ¬ (j + 1 < n ∧ cs.getD (j + 1) 0 = q)) : lst n cs j q (x, -1) = (x + 1, Int32.ofNat (j + 1)) := by
  unfold lst
  rw [if_neg (fun z => z.elim (fun z => z h) (fun z => z m1)), if_pos hc, if_pos ⟨par_up hx, Classical.not_and_iff_not_or_not.mp h2⟩]
theorem cst_off {n : Nat} {cs : List Int32} {s k : Nat} {p : Int32 × Int32} (h : n ≤ k + 1 ∨ ¬ p.2 < 0) : cst n cs s k p = p := if_pos (h.imp (fun z => by omega) id)
theorem cst_up {n : Nat} {cs : List Int32} {s k : Nat} {x : Int32} (h : pre n cs k 40 58) : cst n cs s k (x, -1) = (x + 1, -1) := by
  obtain ⟨h1, h2⟩ := h
  unfold cst
  rw [if_neg (fun z => z.elim (fun z => z (by omega)) (fun z => z m1)), if_pos h2]
theorem cst_dn {n : Nat} {cs : List Int32} {s k : Nat} {x : Int32} (h : pre n cs k 58 41) (hk : k = s ∨ ¬ cs.getD (k - 1) 0 = 40) : cst n cs s k (x, -1) = (x - 1, if x - 1 = 0 then Int32.ofNat (k + 2) else -1) := by
  obtain ⟨h1, h2, h3⟩ := h
  unfold cst
  rw [if_neg (fun z => z.elim (fun z => z (by omega)) (fun z => z m1)), if_neg (fun z => absurd (z.1.symm.trans h2) (by decide)), if_pos ⟨h2, h3, hk⟩]
theorem cst_no {n : Nat} {cs : List Int32} {s k : Nat} {x : Int32} (h1 : ¬ pre n cs k 40 58) (h2 : pre n cs k 58 41 → ¬ (k = s ∨ ¬ cs.getD (k - 1) 0 = 40)) : cst n cs s k (x, -1) = (x, -1) := by
  by_cases hk : k + 1 < n
  · unfold cst
    rw [if_neg (fun z => z.elim (fun z => z hk) (fun z => z m1)), if_neg (fun z => h1 ⟨by omega, z.1, z.2⟩), if_neg (fun z => h2 ⟨by omega, z.1, z.2.1⟩ z.2.2)]
  · exact cst_off (Or.inl (by omega))
theorem lrun_off {n : Nat} {cs : List Int32} {q : Int32} : ∀ (f j : Nat) (p : Int32 × Int32), n ≤ j ∨ ¬ p.2 < 0 → lrun n cs q f j p = p
  | 0, _, _, _ => rfl
  | f + 1, j, p, h => by
    have e : lst n cs j q p = p := if_pos (h.imp (fun z => by omega) id)
    show lrun n cs q f (j + 1) (lst n cs j q p) = p
    rw [e]; exact lrun_off f (j + 1) p (h.imp (fun z => by omega) id)
theorem crun_off {n : Nat} {cs : List Int32} {s : Nat} : ∀ (f j : Nat) (p : Int32 × Int32), n ≤ j + 1 ∨ ¬ p.2 < 0 → crun n cs s f j p = p
  | 0, _, _, _ => rfl
  | f + 1, j, p, h => by
    show crun n cs s f (j + 1) (cst n cs s j p) = p
    rw [cst_off h]; exact crun_off f (j + 1) p (h.imp (fun z => by omega) id)
theorem lrun_s {n : Nat} {cs : List Int32} {q : Int32} {f j : Nat} {p : Int32 × Int32} : lrun n cs q (f + 1) j p = lrun n cs q f (j + 1) (lst n cs j q p) := rfl
theorem crun_s {n : Nat} {cs : List Int32} {s f j : Nat} {p : Int32 × Int32} : crun n cs s (f + 1) j p = crun n cs s f (j + 1) (cst n cs s j p) := rfl
theorem lit_ok {n : Nat} {cs : List Int32} {q : Int32} (hn : n < 1000) : ∀ (f i g : Nat) (x : Int32), n - i < f → i ≤ n → n ≤ g + i → x &&& 1 = 0 → Int32.ofNat (litF n cs q f i) = fin n (lrun n cs q g i (x, -1)) := by
  intro f
  induction f with
  | zero => intro i g x hf; omega
  | succ f ih =>
    intro i g x hf hi hg hx
    rw [litF]
    by_cases h1 : i < n
    · rw [if_pos h1]
      obtain ⟨g, rfl⟩ : ∃ g', g = g' + 1 := ⟨g - 1, by omega⟩
      rw [lrun_s]
      by_cases h2 : cs.getD i 0 = q
      · rw [if_pos h2]
        by_cases h3 : i + 1 < n ∧ cs.getD (i + 1) 0 = q
        · rw [if_pos h3]
          obtain ⟨g, rfl⟩ : ∃ g', g = g' + 1 := ⟨g - 1, by omega⟩
          rw [lst_dbl h1 h2 h3, lrun_s, lst_odd h3.1 h3.2 (par_up hx)]
          exact ih (i + 2) g (x + 1 + 1) (by omega) (by omega) (by omega) (par_dn (par_up hx))
        · have hh : ¬ ((x + 1, Int32.ofNat (i + 1)) : Int32 × Int32).2 < 0 := n_nn (i := i + 1) (by omega)
          rw [if_neg h3, lst_end h1 h2 hx h3, lrun_off g (i + 1) _ (Or.inr hh), fin_pos (m := i + 1) (by omega)]
      · rw [if_neg h2, lst_skip h1 h2 hx]
        exact ih (i + 1) g x (by omega) (by omega) (by omega) hx
    · rw [if_neg h1, lrun_off g i _ (Or.inl (by omega)), fin_neg]
      have : i = n := by omega
      rw [this]
theorem comF_end {n : Nat} {cs : List Int32} {f i : Nat} {d : Int32} (h : ¬ i < n) : comF n cs f d i = i := by
  cases f with
  | zero => rfl
  | succ f => rw [comF, if_neg h]
theorem com_ok {n : Nat} {cs : List Int32} {s : Nat} (hn : n < 1000) : ∀ (f i g : Nat) (d : Int32), n - i < f → i ≤ n → n ≤ g + i + 1 → s ≤ i → (i = s ∨ ¬ (cs.getD (i - 1) 0 = 40 ∧ cs.getD i 0 = 58)) → Int32.ofNat (comF n cs f d i) = fin n (crun n cs s g i (d, -1)) := by
  intro f
  induction f with
  | zero => intro i g d hf; omega
  | succ f ih =>
    intro i g d hf hi hg hsi hI
    rw [comF]
    have two : ∀ (g : Nat) (d' : Int32), i + 2 ≤ n → n ≤ g + 1 + i + 1 → (cs.getD (i + 1) 0 = 58 ∧ cs.getD i 0 = 40 ∨ cs.getD (i + 1) 0 = 41) → Int32.ofNat (comF n cs f d' (i + 2)) = fin n (crun n cs s g (i + 1) (d', -1)) := fun g d' a1 a2 a3 => by
      have hI2 : i + 2 = s ∨ ¬ (cs.getD (i + 2 - 1) 0 = 40 ∧ cs.getD (i + 2) 0 = 58) := Or.inr (fun z => by
        have z1 : cs.getD (i + 1) 0 = 40 := z.1
        rcases a3 with a3 | a3
        · exact absurd (z1.symm.trans a3.1) (by decide)
        · exact absurd (z1.symm.trans a3) (by decide))
      cases g with
      | zero =>
        show _ = fin n (crun n cs s 0 (i + 2) (d', -1))
        exact ih (i + 2) 0 d' (by omega) a1 (by omega) (by omega) hI2
      | succ g =>
        rw [crun_s, cst_no (k := i + 1)]
        · exact ih (i + 2) g d' (by omega) a1 (by omega) (by omega) hI2
        · intro z
          have z1 := z.2.1
          rcases a3 with a3 | a3
          · exact absurd (z1.symm.trans a3.1) (by decide)
          · exact absurd (z1.symm.trans a3) (by decide)
        · intro z w
          rcases a3 with a3 | a3
          · rcases w with w | w
            · omega
            · exact w a3.2
          · exact absurd (z.2.1.symm.trans a3) (by decide)
    by_cases h1 : i < n
    · rw [if_pos h1]
      by_cases h2 : pre n cs i 40 58
      · rw [if_pos h2]
        obtain ⟨g, rfl⟩ : ∃ g', g = g' + 1 := ⟨g - 1, by have := h2.1; omega⟩
        rw [crun_s, cst_up h2]
        exact two g (d + 1) h2.1 (by omega) (Or.inl ⟨h2.2.2, h2.2.1⟩)
      · rw [if_neg h2]
        by_cases h3 : pre n cs i 58 41
        · rw [if_pos h3]
          obtain ⟨g, rfl⟩ : ∃ g', g = g' + 1 := ⟨g - 1, by have := h3.1; omega⟩
          have hk : i = s ∨ ¬ cs.getD (i - 1) 0 = 40 := hI.imp id (fun z w => z ⟨w, h3.2.1⟩)
          have ed : d + (-1) = d - 1 := by rw [Int32.sub_eq_add_neg]
          rw [crun_s, cst_dn h3 hk, ed]
          by_cases h4 : d - 1 = 0
          · have hh : ¬ ((d - 1, Int32.ofNat (i + 2)) : Int32 × Int32).2 < 0 := n_nn (i := i + 2) (by omega)
            rw [if_pos h4, if_pos h4, crun_off g (i + 1) _ (Or.inr hh), fin_pos (m := i + 2) (by omega)]
          · rw [if_neg h4, if_neg h4]
            exact two g (d - 1) h3.1 (by omega) (Or.inr h3.2.2)
        · rw [if_neg h3]
          by_cases hin : i + 1 < n
          · obtain ⟨g, rfl⟩ : ∃ g', g = g' + 1 := ⟨g - 1, by omega⟩
            rw [crun_s, cst_no h2 (fun z => absurd z h3)]
            exact ih (i + 1) g d (by omega) (by omega) (by omega) (by omega) (Or.inr fun z => h2 ⟨by omega, z.1, z.2⟩)
          · have e : i + 1 = n := by omega
            rw [crun_off g i _ (Or.inl (by omega)), fin_neg, comF_end (by omega), e]
    · rw [if_neg h1, crun_off g i _ (Or.inl (by omega)), fin_neg]
      have : i = n := by omega
      rw [this]
def refF (n : Nat) (cs : List Int32) (s : Nat) : Int32 :=
  if cs.getD s 0 = 34 ∨ cs.getD s 0 = 39 then fin n (lrun n cs (cs.getD s 0) 9 (s + 1) (0, -1)) else if cs.getD s 0 = 40 ∧ s + 1 < n ∧ cs.getD (s + 1) 0 = 58 then fin n (crun n cs s 9 s (0, -1)) else Int32.ofNat s
theorem ref_ok {cs : List Int32} {s : Nat} (hs : s ≤ 2) : Int32.ofNat (aloc 10 cs s) = refF 10 cs s := by
  unfold aloc refF
  by_cases h1 : cs.getD s 0 = 34 ∨ cs.getD s 0 = 39
  · rw [if_pos h1, if_pos h1]; exact lit_ok (by decide) 11 (s + 1) 9 0 (by omega) (by omega) (by omega) (by decide)
  · rw [if_neg h1, if_neg h1]
    by_cases h2 : pre 10 cs s 40 58
    · rw [if_pos h2, if_pos ⟨h2.2.1, by have := h2.1; omega, h2.2.2⟩]
      exact com_ok (by decide) 11 s 9 0 (by omega) (by omega) (by omega) (Nat.le_refl _) (Or.inl rfl)
    · rw [if_neg h2, if_neg (fun z => h2 ⟨by have := z.2.1; omega, z.1, z.2.2⟩)]
theorem if_z {P : Prop} [Decidable P] (h : (if P then (1 : Int32) else 0) = 0) : ¬ P := fun z => by rw [if_pos z] at h; exact absurd h (by decide)
theorem if_o {P : Prop} [Decidable P] (h : ¬ (if P then (1 : Int32) else 0) = 0) : P := Classical.byContradiction fun z => h (if_neg z)
section
variable {n : Nat} {cs : List Int32} {f i : Nat} {d q : Int32}
theorem comF_0 (h : ¬ i < n) : comF n cs (f + 1) d i = i := comF_end h
theorem comF_1 (h1 : i < n) (h2 : pre n cs i 40 58) : comF n cs (f + 1) d i = comF n cs f (d + 1) (i + 2) := by rw [comF, if_pos h1, if_pos h2]
theorem comF_2 (h1 : i < n) (h2 : ¬ pre n cs i 40 58) (h3 : pre n cs i 58 41) (h4 : d + (-1) = 0) : comF n cs (f + 1) d i = i + 2 := by rw [comF, if_pos h1, if_neg h2, if_pos h3, if_pos h4]
theorem comF_3 (h1 : i < n) (h2 : ¬ pre n cs i 40 58) (h3 : pre n cs i 58 41) (h4 : ¬ d + (-1) = 0) : comF n cs (f + 1) d i = comF n cs f (d + (-1)) (i + 2) := by rw [comF, if_pos h1, if_neg h2, if_pos h3, if_neg h4]
theorem comF_4 (h1 : i < n) (h2 : ¬ pre n cs i 40 58) (h3 : ¬ pre n cs i 58 41) : comF n cs (f + 1) d i = comF n cs f d (i + 1) := by rw [comF, if_pos h1, if_neg h2, if_neg h3]
theorem litF_0 (h : ¬ i < n) : litF n cs q (f + 1) i = i := by rw [litF, if_neg h]
theorem litF_1 (h1 : i < n) (h2 : ¬ cs.getD i 0 = q) : litF n cs q (f + 1) i = litF n cs q f (i + 1) := by rw [litF, if_pos h1, if_neg h2]
theorem litF_2 (h1 : i < n) (h2 : cs.getD i 0 = q) (h3 : i + 1 < n) (h4 : cs.getD (i + 1) 0 = q) : litF n cs q (f + 1) i = litF n cs q f (i + 2) := by rw [litF, if_pos h1, if_pos h2, if_pos ⟨h3, h4⟩]
theorem litF_3 (h1 : i < n) (h2 : cs.getD i 0 = q) (h3 : ¬ i + 1 < n) : litF n cs q (f + 1) i = i + 1 := by rw [litF, if_pos h1, if_pos h2, if_neg (fun z => h3 z.1)]
theorem litF_4 (h1 : i < n) (h2 : cs.getD i 0 = q) (h3 : ¬ cs.getD (i + 1) 0 = q) : litF n cs q (f + 1) i = i + 1 := by rw [litF, if_pos h1, if_pos h2, if_neg (fun z => h3 z.2)]
theorem len_map {m : Nat} (h : cs.length = m) (hm : m < 100000) : (Int32.ofNat m).toNatClampNeg = (cs.map Value.int).length := by rw [n_clamp hm, List.length_map, h]
theorem lt_map {m : Nat} (h : cs.length = m) (hi : i < m) : i < (cs.map Value.int).length := by rw [List.length_map, h]; exact hi
theorem len_mapb {m : Nat} (h : cs.length = m) (hm : m < 100000) : (Int32.ofNat m).toNatClampNeg = ((cs.map fun c => c.toInt8.toInt32).map Value.int).length := by rw [n_clamp hm, List.length_map, List.length_map, h]
theorem lt_mapb {m : Nat} (h : cs.length = m) (hi : i < m) : i < ((cs.map fun c => c.toInt8.toInt32).map Value.int).length := by rw [List.length_map, List.length_map, h]; exact hi
end
theorem n_sub1 {i : Nat} (h : 1 ≤ i) : Int32.ofNat i - 1 = Int32.ofNat (i - 1) := by
  obtain ⟨j, rfl⟩ : ∃ j, i = j + 1 := ⟨i - 1, by omega⟩
  rw [← n_add j 1]
  show Int32.ofNat j + Int32.ofNat 1 - Int32.ofNat 1 = Int32.ofNat j
  rw [Int32.sub_eq_add_neg, Int32.add_assoc, Int32.add_right_neg, Int32.add_zero]
theorem rem3 (x : Int32) : (x &&& 2147483647) % 3 = 0 ∨ (x &&& 2147483647) % 3 = 1 ∨ (x &&& 2147483647) % 3 = 2 := by
  have hb : (x &&& 2147483647).toBitVec.toNat ≤ 2147483647 := by rw [Int32.toBitVec_and, BitVec.toNat_and]; exact Nat.and_le_right
  have hx : (x &&& 2147483647).toInt = (x &&& 2147483647).toBitVec.toNat := by
    rw [← Int32.toInt_toBitVec, BitVec.toInt_eq_toNat_of_lt (by omega)]
  generalize x &&& 2147483647 = y at hb hx
  have e : (y % 3).toInt = y.toInt.tmod 3 := by rw [Int32.toInt_mod]; rfl
  have e2 : y.toInt.tmod 3 = y.toInt % 3 := Int.tmod_eq_emod_of_nonneg (by omega)
  have : (y % 3).toInt = 0 ∨ (y % 3).toInt = 1 ∨ (y % 3).toInt = 2 := by omega
  rcases this with q | q | q
  · exact Or.inl (Int32.toInt_inj.mp (q.trans rfl))
  · exact Or.inr (Or.inl (Int32.toInt_inj.mp (q.trans rfl)))
  · exact Or.inr (Or.inr (Int32.toInt_inj.mp (q.trans rfl)))
theorem lrun_e {n : Nat} {cs : List Int32} {q : Int32} {f j j' : Nat} {p p' : Int32 × Int32} (hj : j' = j + 1) (hp : p' = lst n cs j q (p.1, p.2)) : lrun n cs q (f + 1) j p = lrun n cs q f j' p' := by subst hj hp; rfl
theorem crun_e {n : Nat} {cs : List Int32} {s f j j' : Nat} {p p' : Int32 × Int32} (hj : j' = j + 1) (hp : p' = cst n cs s j (p.1, p.2)) : crun n cs s (f + 1) j p = crun n cs s f j' p' := by subst hj hp; rfl
/-! own text: two bytes a char -/
theorem n_shl1 {i : Nat} (h : i < 1000) : Int32.ofNat i <<< ((1 : Int32) &&& 31) = Int32.ofNat (2 * i) := by
  have : ∀ m : Fin 1000, Int32.ofNat m.val <<< ((1 : Int32) &&& 31) = Int32.ofNat (2 * m.val) := by decide +kernel
  exact this ⟨i, h⟩
theorem n_shr1 {i : Nat} (h : i < 1000) : Int32.ofNat (2 * i) >>> ((1 : Int32) &&& 31) = Int32.ofNat i := by
  have : ∀ m : Fin 1000, Int32.ofNat (2 * m.val) >>> ((1 : Int32) &&& 31) = Int32.ofNat m.val := by decide +kernel
  exact this ⟨i, h⟩
abbrev U16 (c : Int32) : Prop := ¬ c < 0 ∧ ¬ (65535 : Int32) < c
/-- the bytes of a UTF-16 String -/
def wb : List Int32 → List Value
  | [] => []
  | c :: t => .int c.toInt8.toInt32 :: .int (c >>> ((8 : Int32) &&& 31)).toInt8.toInt32 :: wb t
theorem wb_len : ∀ cs : List Int32, (wb cs).length = 2 * cs.length
  | [] => rfl
  | c :: t => by show (wb t).length + 1 + 1 = 2 * (t.length + 1); rw [wb_len t]; omega
theorem wb_lo : ∀ (cs : List Int32) (i : Nat), i < cs.length → (wb cs).getD (2 * i) (.int 0) = .int (cs.getD i 0).toInt8.toInt32
  | [], i, h => absurd h (Nat.not_lt_zero _)
  | c :: t, 0, _ => rfl
  | c :: t, i + 1, h => by
    show (wb t).getD (2 * i) (.int 0) = .int (t.getD i 0).toInt8.toInt32
    exact wb_lo t i (by simpa using h)
theorem wb_hi : ∀ (cs : List Int32) (i : Nat), i < cs.length → (wb cs).getD (2 * i + 1) (.int 0) = .int ((cs.getD i 0) >>> ((8 : Int32) &&& 31)).toInt8.toInt32
  | [], i, h => absurd h (Nat.not_lt_zero _)
  | c :: t, 0, _ => rfl
  | c :: t, i + 1, h => by
    show (wb t).getD (2 * i + 1) (.int 0) = .int ((t.getD i 0) >>> ((8 : Int32) &&& 31)).toInt8.toInt32
    exact wb_hi t i (by simpa using h)
theorem nar16 {c : Int32} (h : U16 c) : nar .char c = c := by
  have q := StrChars.narrow_ch h.1 h.2
  exact Value.int.inj q
/-- x is a String of two bytes a char -/
def StrU (Z : State) (h : Heap) (x : Addr) (cs : List Int32) : Prop := Exa Z h x "java/lang/String" ∧ Fld Z h x "java/lang/String" "coder" "B" (.int 1) ∧ (∀ c ∈ cs, U16 c) ∧ (∃ c ∈ cs, (255 : Int32) < c) ∧ ∃ (t : Addr) (kb : ClassId), Fld Z h x "java/lang/String" "value" "[B" (.ref t) ∧ Arv Z h t kb .byte (Int32.ofNat (2 * cs.length)) (wb cs) (.int 0)
/-- a String of the chars cs, each 0 to 65535 -/
def StrA (Z : State) (h : Heap) (x : Addr) (cs : List Int32) : Prop := Str Z h x cs ∨ StrU Z h x cs
section
variable {Z : State} {h h' : Heap} {x : Addr} {cs : List Int32}
theorem StrU.ext (S : StrU Z h x cs) (E : Ext h h') : StrU Z h' x cs := by
  obtain ⟨A, F, q, q2, t, kb, V, K⟩ := S
  exact ⟨A.ext E, F.ext E, q, q2, t, kb, V.ext E, K.ext E⟩
theorem StrA.ext (S : StrA Z h x cs) (E : Ext h h') : StrA Z h' x cs := S.imp (fun S => S.ext E) (fun S => S.ext E)
theorem StrA.exa (S : StrA Z h x cs) : Exa Z h x "java/lang/String" := S.elim (fun S => S.1) (fun S => S.1)
theorem StrA.lt (S : StrA Z h x cs) : x < h.size := S.exa.lt
end
/-! own text: the bytes as toBytes lays them -/
theorem shr0 (c : Int32) : c >>> ((0 : Int32) &&& 31) = c := by
  apply Int32.toBitVec_inj.mp
  rw [Int32.toBitVec_shiftRight]
  have e : (((0 : Int32) &&& 31).toBitVec.smod 32) = 0#32 := by decide
  rw [e, BitVec.sshiftRight_eq']
  show c.toBitVec.sshiftRight 0 = c.toBitVec
  exact BitVec.sshiftRight_zero
theorem i8_idem (c : Int32) : c.toInt8.toInt32.toInt8.toInt32 = c.toInt8.toInt32 := by rw [Int8.toInt8_toInt32]
theorem n_ltc {i : Nat} (h : i < 1000) : Int32.ofNat i < 1073741823 := by
  rw [Int32.lt_iff_toInt_lt, n_int (by omega)]
  have e : (1073741823 : Int32).toInt = 1073741823 := rfl
  rw [e]; omega
def wp : List Int32 → Nat → List Value
  | [], _ => []
  | c :: t, 0 => List.replicate (2 * (t.length + 1)) (.int 0)
  | c :: t, i + 1 => .int c.toInt8.toInt32 :: .int (c >>> ((8 : Int32) &&& 31)).toInt8.toInt32 :: wp t i
theorem wp_0 : ∀ cs : List Int32, wp cs 0 = List.replicate (2 * cs.length) (.int 0)
  | [] => rfl
  | c :: t => rfl
theorem wp_len : ∀ (cs : List Int32) (i : Nat), (wp cs i).length = 2 * cs.length
  | [], _ => rfl
  | c :: t, 0 => by rw [wp_0, List.length_replicate]
  | c :: t, i + 1 => by show (wp t i).length + 1 + 1 = 2 * (t.length + 1); rw [wp_len t i]; omega
theorem wp_full : ∀ cs : List Int32, wp cs cs.length = wb cs
  | [] => rfl
  | c :: t => by show _ :: _ :: wp t t.length = _ :: _ :: wb t; rw [wp_full t]
theorem wp_set : ∀ (cs : List Int32) (i : Nat), i < cs.length → ((wp cs i).set (2 * i) (.int (cs.getD i 0).toInt8.toInt32)).set (2 * i + 1) (.int ((cs.getD i 0) >>> ((8 : Int32) &&& 31)).toInt8.toInt32) = wp cs (i + 1)
  | [], i, h => absurd h (Nat.not_lt_zero _)
  | c :: t, 0, _ => by
    rw [wp_0]
    have e : 2 * (c :: t).length = 2 * t.length + 1 + 1 := by show 2 * (t.length + 1) = _; omega
    rw [e, List.replicate_succ, List.replicate_succ]
    show _ :: _ :: List.replicate (2 * t.length) (Value.int 0) = _ :: _ :: wp t 0
    rw [wp_0]; rfl
  | c :: t, i + 1, h => by
    have q := wp_set t i (by simpa using h)
    show _ :: _ :: ((wp t i).set (2 * i) _).set (2 * i + 1) _ = _ :: _ :: wp t (i + 1)
    rw [← q]; rfl
theorem getD_mem : ∀ (cs : List Int32) (j : Nat), j < cs.length → cs.getD j 0 ∈ cs
  | [], j, h => absurd h (Nat.not_lt_zero _)
  | c :: t, 0, _ => List.mem_cons_self
  | c :: t, j + 1, h => List.mem_cons_of_mem _ (by show t.getD j 0 ∈ t; exact getD_mem t j (by simpa using h))
theorem lat_or : ∀ cs : List Int32, (∀ c ∈ cs, U16 c) → (∀ c ∈ cs, Lat c) ∨ ∃ j, j < cs.length ∧ (∀ i, i < j → ¬ (255 : Int32) < cs.getD i 0) ∧ (255 : Int32) < cs.getD j 0
  | [], _ => Or.inl fun c hc => nomatch hc
  | c :: t, h => by
    by_cases hc : (255 : Int32) < c
    · exact Or.inr ⟨0, Nat.succ_pos _, fun i hi => absurd hi (Nat.not_lt_zero _), hc⟩
    · rcases lat_or t (fun d hd => h d (List.mem_cons_of_mem _ hd)) with q | ⟨j, h1, h2, h3⟩
      · refine Or.inl fun d hd => ?_
        rcases List.mem_cons.mp hd with rfl | hd
        · exact ⟨(h _ List.mem_cons_self).1, hc⟩
        · exact q d hd
      · refine Or.inr ⟨j + 1, Nat.succ_lt_succ h1, fun i hi => ?_, h3⟩
        cases i with
        | zero => exact hc
        | succ i => exact h2 i (by omega)
theorem StrA.lat {Z : State} {h : Heap} {x : Addr} {cs : List Int32} (S : Str Z h x cs) : StrA Z h x cs := Or.inl S
theorem StrA.utf {Z : State} {h : Heap} {x : Addr} {cs : List Int32} (S : StrU Z h x cs) : StrA Z h x cs := Or.inr S
theorem and16 (x : Int32) : U16 (x &&& 65535) := by
  have h : (x &&& 65535).toBitVec.toNat ≤ 65535 := by
    rw [Int32.toBitVec_and, BitVec.toNat_and]; exact Nat.and_le_right
  have e : (x &&& 65535).toInt = (x &&& 65535).toBitVec.toNat := by
    rw [← Int32.toInt_toBitVec, BitVec.toInt_eq_toNat_of_lt (by omega)]
  constructor
  · rw [Int32.lt_iff_toInt_lt, e]; have : (0 : Int32).toInt = 0 := rfl; omega
  · rw [Int32.lt_iff_toInt_lt, e]; have : (65535 : Int32).toInt = 65535 := rfl; omega
theorem rem6 (x : Int32) : (x &&& 2147483647) % 6 = 0 ∨ (x &&& 2147483647) % 6 = 1 ∨ (x &&& 2147483647) % 6 = 2 ∨ (x &&& 2147483647) % 6 = 3 ∨ (x &&& 2147483647) % 6 = 4 ∨ (x &&& 2147483647) % 6 = 5 := by
  have hb : (x &&& 2147483647).toBitVec.toNat ≤ 2147483647 := by
    rw [Int32.toBitVec_and, BitVec.toNat_and]; exact Nat.and_le_right
  have e : (x &&& 2147483647).toInt = (x &&& 2147483647).toBitVec.toNat := by
    rw [← Int32.toInt_toBitVec, BitVec.toInt_eq_toNat_of_lt (by omega)]
  have e2 : ((x &&& 2147483647) % 6).toInt = (x &&& 2147483647).toInt.tmod 6 := Int32.toInt_mod _ _
  rw [e] at e2
  have e3 : ((((x &&& 2147483647).toBitVec.toNat : Nat) : Int)).tmod 6 = (((x &&& 2147483647).toBitVec.toNat % 6 : Nat) : Int) := rfl
  rw [e3] at e2
  have hl : (x &&& 2147483647).toBitVec.toNat % 6 < 6 := Nat.mod_lt _ (by decide)
  generalize (x &&& 2147483647).toBitVec.toNat % 6 = r at e2 hl
  have k : ∀ m : Nat, m < 6 → r = m → (x &&& 2147483647) % 6 = Int32.ofNat m := fun m hm hr => by
    apply Int32.toInt_inj.mp; rw [e2, n_int (by omega), hr]
  rcases (by omega : r = 0 ∨ r = 1 ∨ r = 2 ∨ r = 3 ∨ r = 4 ∨ r = 5) with q | q | q | q | q | q
  · exact Or.inl (k 0 (by decide) q)
  · exact Or.inr (Or.inl (k 1 (by decide) q))
  · exact Or.inr (Or.inr (Or.inl (k 2 (by decide) q)))
  · exact Or.inr (Or.inr (Or.inr (Or.inl (k 3 (by decide) q))))
  · exact Or.inr (Or.inr (Or.inr (Or.inr (Or.inl (k 4 (by decide) q)))))
  · exact Or.inr (Or.inr (Or.inr (Or.inr (Or.inr (k 5 (by decide) q)))))
theorem cfl {N : Nat} (h0 : 0 < N) (h : N < 1000) : (XT.ushr (Int32.ofNat N - Int32.ofNat (2 * N)) 31).toInt8.toInt32 = 1 := by
  have : ∀ m : Fin 999, (XT.ushr (Int32.ofNat (m.val + 1) - Int32.ofNat (2 * (m.val + 1))) 31).toInt8.toInt32 = 1 := by decide +kernel
  obtain ⟨m, rfl⟩ : ∃ m, N = m + 1 := ⟨N - 1, by omega⟩
  exact this ⟨m, by omega⟩
theorem eq_sta {args : Array Value} {first s : State} {o : Option Outcome} {idx : List Nat} {t : Term} {v : Int32} (h : (Cond.eq t (Term.int v)).value args first o s idx = some true) : t.eval args first o idx s = some (.int v) := by
  obtain ⟨x, y, e1, e2, -, k⟩ := cmp_v (Or.inl h)
  rw [Term.int_eval] at e2
  cases e2
  obtain ⟨z, rfl⟩ := k
  have q := gotT (Cond.eq_ints e1 (Term.int_eval v)) h
  rw [e1, q]
/-! own text: what TraceIds reckons -/
def okD (c : Int32) : Int32 := if c = 45 then 1 else if c = 95 then 1 else if c = 46 then 1 else 0
def okC (c : Int32) : Int32 := if c < 48 then okD c else if (57 : Int32) < c then okD c else 1
def okB (c : Int32) : Int32 := if c < 65 then okC c else if (90 : Int32) < c then okC c else 1
def okA (c : Int32) : Int32 := if c < 97 then okB c else if (122 : Int32) < c then okB c else 1
theorem okA_01 (c : Int32) : okA c = 0 ∨ okA c = 1 := by
  unfold okA okB okC okD
  repeat' split
  all_goals first | exact Or.inl rfl | exact Or.inr rfl
theorem ok_1 {c : Int32} (h : ¬ okA c = 0) : okA c = 1 := (okA_01 c).resolve_left h
def accL (cs : List Int32) : Nat → Nat → Int32
  | 0, _ => 1
  | f + 1, i => if i < cs.length then (if okA (cs.getD i 0) = 0 then 0 else accL cs f (i + 1)) else 1
theorem acl_0 {cs : List Int32} {f i : Nat} (h : ¬ i < cs.length) : accL cs (f + 1) i = 1 := if_neg h
theorem acl_1 {cs : List Int32} {f i : Nat} (h : i < cs.length) (q : okA (cs.getD i 0) = 0) : accL cs (f + 1) i = 0 := by rw [accL, if_pos h, if_pos q]
theorem acl_2 {cs : List Int32} {f i : Nat} (h : i < cs.length) (q : ¬ okA (cs.getD i 0) = 0) : accL cs (f + 1) i = accL cs f (i + 1) := by rw [accL, if_pos h, if_neg q]
def accF (cs : List Int32) : Int32 := if cs.length = 0 then 0 else if 64 < cs.length then 0 else accL cs (cs.length + 1) 0
theorem acl_all {cs : List Int32} (h : ∀ c ∈ cs, ¬ okA c = 0) : ∀ f i : Nat, accL cs f i = 1
  | 0, _ => rfl
  | f + 1, i => by
    by_cases q : i < cs.length
    · rw [acl_2 q (h _ (getD_mem cs i q))]; exact acl_all h f (i + 1)
    · exact acl_0 q
theorem acl_bad {cs : List Int32} {j : Nat} (hj : j < cs.length) (h : okA (cs.getD j 0) = 0) : ∀ f i : Nat, i ≤ j → j < i + f → accL cs f i = 0
  | 0, i, h1, h2 => by omega
  | f + 1, i, h1, h2 => by
    by_cases q : okA (cs.getD i 0) = 0
    · exact acl_1 (by omega) q
    · rw [acl_2 (by omega) q]
      have : i ≠ j := fun e => q (e ▸ h)
      exact acl_bad hj h f (i + 1) (by omega) (by omega)
theorem acc_ok {cs : List Int32} (h0 : 0 < cs.length) (h1 : cs.length ≤ 64) (h : ∀ c ∈ cs, ¬ okA c = 0) : accF cs = 1 := by
  rw [accF, if_neg (by omega), if_neg (by omega)]; exact acl_all h _ _
theorem acc_bad {cs : List Int32} {j : Nat} (h1 : cs.length ≤ 64) (hj : j < cs.length) (h : okA (cs.getD j 0) = 0) : accF cs = 0 := by
  rw [accF, if_neg (by omega), if_neg (by omega)]; exact acl_bad hj h _ _ (Nat.zero_le _) (by omega)
theorem acc_big {cs : List Int32} (h : 64 < cs.length) : accF cs = 0 := by rw [accF, if_neg (by omega), if_pos h]
theorem acc_1 (a : Int32) : accF [a] = okA a := by
  rcases okA_01 a with q | q
  · rw [q]; exact acc_bad (cs := [a]) (j := 0) (by simp) (by simp) q
  · rw [q]; exact acc_ok (by simp) (by simp) fun c hc => by
      rcases List.mem_singleton.mp hc with rfl
      rw [q]; decide
theorem acc_2 {a b : Int32} (h : ¬ okA a = 0) (h1 : ¬ okA b = 0) : accF [a, b] = 1 := acc_ok (by simp) (by simp) fun c hc => by
  simp only [List.mem_cons, List.not_mem_nil, or_false] at hc
  rcases hc with rfl | rfl <;> assumption
theorem acc_2a {a b : Int32} (h : okA a = 0) : accF [a, b] = 0 := acc_bad (cs := [a, b]) (j := 0) (by simp) (by simp) h
theorem acc_2b {a b : Int32} (h : okA b = 0) : accF [a, b] = 0 := acc_bad (cs := [a, b]) (j := 1) (by simp) (by simp) h
theorem acc_3 {a b c : Int32} (h : ¬ okA a = 0) (h1 : ¬ okA b = 0) (h2 : ¬ okA c = 0) : accF [a, b, c] = 1 := acc_ok (by simp) (by simp) fun d hd => by
  simp only [List.mem_cons, List.not_mem_nil, or_false] at hd
  rcases hd with rfl | rfl | rfl <;> assumption
theorem acc_3a {a b c : Int32} (h : okA a = 0) : accF [a, b, c] = 0 := acc_bad (cs := [a, b, c]) (j := 0) (by simp) (by simp) h
theorem acc_3b {a b c : Int32} (h : okA b = 0) : accF [a, b, c] = 0 := acc_bad (cs := [a, b, c]) (j := 1) (by simp) (by simp) h
theorem acc_3c {a b c : Int32} (h : okA c = 0) : accF [a, b, c] = 0 := acc_bad (cs := [a, b, c]) (j := 2) (by simp) (by simp) h
section
variable {bs : List Int32} {i j : Nat} {x y : Int32}
theorem set2_len : ((bs.set i x).set j y).length = bs.length := by rw [List.length_set, List.length_set]
theorem set2_all {P : Int32 → Prop} (hb : ∀ c ∈ bs, P c) (hx : P x) (hy : P y) : ∀ c ∈ (bs.set i x).set j y, P c := fun c hc => by
  rcases List.mem_or_eq_of_mem_set hc with hc | rfl
  · rcases List.mem_or_eq_of_mem_set hc with hc | rfl
    · exact hb c hc
    · exact hx
  · exact hy
theorem set2_j (hj : j < bs.length) : ((bs.set i x).set j y).getD j 0 = y := by
  rw [List.getD_eq_getElem?_getD, List.getElem?_set_self (by rw [List.length_set]; exact hj)]; rfl
theorem set2_i (hi : i < bs.length) (h : ¬ i = j) : ((bs.set i x).set j y).getD i 0 = x := by
  rw [List.getD_eq_getElem?_getD, List.getElem?_set_ne (Ne.symm h), List.getElem?_set_self hi]; rfl
theorem acc_s1 (hl : bs.length = 64) (hb : ∀ c ∈ bs, ¬ okA c = 0) (hx : ¬ okA x = 0) (hy : ¬ okA y = 0) : accF ((bs.set i x).set j y) = 1 :=
  acc_ok (by rw [set2_len]; omega) (by rw [set2_len]; omega) (set2_all hb hx hy)
theorem acc_s1e (hl : bs.length = 64) (hb : ∀ c ∈ bs, ¬ okA c = 0) (e : i = j) (hy : ¬ okA y = 0) : accF ((bs.set i x).set j y) = 1 := by
  subst e
  rw [List.set_set]
  exact acc_ok (by rw [List.length_set]; omega) (by rw [List.length_set]; omega) fun c hc => by
    rcases List.mem_or_eq_of_mem_set hc with hc | rfl
    · exact hb c hc
    · exact hy
theorem acc_sy (hl : bs.length = 64) (hj : j < 64) (hy : okA y = 0) : accF ((bs.set i x).set j y) = 0 :=
  acc_bad (j := j) (by rw [set2_len]; omega) (by rw [set2_len]; omega) (by rw [set2_j (by omega)]; exact hy)
theorem acc_sx (hl : bs.length = 64) (hi : i < 64) (h : ¬ i = j) (hx : okA x = 0) : accF ((bs.set i x).set j y) = 0 :=
  acc_bad (j := i) (by rw [set2_len]; omega) (by rw [set2_len]; omega) (by rw [set2_i (by omega) h]; exact hx)
theorem acc_sb (hl : bs.length = 65) : accF ((bs.set i x).set j y) = 0 := acc_big (by rw [set2_len]; omega)
end
theorem msk_nonneg (x : Int32) : ¬ (x &&& 2147483647) < 0 := by
  have hb : (x &&& 2147483647).toBitVec.toNat ≤ 2147483647 := by
    rw [Int32.toBitVec_and, BitVec.toNat_and]; exact Nat.and_le_right
  have e : (x &&& 2147483647).toInt = (x &&& 2147483647).toBitVec.toNat := by
    rw [← Int32.toInt_toBitVec, BitVec.toInt_eq_toNat_of_lt (by omega)]
  rw [Int32.lt_iff_toInt_lt, e]; have : (0 : Int32).toInt = 0 := rfl; omega
theorem rem_small {x : Int32} (hx : ¬ x < 0) {n : Nat} (h0 : 0 < n) (hn : n < 1000) : ∃ i, i < n ∧ x % Int32.ofNat n = Int32.ofNat i := by
  rw [Int32.lt_iff_toInt_lt] at hx
  have z : (0 : Int32).toInt = 0 := rfl
  have e2 : (x % Int32.ofNat n).toInt = x.toInt.tmod (Int32.ofNat n).toInt := Int32.toInt_mod _ _
  rw [n_int (by omega)] at e2
  obtain ⟨m, hm⟩ : ∃ m : Nat, x.toInt = m := ⟨x.toInt.toNat, by omega⟩
  rw [hm] at e2
  have e3 : ((m : Int)).tmod (n : Int) = ((m % n : Nat) : Int) := rfl
  refine ⟨m % n, Nat.mod_lt _ h0, ?_⟩
  have hl := Nat.mod_lt m h0
  apply Int32.toInt_inj.mp
  rw [e2, e3, n_int (by omega)]
theorem rem7 (x : Int32) : (x &&& 2147483647) % 7 = 0 ∨ (x &&& 2147483647) % 7 = 1 ∨ (x &&& 2147483647) % 7 = 2 ∨ (x &&& 2147483647) % 7 = 3 ∨ (x &&& 2147483647) % 7 = 4 ∨ (x &&& 2147483647) % 7 = 5 ∨ (x &&& 2147483647) % 7 = 6 := by
  obtain ⟨i, hi, e⟩ := rem_small (msk_nonneg x) (n := 7) (by decide) (by decide)
  have e : (x &&& 2147483647) % 7 = Int32.ofNat i := e
  rw [e]
  rcases (by omega : i = 0 ∨ i = 1 ∨ i = 2 ∨ i = 3 ∨ i = 4 ∨ i = 5 ∨ i = 6) with rfl | rfl | rfl | rfl | rfl | rfl | rfl <;> simp
theorem ushr16_nn (x : Int32) : ¬ XT.ushr x 16 < 0 := by
  have e : (XT.ushr x 16).toBitVec = x.toBitVec >>> 16 := by
    show ((x.toUInt32 >>> (((16 : Int32) &&& 31).toUInt32)).toBitVec) = x.toBitVec >>> 16
    rw [UInt32.toBitVec_shiftRight]
    rfl
  have hb : (XT.ushr x 16).toBitVec.toNat < 65536 := by
    rw [e, BitVec.toNat_ushiftRight, Nat.shiftRight_eq_div_pow]
    have := x.toBitVec.isLt
    omega
  have e2 : (XT.ushr x 16).toInt = (XT.ushr x 16).toBitVec.toNat := by
    rw [← Int32.toInt_toBitVec, BitVec.toInt_eq_toNat_of_lt (by omega)]
  rw [Int32.lt_iff_toInt_lt, e2]; have : (0 : Int32).toInt = 0 := rfl; omega
theorem and7 (x : Int32) : U16 (x &&& 127) := by
  have h : (x &&& 127).toBitVec.toNat ≤ 127 := by
    rw [Int32.toBitVec_and, BitVec.toNat_and]; exact Nat.and_le_right
  have e : (x &&& 127).toInt = (x &&& 127).toBitVec.toNat := by
    rw [← Int32.toInt_toBitVec, BitVec.toInt_eq_toNat_of_lt (by omega)]
  constructor
  · rw [Int32.lt_iff_toInt_lt, e]; have : (0 : Int32).toInt = 0 := rfl; omega
  · rw [Int32.lt_iff_toInt_lt, e]; have : (65535 : Int32).toInt = 65535 := rfl; omega
theorem if_z1 {p : Prop} [Decidable p] (h : (if p then (0 : Int32) else 1) = 0) : p := Classical.byContradiction fun q => by rw [if_neg q] at h; exact absurd h (by decide)
theorem if_o1 {p : Prop} [Decidable p] (h : ¬ (if p then (0 : Int32) else 1) = 0) : ¬ p := fun q => h (if_pos q)
set_option maxRecDepth 65536 in
set_option maxHeartbeats 40000000 in
theorem rm_pci (l : Launch) (Z : State) (a0 : Array Value) (hw : ∀ d ∈ tables_1, d.before a0 Z = true) (n0 : Nat) (h0 : Heap) (X0 : Old Z n0 h0) (i : Nat) (N : Nat) (fm : Value) (rf : fm.isRef = true) (hi : i < N) (hN : N < 1000) :
    Met l Z n0 (⟨"jdk/internal/util/Preconditions", "checkIndex", "(IILjava/util/function/BiFunction;)I"⟩ : MethodName) jdk_41_method_11_code 3 (some .int) ({ frames := 0, cells := 0, slots := 0, locals := 0 } : Room) #[(.int (Int32.ofNat i)), (.int (Int32.ofNat N)), fm] h0 (fun v h => v = some (.int (Int32.ofNat i)) ∧ h = h0) := by
  refine met_of (plainFor_of_name pn_0) hw (L := #[.val (.int (Int32.ofNat i)), .val (.int (Int32.ofNat N)), .val fm]) (fun m => by rcases ref_cases rf with rfl | ⟨_, rfl⟩ <;> first | (simp [entryFrame, mkF, argsToLocals, Value.category]; done) | rfl) fun C hl hwd hE hPL hcs hr o => ?_
  subst hl
  have o : Ok C Z a0 jdk_41_method_11_code 3 (some .int) "checkIndex" "jdk/internal/util/Preconditions" ({ frames := 0, cells := 0, slots := 0, locals := 0 } : Room) := o
  refine g_iload_n o (pc := 0) d_jdk_41_method_11_0 rfl ?_
  refine g_ifC o (pc := 1) d_jdk_41_method_11_1 (t := 9) (by decide) rfl c_lt (fun hy1 => absurd hy1 (n_nn (by omega))) (fun _ => ?_)
  refine g_iload_n o (pc := 4) d_jdk_41_method_11_4 rfl ?_
  refine g_iload_n o (pc := 5) d_jdk_41_method_11_5 rfl ?_
  refine g_icmp o (pc := 6) d_jdk_41_method_11_6 (t := 16) (by decide) rfl c_lt (fun _ => ?_) (fun hn2 => absurd ((n_lt (by omega) (by omega)).mpr hi) hn2)
  refine g_iload_n o (pc := 16) d_jdk_41_method_11_16 rfl ?_
  refine g_ireturn o (pc := 17) d_jdk_41_method_11_17 ?_ (by decide) (by decide)
  exact ⟨rfl, rfl⟩
set_option maxRecDepth 65536 in
set_option maxHeartbeats 40000000 in
theorem rm_sci (l : Launch) (Z : State) (a0 : Array Value) (hw : ∀ d ∈ tables_1, d.before a0 Z = true) (n0 : Nat) (h0 : Heap) (X0 : Old Z n0 h0) (i : Nat) (N : Nat) (fm : Value) (Sf : Sta Z Z.heap "jdk/internal/util/Preconditions" "SIOOBE_FORMATTER" "Ljava/util/function/BiFunction;" fm) (rf : fm.isRef = true) (hi : i < N) (hN : N < 1000) :
    Met l Z n0 (⟨"java/lang/String", "checkIndex", "(II)V"⟩ : MethodName) jdk_42_method_155_code 2 none ({ frames := 1, cells := 0, slots := 0, locals := 14 } : Room) #[(.int (Int32.ofNat i)), (.int (Int32.ofNat N))] h0 (fun v h => v = none ∧ h = h0) := by
  refine met_of (plainFor_of_name pn_1) hw (L := #[.val (.int (Int32.ofNat i)), .val (.int (Int32.ofNat N))]) (fun m => by first | (simp [entryFrame, mkF, argsToLocals, Value.category]; done) | rfl) fun C hl hwd hE hPL hcs hr o => ?_
  subst hl
  have o : Ok C Z a0 jdk_42_method_155_code 2 none "checkIndex" "java/lang/String" ({ frames := 1, cells := 0, slots := 0, locals := 14 } : Room) := o
  refine g_iload_n o (pc := 0) d_jdk_42_method_155_0 rfl ?_
  refine g_iload_n o (pc := 1) d_jdk_42_method_155_1 rfl ?_
  refine g_getS o (pc := 2) d_jdk_42_method_155_2 (wd_72 hw) Via.refl (Sf.ext X0.2) ?_
  refine g_static o (pc := 5) [(.int (Int32.ofNat i)), (.int (Int32.ofNat N)), fm] [] d_jdk_42_method_155_5 (wd_74 hw) (wd_75 hw) (wd_73 hw) (wd_76 hw) (by decide) (Met.back o (W := 0) (rm_pci C.l Z a0 hw n0 h0 X0 i N fm rf hi hN) (wd_76 hw) (wd_73 hw) (by decide) (by decide)) (fun _ _ _ q => q) (Or.inl hE) pd_0 rfl rfl rfl rfl (by decide) (by decide) fun v1 h2 q3 => ?_
  obtain ⟨rfl, hh⟩ := q3
  obtain rfl := hh.symm
  show Go C Z n0 (fun v h => v = none ∧ h = h0) [] h0 0 0 8 #[.val (.int (Int32.ofNat i)), .val (.int (Int32.ofNat N))] [(.int (Int32.ofNat i))]
  refine g_pop o (pc := 8) d_jdk_42_method_155_8 rfl ?_
  refine g_return o (pc := 9) d_jdk_42_method_155_9 ?_ (by decide) (by decide)
  exact ⟨rfl, rfl⟩
set_option maxRecDepth 65536 in
set_option maxHeartbeats 40000000 in
theorem rm_ulen (l : Launch) (Z : State) (a0 : Array Value) (hw : ∀ d ∈ tables_1, d.before a0 Z = true) (n0 : Nat) (h0 : Heap) (X0 : Old Z n0 h0) (t : Addr) (kt : ClassId) (vs : List Value) (N : Nat) (Kt : Arv Z h0 t kt .byte (Int32.ofNat (2 * N)) vs (.int 0)) (hN : N < 1000) :
    Met l Z n0 (⟨"java/lang/StringUTF16", "length", "([B)I"⟩ : MethodName) jdk_52_method_6_code 1 (some .int) ({ frames := 0, cells := 0, slots := 0, locals := 0 } : Room) #[(.ref t)] h0 (fun v h => v = some (.int (Int32.ofNat N)) ∧ h = h0) := by
  refine met_of (plainFor_of_name pn_2) hw (L := #[.val (.ref t)]) (fun m => by first | (simp [entryFrame, mkF, argsToLocals, Value.category]; done) | rfl) fun C hl hwd hE hPL hcs hr o => ?_
  subst hl
  have o : Ok C Z a0 jdk_52_method_6_code 1 (some .int) "length" "java/lang/StringUTF16" ({ frames := 0, cells := 0, slots := 0, locals := 0 } : Room) := o
  refine g_aload_n o (pc := 0) d_jdk_52_method_6_0 rfl rfl ?_
  refine g_alen o (pc := 1) d_jdk_52_method_6_1 Kt ?_
  refine g_iconst o (pc := 2) d_jdk_52_method_6_2 (v := 1) rfl ?_
  refine g_ishr o (pc := 3) d_jdk_52_method_6_3 (v := (Int32.ofNat N)) (n_shr1 hN) ?_
  refine g_ireturn o (pc := 4) d_jdk_52_method_6_4 ?_ (by decide) (by decide)
  exact ⟨rfl, rfl⟩
set_option maxRecDepth 65536 in
set_option maxHeartbeats 40000000 in
theorem rm_uci (l : Launch) (Z : State) (a0 : Array Value) (hw : ∀ d ∈ tables_1, d.before a0 Z = true) (n0 : Nat) (h0 : Heap) (X0 : Old Z n0 h0) (t : Addr) (kt : ClassId) (vs : List Value) (N : Nat) (i : Nat) (fm : Value) (Sf : Sta Z Z.heap "jdk/internal/util/Preconditions" "SIOOBE_FORMATTER" "Ljava/util/function/BiFunction;" fm) (rf : fm.isRef = true) (Kt : Arv Z h0 t kt .byte (Int32.ofNat (2 * N)) vs (.int 0)) (hN : N < 1000) (hi : i < N) :
    Met l Z n0 (⟨"java/lang/StringUTF16", "checkIndex", "(I[B)V"⟩ : MethodName) jdk_52_method_91_code 2 none ({ frames := 2, cells := 0, slots := 0, locals := 27 } : Room) #[(.int (Int32.ofNat i)), (.ref t)] h0 (fun v h => v = none ∧ h = h0) := by
  refine met_of (plainFor_of_name pn_2) hw (L := #[.val (.int (Int32.ofNat i)), .val (.ref t)]) (fun m => by first | (simp [entryFrame, mkF, argsToLocals, Value.category]; done) | rfl) fun C hl hwd hE hPL hcs hr o => ?_
  subst hl
  have o : Ok C Z a0 jdk_52_method_91_code 2 none "checkIndex" "java/lang/StringUTF16" ({ frames := 2, cells := 0, slots := 0, locals := 27 } : Room) := o
  refine g_iload_n o (pc := 0) d_jdk_52_method_91_0 rfl ?_
  refine g_aload_n o (pc := 1) d_jdk_52_method_91_1 rfl rfl ?_
  refine g_static o (pc := 2) [(.ref t)] [(.int (Int32.ofNat i))] d_jdk_52_method_91_2 (wd_109 hw) (wd_110 hw) (wd_27 hw) (wd_111 hw) (by decide) (Met.back o (W := 1) (rm_ulen C.l Z a0 hw n0 h0 X0 t kt vs N Kt hN) (wd_111 hw) (wd_27 hw) (by decide) (by decide)) (fun _ _ _ q => q) (Or.inl hE) pd_1 rfl rfl rfl rfl (by decide) (by decide) fun v1 h2 q3 => ?_
  obtain ⟨rfl, hh⟩ := q3
  obtain rfl := hh.symm
  show Go C Z n0 (fun v h => v = none ∧ h = h0) [] h0 0 0 5 #[.val (.int (Int32.ofNat i)), .val (.ref t)] [(.int (Int32.ofNat N)), (.int (Int32.ofNat i))]
  refine g_static o (pc := 5) [(.int (Int32.ofNat i)), (.int (Int32.ofNat N))] [] d_jdk_52_method_91_5 (wd_112 hw) (wd_70 hw) (wd_13 hw) (wd_71 hw) (by decide) (Met.back o (W := 0) (rm_sci C.l Z a0 hw n0 h0 X0 i N fm Sf rf hi hN) (wd_71 hw) (wd_13 hw) (by decide) (by decide)) (fun _ _ _ q => q) (Or.inl hE) pd_2 rfl rfl rfl rfl (by decide) (by decide) fun v4 h5 q6 => ?_
  obtain ⟨rfl, hh⟩ := q6
  obtain rfl := hh.symm
  show Go C Z n0 (fun v h => v = none ∧ h = h0) [] h0 0 0 8 #[.val (.int (Int32.ofNat i)), .val (.ref t)] []
  refine g_return o (pc := 8) d_jdk_52_method_91_8 ?_ (by decide) (by decide)
  exact ⟨rfl, rfl⟩
set_option maxRecDepth 65536 in
set_option maxHeartbeats 40000000 in
theorem rm_ugc (l : Launch) (Z : State) (a0 : Array Value) (hw : ∀ d ∈ tables_1, d.before a0 Z = true) (n0 : Nat) (h0 : Heap) (X0 : Old Z n0 h0) (t : Addr) (kt : ClassId) (cs : List Int32) (i : Nat) (Sa : Sta Z Z.heap "java/lang/StringUTF16" "$assertionsDisabled" "Z" (.int 1)) (Sh : Sta Z Z.heap "java/lang/StringUTF16" "HI_BYTE_SHIFT" "I" (.int 0)) (Sl : Sta Z Z.heap "java/lang/StringUTF16" "LO_BYTE_SHIFT" "I" (.int 8)) (Kt : Arv Z h0 t kt .byte (Int32.ofNat (2 * cs.length)) (wb cs) (.int 0)) (hN : cs.length < 1000) (hi : i < cs.length) (hu : ∀ ch_ ∈ cs, U16 ch_) :
    Met l Z n0 (⟨"java/lang/StringUTF16", "getChar", "([BI)C"⟩ : MethodName) jdk_52_method_5_code 2 (some .char) ({ frames := 0, cells := 0, slots := 0, locals := 0 } : Room) #[(.ref t), (.int (Int32.ofNat i))] h0 (fun v h => v = some (.int (cs.getD i 0)) ∧ h = h0) := by
  refine met_of (plainFor_of_name pn_2) hw (L := #[.val (.ref t), .val (.int (Int32.ofNat i))]) (fun m => by first | (simp [entryFrame, mkF, argsToLocals, Value.category]; done) | rfl) fun C hl hwd hE hPL hcs hr o => ?_
  subst hl
  have o : Ok C Z a0 jdk_52_method_5_code 2 (some .char) "getChar" "java/lang/StringUTF16" ({ frames := 0, cells := 0, slots := 0, locals := 0 } : Room) := o
  refine g_getS o (pc := 0) d_jdk_52_method_5_0 (wd_97 hw) Via.refl (Sa.ext X0.2) ?_
  refine g_ifCN o (pc := 3) d_jdk_52_method_5_3 (t := 28) (by decide) rfl c_ne (fun _ => ?_) (fun hn1 => absurd hn1 (by decide))
  refine g_iload_n o (pc := 28) d_jdk_52_method_5_28 rfl ?_
  refine g_iconst o (pc := 29) d_jdk_52_method_5_29 (v := 1) rfl ?_
  refine g_ishl o (pc := 30) d_jdk_52_method_5_30 (v := (Int32.ofNat (2 * i))) (n_shl1 (by omega)) ?_
  refine g_istore_n o (pc := 31) d_jdk_52_method_5_31 (L' := #[.val (.ref t), .val (.int (Int32.ofNat (2 * i)))]) rfl ?_
  refine g_aload_n o (pc := 32) d_jdk_52_method_5_32 rfl rfl ?_
  refine g_iload_n o (pc := 33) d_jdk_52_method_5_33 rfl ?_
  refine g_iinc o (pc := 34) d_jdk_52_method_5_34 rfl (w := (Int32.ofNat (2 * i + 1))) (n_add (2 * i) 1) (L' := #[.val (.ref t), .val (.int (Int32.ofNat (2 * i + 1)))]) rfl ?_
  refine g_bbload o (pc := 37) d_jdk_52_method_5_37 Kt (by rw [n_clamp (by omega), wb_len]) (n_nn (by omega)) (i := 2 * i) (n_clamp (by omega)) (by rw [wb_len]; omega) (v := .int (cs.getD i 0).toInt8.toInt32) (wb_lo cs i hi) ?_
  refine g_sipush o (pc := 38) d_jdk_52_method_5_38 (v := 255) rfl ?_
  refine g_iand o (pc := 41) d_jdk_52_method_5_41 (v := ((cs.getD i 0).toInt8.toInt32 &&& 255)) rfl ?_
  refine g_getS o (pc := 42) d_jdk_52_method_5_42 (wd_98 hw) Via.refl (Sh.ext X0.2) ?_
  refine g_ishl o (pc := 45) d_jdk_52_method_5_45 (v := (((cs.getD i 0).toInt8.toInt32 &&& 255) <<< (0 &&& 31))) rfl ?_
  refine g_aload_n o (pc := 46) d_jdk_52_method_5_46 rfl rfl ?_
  refine g_iload_n o (pc := 47) d_jdk_52_method_5_47 rfl ?_
  refine g_bbload o (pc := 48) d_jdk_52_method_5_48 Kt (by rw [n_clamp (by omega), wb_len]) (n_nn (by omega)) (i := 2 * i + 1) (n_clamp (by omega)) (by rw [wb_len]; omega) (v := .int ((cs.getD i 0) >>> ((8 : Int32) &&& 31)).toInt8.toInt32) (wb_hi cs i hi) ?_
  refine g_sipush o (pc := 49) d_jdk_52_method_5_49 (v := 255) rfl ?_
  refine g_iand o (pc := 52) d_jdk_52_method_5_52 (v := (((cs.getD i 0) >>> ((8 : Int32) &&& 31)).toInt8.toInt32 &&& 255)) rfl ?_
  refine g_getS o (pc := 53) d_jdk_52_method_5_53 (wd_99 hw) Via.refl (Sl.ext X0.2) ?_
  refine g_ishl o (pc := 56) d_jdk_52_method_5_56 (v := ((((cs.getD i 0) >>> ((8 : Int32) &&& 31)).toInt8.toInt32 &&& 255) <<< (8 &&& 31))) rfl ?_
  refine g_ior o (pc := 57) d_jdk_52_method_5_57 (v := ((((cs.getD i 0).toInt8.toInt32 &&& 255) <<< (0 &&& 31)) ||| ((((cs.getD i 0) >>> ((8 : Int32) &&& 31)).toInt8.toInt32 &&& 255) <<< (8 &&& 31)))) rfl ?_
  refine g_i2c o (pc := 58) d_jdk_52_method_5_58 (v := (cs.getD i 0)) (StrChars.pair_says (getD_all (P := U16) (by decide) hu i).1 (getD_all (P := U16) (by decide) hu i).2) ?_
  refine g_nreturn o (pc := 59) (by simp) d_jdk_52_method_5_59 (y := (cs.getD i 0)) (nar16 (getD_all (P := U16) (by decide) hu i)) ?_ (by decide) (by decide)
  exact ⟨rfl, rfl⟩
set_option maxRecDepth 65536 in
set_option maxHeartbeats 40000000 in
theorem rm_uch (l : Launch) (Z : State) (a0 : Array Value) (hw : ∀ d ∈ tables_1, d.before a0 Z = true) (n0 : Nat) (h0 : Heap) (X0 : Old Z n0 h0) (t : Addr) (kt : ClassId) (cs : List Int32) (i : Nat) (fm : Value) (Sa : Sta Z Z.heap "java/lang/StringUTF16" "$assertionsDisabled" "Z" (.int 1)) (Sh : Sta Z Z.heap "java/lang/StringUTF16" "HI_BYTE_SHIFT" "I" (.int 0)) (Sl : Sta Z Z.heap "java/lang/StringUTF16" "LO_BYTE_SHIFT" "I" (.int 8)) (Sf : Sta Z Z.heap "jdk/internal/util/Preconditions" "SIOOBE_FORMATTER" "Ljava/util/function/BiFunction;" fm) (rf : fm.isRef = true) (Kt : Arv Z h0 t kt .byte (Int32.ofNat (2 * cs.length)) (wb cs) (.int 0)) (hN : cs.length < 1000) (hi : i < cs.length) (hu : ∀ ch_ ∈ cs, U16 ch_) :
    Met l Z n0 (⟨"java/lang/StringUTF16", "charAt", "([BI)C"⟩ : MethodName) jdk_52_method_83_code 2 (some .char) ({ frames := 3, cells := 0, slots := 0, locals := 40 } : Room) #[(.ref t), (.int (Int32.ofNat i))] h0 (fun v h => v = some (.int (cs.getD i 0)) ∧ h = h0) := by
  refine met_of (plainFor_of_name pn_2) hw (L := #[.val (.ref t), .val (.int (Int32.ofNat i))]) (fun m => by first | (simp [entryFrame, mkF, argsToLocals, Value.category]; done) | rfl) fun C hl hwd hE hPL hcs hr o => ?_
  subst hl
  have o : Ok C Z a0 jdk_52_method_83_code 2 (some .char) "charAt" "java/lang/StringUTF16" ({ frames := 3, cells := 0, slots := 0, locals := 40 } : Room) := o
  refine g_iload_n o (pc := 0) d_jdk_52_method_83_0 rfl ?_
  refine g_aload_n o (pc := 1) d_jdk_52_method_83_1 rfl rfl ?_
  refine g_static o (pc := 2) [(.int (Int32.ofNat i)), (.ref t)] [] d_jdk_52_method_83_2 (wd_106 hw) (wd_107 hw) (wd_27 hw) (wd_108 hw) (by decide) (Met.back o (W := 0) (rm_uci C.l Z a0 hw n0 h0 X0 t kt (wb cs) cs.length i fm Sf rf Kt hN hi) (wd_108 hw) (wd_27 hw) (by decide) (by decide)) (fun _ _ _ q => q) (Or.inl hE) pd_3 rfl rfl rfl rfl (by decide) (by decide) fun v1 h2 q3 => ?_
  obtain ⟨rfl, hh⟩ := q3
  obtain rfl := hh.symm
  show Go C Z n0 (fun v h => v = some (.int (cs.getD i 0)) ∧ h = h0) [] h0 0 0 5 #[.val (.ref t), .val (.int (Int32.ofNat i))] []
  refine g_aload_n o (pc := 5) d_jdk_52_method_83_5 rfl rfl ?_
  refine g_iload_n o (pc := 6) d_jdk_52_method_83_6 rfl ?_
  refine g_static o (pc := 7) [(.ref t), (.int (Int32.ofNat i))] [] d_jdk_52_method_83_7 (wd_100 hw) (wd_101 hw) (wd_27 hw) (wd_102 hw) (by decide) (Met.back o (W := 0) (rm_ugc C.l Z a0 hw n0 h0 X0 t kt cs i Sa Sh Sl Kt hN hi hu) (wd_102 hw) (wd_27 hw) (by decide) (by decide)) (fun _ _ _ q => q) (Or.inl hE) pd_4 rfl rfl rfl rfl (by decide) (by decide) fun v4 h5 q6 => ?_
  obtain ⟨rfl, hh⟩ := q6
  obtain rfl := hh.symm
  show Go C Z n0 (fun v h => v = some (.int (cs.getD i 0)) ∧ h = h0) [] h0 0 0 10 #[.val (.ref t), .val (.int (Int32.ofNat i))] [(.int (cs.getD i 0))]
  refine g_nreturn o (pc := 10) (by simp) d_jdk_52_method_83_10 (y := (cs.getD i 0)) (nar16 (getD_all (P := U16) (by decide) hu i)) ?_ (by decide) (by decide)
  exact ⟨rfl, rfl⟩
set_option maxRecDepth 65536 in
set_option maxHeartbeats 40000000 in
theorem rm_isU (l : Launch) (Z : State) (a0 : Array Value) (hw : ∀ d ∈ tables_1, d.before a0 Z = true) (n0 : Nat) (h0 : Heap) (X0 : Old Z n0 h0) (x : Addr) (zc : Int32) (Sc : Sta Z Z.heap "java/lang/String" "COMPACT_STRINGS" "Z" (.int zc)) (nzc : ¬ zc = 0) (Fc : Fld Z h0 x "java/lang/String" "coder" "B" (.int 1)) :
    Met l Z n0 (⟨"java/lang/String", "isLatin1", "()Z"⟩ : MethodName) jdk_42_method_154_code 1 (some .boolean) ({ frames := 0, cells := 0, slots := 0, locals := 0 } : Room) #[(.ref x)] h0 (fun v h => v = some (.int 0) ∧ h = h0) := by
  refine met_of (plainFor_of_name pn_1) hw (L := #[.val (.ref x)]) (fun m => by first | (simp [entryFrame, mkF, argsToLocals, Value.category]; done) | rfl) fun C hl hwd hE hPL hcs hr o => ?_
  subst hl
  have o : Ok C Z a0 jdk_42_method_154_code 1 (some .boolean) "isLatin1" "java/lang/String" ({ frames := 0, cells := 0, slots := 0, locals := 0 } : Room) := o
  refine g_getS o (pc := 0) d_jdk_42_method_154_0 (wd_24 hw) Via.refl (Sc.ext X0.2) ?_
  refine g_ifC o (pc := 3) d_jdk_42_method_154_3 (t := 17) (by decide) rfl c_eq (fun hy1 => absurd hy1 nzc) (fun _ => ?_)
  refine g_aload_n o (pc := 6) d_jdk_42_method_154_6 rfl rfl ?_
  refine g_getF o (pc := 7) d_jdk_42_method_154_7 (wd_36 hw) Via.refl Fc ?_
  refine g_ifCN o (pc := 10) d_jdk_42_method_154_10 (t := 17) (by decide) rfl c_ne (fun _ => ?_) (fun hn2 => absurd hn2 (by decide))
  refine g_iconst o (pc := 17) d_jdk_42_method_154_17 (v := 0) rfl ?_
  refine g_nreturn o (pc := 18) (by simp) d_jdk_42_method_154_18 (y := 0) rfl ?_ (by decide) (by decide)
  exact ⟨rfl, rfl⟩
set_option maxRecDepth 65536 in
set_option maxHeartbeats 40000000 in
theorem rm_chU (l : Launch) (Z : State) (a0 : Array Value) (hw : ∀ d ∈ tables_1, d.before a0 Z = true) (n0 : Nat) (h0 : Heap) (X0 : Old Z n0 h0) (x : Addr) (cs : List Int32) (i : Nat) (zc : Int32) (fm : Value) (Sc : Sta Z Z.heap "java/lang/String" "COMPACT_STRINGS" "Z" (.int zc)) (nzc : ¬ zc = 0) (Sf : Sta Z Z.heap "jdk/internal/util/Preconditions" "SIOOBE_FORMATTER" "Ljava/util/function/BiFunction;" fm) (rf : fm.isRef = true) (Sa : Sta Z Z.heap "java/lang/StringUTF16" "$assertionsDisabled" "Z" (.int 1)) (Sh : Sta Z Z.heap "java/lang/StringUTF16" "HI_BYTE_SHIFT" "I" (.int 0)) (Sl : Sta Z Z.heap "java/lang/StringUTF16" "LO_BYTE_SHIFT" "I" (.int 8)) (Sx : StrU Z h0 x cs) (hN : cs.length < 1000) (hi : i < cs.length) :
    Met l Z n0 (⟨"java/lang/String", "charAt", "(I)C"⟩ : MethodName) jdk_42_method_56_code 2 (some .char) ({ frames := 4, cells := 0, slots := 0, locals := 53 } : Room) #[(.ref x), (.int (Int32.ofNat i))] h0 (fun v h => v = some (.int (cs.getD i 0)) ∧ h = h0) := by
  refine met_of (plainFor_of_name pn_1) hw (L := #[.val (.ref x), .val (.int (Int32.ofNat i))]) (fun m => by first | (simp [entryFrame, mkF, argsToLocals, Value.category]; done) | rfl) fun C hl hwd hE hPL hcs hr o => ?_
  subst hl
  have o : Ok C Z a0 jdk_42_method_56_code 2 (some .char) "charAt" "java/lang/String" ({ frames := 4, cells := 0, slots := 0, locals := 53 } : Room) := o
  obtain ⟨Ax, Fx, hu, h255, t, kt, Vx, Kt⟩ := id Sx
  refine g_aload_n o (pc := 0) d_jdk_42_method_56_0 rfl rfl ?_
  refine g_virtual o (pc := 1) x [] [] d_jdk_42_method_56_1 (wd_60 hw) (wd_61 hw) (wd_63 hw) (wd_62 hw) (fun _ q => notFace_of_selects q) (by decide) Ax (Met.back o (W := 0) (rm_isU C.l Z a0 hw n0 h0 X0 x zc Sc nzc Fx) (wd_64 hw) (wd_13 hw) (by decide) (by decide)) (fun _ _ _ q => q) (Or.inl hE) pd_5 rfl rfl rfl rfl (by decide) (by decide) fun v1 h2 q3 => ?_
  obtain ⟨rfl, hh⟩ := q3
  obtain rfl := hh.symm
  show Go C Z n0 (fun v h => v = some (.int (cs.getD i 0)) ∧ h = h0) [] h0 0 0 4 #[.val (.ref x), .val (.int (Int32.ofNat i))] [(.int 0)]
  refine g_ifC o (pc := 4) d_jdk_42_method_56_4 (t := 16) (by decide) rfl c_eq (fun _ => ?_) (fun hn4 => absurd rfl hn4)
  refine g_aload_n o (pc := 16) d_jdk_42_method_56_16 rfl rfl ?_
  refine g_getF o (pc := 17) d_jdk_42_method_56_17 (wd_38 hw) Via.refl Vx ?_
  refine g_iload_n o (pc := 20) d_jdk_42_method_56_20 rfl ?_
  refine g_static o (pc := 21) [(.ref t), (.int (Int32.ofNat i))] [] d_jdk_42_method_56_21 (wd_103 hw) (wd_104 hw) (wd_27 hw) (wd_105 hw) (by decide) (Met.back o (W := 0) (rm_uch C.l Z a0 hw n0 h0 X0 t kt cs i fm Sa Sh Sl Sf rf Kt hN hi hu) (wd_105 hw) (wd_27 hw) (by decide) (by decide)) (fun _ _ _ q => q) (Or.inl hE) pd_4 rfl rfl rfl rfl (by decide) (by decide) fun v5 h6 q7 => ?_
  obtain ⟨rfl, hh⟩ := q7
  obtain rfl := hh.symm
  show Go C Z n0 (fun v h => v = some (.int (cs.getD i 0)) ∧ h = h0) [] h0 0 0 24 #[.val (.ref x), .val (.int (Int32.ofNat i))] [(.int (cs.getD i 0))]
  refine g_nreturn o (pc := 24) (by simp) d_jdk_42_method_56_24 (y := (cs.getD i 0)) (nar16 (getD_all (P := U16) (by decide) hu i)) ?_ (by decide) (by decide)
  exact ⟨rfl, rfl⟩
set_option maxRecDepth 65536 in
set_option maxHeartbeats 40000000 in
theorem rm_lch (l : Launch) (Z : State) (a0 : Array Value) (hw : ∀ d ∈ tables_1, d.before a0 Z = true) (n0 : Nat) (h0 : Heap) (X0 : Old Z n0 h0) (t : Addr) (kt : ClassId) (cs : List Int32) (i : Nat) (fm : Value) (Sf : Sta Z Z.heap "jdk/internal/util/Preconditions" "SIOOBE_FORMATTER" "Ljava/util/function/BiFunction;" fm) (rf : fm.isRef = true) (Kt : Arv Z h0 t kt .byte (Int32.ofNat cs.length) ((cs.map fun c => c.toInt8.toInt32).map Value.int) (.int 0)) (hN : cs.length < 1000) (hi : i < cs.length) (hu : ∀ ch_ ∈ cs, Lat ch_) :
    Met l Z n0 (⟨"java/lang/StringLatin1", "charAt", "([BI)C"⟩ : MethodName) jdk_43_method_2_code 2 (some .char) ({ frames := 2, cells := 0, slots := 0, locals := 27 } : Room) #[(.ref t), (.int (Int32.ofNat i))] h0 (fun v h => v = some (.int (cs.getD i 0)) ∧ h = h0) := by
  refine met_of (plainFor_of_name pn_3) hw (L := #[.val (.ref t), .val (.int (Int32.ofNat i))]) (fun m => by first | (simp [entryFrame, mkF, argsToLocals, Value.category]; done) | rfl) fun C hl hwd hE hPL hcs hr o => ?_
  subst hl
  have o : Ok C Z a0 jdk_43_method_2_code 2 (some .char) "charAt" "java/lang/StringLatin1" ({ frames := 2, cells := 0, slots := 0, locals := 27 } : Room) := o
  have hN' : cs.length < 100000 := by omega
  refine g_iload_n o (pc := 0) d_jdk_43_method_2_0 rfl ?_
  refine g_aload_n o (pc := 1) d_jdk_43_method_2_1 rfl rfl ?_
  refine g_alen o (pc := 2) d_jdk_43_method_2_2 Kt ?_
  refine g_static o (pc := 3) [(.int (Int32.ofNat i)), (.int (Int32.ofNat cs.length))] [] d_jdk_43_method_2_3 (wd_69 hw) (wd_70 hw) (wd_13 hw) (wd_71 hw) (by decide) (Met.back o (W := 0) (rm_sci C.l Z a0 hw n0 h0 X0 i cs.length fm Sf rf hi hN) (wd_71 hw) (wd_13 hw) (by decide) (by decide)) (fun _ _ _ q => q) (Or.inl hE) pd_2 rfl rfl rfl rfl (by decide) (by decide) fun v1 h2 q3 => ?_
  obtain ⟨rfl, hh⟩ := q3
  obtain rfl := hh.symm
  show Go C Z n0 (fun v h => v = some (.int (cs.getD i 0)) ∧ h = h0) [] h0 0 0 6 #[.val (.ref t), .val (.int (Int32.ofNat i))] []
  refine g_aload_n o (pc := 6) d_jdk_43_method_2_6 rfl rfl ?_
  refine g_iload_n o (pc := 7) d_jdk_43_method_2_7 rfl ?_
  refine g_bbload o (pc := 8) d_jdk_43_method_2_8 Kt (len_mapb rfl hN') (n_nn (by omega)) (i := i) (n_clamp (by omega)) (lt_mapb rfl hi) (v := .int (cs.getD i 0).toInt8.toInt32) getD_byte ?_
  refine g_sipush o (pc := 9) d_jdk_43_method_2_9 (v := 255) rfl ?_
  refine g_iand o (pc := 12) d_jdk_43_method_2_12 (v := ((cs.getD i 0).toInt8.toInt32 &&& 255)) rfl ?_
  refine g_i2c o (pc := 13) d_jdk_43_method_2_13 (v := (cs.getD i 0)) (StrChars.chr8_lo8 (getD_all (P := Lat) (by decide) hu i).1 (getD_all (P := Lat) (by decide) hu i).2) ?_
  refine g_nreturn o (pc := 14) (by simp) d_jdk_43_method_2_14 (y := (cs.getD i 0)) (i2c_lat (getD_all (P := Lat) (by decide) hu i)) ?_ (by decide) (by decide)
  exact ⟨rfl, rfl⟩
set_option maxRecDepth 65536 in
set_option maxHeartbeats 40000000 in
theorem rm_isL (l : Launch) (Z : State) (a0 : Array Value) (hw : ∀ d ∈ tables_1, d.before a0 Z = true) (n0 : Nat) (h0 : Heap) (X0 : Old Z n0 h0) (x : Addr) (zc : Int32) (Sc : Sta Z Z.heap "java/lang/String" "COMPACT_STRINGS" "Z" (.int zc)) (nzc : ¬ zc = 0) (Fc : Fld Z h0 x "java/lang/String" "coder" "B" (.int 0)) :
    Met l Z n0 (⟨"java/lang/String", "isLatin1", "()Z"⟩ : MethodName) jdk_42_method_154_code 1 (some .boolean) ({ frames := 0, cells := 0, slots := 0, locals := 0 } : Room) #[(.ref x)] h0 (fun v h => v = some (.int 1) ∧ h = h0) := by
  refine met_of (plainFor_of_name pn_1) hw (L := #[.val (.ref x)]) (fun m => by first | (simp [entryFrame, mkF, argsToLocals, Value.category]; done) | rfl) fun C hl hwd hE hPL hcs hr o => ?_
  subst hl
  have o : Ok C Z a0 jdk_42_method_154_code 1 (some .boolean) "isLatin1" "java/lang/String" ({ frames := 0, cells := 0, slots := 0, locals := 0 } : Room) := o
  refine g_getS o (pc := 0) d_jdk_42_method_154_0 (wd_24 hw) Via.refl (Sc.ext X0.2) ?_
  refine g_ifC o (pc := 3) d_jdk_42_method_154_3 (t := 17) (by decide) rfl c_eq (fun hy1 => absurd hy1 nzc) (fun _ => ?_)
  refine g_aload_n o (pc := 6) d_jdk_42_method_154_6 rfl rfl ?_
  refine g_getF o (pc := 7) d_jdk_42_method_154_7 (wd_36 hw) Via.refl Fc ?_
  refine g_ifCN o (pc := 10) d_jdk_42_method_154_10 (t := 17) (by decide) rfl c_ne (fun hy2 => absurd rfl hy2) (fun _ => ?_)
  refine g_iconst o (pc := 13) d_jdk_42_method_154_13 (v := 1) rfl ?_
  refine g_goto o (pc := 14) d_jdk_42_method_154_14 (t := 18) (by decide) rfl ?_
  refine g_nreturn o (pc := 18) (by simp) d_jdk_42_method_154_18 (y := 1) rfl ?_ (by decide) (by decide)
  exact ⟨rfl, rfl⟩
set_option maxRecDepth 65536 in
set_option maxHeartbeats 40000000 in
theorem rm_chL (l : Launch) (Z : State) (a0 : Array Value) (hw : ∀ d ∈ tables_1, d.before a0 Z = true) (n0 : Nat) (h0 : Heap) (X0 : Old Z n0 h0) (x : Addr) (cs : List Int32) (i : Nat) (zc : Int32) (fm : Value) (Sc : Sta Z Z.heap "java/lang/String" "COMPACT_STRINGS" "Z" (.int zc)) (nzc : ¬ zc = 0) (Sf : Sta Z Z.heap "jdk/internal/util/Preconditions" "SIOOBE_FORMATTER" "Ljava/util/function/BiFunction;" fm) (rf : fm.isRef = true) (Sa : Sta Z Z.heap "java/lang/StringUTF16" "$assertionsDisabled" "Z" (.int 1)) (Sh : Sta Z Z.heap "java/lang/StringUTF16" "HI_BYTE_SHIFT" "I" (.int 0)) (Sl : Sta Z Z.heap "java/lang/StringUTF16" "LO_BYTE_SHIFT" "I" (.int 8)) (Sx : Str Z h0 x cs) (hN : cs.length < 1000) (hi : i < cs.length) :
    Met l Z n0 (⟨"java/lang/String", "charAt", "(I)C"⟩ : MethodName) jdk_42_method_56_code 2 (some .char) ({ frames := 4, cells := 0, slots := 0, locals := 53 } : Room) #[(.ref x), (.int (Int32.ofNat i))] h0 (fun v h => v = some (.int (cs.getD i 0)) ∧ h = h0) := by
  refine met_of (plainFor_of_name pn_1) hw (L := #[.val (.ref x), .val (.int (Int32.ofNat i))]) (fun m => by first | (simp [entryFrame, mkF, argsToLocals, Value.category]; done) | rfl) fun C hl hwd hE hPL hcs hr o => ?_
  subst hl
  have o : Ok C Z a0 jdk_42_method_56_code 2 (some .char) "charAt" "java/lang/String" ({ frames := 4, cells := 0, slots := 0, locals := 53 } : Room) := o
  obtain ⟨Ax, Fx, hu, t, kt, Vx, Kt⟩ := id Sx
  refine g_aload_n o (pc := 0) d_jdk_42_method_56_0 rfl rfl ?_
  refine g_virtual o (pc := 1) x [] [] d_jdk_42_method_56_1 (wd_60 hw) (wd_61 hw) (wd_63 hw) (wd_62 hw) (fun _ q => notFace_of_selects q) (by decide) Ax (Met.back o (W := 0) (rm_isL C.l Z a0 hw n0 h0 X0 x zc Sc nzc Fx) (wd_64 hw) (wd_13 hw) (by decide) (by decide)) (fun _ _ _ q => q) (Or.inl hE) pd_5 rfl rfl rfl rfl (by decide) (by decide) fun v1 h2 q3 => ?_
  obtain ⟨rfl, hh⟩ := q3
  obtain rfl := hh.symm
  show Go C Z n0 (fun v h => v = some (.int (cs.getD i 0)) ∧ h = h0) [] h0 0 0 4 #[.val (.ref x), .val (.int (Int32.ofNat i))] [(.int 1)]
  refine g_ifC o (pc := 4) d_jdk_42_method_56_4 (t := 16) (by decide) rfl c_eq (fun hy4 => absurd hy4 (by decide)) (fun _ => ?_)
  refine g_aload_n o (pc := 7) d_jdk_42_method_56_7 rfl rfl ?_
  refine g_getF o (pc := 8) d_jdk_42_method_56_8 (wd_38 hw) Via.refl Vx ?_
  refine g_iload_n o (pc := 11) d_jdk_42_method_56_11 rfl ?_
  refine g_static o (pc := 12) [(.ref t), (.int (Int32.ofNat i))] [] d_jdk_42_method_56_12 (wd_65 hw) (wd_66 hw) (wd_67 hw) (wd_68 hw) (by decide) (Met.back o (W := 0) (rm_lch C.l Z a0 hw n0 h0 X0 t kt cs i fm Sf rf Kt hN hi hu) (wd_68 hw) (wd_67 hw) (by decide) (by decide)) (fun _ _ _ q => q) (Or.inl hE) pd_4 rfl rfl rfl rfl (by decide) (by decide) fun v5 h6 q7 => ?_
  obtain ⟨rfl, hh⟩ := q7
  obtain rfl := hh.symm
  show Go C Z n0 (fun v h => v = some (.int (cs.getD i 0)) ∧ h = h0) [] h0 0 0 15 #[.val (.ref x), .val (.int (Int32.ofNat i))] [(.int (cs.getD i 0))]
  refine g_nreturn o (pc := 15) (by simp) d_jdk_42_method_56_15 (y := (cs.getD i 0)) (i2c_lat (getD_all (P := Lat) (by decide) hu i)) ?_ (by decide) (by decide)
  exact ⟨rfl, rfl⟩
theorem rm_ch (l : Launch) (Z : State) (a0 : Array Value) (hw : ∀ d ∈ tables_1, d.before a0 Z = true) (n0 : Nat) (h0 : Heap) (X0 : Old Z n0 h0) (x : Addr) (cs : List Int32) (i : Nat) (zc : Int32) (fm : Value) (Sc : Sta Z Z.heap "java/lang/String" "COMPACT_STRINGS" "Z" (.int zc)) (nzc : ¬ zc = 0) (Sf : Sta Z Z.heap "jdk/internal/util/Preconditions" "SIOOBE_FORMATTER" "Ljava/util/function/BiFunction;" fm) (rf : fm.isRef = true) (Sa : Sta Z Z.heap "java/lang/StringUTF16" "$assertionsDisabled" "Z" (.int 1)) (Sh : Sta Z Z.heap "java/lang/StringUTF16" "HI_BYTE_SHIFT" "I" (.int 0)) (Sl : Sta Z Z.heap "java/lang/StringUTF16" "LO_BYTE_SHIFT" "I" (.int 8)) (Sx : StrA Z h0 x cs) (hN : cs.length < 1000) (hi : i < cs.length) :
    Met l Z n0 (⟨"java/lang/String", "charAt", "(I)C"⟩ : MethodName) jdk_42_method_56_code 2 (some .char) ({ frames := 4, cells := 0, slots := 0, locals := 53 } : Room) #[(.ref x), (.int (Int32.ofNat i))] h0 (fun v h => v = some (.int (cs.getD i 0)) ∧ h = h0) := by
  rcases Sx with Sx | Sx
  · exact rm_chL l Z a0 hw n0 h0 X0 x cs i zc fm Sc nzc Sf rf Sa Sh Sl Sx hN hi
  · exact rm_chU l Z a0 hw n0 h0 X0 x cs i zc fm Sc nzc Sf rf Sa Sh Sl Sx hN hi
set_option maxRecDepth 65536 in
set_option maxHeartbeats 40000000 in
theorem rm_codL (l : Launch) (Z : State) (a0 : Array Value) (hw : ∀ d ∈ tables_1, d.before a0 Z = true) (n0 : Nat) (h0 : Heap) (X0 : Old Z n0 h0) (x : Addr) (zc : Int32) (Sc : Sta Z Z.heap "java/lang/String" "COMPACT_STRINGS" "Z" (.int zc)) (nzc : ¬ zc = 0) (Fc : Fld Z h0 x "java/lang/String" "coder" "B" (.int 0)) :
    Met l Z n0 (⟨"java/lang/String", "coder", "()B"⟩ : MethodName) jdk_42_method_152_code 1 (some .byte) ({ frames := 0, cells := 0, slots := 0, locals := 0 } : Room) #[(.ref x)] h0 (fun v h => v = some (.int 0) ∧ h = h0) := by
  refine met_of (plainFor_of_name pn_1) hw (L := #[.val (.ref x)]) (fun m => by first | (simp [entryFrame, mkF, argsToLocals, Value.category]; done) | rfl) fun C hl hwd hE hPL hcs hr o => ?_
  subst hl
  have o : Ok C Z a0 jdk_42_method_152_code 1 (some .byte) "coder" "java/lang/String" ({ frames := 0, cells := 0, slots := 0, locals := 0 } : Room) := o
  refine g_getS o (pc := 0) d_jdk_42_method_152_0 (wd_24 hw) Via.refl (Sc.ext X0.2) ?_
  refine g_ifC o (pc := 3) d_jdk_42_method_152_3 (t := 13) (by decide) rfl c_eq (fun hy1 => absurd hy1 nzc) (fun _ => ?_)
  refine g_aload_n o (pc := 6) d_jdk_42_method_152_6 rfl rfl ?_
  refine g_getF o (pc := 7) d_jdk_42_method_152_7 (wd_36 hw) Via.refl Fc ?_
  refine g_goto o (pc := 10) d_jdk_42_method_152_10 (t := 14) (by decide) rfl ?_
  refine g_nreturn o (pc := 14) (by simp) d_jdk_42_method_152_14 (y := 0) rfl ?_ (by decide) (by decide)
  exact ⟨rfl, rfl⟩
set_option maxRecDepth 65536 in
set_option maxHeartbeats 40000000 in
theorem rm_lenL (l : Launch) (Z : State) (a0 : Array Value) (hw : ∀ d ∈ tables_1, d.before a0 Z = true) (n0 : Nat) (h0 : Heap) (X0 : Old Z n0 h0) (x : Addr) (cs : List Int32) (zc : Int32) (Sc : Sta Z Z.heap "java/lang/String" "COMPACT_STRINGS" "Z" (.int zc)) (nzc : ¬ zc = 0) (Sx : Str Z h0 x cs) (hN : cs.length < 1000) :
    Met l Z n0 (⟨"java/lang/String", "length", "()I"⟩ : MethodName) jdk_42_method_54_code 1 (some .int) ({ frames := 1, cells := 0, slots := 0, locals := 13 } : Room) #[(.ref x)] h0 (fun v h => v = some (.int (Int32.ofNat cs.length)) ∧ h = h0) := by
  refine met_of (plainFor_of_name pn_1) hw (L := #[.val (.ref x)]) (fun m => by first | (simp [entryFrame, mkF, argsToLocals, Value.category]; done) | rfl) fun C hl hwd hE hPL hcs hr o => ?_
  subst hl
  have o : Ok C Z a0 jdk_42_method_54_code 1 (some .int) "length" "java/lang/String" ({ frames := 1, cells := 0, slots := 0, locals := 13 } : Room) := o
  obtain ⟨Ax, Fx, hu, t, kt, Vx, Kt⟩ := id Sx
  refine g_aload_n o (pc := 0) d_jdk_42_method_54_0 rfl rfl ?_
  refine g_getF o (pc := 1) d_jdk_42_method_54_1 (wd_38 hw) Via.refl Vx ?_
  refine g_alen o (pc := 4) d_jdk_42_method_54_4 Kt ?_
  refine g_aload_n o (pc := 5) d_jdk_42_method_54_5 rfl rfl ?_
  refine g_virtual o (pc := 6) x [] [(.int (Int32.ofNat cs.length))] d_jdk_42_method_54_6 (wd_50 hw) (wd_51 hw) (wd_53 hw) (wd_52 hw) (fun _ q => notFace_of_selects q) (by decide) Ax (Met.back o (W := 1) (rm_codL C.l Z a0 hw n0 h0 X0 x zc Sc nzc Fx) (wd_54 hw) (wd_13 hw) (by decide) (by decide)) (fun _ _ _ q => q) (Or.inl hE) pd_6 rfl rfl rfl rfl (by decide) (by decide) fun v1 h2 q3 => ?_
  obtain ⟨rfl, hh⟩ := q3
  obtain rfl := hh.symm
  show Go C Z n0 (fun v h => v = some (.int (Int32.ofNat cs.length)) ∧ h = h0) [] h0 0 0 9 #[.val (.ref x)] [(.int 0), (.int (Int32.ofNat cs.length))]
  refine g_ishr o (pc := 9) d_jdk_42_method_54_9 (v := (Int32.ofNat cs.length)) (shr0 _) ?_
  refine g_ireturn o (pc := 10) d_jdk_42_method_54_10 ?_ (by decide) (by decide)
  exact ⟨rfl, rfl⟩
set_option maxRecDepth 65536 in
set_option maxHeartbeats 40000000 in
theorem rm_empL (l : Launch) (Z : State) (a0 : Array Value) (hw : ∀ d ∈ tables_1, d.before a0 Z = true) (n0 : Nat) (h0 : Heap) (X0 : Old Z n0 h0) (x : Addr) (cs : List Int32) (zc : Int32) (Sc : Sta Z Z.heap "java/lang/String" "COMPACT_STRINGS" "Z" (.int zc)) (nzc : ¬ zc = 0) (Sx : Str Z h0 x cs) (hN : cs.length < 1000) :
    Met l Z n0 (⟨"java/lang/String", "isEmpty", "()Z"⟩ : MethodName) jdk_42_method_55_code 1 (some .boolean) ({ frames := 0, cells := 0, slots := 0, locals := 0 } : Room) #[(.ref x)] h0 (fun v h => v = some (.int (if cs.length = 0 then 1 else 0)) ∧ h = h0) := by
  refine met_of (plainFor_of_name pn_1) hw (L := #[.val (.ref x)]) (fun m => by first | (simp [entryFrame, mkF, argsToLocals, Value.category]; done) | rfl) fun C hl hwd hE hPL hcs hr o => ?_
  subst hl
  have o : Ok C Z a0 jdk_42_method_55_code 1 (some .boolean) "isEmpty" "java/lang/String" ({ frames := 0, cells := 0, slots := 0, locals := 0 } : Room) := o
  obtain ⟨Ax, Fx, hu, t, kt, Vx, Kt⟩ := id Sx
  refine g_aload_n o (pc := 0) d_jdk_42_method_55_0 rfl rfl ?_
  refine g_getF o (pc := 1) d_jdk_42_method_55_1 (wd_38 hw) Via.refl Vx ?_
  refine g_alen o (pc := 4) d_jdk_42_method_55_4 Kt ?_
  refine g_ifCN o (pc := 5) d_jdk_42_method_55_5 (t := 12) (by decide) rfl c_ne (fun hy1 => ?_) (fun hn2 => ?_)
  · refine g_iconst o (pc := 12) d_jdk_42_method_55_12 (v := 0) rfl ?_
    refine g_nreturn o (pc := 13) (by simp) d_jdk_42_method_55_13 (y := 0) rfl ?_ (by decide) (by decide)
    exact ⟨congrArg (fun z => some (Value.int z)) (if_neg (fun q => hy1 (by rw [q]; rfl))).symm, rfl⟩
  · refine g_iconst o (pc := 8) d_jdk_42_method_55_8 (v := 1) rfl ?_
    refine g_goto o (pc := 9) d_jdk_42_method_55_9 (t := 13) (by decide) rfl ?_
    refine g_nreturn o (pc := 13) (by simp) d_jdk_42_method_55_13 (y := 1) rfl ?_ (by decide) (by decide)
    exact ⟨congrArg (fun z => some (Value.int z)) (if_pos (by have := (n_eq (j := 0) (by omega) (by decide)).mp hn2; omega)).symm, rfl⟩
set_option maxRecDepth 65536 in
set_option maxHeartbeats 40000000 in
theorem rm_codU (l : Launch) (Z : State) (a0 : Array Value) (hw : ∀ d ∈ tables_1, d.before a0 Z = true) (n0 : Nat) (h0 : Heap) (X0 : Old Z n0 h0) (x : Addr) (zc : Int32) (Sc : Sta Z Z.heap "java/lang/String" "COMPACT_STRINGS" "Z" (.int zc)) (nzc : ¬ zc = 0) (Fc : Fld Z h0 x "java/lang/String" "coder" "B" (.int 1)) :
    Met l Z n0 (⟨"java/lang/String", "coder", "()B"⟩ : MethodName) jdk_42_method_152_code 1 (some .byte) ({ frames := 0, cells := 0, slots := 0, locals := 0 } : Room) #[(.ref x)] h0 (fun v h => v = some (.int 1) ∧ h = h0) := by
  refine met_of (plainFor_of_name pn_1) hw (L := #[.val (.ref x)]) (fun m => by first | (simp [entryFrame, mkF, argsToLocals, Value.category]; done) | rfl) fun C hl hwd hE hPL hcs hr o => ?_
  subst hl
  have o : Ok C Z a0 jdk_42_method_152_code 1 (some .byte) "coder" "java/lang/String" ({ frames := 0, cells := 0, slots := 0, locals := 0 } : Room) := o
  refine g_getS o (pc := 0) d_jdk_42_method_152_0 (wd_24 hw) Via.refl (Sc.ext X0.2) ?_
  refine g_ifC o (pc := 3) d_jdk_42_method_152_3 (t := 13) (by decide) rfl c_eq (fun hy1 => absurd hy1 nzc) (fun _ => ?_)
  refine g_aload_n o (pc := 6) d_jdk_42_method_152_6 rfl rfl ?_
  refine g_getF o (pc := 7) d_jdk_42_method_152_7 (wd_36 hw) Via.refl Fc ?_
  refine g_goto o (pc := 10) d_jdk_42_method_152_10 (t := 14) (by decide) rfl ?_
  refine g_nreturn o (pc := 14) (by simp) d_jdk_42_method_152_14 (y := 1) rfl ?_ (by decide) (by decide)
  exact ⟨rfl, rfl⟩
set_option maxRecDepth 65536 in
set_option maxHeartbeats 40000000 in
theorem rm_lenU (l : Launch) (Z : State) (a0 : Array Value) (hw : ∀ d ∈ tables_1, d.before a0 Z = true) (n0 : Nat) (h0 : Heap) (X0 : Old Z n0 h0) (x : Addr) (cs : List Int32) (zc : Int32) (Sc : Sta Z Z.heap "java/lang/String" "COMPACT_STRINGS" "Z" (.int zc)) (nzc : ¬ zc = 0) (Sx : StrU Z h0 x cs) (hN : cs.length < 1000) :
    Met l Z n0 (⟨"java/lang/String", "length", "()I"⟩ : MethodName) jdk_42_method_54_code 1 (some .int) ({ frames := 1, cells := 0, slots := 0, locals := 13 } : Room) #[(.ref x)] h0 (fun v h => v = some (.int (Int32.ofNat cs.length)) ∧ h = h0) := by
  refine met_of (plainFor_of_name pn_1) hw (L := #[.val (.ref x)]) (fun m => by first | (simp [entryFrame, mkF, argsToLocals, Value.category]; done) | rfl) fun C hl hwd hE hPL hcs hr o => ?_
  subst hl
  have o : Ok C Z a0 jdk_42_method_54_code 1 (some .int) "length" "java/lang/String" ({ frames := 1, cells := 0, slots := 0, locals := 13 } : Room) := o
  obtain ⟨Ax, Fx, hu, h255, t, kt, Vx, Kt⟩ := id Sx
  refine g_aload_n o (pc := 0) d_jdk_42_method_54_0 rfl rfl ?_
  refine g_getF o (pc := 1) d_jdk_42_method_54_1 (wd_38 hw) Via.refl Vx ?_
  refine g_alen o (pc := 4) d_jdk_42_method_54_4 Kt ?_
  refine g_aload_n o (pc := 5) d_jdk_42_method_54_5 rfl rfl ?_
  refine g_virtual o (pc := 6) x [] [(.int (Int32.ofNat (2 * cs.length)))] d_jdk_42_method_54_6 (wd_50 hw) (wd_51 hw) (wd_53 hw) (wd_52 hw) (fun _ q => notFace_of_selects q) (by decide) Ax (Met.back o (W := 1) (rm_codU C.l Z a0 hw n0 h0 X0 x zc Sc nzc Fx) (wd_54 hw) (wd_13 hw) (by decide) (by decide)) (fun _ _ _ q => q) (Or.inl hE) pd_6 rfl rfl rfl rfl (by decide) (by decide) fun v1 h2 q3 => ?_
  obtain ⟨rfl, hh⟩ := q3
  obtain rfl := hh.symm
  show Go C Z n0 (fun v h => v = some (.int (Int32.ofNat cs.length)) ∧ h = h0) [] h0 0 0 9 #[.val (.ref x)] [(.int 1), (.int (Int32.ofNat (2 * cs.length)))]
  refine g_ishr o (pc := 9) d_jdk_42_method_54_9 (v := (Int32.ofNat cs.length)) (n_shr1 hN) ?_
  refine g_ireturn o (pc := 10) d_jdk_42_method_54_10 ?_ (by decide) (by decide)
  exact ⟨rfl, rfl⟩
set_option maxRecDepth 65536 in
set_option maxHeartbeats 40000000 in
theorem rm_empU (l : Launch) (Z : State) (a0 : Array Value) (hw : ∀ d ∈ tables_1, d.before a0 Z = true) (n0 : Nat) (h0 : Heap) (X0 : Old Z n0 h0) (x : Addr) (cs : List Int32) (zc : Int32) (Sc : Sta Z Z.heap "java/lang/String" "COMPACT_STRINGS" "Z" (.int zc)) (nzc : ¬ zc = 0) (Sx : StrU Z h0 x cs) (hN : cs.length < 1000) :
    Met l Z n0 (⟨"java/lang/String", "isEmpty", "()Z"⟩ : MethodName) jdk_42_method_55_code 1 (some .boolean) ({ frames := 0, cells := 0, slots := 0, locals := 0 } : Room) #[(.ref x)] h0 (fun v h => v = some (.int (if cs.length = 0 then 1 else 0)) ∧ h = h0) := by
  refine met_of (plainFor_of_name pn_1) hw (L := #[.val (.ref x)]) (fun m => by first | (simp [entryFrame, mkF, argsToLocals, Value.category]; done) | rfl) fun C hl hwd hE hPL hcs hr o => ?_
  subst hl
  have o : Ok C Z a0 jdk_42_method_55_code 1 (some .boolean) "isEmpty" "java/lang/String" ({ frames := 0, cells := 0, slots := 0, locals := 0 } : Room) := o
  obtain ⟨Ax, Fx, hu, h255, t, kt, Vx, Kt⟩ := id Sx
  refine g_aload_n o (pc := 0) d_jdk_42_method_55_0 rfl rfl ?_
  refine g_getF o (pc := 1) d_jdk_42_method_55_1 (wd_38 hw) Via.refl Vx ?_
  refine g_alen o (pc := 4) d_jdk_42_method_55_4 Kt ?_
  refine g_ifCN o (pc := 5) d_jdk_42_method_55_5 (t := 12) (by decide) rfl c_ne (fun hy1 => ?_) (fun hn2 => ?_)
  · refine g_iconst o (pc := 12) d_jdk_42_method_55_12 (v := 0) rfl ?_
    refine g_nreturn o (pc := 13) (by simp) d_jdk_42_method_55_13 (y := 0) rfl ?_ (by decide) (by decide)
    exact ⟨congrArg (fun z => some (Value.int z)) (if_neg (fun q => hy1 (by rw [q]; rfl))).symm, rfl⟩
  · refine g_iconst o (pc := 8) d_jdk_42_method_55_8 (v := 1) rfl ?_
    refine g_goto o (pc := 9) d_jdk_42_method_55_9 (t := 13) (by decide) rfl ?_
    refine g_nreturn o (pc := 13) (by simp) d_jdk_42_method_55_13 (y := 1) rfl ?_ (by decide) (by decide)
    exact ⟨congrArg (fun z => some (Value.int z)) (if_pos (by have := (n_eq (j := 0) (by omega) (by decide)).mp hn2; omega)).symm, rfl⟩
theorem rm_len (l : Launch) (Z : State) (a0 : Array Value) (hw : ∀ d ∈ tables_1, d.before a0 Z = true) (n0 : Nat) (h0 : Heap) (X0 : Old Z n0 h0) (x : Addr) (cs : List Int32) (zc : Int32) (Sc : Sta Z Z.heap "java/lang/String" "COMPACT_STRINGS" "Z" (.int zc)) (nzc : ¬ zc = 0) (Sx : StrA Z h0 x cs) (hN : cs.length < 1000) :
    Met l Z n0 (⟨"java/lang/String", "length", "()I"⟩ : MethodName) jdk_42_method_54_code 1 (some .int) ({ frames := 1, cells := 0, slots := 0, locals := 13 } : Room) #[(.ref x)] h0 (fun v h => v = some (.int (Int32.ofNat cs.length)) ∧ h = h0) := by
  rcases Sx with Sx | Sx
  · exact rm_lenL l Z a0 hw n0 h0 X0 x cs zc Sc nzc Sx hN
  · exact rm_lenU l Z a0 hw n0 h0 X0 x cs zc Sc nzc Sx hN
theorem rm_emp (l : Launch) (Z : State) (a0 : Array Value) (hw : ∀ d ∈ tables_1, d.before a0 Z = true) (n0 : Nat) (h0 : Heap) (X0 : Old Z n0 h0) (x : Addr) (cs : List Int32) (zc : Int32) (Sc : Sta Z Z.heap "java/lang/String" "COMPACT_STRINGS" "Z" (.int zc)) (nzc : ¬ zc = 0) (Sx : StrA Z h0 x cs) (hN : cs.length < 1000) :
    Met l Z n0 (⟨"java/lang/String", "isEmpty", "()Z"⟩ : MethodName) jdk_42_method_55_code 1 (some .boolean) ({ frames := 0, cells := 0, slots := 0, locals := 0 } : Room) #[(.ref x)] h0 (fun v h => v = some (.int (if cs.length = 0 then 1 else 0)) ∧ h = h0) := by
  rcases Sx with Sx | Sx
  · exact rm_empL l Z a0 hw n0 h0 X0 x cs zc Sc nzc Sx hN
  · exact rm_empU l Z a0 hw n0 h0 X0 x cs zc Sc nzc Sx hN
set_option maxRecDepth 65536 in
set_option maxHeartbeats 40000000 in
theorem rm_upc (l : Launch) (Z : State) (a0 : Array Value) (hw : ∀ d ∈ tables_1, d.before a0 Z = true) (n0 : Nat) (h0 : Heap) (X0 : Old Z n0 h0) (t : Addr) (kt : ClassId) (vs : List Value) (N : Nat) (i : Nat) (c : Int32) (Sa : Sta Z Z.heap "java/lang/StringUTF16" "$assertionsDisabled" "Z" (.int 1)) (Sh : Sta Z Z.heap "java/lang/StringUTF16" "HI_BYTE_SHIFT" "I" (.int 0)) (Sl : Sta Z Z.heap "java/lang/StringUTF16" "LO_BYTE_SHIFT" "I" (.int 8)) (Kt : Arv Z h0 t kt .byte (Int32.ofNat (2 * N)) vs (.int 0)) (hv : vs.length = 2 * N) (hN : N < 1000) (hi : i < N) (gt : n0 ≤ t) :
    Met l Z n0 (⟨"java/lang/StringUTF16", "putChar", "([BII)V"⟩ : MethodName) jdk_52_method_4_code 3 none ({ frames := 0, cells := 0, slots := 0, locals := 0 } : Room) #[(.ref t), (.int (Int32.ofNat i)), (.int c)] h0 (fun v h => v = none ∧ Keep h0 h [t] ∧ Arv Z h t kt .byte (Int32.ofNat (2 * N)) ((vs.set (2 * i) (.int c.toInt8.toInt32)).set (2 * i + 1) (.int (c >>> ((8 : Int32) &&& 31)).toInt8.toInt32)) (.int 0)) := by
  refine met_of (plainFor_of_name pn_2) hw (L := #[.val (.ref t), .val (.int (Int32.ofNat i)), .val (.int c)]) (fun m => by first | (simp [entryFrame, mkF, argsToLocals, Value.category]; done) | rfl) fun C hl hwd hE hPL hcs hr o => ?_
  subst hl
  have o : Ok C Z a0 jdk_52_method_4_code 3 none "putChar" "java/lang/StringUTF16" ({ frames := 0, cells := 0, slots := 0, locals := 0 } : Room) := o
  refine g_getS o (pc := 0) d_jdk_52_method_4_0 (wd_97 hw) Via.refl (Sa.ext X0.2) ?_
  refine g_ifCN o (pc := 3) d_jdk_52_method_4_3 (t := 28) (by decide) rfl c_ne (fun _ => ?_) (fun hn1 => absurd hn1 (by decide))
  refine g_iload_n o (pc := 28) d_jdk_52_method_4_28 rfl ?_
  refine g_iconst o (pc := 29) d_jdk_52_method_4_29 (v := 1) rfl ?_
  refine g_ishl o (pc := 30) d_jdk_52_method_4_30 (v := (Int32.ofNat (2 * i))) (n_shl1 (by omega)) ?_
  refine g_istore_n o (pc := 31) d_jdk_52_method_4_31 (L' := #[.val (.ref t), .val (.int (Int32.ofNat (2 * i))), .val (.int c)]) rfl ?_
  refine g_aload_n o (pc := 32) d_jdk_52_method_4_32 rfl rfl ?_
  refine g_iload_n o (pc := 33) d_jdk_52_method_4_33 rfl ?_
  refine g_iinc o (pc := 34) d_jdk_52_method_4_34 rfl (w := (Int32.ofNat (2 * i + 1))) (n_add (2 * i) 1) (L' := #[.val (.ref t), .val (.int (Int32.ofNat (2 * i + 1))), .val (.int c)]) rfl ?_
  refine g_iload_n o (pc := 37) d_jdk_52_method_4_37 rfl ?_
  refine g_getS o (pc := 38) d_jdk_52_method_4_38 (wd_98 hw) Via.refl (Sh.ext X0.2) ?_
  refine g_ishr o (pc := 41) d_jdk_52_method_4_41 (v := c) (shr0 _) ?_
  refine g_i2b o (pc := 42) d_jdk_52_method_4_42 (v := c.toInt8.toInt32) rfl ?_
  refine g_bbstore o (pc := 43) d_jdk_52_method_4_43 Kt (by rw [n_clamp (by omega), hv]) (n_nn (by omega)) (i := 2 * i) (n_clamp (by omega)) (by rw [hv]; omega) (y := c.toInt8.toInt32) (i8_idem _) gt (Or.inl hE) fun h2 W3 V4 => ?_
  refine g_aload_n o (pc := 44) d_jdk_52_method_4_44 rfl rfl ?_
  refine g_iload_n o (pc := 45) d_jdk_52_method_4_45 rfl ?_
  refine g_iload_n o (pc := 46) d_jdk_52_method_4_46 rfl ?_
  refine g_getS o (pc := 47) d_jdk_52_method_4_47 (wd_99 hw) Via.refl (Sl.ext (X0.wr W3 gt).2) ?_
  refine g_ishr o (pc := 50) d_jdk_52_method_4_50 (v := (c >>> (8 &&& 31))) rfl ?_
  refine g_i2b o (pc := 51) d_jdk_52_method_4_51 (v := (c >>> (8 &&& 31)).toInt8.toInt32) rfl ?_
  refine g_bbstore o (pc := 52) d_jdk_52_method_4_52 V4 (by rw [n_clamp (by omega), List.length_set, hv]) (n_nn (by omega)) (i := 2 * i + 1) (n_clamp (by omega)) (by rw [List.length_set, hv]; omega) (y := (c >>> ((8 : Int32) &&& 31)).toInt8.toInt32) (i8_idem _) gt (Or.inl hE) fun h5 W6 V7 => ?_
  refine g_return o (pc := 53) d_jdk_52_method_4_53 ?_ (by decide) (by decide)
  exact ⟨rfl, (((Keep.refl _ [t]).wr W3 (Or.inl (by simp))).wr W6 (Or.inl (by simp))), V7⟩
set_option maxRecDepth 65536 in
set_option maxHeartbeats 40000000 in
theorem rm_unl (l : Launch) (Z : State) (a0 : Array Value) (hw : ∀ d ∈ tables_1, d.before a0 Z = true) (n0 : Nat) (h0 : Heap) (X0 : Old Z n0 h0) (N : Nat) (hN : N < 1000) :
    Met l Z n0 (⟨"java/lang/StringUTF16", "newBytesLength", "(I)I"⟩ : MethodName) jdk_52_method_3_code 1 (some .int) ({ frames := 0, cells := 0, slots := 0, locals := 0 } : Room) #[(.int (Int32.ofNat N))] h0 (fun v h => v = some (.int (Int32.ofNat (2 * N))) ∧ h = h0) := by
  refine met_of (plainFor_of_name pn_2) hw (L := #[.val (.int (Int32.ofNat N))]) (fun m => by first | (simp [entryFrame, mkF, argsToLocals, Value.category]; done) | rfl) fun C hl hwd hE hPL hcs hr o => ?_
  subst hl
  have o : Ok C Z a0 jdk_52_method_3_code 1 (some .int) "newBytesLength" "java/lang/StringUTF16" ({ frames := 0, cells := 0, slots := 0, locals := 0 } : Room) := o
  refine g_iload_n o (pc := 0) d_jdk_52_method_3_0 rfl ?_
  refine g_ifCN o (pc := 1) d_jdk_52_method_3_1 (t := 12) (by decide) rfl c_ge (fun _ => ?_) (fun hn1 => absurd hn1 (n_nn (by omega)))
  refine g_iload_n o (pc := 12) d_jdk_52_method_3_12 rfl ?_
  refine g_ldcI o (pc := 13) d_jdk_52_method_3_13 (wd_93 hw) ?_
  refine g_icmp o (pc := 15) d_jdk_52_method_3_15 (t := 55) (by decide) rfl c_lt (fun _ => ?_) (fun hn2 => absurd (n_ltc hN) hn2)
  refine g_iload_n o (pc := 55) d_jdk_52_method_3_55 rfl ?_
  refine g_iconst o (pc := 56) d_jdk_52_method_3_56 (v := 1) rfl ?_
  refine g_ishl o (pc := 57) d_jdk_52_method_3_57 (v := (Int32.ofNat (2 * N))) (n_shl1 (by omega)) ?_
  refine g_ireturn o (pc := 58) d_jdk_52_method_3_58 ?_ (by decide) (by decide)
  exact ⟨rfl, rfl⟩
set_option maxRecDepth 65536 in
set_option maxHeartbeats 40000000 in
theorem rm_unf (l : Launch) (Z : State) (a0 : Array Value) (hw : ∀ d ∈ tables_1, d.before a0 Z = true) (n0 : Nat) (h0 : Heap) (X0 : Old Z n0 h0) (N : Nat) (hN : N < 1000) (hNM : N ≤ 65) :
    Met l Z n0 (⟨"java/lang/StringUTF16", "newBytesFor", "(I)[B"⟩ : MethodName) jdk_52_method_2_code 1 (some (.array .byte)) ({ frames := 1, cells := 1, slots := 130, locals := 12 } : Room) #[(.int (Int32.ofNat N))] h0 (fun v h => ∃ t kt, v = some (.ref t) ∧ Keep h0 h [] ∧ t = h0.size ∧ Arv Z h t kt .byte (Int32.ofNat (2 * N)) (List.replicate (2 * N) (.int 0)) (.int 0)) := by
  refine met_of (plainFor_of_name pn_2) hw (L := #[.val (.int (Int32.ofNat N))]) (fun m => by first | (simp [entryFrame, mkF, argsToLocals, Value.category]; done) | rfl) fun C hl hwd hE hPL hcs hr o => ?_
  subst hl
  have o : Ok C Z a0 jdk_52_method_2_code 1 (some (.array .byte)) "newBytesFor" "java/lang/StringUTF16" ({ frames := 1, cells := 1, slots := 130, locals := 12 } : Room) := o
  refine g_iload_n o (pc := 0) d_jdk_52_method_2_0 rfl ?_
  refine g_static o (pc := 1) [(.int (Int32.ofNat N))] [] d_jdk_52_method_2_1 (wd_90 hw) (wd_91 hw) (wd_27 hw) (wd_92 hw) (by decide) (Met.back o (W := 0) (rm_unl C.l Z a0 hw n0 h0 X0 N hN) (wd_92 hw) (wd_27 hw) (by decide) (by decide)) (fun _ _ _ q => q) (Or.inl hE) pd_7 rfl rfl rfl rfl (by decide) (by decide) fun v1 h2 q3 => ?_
  obtain ⟨rfl, hh⟩ := q3
  obtain rfl := hh.symm
  show Go C Z n0 (fun v h => ∃ t kt, v = some (.ref t) ∧ Keep h0 h [] ∧ t = h0.size ∧ Arv Z h t kt .byte (Int32.ofNat (2 * N)) (List.replicate (2 * N) (.int 0)) (.int 0)) [] h0 0 0 4 #[.val (.int (Int32.ofNat N))] [(.int (Int32.ofNat (2 * N)))]
  refine g_newarr o (pc := 4) d_jdk_52_method_2_4 (dv := .int 0) rfl rfl (wd_29 hw) (n_nn (by omega)) (m := 2 * N) (n_clamp (by omega)) (by omega) (by decide) (Nat.le_trans (m := 130) (by omega) (by decide)) (M' := fun _ => []) (fun _ _ q => nomatch q) fun a4 h5 kc6 ha7 E8 V9 => ?_
  refine Go.mono (k1 := 1) (n1 := 130) (by decide) (by omega) ?_
  show Go C Z n0 (fun v h => ∃ t kt, v = some (.ref t) ∧ Keep h0 h [] ∧ t = h0.size ∧ Arv Z h t kt .byte (Int32.ofNat (2 * N)) (List.replicate (2 * N) (.int 0)) (.int 0)) [] h5 1 130 6 #[.val (.int (Int32.ofNat N))] [(.ref a4)]
  refine g_areturn o (pc := 6) rfl rfl d_jdk_52_method_2_6 ?_ (by decide) (by decide)
  exact ⟨a4, kc6, rfl, ((Keep.refl _ []).ext E8), ha7, V9⟩
set_option maxRecDepth 65536 in
set_option maxHeartbeats 40000000 in
theorem lp_tb {C : Cx} {Z : State} {a0 : Array Value} (hw : ∀ d ∈ tables_1, d.before a0 Z = true) (hE : C.EL = []) (hPL : C.PL = []) (hcs : C.cs = 0) (hwd : C.wide = false) (n0 : Nat) (o : Ok C Z a0 jdk_52_method_14_code 5 (some (.array .byte)) "toBytes" "java/lang/StringUTF16" ({ frames := 2, cells := 1, slots := 130, locals := 24 } : Room)) (h0 : Heap) (X0 : Old Z n0 h0) (c : Addr) (kc : ClassId) (cs : List Int32) (N : Nat) (t : Addr) (kt : ClassId) (Sa : Sta Z Z.heap "java/lang/StringUTF16" "$assertionsDisabled" "Z" (.int 1)) (Sh : Sta Z Z.heap "java/lang/StringUTF16" "HI_BYTE_SHIFT" "I" (.int 0)) (Sl : Sta Z Z.heap "java/lang/StringUTF16" "LO_BYTE_SHIFT" "I" (.int 8)) (hlen : cs.length = N) (hN : N < 1000) (hNM : N ≤ 65) (ht : t = h0.size) (kt0 : h0.size ≤ t) (gt : n0 ≤ t) (hct : c ≠ t) :
    ∀ (f : Nat) (i : Nat) (h1 : Heap), (Old Z n0 h1) → (Keep h0 h1 []) → (Arv Z h1 c kc .char (Int32.ofNat N) (cs.map Value.int) (.int 0)) → (Arv Z h1 t kt .byte (Int32.ofNat (2 * N)) (wp cs i) (.int 0)) → (i ≤ N) → (N - i < f) → Go C Z n0 (fun v h => ∃ t kt, v = some (.ref t) ∧ Keep h0 h [] ∧ t = h0.size ∧ Arv Z h t kt .byte (Int32.ofNat (2 * N)) (wb cs) (.int 0)) [] h1 1 130 8 #[.val (.ref c), .val (.int (Int32.ofNat i)), .val (.int (Int32.ofNat N)), .val (.ref t), .val (.int (Int32.ofNat i))] [] := by
  intro f
  induction f with
  | zero => intro i h1 X1 K1 Kc1 Kt1 hi hf; exfalso; omega
  | succ f ih =>
    intro i h1 X1 K1 Kc1 Kt1 hi hf
    refine g_iload o (pc := 8) d_jdk_52_method_14_8 rfl ?_
    refine g_iload_n o (pc := 10) d_jdk_52_method_14_10 rfl ?_
    refine g_icmpN o (pc := 11) d_jdk_52_method_14_11 (t := 32) (by decide) rfl c_ge (fun hy1 => ?_) (fun hn2 => ?_)
    · refine g_aload_n o (pc := 32) d_jdk_52_method_14_32 rfl rfl ?_
      refine g_areturn o (pc := 33) rfl rfl d_jdk_52_method_14_33 ?_ (by decide) (by decide)
      have e : i = cs.length := by have := mt (n_lt (i := i) (j := N) (by omega) (by omega)).mpr hy1; omega
      exact ⟨t, kt, rfl, K1, ht, by rw [← wp_full cs, ← e]; exact Kt1⟩
    · have hlt : i < N := (n_lt (by omega) (by omega)).mp hn2
      refine g_aload_n o (pc := 14) d_jdk_52_method_14_14 rfl rfl ?_
      refine g_iload o (pc := 15) d_jdk_52_method_14_15 rfl ?_
      refine g_aload_n o (pc := 17) d_jdk_52_method_14_17 rfl rfl ?_
      refine g_iload_n o (pc := 18) d_jdk_52_method_14_18 rfl ?_
      refine g_caload o (pc := 19) d_jdk_52_method_14_19 Kc1 (by rw [n_clamp (by omega), List.length_map, hlen]) (n_nn (by omega)) (i := i) (n_clamp (by omega)) (by rw [List.length_map, hlen]; exact hlt) (v := .int (cs.getD i 0)) getD_int ?_
      refine g_static o (pc := 20) [(.ref t), (.int (Int32.ofNat i)), (.int (cs.getD i 0))] [] d_jdk_52_method_14_20 (wd_94 hw) (wd_95 hw) (wd_27 hw) (wd_96 hw) (by decide) (Met.back o (W := 0) (rm_upc C.l Z a0 hw n0 h1 X1 t kt (wp cs i) N i (cs.getD i 0) Sa Sh Sl Kt1 ((wp_len cs i).trans (by rw [hlen])) hN hlt gt) (wd_96 hw) (wd_27 hw) (by decide) (by decide)) (fun _ _ _ q => q) (Or.inl hE) pd_8 rfl rfl rfl rfl (by decide) (by decide) fun v3 h4 q5 => ?_
      obtain ⟨rfl, K6, A7⟩ := q5
      rw [wp_set cs i (by omega)] at A7
      show Go C Z n0 (fun v h => ∃ t kt, v = some (.ref t) ∧ Keep h0 h [] ∧ t = h0.size ∧ Arv Z h t kt .byte (Int32.ofNat (2 * N)) (wb cs) (.int 0)) [] h4 1 130 23 #[.val (.ref c), .val (.int (Int32.ofNat i)), .val (.int (Int32.ofNat N)), .val (.ref t), .val (.int (Int32.ofNat i))] []
      refine g_iinc o (pc := 23) d_jdk_52_method_14_23 rfl (w := (Int32.ofNat (i + 1))) (n_add i 1) (L' := #[.val (.ref c), .val (.int (Int32.ofNat (i + 1))), .val (.int (Int32.ofNat N)), .val (.ref t), .val (.int (Int32.ofNat i))]) rfl ?_
      refine g_iinc o (pc := 26) d_jdk_52_method_14_26 rfl (w := (Int32.ofNat (i + 1))) (n_add i 1) (L' := #[.val (.ref c), .val (.int (Int32.ofNat (i + 1))), .val (.int (Int32.ofNat N)), .val (.ref t), .val (.int (Int32.ofNat (i + 1)))]) rfl ?_
      refine g_goto o (pc := 29) d_jdk_52_method_14_29 (t := 8) (by decide) rfl ?_
      exact ih (i + 1) h4 (X1.keep K6 (allS gt all0)) (K1.trans K6 (allS (Or.inr kt0) all0)) (Kc1.keep K6 (ninS hct nin0)) A7 (by omega) (by omega)
set_option maxRecDepth 65536 in
set_option maxHeartbeats 40000000 in
theorem rm_utb (l : Launch) (Z : State) (a0 : Array Value) (hw : ∀ d ∈ tables_1, d.before a0 Z = true) (n0 : Nat) (h0 : Heap) (X0 : Old Z n0 h0) (c : Addr) (kc : ClassId) (cs : List Int32) (N : Nat) (Sa : Sta Z Z.heap "java/lang/StringUTF16" "$assertionsDisabled" "Z" (.int 1)) (Sh : Sta Z Z.heap "java/lang/StringUTF16" "HI_BYTE_SHIFT" "I" (.int 0)) (Sl : Sta Z Z.heap "java/lang/StringUTF16" "LO_BYTE_SHIFT" "I" (.int 8)) (Kc : Arv Z h0 c kc .char (Int32.ofNat N) (cs.map Value.int) (.int 0)) (hlen : cs.length = N) (hN : N < 1000) (hNM : N ≤ 65) :
    Met l Z n0 (⟨"java/lang/StringUTF16", "toBytes", "([CII)[B"⟩ : MethodName) jdk_52_method_14_code 5 (some (.array .byte)) ({ frames := 2, cells := 1, slots := 130, locals := 24 } : Room) #[(.ref c), (.int 0), (.int (Int32.ofNat N))] h0 (fun v h => ∃ t kt, v = some (.ref t) ∧ Keep h0 h [] ∧ t = h0.size ∧ Arv Z h t kt .byte (Int32.ofNat (2 * N)) (wb cs) (.int 0)) := by
  refine met_of (plainFor_of_name pn_2) hw (L := #[.val (.ref c), .val (.int 0), .val (.int (Int32.ofNat N)), .unset, .unset]) (fun m => by first | (simp [entryFrame, mkF, argsToLocals, Value.category]; done) | rfl) fun C hl hwd hE hPL hcs hr o => ?_
  subst hl
  have o : Ok C Z a0 jdk_52_method_14_code 5 (some (.array .byte)) "toBytes" "java/lang/StringUTF16" ({ frames := 2, cells := 1, slots := 130, locals := 24 } : Room) := o
  refine g_iload_n o (pc := 0) d_jdk_52_method_14_0 rfl ?_
  refine g_static o (pc := 1) [(.int (Int32.ofNat N))] [] d_jdk_52_method_14_1 (wd_87 hw) (wd_88 hw) (wd_27 hw) (wd_89 hw) (by decide) (Met.back o (W := 0) (rm_unf C.l Z a0 hw n0 h0 X0 N hN hNM) (wd_89 hw) (wd_27 hw) (by decide) (by decide)) (fun _ _ _ q => q) (Or.inl hE) pd_9 rfl rfl rfl rfl (by decide) (by decide) fun v1 h2 q3 => ?_
  obtain ⟨t6, kt7, rfl, K4, ht8, A5⟩ := q3
  show Go C Z n0 (fun v h => ∃ t kt, v = some (.ref t) ∧ Keep h0 h [] ∧ t = h0.size ∧ Arv Z h t kt .byte (Int32.ofNat (2 * N)) (wb cs) (.int 0)) [] h2 1 130 4 #[.val (.ref c), .val (.int 0), .val (.int (Int32.ofNat N)), .unset, .unset] [(.ref t6)]
  refine g_astore_n o (pc := 4) d_jdk_52_method_14_4 rfl (L' := #[.val (.ref c), .val (.int 0), .val (.int (Int32.ofNat N)), .val (.ref t6), .unset]) rfl ?_
  refine g_iconst o (pc := 5) d_jdk_52_method_14_5 (v := 0) rfl ?_
  refine g_istore o (pc := 6) d_jdk_52_method_14_6 (L' := #[.val (.ref c), .val (.int 0), .val (.int (Int32.ofNat N)), .val (.ref t6), .val (.int 0)]) rfl ?_
  have q9 := (X0.keep K4 all0)
  have q10 := ((Keep.refl _ []).trans K4 all0)
  have q11 := (Kc.keep K4 nin0)
  exact lp_tb hw hE hPL hcs hwd n0 o h0 X0 c kc cs N t6 kt7 Sa Sh Sl hlen hN hNM ht8 (Nat.le_of_eq ht8.symm) (ge_new ht8 X0) (ne_new ht8 Kc.lt) (N + 1) 0 h2 q9 q10 q11 (by rw [wp_0, hlen]; exact A5) (Nat.zero_le _) (by omega)
set_option maxRecDepth 65536 in
set_option maxHeartbeats 40000000 in
theorem lp_ci {C : Cx} {Z : State} {a0 : Array Value} (hw : ∀ d ∈ tables_1, d.before a0 Z = true) (hE : C.EL = []) (hPL : C.PL = []) (hcs : C.cs = 0) (hwd : C.wide = false) (n0 : Nat) (o : Ok C Z a0 jdk_52_method_21_code 7 (some .int) "compress" "java/lang/StringUTF16" ({ frames := 0, cells := 0, slots := 0, locals := 0 } : Room)) (h0 : Heap) (X0 : Old Z n0 h0) (c : Addr) (kc : ClassId) (cs : List Int32) (N : Nat) (t : Addr) (kt : ClassId) (j : Nat) (hlen : cs.length = N) (hN : N < 1000) (hNM : N ≤ 65) (gt : n0 ≤ t) (hct : c ≠ t) (hj : j < N) (hlow : ∀ i, i < j → ¬ (255 : Int32) < cs.getD i 0) (hbig : (255 : Int32) < cs.getD j 0) :
    ∀ (f : Nat) (i : Nat) (h1 : Heap) (sl : Slot) (vs : List Value), (Old Z n0 h1) → (Keep h0 h1 [t]) → (Arv Z h1 c kc .char (Int32.ofNat N) (cs.map Value.int) (.int 0)) → (Arv Z h1 t kt .byte (Int32.ofNat N) vs (.int 0)) → (vs.length = N) → (sl = .unset ∨ ∃ w, sl = .val w ∧ w.category = 1) → (i ≤ j) → (j - i < f) → Go C Z n0 (fun v h => v = some (.int (Int32.ofNat j)) ∧ Keep h0 h [t]) [] h1 0 0 3 #[.val (.ref c), .val (.int (Int32.ofNat i)), .val (.ref t), .val (.int (Int32.ofNat i)), .val (.int (Int32.ofNat N)), .val (.int (Int32.ofNat i)), sl] [] := by
  intro f
  induction f with
  | zero => intro i h1 sl vs X1 K1 Kc1 Kt1 hv hsl hij hf; exfalso; omega
  | succ f ih =>
    intro i h1 sl vs X1 K1 Kc1 Kt1 hv hsl hij hf
    have hlt : i < N := by omega
    refine g_iload o (pc := 3) d_jdk_52_method_21_3 rfl ?_
    refine g_iload o (pc := 5) d_jdk_52_method_21_5 rfl ?_
    refine g_icmpN o (pc := 7) d_jdk_52_method_21_7 (t := 44) (by decide) rfl c_ge (fun hy1 => absurd ((n_lt (by omega) (by omega)).mpr hlt) hy1) (fun _ => ?_)
    refine g_aload_n o (pc := 10) d_jdk_52_method_21_10 rfl rfl ?_
    refine g_iload_n o (pc := 11) d_jdk_52_method_21_11 rfl ?_
    refine g_caload o (pc := 12) d_jdk_52_method_21_12 Kc1 (by rw [n_clamp (by omega), List.length_map, hlen]) (n_nn (by omega)) (i := i) (n_clamp (by omega)) (by rw [List.length_map, hlen]; exact hlt) (v := .int (cs.getD i 0)) getD_int ?_
    refine g_istore o (pc := 13) d_jdk_52_method_21_13 (L' := #[.val (.ref c), .val (.int (Int32.ofNat i)), .val (.ref t), .val (.int (Int32.ofNat i)), .val (.int (Int32.ofNat N)), .val (.int (Int32.ofNat i)), .val (.int (cs.getD i 0))]) (store_cat rfl hsl rfl rfl) ?_
    refine g_iload o (pc := 15) d_jdk_52_method_21_15 rfl ?_
    refine g_sipush o (pc := 17) d_jdk_52_method_21_17 (v := 255) rfl ?_
    refine g_icmpN o (pc := 20) d_jdk_52_method_21_20 (t := 26) (by decide) rfl c_le (fun hy2 => ?_) (fun hn3 => ?_)
    · have hij2 : i < j := by
        rcases Nat.lt_or_ge i j with q | q
        · exact q
        · have e : i = j := by omega
          rw [e] at hy2; exact absurd hbig hy2
      refine g_aload_n o (pc := 26) d_jdk_52_method_21_26 rfl rfl ?_
      refine g_iload_n o (pc := 27) d_jdk_52_method_21_27 rfl ?_
      refine g_iload o (pc := 28) d_jdk_52_method_21_28 rfl ?_
      refine g_i2b o (pc := 30) d_jdk_52_method_21_30 (v := (cs.getD i 0).toInt8.toInt32) rfl ?_
      refine g_bbstore o (pc := 31) d_jdk_52_method_21_31 Kt1 (by rw [n_clamp (by omega), hv]) (n_nn (by omega)) (i := i) (n_clamp (by omega)) (by rw [hv]; exact hlt) (y := (cs.getD i 0).toInt8.toInt32) (i8_idem _) gt (Or.inl hE) fun h4 W5 V6 => ?_
      refine g_iinc o (pc := 32) d_jdk_52_method_21_32 rfl (w := (Int32.ofNat (i + 1))) (n_add i 1) (L' := #[.val (.ref c), .val (.int (Int32.ofNat (i + 1))), .val (.ref t), .val (.int (Int32.ofNat i)), .val (.int (Int32.ofNat N)), .val (.int (Int32.ofNat i)), .val (.int (cs.getD i 0))]) rfl ?_
      refine g_iinc o (pc := 35) d_jdk_52_method_21_35 rfl (w := (Int32.ofNat (i + 1))) (n_add i 1) (L' := #[.val (.ref c), .val (.int (Int32.ofNat (i + 1))), .val (.ref t), .val (.int (Int32.ofNat (i + 1))), .val (.int (Int32.ofNat N)), .val (.int (Int32.ofNat i)), .val (.int (cs.getD i 0))]) rfl ?_
      refine g_iinc o (pc := 38) d_jdk_52_method_21_38 rfl (w := (Int32.ofNat (i + 1))) (n_add i 1) (L' := #[.val (.ref c), .val (.int (Int32.ofNat (i + 1))), .val (.ref t), .val (.int (Int32.ofNat (i + 1))), .val (.int (Int32.ofNat N)), .val (.int (Int32.ofNat (i + 1))), .val (.int (cs.getD i 0))]) rfl ?_
      refine g_goto o (pc := 41) d_jdk_52_method_21_41 (t := 3) (by decide) rfl ?_
      exact ih (i + 1) h4 (.val (.int (cs.getD i 0))) _ (X1.wr W5 gt) (K1.wr W5 (Or.inl (by simp))) (Kc1.other W5 hct) V6 (by rw [List.length_set, hv]) (Or.inr ⟨_, rfl, rfl⟩) (by omega) (by omega)
    · refine g_iload o (pc := 23) d_jdk_52_method_21_23 rfl ?_
      refine g_ireturn o (pc := 25) d_jdk_52_method_21_25 ?_ (by decide) (by decide)
      have e : i = j := by
        rcases Nat.lt_or_ge i j with q | q
        · exact absurd hn3 (hlow i q)
        · omega
      exact ⟨by rw [e], K1⟩
set_option maxRecDepth 65536 in
set_option maxHeartbeats 40000000 in
theorem rm_cpi (l : Launch) (Z : State) (a0 : Array Value) (hw : ∀ d ∈ tables_1, d.before a0 Z = true) (n0 : Nat) (h0 : Heap) (X0 : Old Z n0 h0) (c : Addr) (kc : ClassId) (cs : List Int32) (N : Nat) (t : Addr) (kt : ClassId) (j : Nat) (vs : List Value) (Kc : Arv Z h0 c kc .char (Int32.ofNat N) (cs.map Value.int) (.int 0)) (hlen : cs.length = N) (hN : N < 1000) (hNM : N ≤ 65) (gt : n0 ≤ t) (hct : c ≠ t) (hj : j < N) (hlow : ∀ i, i < j → ¬ (255 : Int32) < cs.getD i 0) (hbig : (255 : Int32) < cs.getD j 0) (Kt : Arv Z h0 t kt .byte (Int32.ofNat N) vs (.int 0)) (hv : vs.length = N) :
    Met l Z n0 (⟨"java/lang/StringUTF16", "compress", "([CI[BII)I"⟩ : MethodName) jdk_52_method_21_code 7 (some .int) ({ frames := 0, cells := 0, slots := 0, locals := 0 } : Room) #[(.ref c), (.int 0), (.ref t), (.int 0), (.int (Int32.ofNat N))] h0 (fun v h => v = some (.int (Int32.ofNat j)) ∧ Keep h0 h [t]) := by
  refine met_of (plainFor_of_name pn_2) hw (L := #[.val (.ref c), .val (.int 0), .val (.ref t), .val (.int 0), .val (.int (Int32.ofNat N)), .unset, .unset]) (fun m => by first | (simp [entryFrame, mkF, argsToLocals, Value.category]; done) | rfl) fun C hl hwd hE hPL hcs hr o => ?_
  subst hl
  have o : Ok C Z a0 jdk_52_method_21_code 7 (some .int) "compress" "java/lang/StringUTF16" ({ frames := 0, cells := 0, slots := 0, locals := 0 } : Room) := o
  refine g_iconst o (pc := 0) d_jdk_52_method_21_0 (v := 0) rfl ?_
  refine g_istore o (pc := 1) d_jdk_52_method_21_1 (L' := #[.val (.ref c), .val (.int 0), .val (.ref t), .val (.int 0), .val (.int (Int32.ofNat N)), .val (.int 0), .unset]) rfl ?_
  exact lp_ci hw hE hPL hcs hwd n0 o h0 X0 c kc cs N t kt j hlen hN hNM gt hct hj hlow hbig (N + 1) 0 h0 .unset vs X0 (Keep.refl _ [t]) Kc Kt hv (Or.inl rfl) (Nat.zero_le _) (by omega)
set_option maxRecDepth 65536 in
set_option maxHeartbeats 40000000 in
theorem rm_cpo (l : Launch) (Z : State) (a0 : Array Value) (hw : ∀ d ∈ tables_1, d.before a0 Z = true) (n0 : Nat) (h0 : Heap) (X0 : Old Z n0 h0) (c : Addr) (kc : ClassId) (cs : List Int32) (N : Nat) (j : Nat) (Sa : Sta Z Z.heap "java/lang/StringUTF16" "$assertionsDisabled" "Z" (.int 1)) (Sh : Sta Z Z.heap "java/lang/StringUTF16" "HI_BYTE_SHIFT" "I" (.int 0)) (Sl : Sta Z Z.heap "java/lang/StringUTF16" "LO_BYTE_SHIFT" "I" (.int 8)) (Kc : Arv Z h0 c kc .char (Int32.ofNat N) (cs.map Value.int) (.int 0)) (hlen : cs.length = N) (hN : N < 1000) (hNM : N ≤ 65) (hj : j < N) (hlow : ∀ i, i < j → ¬ (255 : Int32) < cs.getD i 0) (hbig : (255 : Int32) < cs.getD j 0) (hu : ∀ ch_ ∈ cs, U16 ch_) :
    Met l Z n0 (⟨"java/lang/StringUTF16", "compress", "([CII)[B"⟩ : MethodName) jdk_52_method_16_code 6 (some (.array .byte)) ({ frames := 3, cells := 2, slots := 195, locals := 40 } : Room) #[(.ref c), (.int 0), (.int (Int32.ofNat N))] h0 (fun v h => ∃ t kt, v = some (.ref t) ∧ Keep h0 h [] ∧ Arv Z h t kt .byte (Int32.ofNat (2 * N)) (wb cs) (.int 0)) := by
  refine met_of (plainFor_of_name pn_2) hw (L := #[.val (.ref c), .val (.int 0), .val (.int (Int32.ofNat N)), .unset, .unset, .unset]) (fun m => by first | (simp [entryFrame, mkF, argsToLocals, Value.category]; done) | rfl) fun C hl hwd hE hPL hcs hr o => ?_
  subst hl
  have o : Ok C Z a0 jdk_52_method_16_code 6 (some (.array .byte)) "compress" "java/lang/StringUTF16" ({ frames := 3, cells := 2, slots := 195, locals := 40 } : Room) := o
  refine g_iload_n o (pc := 0) d_jdk_52_method_16_0 rfl ?_
  refine g_newarr o (pc := 1) d_jdk_52_method_16_1 (dv := .int 0) rfl rfl (wd_29 hw) (n_nn (by omega)) (m := N) (n_clamp (by omega)) (by omega) (by decide) (Nat.le_trans (m := 65) (by omega) (by decide)) (M' := fun _ => []) (fun _ _ q => nomatch q) fun a1 h2 kc3 ha4 E5 V6 => ?_
  refine Go.mono (k1 := 1) (n1 := 65) (by decide) (by omega) ?_
  show Go C Z n0 (fun v h => ∃ t kt, v = some (.ref t) ∧ Keep h0 h [] ∧ Arv Z h t kt .byte (Int32.ofNat (2 * N)) (wb cs) (.int 0)) [] h2 1 65 3 #[.val (.ref c), .val (.int 0), .val (.int (Int32.ofNat N)), .unset, .unset, .unset] [(.ref a1)]
  refine g_astore_n o (pc := 3) d_jdk_52_method_16_3 rfl (L' := #[.val (.ref c), .val (.int 0), .val (.int (Int32.ofNat N)), .val (.ref a1), .unset, .unset]) rfl ?_
  refine g_aload_n o (pc := 4) d_jdk_52_method_16_4 rfl rfl ?_
  refine g_iload_n o (pc := 5) d_jdk_52_method_16_5 rfl ?_
  refine g_aload_n o (pc := 6) d_jdk_52_method_16_6 rfl rfl ?_
  refine g_iconst o (pc := 7) d_jdk_52_method_16_7 (v := 0) rfl ?_
  refine g_iload_n o (pc := 8) d_jdk_52_method_16_8 rfl ?_
  have q7 := (Kc.ext E5)
  have q8 := (X0.ext E5)
  refine g_static o (pc := 9) [(.ref c), (.int 0), (.ref a1), (.int 0), (.int (Int32.ofNat N))] [] d_jdk_52_method_16_9 (wd_30 hw) (wd_31 hw) (wd_27 hw) (wd_32 hw) (by decide) (Met.back o (W := 0) (rm_cpi C.l Z a0 hw n0 h2 q8 c kc cs N a1 kc3 j _ q7 hlen hN hNM (ge_new ha4 X0) (ne_new ha4 Kc.lt) hj hlow hbig V6 (List.length_replicate ..)) (wd_32 hw) (wd_27 hw) (by decide) (by decide)) (fun _ _ _ q => q) (Or.inl hE) pd_10 rfl rfl rfl rfl (by decide) (by decide) fun v9 h10 q11 => ?_
  obtain ⟨rfl, K12⟩ := q11
  show Go C Z n0 (fun v h => ∃ t kt, v = some (.ref t) ∧ Keep h0 h [] ∧ Arv Z h t kt .byte (Int32.ofNat (2 * N)) (wb cs) (.int 0)) [] h10 1 65 12 #[.val (.ref c), .val (.int 0), .val (.int (Int32.ofNat N)), .val (.ref a1), .unset, .unset] [(.int (Int32.ofNat j))]
  refine g_istore o (pc := 12) d_jdk_52_method_16_12 (L' := #[.val (.ref c), .val (.int 0), .val (.int (Int32.ofNat N)), .val (.ref a1), .val (.int (Int32.ofNat j)), .unset]) rfl ?_
  refine g_iload o (pc := 14) d_jdk_52_method_16_14 rfl ?_
  refine g_iload_n o (pc := 16) d_jdk_52_method_16_16 rfl ?_
  refine g_icmp o (pc := 17) d_jdk_52_method_16_17 (t := 57) (by decide) rfl c_eq (fun hy13 => absurd hy13 (mt (n_eq (by omega) (by omega)).mp (by omega))) (fun _ => ?_)
  refine g_aload_n o (pc := 20) d_jdk_52_method_16_20 rfl rfl ?_
  refine g_iload_n o (pc := 21) d_jdk_52_method_16_21 rfl ?_
  refine g_iload_n o (pc := 22) d_jdk_52_method_16_22 rfl ?_
  have q14 := (q7.keep K12 (ninS (ne_new ha4 Kc.lt) nin0))
  have q15 := (q8.keep K12 (allS (ge_new ha4 X0) all0))
  refine g_static o (pc := 23) [(.ref c), (.int 0), (.int (Int32.ofNat N))] [] d_jdk_52_method_16_23 (wd_84 hw) (wd_85 hw) (wd_27 hw) (wd_86 hw) (by decide) (Met.back o (W := 0) (rm_utb C.l Z a0 hw n0 h10 q15 c kc cs N Sa Sh Sl q14 hlen hN hNM) (wd_86 hw) (wd_27 hw) (by decide) (by decide)) (fun _ _ _ q => q) (Or.inl hE) pd_11 rfl rfl rfl rfl (by decide) (by decide) fun v16 h17 q18 => ?_
  obtain ⟨t21, kt22, rfl, K19, ht23, A20⟩ := q18
  show Go C Z n0 (fun v h => ∃ t kt, v = some (.ref t) ∧ Keep h0 h [] ∧ Arv Z h t kt .byte (Int32.ofNat (2 * N)) (wb cs) (.int 0)) [] h17 2 195 26 #[.val (.ref c), .val (.int 0), .val (.int (Int32.ofNat N)), .val (.ref a1), .val (.int (Int32.ofNat j)), .unset] [(.ref t21)]
  refine g_astore o (pc := 26) d_jdk_52_method_16_26 rfl (L' := #[.val (.ref c), .val (.int 0), .val (.int (Int32.ofNat N)), .val (.ref a1), .val (.int (Int32.ofNat j)), .val (.ref t21)]) rfl ?_
  refine g_aload o (pc := 28) d_jdk_52_method_16_28 rfl rfl ?_
  refine g_iload o (pc := 30) d_jdk_52_method_16_30 rfl ?_
  have q24 := (q15.keep K19 all0)
  refine g_static o (pc := 32) [(.ref t21), (.int (Int32.ofNat j))] [] d_jdk_52_method_16_32 (wd_100 hw) (wd_101 hw) (wd_27 hw) (wd_102 hw) (by decide) (Met.back o (W := 0) (rm_ugc C.l Z a0 hw n0 h17 q24 t21 kt22 cs j Sa Sh Sl (by rw [hlen]; exact A20) (by omega) (by omega) hu) (wd_102 hw) (wd_27 hw) (by decide) (by decide)) (fun _ _ _ q => q) (Or.inl hE) pd_4 rfl rfl rfl rfl (by decide) (by decide) fun v25 h26 q27 => ?_
  obtain ⟨rfl, hh⟩ := q27
  obtain rfl := hh.symm
  show Go C Z n0 (fun v h => ∃ t kt, v = some (.ref t) ∧ Keep h0 h [] ∧ Arv Z h t kt .byte (Int32.ofNat (2 * N)) (wb cs) (.int 0)) [] h17 2 195 35 #[.val (.ref c), .val (.int 0), .val (.int (Int32.ofNat N)), .val (.ref a1), .val (.int (Int32.ofNat j)), .val (.ref t21)] [(.int (cs.getD j 0))]
  refine g_sipush o (pc := 35) d_jdk_52_method_16_35 (v := 255) rfl ?_
  refine g_icmp o (pc := 38) d_jdk_52_method_16_38 (t := 54) (by decide) rfl c_gt (fun _ => ?_) (fun hn28 => absurd hbig hn28)
  refine g_aload o (pc := 54) d_jdk_52_method_16_54 rfl rfl ?_
  refine g_areturn o (pc := 56) rfl rfl d_jdk_52_method_16_56 ?_ (by decide) (by decide)
  exact ⟨t21, kt22, rfl, ((((Keep.refl _ []).ext E5).trans K12 (allS (Or.inr (keep_new ha4 (Keep.refl _ []))) all0)).trans K19 all0), A20⟩
set_option maxRecDepth 65536 in
set_option maxHeartbeats 40000000 in
theorem rm_cfl (l : Launch) (Z : State) (a0 : Array Value) (hw : ∀ d ∈ tables_1, d.before a0 Z = true) (n0 : Nat) (h0 : Heap) (X0 : Old Z n0 h0) (t : Addr) (kt : ClassId) (vs : List Value) (N : Nat) (Kt : Arv Z h0 t kt .byte (Int32.ofNat (2 * N)) vs (.int 0)) (h1 : 0 < N) (hN : N < 1000) :
    Met l Z n0 (⟨"java/lang/StringUTF16", "coderFromArrayLen", "([BI)B"⟩ : MethodName) jdk_52_method_15_code 2 (some .byte) ({ frames := 0, cells := 0, slots := 0, locals := 0 } : Room) #[(.ref t), (.int (Int32.ofNat N))] h0 (fun v h => v = some (.int 1) ∧ h = h0) := by
  refine met_of (plainFor_of_name pn_2) hw (L := #[.val (.ref t), .val (.int (Int32.ofNat N))]) (fun m => by first | (simp [entryFrame, mkF, argsToLocals, Value.category]; done) | rfl) fun C hl hwd hE hPL hcs hr o => ?_
  subst hl
  have o : Ok C Z a0 jdk_52_method_15_code 2 (some .byte) "coderFromArrayLen" "java/lang/StringUTF16" ({ frames := 0, cells := 0, slots := 0, locals := 0 } : Room) := o
  refine g_iload_n o (pc := 0) d_jdk_52_method_15_0 rfl ?_
  refine g_aload_n o (pc := 1) d_jdk_52_method_15_1 rfl rfl ?_
  refine g_alen o (pc := 2) d_jdk_52_method_15_2 Kt ?_
  refine g_isub o (pc := 3) d_jdk_52_method_15_3 (v := ((Int32.ofNat N) - (Int32.ofNat (2 * N)))) rfl ?_
  refine g_bipush o (pc := 4) d_jdk_52_method_15_4 (v := 31) rfl ?_
  refine g_iushr o (pc := 6) d_jdk_52_method_15_6 (v := (XT.ushr ((Int32.ofNat N) - (Int32.ofNat (2 * N))) 31)) rfl ?_
  refine g_i2b o (pc := 7) d_jdk_52_method_15_7 (v := 1) (cfl h1 hN) ?_
  refine g_nreturn o (pc := 8) (by simp) d_jdk_52_method_15_8 (y := 1) rfl ?_ (by decide) (by decide)
  exact ⟨rfl, rfl⟩
set_option maxRecDepth 65536 in
set_option maxHeartbeats 40000000 in
theorem rm_new4U (l : Launch) (Z : State) (a0 : Array Value) (hw : ∀ d ∈ tables_1, d.before a0 Z = true) (n0 : Nat) (h0 : Heap) (X0 : Old Z n0 h0) (x : Addr) (zc : Int32) (c : Addr) (kc : ClassId) (cs : List Int32) (N : Nat) (j : Nat) (Sc : Sta Z Z.heap "java/lang/String" "COMPACT_STRINGS" "Z" (.int zc)) (nzc : ¬ zc = 0) (A : Exa Z h0 x "java/lang/String") (Fv : Fld Z h0 x "java/lang/String" "value" "[B" .null) (Fc : Fld Z h0 x "java/lang/String" "coder" "B" (.int 0)) (gx : n0 ≤ x) (Sa : Sta Z Z.heap "java/lang/StringUTF16" "$assertionsDisabled" "Z" (.int 1)) (Sh : Sta Z Z.heap "java/lang/StringUTF16" "HI_BYTE_SHIFT" "I" (.int 0)) (Sl : Sta Z Z.heap "java/lang/StringUTF16" "LO_BYTE_SHIFT" "I" (.int 8)) (Kc : Arv Z h0 c kc .char (Int32.ofNat N) (cs.map Value.int) (.int 0)) (hlen : cs.length = N) (hN : N < 1000) (hNM : N ≤ 65) (hj : j < N) (hlow : ∀ i, i < j → ¬ (255 : Int32) < cs.getD i 0) (hbig : (255 : Int32) < cs.getD j 0) (hu : ∀ ch_ ∈ cs, U16 ch_) :
    Met l Z n0 (⟨"java/lang/String", "<init>", "([CIILjava/lang/Void;)V"⟩ : MethodName) jdk_42_method_149_code 6 none ({ frames := 4, cells := 2, slots := 195, locals := 57 } : Room) #[(.ref x), (.ref c), (.int 0), (.int (Int32.ofNat N)), .null] h0 (fun v h => v = none ∧ Keep h0 h [x] ∧ StrU Z h x cs) := by
  refine met_of (plainFor_of_name pn_1) hw (L := #[.val (.ref x), .val (.ref c), .val (.int 0), .val (.int (Int32.ofNat N)), .val .null, .unset]) (fun m => by first | (simp [entryFrame, mkF, argsToLocals, Value.category]; done) | rfl) fun C hl hwd hE hPL hcs hr o => ?_
  subst hl
  have o : Ok C Z a0 jdk_42_method_149_code 6 none "<init>" "java/lang/String" ({ frames := 4, cells := 2, slots := 195, locals := 57 } : Room) := o
  refine g_aload_n o (pc := 0) d_jdk_42_method_149_0 rfl rfl ?_
  refine g_initO o (pc := 1) d_jdk_42_method_149_1 (wd_21 hw) (wd_22 hw) (wd_23 hw) rfl (by decide) (by decide) ?_
  refine g_iload_n o (pc := 4) d_jdk_42_method_149_4 rfl ?_
  refine g_ifCN o (pc := 5) d_jdk_42_method_149_5 (t := 27) (by decide) rfl c_ne (fun _ => ?_) (fun hn1 => absurd hn1 (mt (n_eq (j := 0) (by omega) (by decide)).mp (by omega)))
  refine g_getS o (pc := 27) d_jdk_42_method_149_27 (wd_24 hw) Via.refl (Sc.ext X0.2) ?_
  refine g_ifC o (pc := 30) d_jdk_42_method_149_30 (t := 58) (by decide) rfl c_eq (fun hy2 => absurd hy2 nzc) (fun _ => ?_)
  refine g_aload_n o (pc := 33) d_jdk_42_method_149_33 rfl rfl ?_
  refine g_iload_n o (pc := 34) d_jdk_42_method_149_34 rfl ?_
  refine g_iload_n o (pc := 35) d_jdk_42_method_149_35 rfl ?_
  refine g_static o (pc := 36) [(.ref c), (.int 0), (.int (Int32.ofNat N))] [] d_jdk_42_method_149_36 (wd_25 hw) (wd_26 hw) (wd_27 hw) (wd_28 hw) (by decide) (Met.back o (W := 0) (rm_cpo C.l Z a0 hw n0 h0 X0 c kc cs N j Sa Sh Sl Kc hlen hN hNM hj hlow hbig hu) (wd_28 hw) (wd_27 hw) (by decide) (by decide)) (fun _ _ _ q => q) (Or.inl hE) pd_11 rfl rfl rfl rfl (by decide) (by decide) fun v3 h4 q5 => ?_
  obtain ⟨t8, kt9, rfl, K6, A7⟩ := q5
  show Go C Z n0 (fun v h => v = none ∧ Keep h0 h [x] ∧ StrU Z h x cs) [] h4 2 195 39 #[.val (.ref x), .val (.ref c), .val (.int 0), .val (.int (Int32.ofNat N)), .val .null, .unset] [(.ref t8)]
  refine g_astore o (pc := 39) d_jdk_42_method_149_39 rfl (L' := #[.val (.ref x), .val (.ref c), .val (.int 0), .val (.int (Int32.ofNat N)), .val .null, .val (.ref t8)]) rfl ?_
  refine g_aload_n o (pc := 41) d_jdk_42_method_149_41 rfl rfl ?_
  refine g_aload o (pc := 42) d_jdk_42_method_149_42 rfl rfl ?_
  refine g_iload_n o (pc := 44) d_jdk_42_method_149_44 rfl ?_
  have q10 := (X0.keep K6 all0)
  refine g_static o (pc := 45) [(.ref t8), (.int (Int32.ofNat N))] [(.ref x)] d_jdk_42_method_149_45 (wd_33 hw) (wd_34 hw) (wd_27 hw) (wd_35 hw) (by decide) (Met.back o (W := 1) (rm_cfl C.l Z a0 hw n0 h4 q10 t8 kt9 _ N A7 (by omega) hN) (wd_35 hw) (wd_27 hw) (by decide) (by decide)) (fun _ _ _ q => q) (Or.inl hE) pd_12 rfl rfl rfl rfl (by decide) (by decide) fun v11 h12 q13 => ?_
  obtain ⟨rfl, hh⟩ := q13
  obtain rfl := hh.symm
  show Go C Z n0 (fun v h => v = none ∧ Keep h0 h [x] ∧ StrU Z h x cs) [] h4 2 195 48 #[.val (.ref x), .val (.ref c), .val (.int 0), .val (.int (Int32.ofNat N)), .val .null, .val (.ref t8)] [(.int 1), (.ref x)]
  have q14 := (Fc.keep K6 nin0)
  have q15 := (A.keep K6)
  refine g_putF o (pc := 48) d_jdk_42_method_149_48 (wd_36 hw) Via.refl q14 q15 (Or.inr ⟨(wd_37 hw), rfl, rfl⟩) (wd_12 hw) (ty := .byte) (by decide) rfl rfl gx (Or.inl hE) fun h16 W17 => ?_
  have F18 := q14.same W17
  refine g_aload_n o (pc := 51) d_jdk_42_method_149_51 rfl rfl ?_
  refine g_aload o (pc := 52) d_jdk_42_method_149_52 rfl rfl ?_
  have q19 := ((Fv.keep K6 nin0).other W17 (Or.inr (slot_ne (Or.inr (wd_39 hw)) (Or.inr (wd_37 hw)) (by decide) (t := (.array .byte)) (t' := .byte) (by decide) (by decide))))
  have q20 := (q15.wr W17)
  refine g_putF o (pc := 54) d_jdk_42_method_149_54 (wd_38 hw) Via.refl q19 q20 (Or.inr ⟨(wd_39 hw), rfl, rfl⟩) (wd_12 hw) (ty := (.array .byte)) (by decide) rfl rfl gx (Or.inl hE) fun h21 W22 => ?_
  have F23 := q19.same W22
  refine g_return o (pc := 57) d_jdk_42_method_149_57 ?_ (by decide) (by decide)
  exact ⟨rfl, ((((Keep.refl _ [x]).trans K6 all0).wr W17 (Or.inl (by simp))).wr W22 (Or.inl (by simp))), (q20.wr W22), (F18.other W22 (Or.inr (slot_ne (Or.inr (wd_37 hw)) (Or.inr (wd_39 hw)) (by decide) (t := .byte) (t' := (.array .byte)) (by decide) (by decide)))), hu, ⟨_, getD_mem cs j (by omega), hbig⟩, t8, _, F23, by rw [hlen]; exact ((A7.other W17 (Ne.symm (Exa.neArv (A.keep K6) A7 (wd_12 hw)))).other W22 (Ne.symm (Exa.neArv ((A.keep K6).wr W17) (A7.other W17 (Ne.symm (Exa.neArv (A.keep K6) A7 (wd_12 hw)))) (wd_12 hw))))⟩
set_option maxRecDepth 65536 in
set_option maxHeartbeats 40000000 in
theorem rm_new1U (l : Launch) (Z : State) (a0 : Array Value) (hw : ∀ d ∈ tables_1, d.before a0 Z = true) (n0 : Nat) (h0 : Heap) (X0 : Old Z n0 h0) (x : Addr) (zc : Int32) (c : Addr) (kc : ClassId) (cs : List Int32) (N : Nat) (j : Nat) (Sc : Sta Z Z.heap "java/lang/String" "COMPACT_STRINGS" "Z" (.int zc)) (nzc : ¬ zc = 0) (A : Exa Z h0 x "java/lang/String") (Fv : Fld Z h0 x "java/lang/String" "value" "[B" .null) (Fc : Fld Z h0 x "java/lang/String" "coder" "B" (.int 0)) (gx : n0 ≤ x) (Sa : Sta Z Z.heap "java/lang/StringUTF16" "$assertionsDisabled" "Z" (.int 1)) (Sh : Sta Z Z.heap "java/lang/StringUTF16" "HI_BYTE_SHIFT" "I" (.int 0)) (Sl : Sta Z Z.heap "java/lang/StringUTF16" "LO_BYTE_SHIFT" "I" (.int 8)) (Kc : Arv Z h0 c kc .char (Int32.ofNat N) (cs.map Value.int) (.int 0)) (hlen : cs.length = N) (hN : N < 1000) (hNM : N ≤ 65) (hj : j < N) (hlow : ∀ i, i < j → ¬ (255 : Int32) < cs.getD i 0) (hbig : (255 : Int32) < cs.getD j 0) (hu : ∀ ch_ ∈ cs, U16 ch_) :
    Met l Z n0 (⟨"java/lang/String", "<init>", "([C)V"⟩ : MethodName) jdk_42_method_3_code 2 none ({ frames := 5, cells := 2, slots := 195, locals := 74 } : Room) #[(.ref x), (.ref c)] h0 (fun v h => v = none ∧ Keep h0 h [x] ∧ StrU Z h x cs) := by
  refine met_of (plainFor_of_name pn_1) hw (L := #[.val (.ref x), .val (.ref c)]) (fun m => by first | (simp [entryFrame, mkF, argsToLocals, Value.category]; done) | rfl) fun C hl hwd hE hPL hcs hr o => ?_
  subst hl
  have o : Ok C Z a0 jdk_42_method_3_code 2 none "<init>" "java/lang/String" ({ frames := 5, cells := 2, slots := 195, locals := 74 } : Room) := o
  refine g_aload_n o (pc := 0) d_jdk_42_method_3_0 rfl rfl ?_
  refine g_aload_n o (pc := 1) d_jdk_42_method_3_1 rfl rfl ?_
  refine g_iconst o (pc := 2) d_jdk_42_method_3_2 (v := 0) rfl ?_
  refine g_aload_n o (pc := 3) d_jdk_42_method_3_3 rfl rfl ?_
  refine g_alen o (pc := 4) d_jdk_42_method_3_4 Kc ?_
  refine g_aconst_null o (pc := 5) d_jdk_42_method_3_5 ?_
  refine g_special o (pc := 6) x [(.ref c), (.int 0), (.int (Int32.ofNat N)), .null] [] d_jdk_42_method_3_6 rfl (wd_17 hw) (wd_18 hw) (wd_20 hw) (by decide) (Met.back o (W := 0) (rm_new4U C.l Z a0 hw n0 h0 X0 x zc c kc cs N j Sc nzc A Fv Fc gx Sa Sh Sl Kc hlen hN hNM hj hlow hbig hu) (wd_20 hw) (wd_13 hw) (by decide) (by decide)) (fun _ _ _ q => q) (Or.inl hE) pd_13 rfl rfl rfl rfl (by decide) (by decide) fun v1 h2 q3 => ?_
  obtain ⟨rfl, K4, St5⟩ := q3
  show Go C Z n0 (fun v h => v = none ∧ Keep h0 h [x] ∧ StrU Z h x cs) [] h2 2 195 9 #[.val (.ref x), .val (.ref c)] []
  refine g_return o (pc := 9) d_jdk_42_method_3_9 ?_ (by decide) (by decide)
  exact ⟨rfl, ((Keep.refl _ [x]).trans K4 (allS (Or.inl (by simp)) all0)), St5⟩
set_option maxRecDepth 65536 in
set_option maxHeartbeats 40000000 in
theorem rm_lok (l : Launch) (Z : State) (a0 : Array Value) (hw : ∀ d ∈ tables_1, d.before a0 Z = true) (n0 : Nat) (h0 : Heap) (X0 : Old Z n0 h0) (c : Int32)  :
    Met l Z n0 (⟨"com/example/traceloom/traceloom/TraceIdsIsAcceptedPinLaw", "ok", "(C)Z"⟩ : MethodName) method_3_code 2 (some .boolean) ({ frames := 0, cells := 0, slots := 0, locals := 0 } : Room) #[(.int c)] h0 (fun v h => v = some (.int (okA c)) ∧ h = h0) := by
  refine met_of (plainFor_of_name pn_4) hw (L := #[.val (.int c), .unset]) (fun m => by first | (simp [entryFrame, mkF, argsToLocals, Value.category]; done) | rfl) fun C hl hwd hE hPL hcs hr o => ?_
  subst hl
  have o : Ok C Z a0 method_3_code 2 (some .boolean) "ok" "com/example/traceloom/traceloom/TraceIdsIsAcceptedPinLaw" ({ frames := 0, cells := 0, slots := 0, locals := 0 } : Room) := o
  refine g_iload_n o (pc := 0) d_method_3_0 rfl ?_
  refine g_istore_n o (pc := 1) d_method_3_1 (L' := #[.val (.int c), .val (.int c)]) rfl ?_
  refine g_iload_n o (pc := 2) d_method_3_2 rfl ?_
  refine g_bipush o (pc := 3) d_method_3_3 (v := 97) rfl ?_
  refine g_icmp o (pc := 5) d_method_3_5 (t := 16) (by decide) rfl c_lt (fun hy1 => ?_) (fun hn2 => ?_)
  · refine g_iload_n o (pc := 16) d_method_3_16 rfl ?_
    refine g_bipush o (pc := 17) d_method_3_17 (v := 65) rfl ?_
    refine g_icmp o (pc := 19) d_method_3_19 (t := 30) (by decide) rfl c_lt (fun hy3 => ?_) (fun hn4 => ?_)
    · refine g_iload_n o (pc := 30) d_method_3_30 rfl ?_
      refine g_bipush o (pc := 31) d_method_3_31 (v := 48) rfl ?_
      refine g_icmp o (pc := 33) d_method_3_33 (t := 44) (by decide) rfl c_lt (fun hy5 => ?_) (fun hn6 => ?_)
      · refine g_iload_n o (pc := 44) d_method_3_44 rfl ?_
        refine g_bipush o (pc := 45) d_method_3_45 (v := 45) rfl ?_
        refine g_icmp o (pc := 47) d_method_3_47 (t := 62) (by decide) rfl c_eq (fun hy7 => ?_) (fun hn8 => ?_)
        · refine g_iconst o (pc := 62) d_method_3_62 (v := 1) rfl ?_
          refine g_goto o (pc := 63) d_method_3_63 (t := 67) (by decide) rfl ?_
          refine g_nreturn o (pc := 67) (by simp) d_method_3_67 (y := 1) rfl ?_ (by decide) (by decide)
          exact ⟨congrArg (fun z => some (Value.int z)) (by rw [okA, if_pos hy1, okB, if_pos hy3, okC, if_pos hy5, okD, if_pos hy7] : okA c = 1).symm, rfl⟩
        · refine g_iload_n o (pc := 50) d_method_3_50 rfl ?_
          refine g_bipush o (pc := 51) d_method_3_51 (v := 95) rfl ?_
          refine g_icmp o (pc := 53) d_method_3_53 (t := 62) (by decide) rfl c_eq (fun hy9 => ?_) (fun hn10 => ?_)
          · refine g_iconst o (pc := 62) d_method_3_62 (v := 1) rfl ?_
            refine g_goto o (pc := 63) d_method_3_63 (t := 67) (by decide) rfl ?_
            refine g_nreturn o (pc := 67) (by simp) d_method_3_67 (y := 1) rfl ?_ (by decide) (by decide)
            exact ⟨congrArg (fun z => some (Value.int z)) (by rw [okA, if_pos hy1, okB, if_pos hy3, okC, if_pos hy5, okD, if_neg hn8, if_pos hy9] : okA c = 1).symm, rfl⟩
          · refine g_iload_n o (pc := 56) d_method_3_56 rfl ?_
            refine g_bipush o (pc := 57) d_method_3_57 (v := 46) rfl ?_
            refine g_icmpN o (pc := 59) d_method_3_59 (t := 66) (by decide) rfl c_ne (fun hy11 => ?_) (fun hn12 => ?_)
            · refine g_iconst o (pc := 66) d_method_3_66 (v := 0) rfl ?_
              refine g_nreturn o (pc := 67) (by simp) d_method_3_67 (y := 0) rfl ?_ (by decide) (by decide)
              exact ⟨congrArg (fun z => some (Value.int z)) (by rw [okA, if_pos hy1, okB, if_pos hy3, okC, if_pos hy5, okD, if_neg hn8, if_neg hn10, if_neg hy11] : okA c = 0).symm, rfl⟩
            · refine g_iconst o (pc := 62) d_method_3_62 (v := 1) rfl ?_
              refine g_goto o (pc := 63) d_method_3_63 (t := 67) (by decide) rfl ?_
              refine g_nreturn o (pc := 67) (by simp) d_method_3_67 (y := 1) rfl ?_ (by decide) (by decide)
              exact ⟨congrArg (fun z => some (Value.int z)) (by rw [okA, if_pos hy1, okB, if_pos hy3, okC, if_pos hy5, okD, if_neg hn8, if_neg hn10, if_pos hn12] : okA c = 1).symm, rfl⟩
      · refine g_iload_n o (pc := 36) d_method_3_36 rfl ?_
        refine g_bipush o (pc := 37) d_method_3_37 (v := 57) rfl ?_
        refine g_icmp o (pc := 39) d_method_3_39 (t := 44) (by decide) rfl c_gt (fun hy13 => ?_) (fun hn14 => ?_)
        · refine g_iload_n o (pc := 44) d_method_3_44 rfl ?_
          refine g_bipush o (pc := 45) d_method_3_45 (v := 45) rfl ?_
          refine g_icmp o (pc := 47) d_method_3_47 (t := 62) (by decide) rfl c_eq (fun hy15 => ?_) (fun hn16 => ?_)
          · refine g_iconst o (pc := 62) d_method_3_62 (v := 1) rfl ?_
            refine g_goto o (pc := 63) d_method_3_63 (t := 67) (by decide) rfl ?_
            refine g_nreturn o (pc := 67) (by simp) d_method_3_67 (y := 1) rfl ?_ (by decide) (by decide)
            exact ⟨congrArg (fun z => some (Value.int z)) (by rw [okA, if_pos hy1, okB, if_pos hy3, okC, if_neg hn6, if_pos hy13, okD, if_pos hy15] : okA c = 1).symm, rfl⟩
          · refine g_iload_n o (pc := 50) d_method_3_50 rfl ?_
            refine g_bipush o (pc := 51) d_method_3_51 (v := 95) rfl ?_
            refine g_icmp o (pc := 53) d_method_3_53 (t := 62) (by decide) rfl c_eq (fun hy17 => ?_) (fun hn18 => ?_)
            · refine g_iconst o (pc := 62) d_method_3_62 (v := 1) rfl ?_
              refine g_goto o (pc := 63) d_method_3_63 (t := 67) (by decide) rfl ?_
              refine g_nreturn o (pc := 67) (by simp) d_method_3_67 (y := 1) rfl ?_ (by decide) (by decide)
              exact ⟨congrArg (fun z => some (Value.int z)) (by rw [okA, if_pos hy1, okB, if_pos hy3, okC, if_neg hn6, if_pos hy13, okD, if_neg hn16, if_pos hy17] : okA c = 1).symm, rfl⟩
            · refine g_iload_n o (pc := 56) d_method_3_56 rfl ?_
              refine g_bipush o (pc := 57) d_method_3_57 (v := 46) rfl ?_
              refine g_icmpN o (pc := 59) d_method_3_59 (t := 66) (by decide) rfl c_ne (fun hy19 => ?_) (fun hn20 => ?_)
              · refine g_iconst o (pc := 66) d_method_3_66 (v := 0) rfl ?_
                refine g_nreturn o (pc := 67) (by simp) d_method_3_67 (y := 0) rfl ?_ (by decide) (by decide)
                exact ⟨congrArg (fun z => some (Value.int z)) (by rw [okA, if_pos hy1, okB, if_pos hy3, okC, if_neg hn6, if_pos hy13, okD, if_neg hn16, if_neg hn18, if_neg hy19] : okA c = 0).symm, rfl⟩
              · refine g_iconst o (pc := 62) d_method_3_62 (v := 1) rfl ?_
                refine g_goto o (pc := 63) d_method_3_63 (t := 67) (by decide) rfl ?_
                refine g_nreturn o (pc := 67) (by simp) d_method_3_67 (y := 1) rfl ?_ (by decide) (by decide)
                exact ⟨congrArg (fun z => some (Value.int z)) (by rw [okA, if_pos hy1, okB, if_pos hy3, okC, if_neg hn6, if_pos hy13, okD, if_neg hn16, if_neg hn18, if_pos hn20] : okA c = 1).symm, rfl⟩
        · refine g_iconst o (pc := 42) d_method_3_42 (v := 1) rfl ?_
          refine g_nreturn o (pc := 43) (by simp) d_method_3_43 (y := 1) rfl ?_ (by decide) (by decide)
          exact ⟨congrArg (fun z => some (Value.int z)) (by rw [okA, if_pos hy1, okB, if_pos hy3, okC, if_neg hn6, if_neg hn14] : okA c = 1).symm, rfl⟩
    · refine g_iload_n o (pc := 22) d_method_3_22 rfl ?_
      refine g_bipush o (pc := 23) d_method_3_23 (v := 90) rfl ?_
      refine g_icmp o (pc := 25) d_method_3_25 (t := 30) (by decide) rfl c_gt (fun hy21 => ?_) (fun hn22 => ?_)
      · refine g_iload_n o (pc := 30) d_method_3_30 rfl ?_
        refine g_bipush o (pc := 31) d_method_3_31 (v := 48) rfl ?_
        refine g_icmp o (pc := 33) d_method_3_33 (t := 44) (by decide) rfl c_lt (fun hy23 => ?_) (fun hn24 => ?_)
        · refine g_iload_n o (pc := 44) d_method_3_44 rfl ?_
          refine g_bipush o (pc := 45) d_method_3_45 (v := 45) rfl ?_
          refine g_icmp o (pc := 47) d_method_3_47 (t := 62) (by decide) rfl c_eq (fun hy25 => ?_) (fun hn26 => ?_)
          · refine g_iconst o (pc := 62) d_method_3_62 (v := 1) rfl ?_
            refine g_goto o (pc := 63) d_method_3_63 (t := 67) (by decide) rfl ?_
            refine g_nreturn o (pc := 67) (by simp) d_method_3_67 (y := 1) rfl ?_ (by decide) (by decide)
            exact ⟨congrArg (fun z => some (Value.int z)) (by rw [okA, if_pos hy1, okB, if_neg hn4, if_pos hy21, okC, if_pos hy23, okD, if_pos hy25] : okA c = 1).symm, rfl⟩
          · refine g_iload_n o (pc := 50) d_method_3_50 rfl ?_
            refine g_bipush o (pc := 51) d_method_3_51 (v := 95) rfl ?_
            refine g_icmp o (pc := 53) d_method_3_53 (t := 62) (by decide) rfl c_eq (fun hy27 => ?_) (fun hn28 => ?_)
            · refine g_iconst o (pc := 62) d_method_3_62 (v := 1) rfl ?_
              refine g_goto o (pc := 63) d_method_3_63 (t := 67) (by decide) rfl ?_
              refine g_nreturn o (pc := 67) (by simp) d_method_3_67 (y := 1) rfl ?_ (by decide) (by decide)
              exact ⟨congrArg (fun z => some (Value.int z)) (by rw [okA, if_pos hy1, okB, if_neg hn4, if_pos hy21, okC, if_pos hy23, okD, if_neg hn26, if_pos hy27] : okA c = 1).symm, rfl⟩
            · refine g_iload_n o (pc := 56) d_method_3_56 rfl ?_
              refine g_bipush o (pc := 57) d_method_3_57 (v := 46) rfl ?_
              refine g_icmpN o (pc := 59) d_method_3_59 (t := 66) (by decide) rfl c_ne (fun hy29 => ?_) (fun hn30 => ?_)
              · refine g_iconst o (pc := 66) d_method_3_66 (v := 0) rfl ?_
                refine g_nreturn o (pc := 67) (by simp) d_method_3_67 (y := 0) rfl ?_ (by decide) (by decide)
                exact ⟨congrArg (fun z => some (Value.int z)) (by rw [okA, if_pos hy1, okB, if_neg hn4, if_pos hy21, okC, if_pos hy23, okD, if_neg hn26, if_neg hn28, if_neg hy29] : okA c = 0).symm, rfl⟩
              · refine g_iconst o (pc := 62) d_method_3_62 (v := 1) rfl ?_
                refine g_goto o (pc := 63) d_method_3_63 (t := 67) (by decide) rfl ?_
                refine g_nreturn o (pc := 67) (by simp) d_method_3_67 (y := 1) rfl ?_ (by decide) (by decide)
                exact ⟨congrArg (fun z => some (Value.int z)) (by rw [okA, if_pos hy1, okB, if_neg hn4, if_pos hy21, okC, if_pos hy23, okD, if_neg hn26, if_neg hn28, if_pos hn30] : okA c = 1).symm, rfl⟩
        · refine g_iload_n o (pc := 36) d_method_3_36 rfl ?_
          refine g_bipush o (pc := 37) d_method_3_37 (v := 57) rfl ?_
          refine g_icmp o (pc := 39) d_method_3_39 (t := 44) (by decide) rfl c_gt (fun hy31 => ?_) (fun hn32 => ?_)
          · refine g_iload_n o (pc := 44) d_method_3_44 rfl ?_
            refine g_bipush o (pc := 45) d_method_3_45 (v := 45) rfl ?_
            refine g_icmp o (pc := 47) d_method_3_47 (t := 62) (by decide) rfl c_eq (fun hy33 => ?_) (fun hn34 => ?_)
            · refine g_iconst o (pc := 62) d_method_3_62 (v := 1) rfl ?_
              refine g_goto o (pc := 63) d_method_3_63 (t := 67) (by decide) rfl ?_
              refine g_nreturn o (pc := 67) (by simp) d_method_3_67 (y := 1) rfl ?_ (by decide) (by decide)
              exact ⟨congrArg (fun z => some (Value.int z)) (by rw [okA, if_pos hy1, okB, if_neg hn4, if_pos hy21, okC, if_neg hn24, if_pos hy31, okD, if_pos hy33] : okA c = 1).symm, rfl⟩
            · refine g_iload_n o (pc := 50) d_method_3_50 rfl ?_
              refine g_bipush o (pc := 51) d_method_3_51 (v := 95) rfl ?_
              refine g_icmp o (pc := 53) d_method_3_53 (t := 62) (by decide) rfl c_eq (fun hy35 => ?_) (fun hn36 => ?_)
              · refine g_iconst o (pc := 62) d_method_3_62 (v := 1) rfl ?_
                refine g_goto o (pc := 63) d_method_3_63 (t := 67) (by decide) rfl ?_
                refine g_nreturn o (pc := 67) (by simp) d_method_3_67 (y := 1) rfl ?_ (by decide) (by decide)
                exact ⟨congrArg (fun z => some (Value.int z)) (by rw [okA, if_pos hy1, okB, if_neg hn4, if_pos hy21, okC, if_neg hn24, if_pos hy31, okD, if_neg hn34, if_pos hy35] : okA c = 1).symm, rfl⟩
              · refine g_iload_n o (pc := 56) d_method_3_56 rfl ?_
                refine g_bipush o (pc := 57) d_method_3_57 (v := 46) rfl ?_
                refine g_icmpN o (pc := 59) d_method_3_59 (t := 66) (by decide) rfl c_ne (fun hy37 => ?_) (fun hn38 => ?_)
                · refine g_iconst o (pc := 66) d_method_3_66 (v := 0) rfl ?_
                  refine g_nreturn o (pc := 67) (by simp) d_method_3_67 (y := 0) rfl ?_ (by decide) (by decide)
                  exact ⟨congrArg (fun z => some (Value.int z)) (by rw [okA, if_pos hy1, okB, if_neg hn4, if_pos hy21, okC, if_neg hn24, if_pos hy31, okD, if_neg hn34, if_neg hn36, if_neg hy37] : okA c = 0).symm, rfl⟩
                · refine g_iconst o (pc := 62) d_method_3_62 (v := 1) rfl ?_
                  refine g_goto o (pc := 63) d_method_3_63 (t := 67) (by decide) rfl ?_
                  refine g_nreturn o (pc := 67) (by simp) d_method_3_67 (y := 1) rfl ?_ (by decide) (by decide)
                  exact ⟨congrArg (fun z => some (Value.int z)) (by rw [okA, if_pos hy1, okB, if_neg hn4, if_pos hy21, okC, if_neg hn24, if_pos hy31, okD, if_neg hn34, if_neg hn36, if_pos hn38] : okA c = 1).symm, rfl⟩
          · refine g_iconst o (pc := 42) d_method_3_42 (v := 1) rfl ?_
            refine g_nreturn o (pc := 43) (by simp) d_method_3_43 (y := 1) rfl ?_ (by decide) (by decide)
            exact ⟨congrArg (fun z => some (Value.int z)) (by rw [okA, if_pos hy1, okB, if_neg hn4, if_pos hy21, okC, if_neg hn24, if_neg hn32] : okA c = 1).symm, rfl⟩
      · refine g_iconst o (pc := 28) d_method_3_28 (v := 1) rfl ?_
        refine g_nreturn o (pc := 29) (by simp) d_method_3_29 (y := 1) rfl ?_ (by decide) (by decide)
        exact ⟨congrArg (fun z => some (Value.int z)) (by rw [okA, if_pos hy1, okB, if_neg hn4, if_neg hn22] : okA c = 1).symm, rfl⟩
  · refine g_iload_n o (pc := 8) d_method_3_8 rfl ?_
    refine g_bipush o (pc := 9) d_method_3_9 (v := 122) rfl ?_
    refine g_icmp o (pc := 11) d_method_3_11 (t := 16) (by decide) rfl c_gt (fun hy39 => ?_) (fun hn40 => ?_)
    · refine g_iload_n o (pc := 16) d_method_3_16 rfl ?_
      refine g_bipush o (pc := 17) d_method_3_17 (v := 65) rfl ?_
      refine g_icmp o (pc := 19) d_method_3_19 (t := 30) (by decide) rfl c_lt (fun hy41 => ?_) (fun hn42 => ?_)
      · refine g_iload_n o (pc := 30) d_method_3_30 rfl ?_
        refine g_bipush o (pc := 31) d_method_3_31 (v := 48) rfl ?_
        refine g_icmp o (pc := 33) d_method_3_33 (t := 44) (by decide) rfl c_lt (fun hy43 => ?_) (fun hn44 => ?_)
        · refine g_iload_n o (pc := 44) d_method_3_44 rfl ?_
          refine g_bipush o (pc := 45) d_method_3_45 (v := 45) rfl ?_
          refine g_icmp o (pc := 47) d_method_3_47 (t := 62) (by decide) rfl c_eq (fun hy45 => ?_) (fun hn46 => ?_)
          · refine g_iconst o (pc := 62) d_method_3_62 (v := 1) rfl ?_
            refine g_goto o (pc := 63) d_method_3_63 (t := 67) (by decide) rfl ?_
            refine g_nreturn o (pc := 67) (by simp) d_method_3_67 (y := 1) rfl ?_ (by decide) (by decide)
            exact ⟨congrArg (fun z => some (Value.int z)) (by rw [okA, if_neg hn2, if_pos hy39, okB, if_pos hy41, okC, if_pos hy43, okD, if_pos hy45] : okA c = 1).symm, rfl⟩
          · refine g_iload_n o (pc := 50) d_method_3_50 rfl ?_
            refine g_bipush o (pc := 51) d_method_3_51 (v := 95) rfl ?_
            refine g_icmp o (pc := 53) d_method_3_53 (t := 62) (by decide) rfl c_eq (fun hy47 => ?_) (fun hn48 => ?_)
            · refine g_iconst o (pc := 62) d_method_3_62 (v := 1) rfl ?_
              refine g_goto o (pc := 63) d_method_3_63 (t := 67) (by decide) rfl ?_
              refine g_nreturn o (pc := 67) (by simp) d_method_3_67 (y := 1) rfl ?_ (by decide) (by decide)
              exact ⟨congrArg (fun z => some (Value.int z)) (by rw [okA, if_neg hn2, if_pos hy39, okB, if_pos hy41, okC, if_pos hy43, okD, if_neg hn46, if_pos hy47] : okA c = 1).symm, rfl⟩
            · refine g_iload_n o (pc := 56) d_method_3_56 rfl ?_
              refine g_bipush o (pc := 57) d_method_3_57 (v := 46) rfl ?_
              refine g_icmpN o (pc := 59) d_method_3_59 (t := 66) (by decide) rfl c_ne (fun hy49 => ?_) (fun hn50 => ?_)
              · refine g_iconst o (pc := 66) d_method_3_66 (v := 0) rfl ?_
                refine g_nreturn o (pc := 67) (by simp) d_method_3_67 (y := 0) rfl ?_ (by decide) (by decide)
                exact ⟨congrArg (fun z => some (Value.int z)) (by rw [okA, if_neg hn2, if_pos hy39, okB, if_pos hy41, okC, if_pos hy43, okD, if_neg hn46, if_neg hn48, if_neg hy49] : okA c = 0).symm, rfl⟩
              · refine g_iconst o (pc := 62) d_method_3_62 (v := 1) rfl ?_
                refine g_goto o (pc := 63) d_method_3_63 (t := 67) (by decide) rfl ?_
                refine g_nreturn o (pc := 67) (by simp) d_method_3_67 (y := 1) rfl ?_ (by decide) (by decide)
                exact ⟨congrArg (fun z => some (Value.int z)) (by rw [okA, if_neg hn2, if_pos hy39, okB, if_pos hy41, okC, if_pos hy43, okD, if_neg hn46, if_neg hn48, if_pos hn50] : okA c = 1).symm, rfl⟩
        · refine g_iload_n o (pc := 36) d_method_3_36 rfl ?_
          refine g_bipush o (pc := 37) d_method_3_37 (v := 57) rfl ?_
          refine g_icmp o (pc := 39) d_method_3_39 (t := 44) (by decide) rfl c_gt (fun hy51 => ?_) (fun hn52 => ?_)
          · refine g_iload_n o (pc := 44) d_method_3_44 rfl ?_
            refine g_bipush o (pc := 45) d_method_3_45 (v := 45) rfl ?_
            refine g_icmp o (pc := 47) d_method_3_47 (t := 62) (by decide) rfl c_eq (fun hy53 => ?_) (fun hn54 => ?_)
            · refine g_iconst o (pc := 62) d_method_3_62 (v := 1) rfl ?_
              refine g_goto o (pc := 63) d_method_3_63 (t := 67) (by decide) rfl ?_
              refine g_nreturn o (pc := 67) (by simp) d_method_3_67 (y := 1) rfl ?_ (by decide) (by decide)
              exact ⟨congrArg (fun z => some (Value.int z)) (by rw [okA, if_neg hn2, if_pos hy39, okB, if_pos hy41, okC, if_neg hn44, if_pos hy51, okD, if_pos hy53] : okA c = 1).symm, rfl⟩
            · refine g_iload_n o (pc := 50) d_method_3_50 rfl ?_
              refine g_bipush o (pc := 51) d_method_3_51 (v := 95) rfl ?_
              refine g_icmp o (pc := 53) d_method_3_53 (t := 62) (by decide) rfl c_eq (fun hy55 => ?_) (fun hn56 => ?_)
              · refine g_iconst o (pc := 62) d_method_3_62 (v := 1) rfl ?_
                refine g_goto o (pc := 63) d_method_3_63 (t := 67) (by decide) rfl ?_
                refine g_nreturn o (pc := 67) (by simp) d_method_3_67 (y := 1) rfl ?_ (by decide) (by decide)
                exact ⟨congrArg (fun z => some (Value.int z)) (by rw [okA, if_neg hn2, if_pos hy39, okB, if_pos hy41, okC, if_neg hn44, if_pos hy51, okD, if_neg hn54, if_pos hy55] : okA c = 1).symm, rfl⟩
              · refine g_iload_n o (pc := 56) d_method_3_56 rfl ?_
                refine g_bipush o (pc := 57) d_method_3_57 (v := 46) rfl ?_
                refine g_icmpN o (pc := 59) d_method_3_59 (t := 66) (by decide) rfl c_ne (fun hy57 => ?_) (fun hn58 => ?_)
                · refine g_iconst o (pc := 66) d_method_3_66 (v := 0) rfl ?_
                  refine g_nreturn o (pc := 67) (by simp) d_method_3_67 (y := 0) rfl ?_ (by decide) (by decide)
                  exact ⟨congrArg (fun z => some (Value.int z)) (by rw [okA, if_neg hn2, if_pos hy39, okB, if_pos hy41, okC, if_neg hn44, if_pos hy51, okD, if_neg hn54, if_neg hn56, if_neg hy57] : okA c = 0).symm, rfl⟩
                · refine g_iconst o (pc := 62) d_method_3_62 (v := 1) rfl ?_
                  refine g_goto o (pc := 63) d_method_3_63 (t := 67) (by decide) rfl ?_
                  refine g_nreturn o (pc := 67) (by simp) d_method_3_67 (y := 1) rfl ?_ (by decide) (by decide)
                  exact ⟨congrArg (fun z => some (Value.int z)) (by rw [okA, if_neg hn2, if_pos hy39, okB, if_pos hy41, okC, if_neg hn44, if_pos hy51, okD, if_neg hn54, if_neg hn56, if_pos hn58] : okA c = 1).symm, rfl⟩
          · refine g_iconst o (pc := 42) d_method_3_42 (v := 1) rfl ?_
            refine g_nreturn o (pc := 43) (by simp) d_method_3_43 (y := 1) rfl ?_ (by decide) (by decide)
            exact ⟨congrArg (fun z => some (Value.int z)) (by rw [okA, if_neg hn2, if_pos hy39, okB, if_pos hy41, okC, if_neg hn44, if_neg hn52] : okA c = 1).symm, rfl⟩
      · refine g_iload_n o (pc := 22) d_method_3_22 rfl ?_
        refine g_bipush o (pc := 23) d_method_3_23 (v := 90) rfl ?_
        refine g_icmp o (pc := 25) d_method_3_25 (t := 30) (by decide) rfl c_gt (fun hy59 => ?_) (fun hn60 => ?_)
        · refine g_iload_n o (pc := 30) d_method_3_30 rfl ?_
          refine g_bipush o (pc := 31) d_method_3_31 (v := 48) rfl ?_
          refine g_icmp o (pc := 33) d_method_3_33 (t := 44) (by decide) rfl c_lt (fun hy61 => ?_) (fun hn62 => ?_)
          · refine g_iload_n o (pc := 44) d_method_3_44 rfl ?_
            refine g_bipush o (pc := 45) d_method_3_45 (v := 45) rfl ?_
            refine g_icmp o (pc := 47) d_method_3_47 (t := 62) (by decide) rfl c_eq (fun hy63 => ?_) (fun hn64 => ?_)
            · refine g_iconst o (pc := 62) d_method_3_62 (v := 1) rfl ?_
              refine g_goto o (pc := 63) d_method_3_63 (t := 67) (by decide) rfl ?_
              refine g_nreturn o (pc := 67) (by simp) d_method_3_67 (y := 1) rfl ?_ (by decide) (by decide)
              exact ⟨congrArg (fun z => some (Value.int z)) (by rw [okA, if_neg hn2, if_pos hy39, okB, if_neg hn42, if_pos hy59, okC, if_pos hy61, okD, if_pos hy63] : okA c = 1).symm, rfl⟩
            · refine g_iload_n o (pc := 50) d_method_3_50 rfl ?_
              refine g_bipush o (pc := 51) d_method_3_51 (v := 95) rfl ?_
              refine g_icmp o (pc := 53) d_method_3_53 (t := 62) (by decide) rfl c_eq (fun hy65 => ?_) (fun hn66 => ?_)
              · refine g_iconst o (pc := 62) d_method_3_62 (v := 1) rfl ?_
                refine g_goto o (pc := 63) d_method_3_63 (t := 67) (by decide) rfl ?_
                refine g_nreturn o (pc := 67) (by simp) d_method_3_67 (y := 1) rfl ?_ (by decide) (by decide)
                exact ⟨congrArg (fun z => some (Value.int z)) (by rw [okA, if_neg hn2, if_pos hy39, okB, if_neg hn42, if_pos hy59, okC, if_pos hy61, okD, if_neg hn64, if_pos hy65] : okA c = 1).symm, rfl⟩
              · refine g_iload_n o (pc := 56) d_method_3_56 rfl ?_
                refine g_bipush o (pc := 57) d_method_3_57 (v := 46) rfl ?_
                refine g_icmpN o (pc := 59) d_method_3_59 (t := 66) (by decide) rfl c_ne (fun hy67 => ?_) (fun hn68 => ?_)
                · refine g_iconst o (pc := 66) d_method_3_66 (v := 0) rfl ?_
                  refine g_nreturn o (pc := 67) (by simp) d_method_3_67 (y := 0) rfl ?_ (by decide) (by decide)
                  exact ⟨congrArg (fun z => some (Value.int z)) (by rw [okA, if_neg hn2, if_pos hy39, okB, if_neg hn42, if_pos hy59, okC, if_pos hy61, okD, if_neg hn64, if_neg hn66, if_neg hy67] : okA c = 0).symm, rfl⟩
                · refine g_iconst o (pc := 62) d_method_3_62 (v := 1) rfl ?_
                  refine g_goto o (pc := 63) d_method_3_63 (t := 67) (by decide) rfl ?_
                  refine g_nreturn o (pc := 67) (by simp) d_method_3_67 (y := 1) rfl ?_ (by decide) (by decide)
                  exact ⟨congrArg (fun z => some (Value.int z)) (by rw [okA, if_neg hn2, if_pos hy39, okB, if_neg hn42, if_pos hy59, okC, if_pos hy61, okD, if_neg hn64, if_neg hn66, if_pos hn68] : okA c = 1).symm, rfl⟩
          · refine g_iload_n o (pc := 36) d_method_3_36 rfl ?_
            refine g_bipush o (pc := 37) d_method_3_37 (v := 57) rfl ?_
            refine g_icmp o (pc := 39) d_method_3_39 (t := 44) (by decide) rfl c_gt (fun hy69 => ?_) (fun hn70 => ?_)
            · refine g_iload_n o (pc := 44) d_method_3_44 rfl ?_
              refine g_bipush o (pc := 45) d_method_3_45 (v := 45) rfl ?_
              refine g_icmp o (pc := 47) d_method_3_47 (t := 62) (by decide) rfl c_eq (fun hy71 => ?_) (fun hn72 => ?_)
              · refine g_iconst o (pc := 62) d_method_3_62 (v := 1) rfl ?_
                refine g_goto o (pc := 63) d_method_3_63 (t := 67) (by decide) rfl ?_
                refine g_nreturn o (pc := 67) (by simp) d_method_3_67 (y := 1) rfl ?_ (by decide) (by decide)
                exact ⟨congrArg (fun z => some (Value.int z)) (by rw [okA, if_neg hn2, if_pos hy39, okB, if_neg hn42, if_pos hy59, okC, if_neg hn62, if_pos hy69, okD, if_pos hy71] : okA c = 1).symm, rfl⟩
              · refine g_iload_n o (pc := 50) d_method_3_50 rfl ?_
                refine g_bipush o (pc := 51) d_method_3_51 (v := 95) rfl ?_
                refine g_icmp o (pc := 53) d_method_3_53 (t := 62) (by decide) rfl c_eq (fun hy73 => ?_) (fun hn74 => ?_)
                · refine g_iconst o (pc := 62) d_method_3_62 (v := 1) rfl ?_
                  refine g_goto o (pc := 63) d_method_3_63 (t := 67) (by decide) rfl ?_
                  refine g_nreturn o (pc := 67) (by simp) d_method_3_67 (y := 1) rfl ?_ (by decide) (by decide)
                  exact ⟨congrArg (fun z => some (Value.int z)) (by rw [okA, if_neg hn2, if_pos hy39, okB, if_neg hn42, if_pos hy59, okC, if_neg hn62, if_pos hy69, okD, if_neg hn72, if_pos hy73] : okA c = 1).symm, rfl⟩
                · refine g_iload_n o (pc := 56) d_method_3_56 rfl ?_
                  refine g_bipush o (pc := 57) d_method_3_57 (v := 46) rfl ?_
                  refine g_icmpN o (pc := 59) d_method_3_59 (t := 66) (by decide) rfl c_ne (fun hy75 => ?_) (fun hn76 => ?_)
                  · refine g_iconst o (pc := 66) d_method_3_66 (v := 0) rfl ?_
                    refine g_nreturn o (pc := 67) (by simp) d_method_3_67 (y := 0) rfl ?_ (by decide) (by decide)
                    exact ⟨congrArg (fun z => some (Value.int z)) (by rw [okA, if_neg hn2, if_pos hy39, okB, if_neg hn42, if_pos hy59, okC, if_neg hn62, if_pos hy69, okD, if_neg hn72, if_neg hn74, if_neg hy75] : okA c = 0).symm, rfl⟩
                  · refine g_iconst o (pc := 62) d_method_3_62 (v := 1) rfl ?_
                    refine g_goto o (pc := 63) d_method_3_63 (t := 67) (by decide) rfl ?_
                    refine g_nreturn o (pc := 67) (by simp) d_method_3_67 (y := 1) rfl ?_ (by decide) (by decide)
                    exact ⟨congrArg (fun z => some (Value.int z)) (by rw [okA, if_neg hn2, if_pos hy39, okB, if_neg hn42, if_pos hy59, okC, if_neg hn62, if_pos hy69, okD, if_neg hn72, if_neg hn74, if_pos hn76] : okA c = 1).symm, rfl⟩
            · refine g_iconst o (pc := 42) d_method_3_42 (v := 1) rfl ?_
              refine g_nreturn o (pc := 43) (by simp) d_method_3_43 (y := 1) rfl ?_ (by decide) (by decide)
              exact ⟨congrArg (fun z => some (Value.int z)) (by rw [okA, if_neg hn2, if_pos hy39, okB, if_neg hn42, if_pos hy59, okC, if_neg hn62, if_neg hn70] : okA c = 1).symm, rfl⟩
        · refine g_iconst o (pc := 28) d_method_3_28 (v := 1) rfl ?_
          refine g_nreturn o (pc := 29) (by simp) d_method_3_29 (y := 1) rfl ?_ (by decide) (by decide)
          exact ⟨congrArg (fun z => some (Value.int z)) (by rw [okA, if_neg hn2, if_pos hy39, okB, if_neg hn42, if_neg hn60] : okA c = 1).symm, rfl⟩
    · refine g_iconst o (pc := 14) d_method_3_14 (v := 1) rfl ?_
      refine g_nreturn o (pc := 15) (by simp) d_method_3_15 (y := 1) rfl ?_ (by decide) (by decide)
      exact ⟨congrArg (fun z => some (Value.int z)) (by rw [okA, if_neg hn2, if_neg hn40] : okA c = 1).symm, rfl⟩
set_option maxRecDepth 65536 in
set_option maxHeartbeats 40000000 in
theorem rm_isc (l : Launch) (Z : State) (a0 : Array Value) (hw : ∀ d ∈ tables_1, d.before a0 Z = true) (n0 : Nat) (h0 : Heap) (X0 : Old Z n0 h0) (c : Int32)  :
    Met l Z n0 (⟨"com/example/traceloom/traceloom/TraceIds", "isAcceptedCharacter", "(C)Z"⟩ : MethodName) prog_18_method_3_code 1 (some .boolean) ({ frames := 0, cells := 0, slots := 0, locals := 0 } : Room) #[(.int c)] h0 (fun v h => v = some (.int (okA c)) ∧ h = h0) := by
  refine met_of (plainFor_of_name pn_5) hw (L := #[.val (.int c)]) (fun m => by first | (simp [entryFrame, mkF, argsToLocals, Value.category]; done) | rfl) fun C hl hwd hE hPL hcs hr o => ?_
  subst hl
  have o : Ok C Z a0 prog_18_method_3_code 1 (some .boolean) "isAcceptedCharacter" "com/example/traceloom/traceloom/TraceIds" ({ frames := 0, cells := 0, slots := 0, locals := 0 } : Room) := o
  refine g_iload_n o (pc := 0) d_prog_18_method_3_0 rfl ?_
  refine g_bipush o (pc := 1) d_prog_18_method_3_1 (v := 97) rfl ?_
  refine g_icmp o (pc := 3) d_prog_18_method_3_3 (t := 12) (by decide) rfl c_lt (fun hy1 => ?_) (fun hn2 => ?_)
  · refine g_iload_n o (pc := 12) d_prog_18_method_3_12 rfl ?_
    refine g_bipush o (pc := 13) d_prog_18_method_3_13 (v := 65) rfl ?_
    refine g_icmp o (pc := 15) d_prog_18_method_3_15 (t := 24) (by decide) rfl c_lt (fun hy3 => ?_) (fun hn4 => ?_)
    · refine g_iload_n o (pc := 24) d_prog_18_method_3_24 rfl ?_
      refine g_bipush o (pc := 25) d_prog_18_method_3_25 (v := 48) rfl ?_
      refine g_icmp o (pc := 27) d_prog_18_method_3_27 (t := 36) (by decide) rfl c_lt (fun hy5 => ?_) (fun hn6 => ?_)
      · refine g_iload_n o (pc := 36) d_prog_18_method_3_36 rfl ?_
        refine g_bipush o (pc := 37) d_prog_18_method_3_37 (v := 45) rfl ?_
        refine g_icmp o (pc := 39) d_prog_18_method_3_39 (t := 54) (by decide) rfl c_eq (fun hy7 => ?_) (fun hn8 => ?_)
        · refine g_iconst o (pc := 54) d_prog_18_method_3_54 (v := 1) rfl ?_
          refine g_goto o (pc := 55) d_prog_18_method_3_55 (t := 59) (by decide) rfl ?_
          refine g_nreturn o (pc := 59) (by simp) d_prog_18_method_3_59 (y := 1) rfl ?_ (by decide) (by decide)
          exact ⟨congrArg (fun z => some (Value.int z)) (by rw [okA, if_pos hy1, okB, if_pos hy3, okC, if_pos hy5, okD, if_pos hy7] : okA c = 1).symm, rfl⟩
        · refine g_iload_n o (pc := 42) d_prog_18_method_3_42 rfl ?_
          refine g_bipush o (pc := 43) d_prog_18_method_3_43 (v := 95) rfl ?_
          refine g_icmp o (pc := 45) d_prog_18_method_3_45 (t := 54) (by decide) rfl c_eq (fun hy9 => ?_) (fun hn10 => ?_)
          · refine g_iconst o (pc := 54) d_prog_18_method_3_54 (v := 1) rfl ?_
            refine g_goto o (pc := 55) d_prog_18_method_3_55 (t := 59) (by decide) rfl ?_
            refine g_nreturn o (pc := 59) (by simp) d_prog_18_method_3_59 (y := 1) rfl ?_ (by decide) (by decide)
            exact ⟨congrArg (fun z => some (Value.int z)) (by rw [okA, if_pos hy1, okB, if_pos hy3, okC, if_pos hy5, okD, if_neg hn8, if_pos hy9] : okA c = 1).symm, rfl⟩
          · refine g_iload_n o (pc := 48) d_prog_18_method_3_48 rfl ?_
            refine g_bipush o (pc := 49) d_prog_18_method_3_49 (v := 46) rfl ?_
            refine g_icmpN o (pc := 51) d_prog_18_method_3_51 (t := 58) (by decide) rfl c_ne (fun hy11 => ?_) (fun hn12 => ?_)
            · refine g_iconst o (pc := 58) d_prog_18_method_3_58 (v := 0) rfl ?_
              refine g_nreturn o (pc := 59) (by simp) d_prog_18_method_3_59 (y := 0) rfl ?_ (by decide) (by decide)
              exact ⟨congrArg (fun z => some (Value.int z)) (by rw [okA, if_pos hy1, okB, if_pos hy3, okC, if_pos hy5, okD, if_neg hn8, if_neg hn10, if_neg hy11] : okA c = 0).symm, rfl⟩
            · refine g_iconst o (pc := 54) d_prog_18_method_3_54 (v := 1) rfl ?_
              refine g_goto o (pc := 55) d_prog_18_method_3_55 (t := 59) (by decide) rfl ?_
              refine g_nreturn o (pc := 59) (by simp) d_prog_18_method_3_59 (y := 1) rfl ?_ (by decide) (by decide)
              exact ⟨congrArg (fun z => some (Value.int z)) (by rw [okA, if_pos hy1, okB, if_pos hy3, okC, if_pos hy5, okD, if_neg hn8, if_neg hn10, if_pos hn12] : okA c = 1).symm, rfl⟩
      · refine g_iload_n o (pc := 30) d_prog_18_method_3_30 rfl ?_
        refine g_bipush o (pc := 31) d_prog_18_method_3_31 (v := 57) rfl ?_
        refine g_icmpN o (pc := 33) d_prog_18_method_3_33 (t := 54) (by decide) rfl c_le (fun hy13 => ?_) (fun hn14 => ?_)
        · refine g_iconst o (pc := 54) d_prog_18_method_3_54 (v := 1) rfl ?_
          refine g_goto o (pc := 55) d_prog_18_method_3_55 (t := 59) (by decide) rfl ?_
          refine g_nreturn o (pc := 59) (by simp) d_prog_18_method_3_59 (y := 1) rfl ?_ (by decide) (by decide)
          exact ⟨congrArg (fun z => some (Value.int z)) (by rw [okA, if_pos hy1, okB, if_pos hy3, okC, if_neg hn6, if_neg hy13] : okA c = 1).symm, rfl⟩
        · refine g_iload_n o (pc := 36) d_prog_18_method_3_36 rfl ?_
          refine g_bipush o (pc := 37) d_prog_18_method_3_37 (v := 45) rfl ?_
          refine g_icmp o (pc := 39) d_prog_18_method_3_39 (t := 54) (by decide) rfl c_eq (fun hy15 => ?_) (fun hn16 => ?_)
          · refine g_iconst o (pc := 54) d_prog_18_method_3_54 (v := 1) rfl ?_
            refine g_goto o (pc := 55) d_prog_18_method_3_55 (t := 59) (by decide) rfl ?_
            refine g_nreturn o (pc := 59) (by simp) d_prog_18_method_3_59 (y := 1) rfl ?_ (by decide) (by decide)
            exact ⟨congrArg (fun z => some (Value.int z)) (by rw [okA, if_pos hy1, okB, if_pos hy3, okC, if_neg hn6, if_pos hn14, okD, if_pos hy15] : okA c = 1).symm, rfl⟩
          · refine g_iload_n o (pc := 42) d_prog_18_method_3_42 rfl ?_
            refine g_bipush o (pc := 43) d_prog_18_method_3_43 (v := 95) rfl ?_
            refine g_icmp o (pc := 45) d_prog_18_method_3_45 (t := 54) (by decide) rfl c_eq (fun hy17 => ?_) (fun hn18 => ?_)
            · refine g_iconst o (pc := 54) d_prog_18_method_3_54 (v := 1) rfl ?_
              refine g_goto o (pc := 55) d_prog_18_method_3_55 (t := 59) (by decide) rfl ?_
              refine g_nreturn o (pc := 59) (by simp) d_prog_18_method_3_59 (y := 1) rfl ?_ (by decide) (by decide)
              exact ⟨congrArg (fun z => some (Value.int z)) (by rw [okA, if_pos hy1, okB, if_pos hy3, okC, if_neg hn6, if_pos hn14, okD, if_neg hn16, if_pos hy17] : okA c = 1).symm, rfl⟩
            · refine g_iload_n o (pc := 48) d_prog_18_method_3_48 rfl ?_
              refine g_bipush o (pc := 49) d_prog_18_method_3_49 (v := 46) rfl ?_
              refine g_icmpN o (pc := 51) d_prog_18_method_3_51 (t := 58) (by decide) rfl c_ne (fun hy19 => ?_) (fun hn20 => ?_)
              · refine g_iconst o (pc := 58) d_prog_18_method_3_58 (v := 0) rfl ?_
                refine g_nreturn o (pc := 59) (by simp) d_prog_18_method_3_59 (y := 0) rfl ?_ (by decide) (by decide)
                exact ⟨congrArg (fun z => some (Value.int z)) (by rw [okA, if_pos hy1, okB, if_pos hy3, okC, if_neg hn6, if_pos hn14, okD, if_neg hn16, if_neg hn18, if_neg hy19] : okA c = 0).symm, rfl⟩
              · refine g_iconst o (pc := 54) d_prog_18_method_3_54 (v := 1) rfl ?_
                refine g_goto o (pc := 55) d_prog_18_method_3_55 (t := 59) (by decide) rfl ?_
                refine g_nreturn o (pc := 59) (by simp) d_prog_18_method_3_59 (y := 1) rfl ?_ (by decide) (by decide)
                exact ⟨congrArg (fun z => some (Value.int z)) (by rw [okA, if_pos hy1, okB, if_pos hy3, okC, if_neg hn6, if_pos hn14, okD, if_neg hn16, if_neg hn18, if_pos hn20] : okA c = 1).symm, rfl⟩
    · refine g_iload_n o (pc := 18) d_prog_18_method_3_18 rfl ?_
      refine g_bipush o (pc := 19) d_prog_18_method_3_19 (v := 90) rfl ?_
      refine g_icmpN o (pc := 21) d_prog_18_method_3_21 (t := 54) (by decide) rfl c_le (fun hy21 => ?_) (fun hn22 => ?_)
      · refine g_iconst o (pc := 54) d_prog_18_method_3_54 (v := 1) rfl ?_
        refine g_goto o (pc := 55) d_prog_18_method_3_55 (t := 59) (by decide) rfl ?_
        refine g_nreturn o (pc := 59) (by simp) d_prog_18_method_3_59 (y := 1) rfl ?_ (by decide) (by decide)
        exact ⟨congrArg (fun z => some (Value.int z)) (by rw [okA, if_pos hy1, okB, if_neg hn4, if_neg hy21] : okA c = 1).symm, rfl⟩
      · refine g_iload_n o (pc := 24) d_prog_18_method_3_24 rfl ?_
        refine g_bipush o (pc := 25) d_prog_18_method_3_25 (v := 48) rfl ?_
        refine g_icmp o (pc := 27) d_prog_18_method_3_27 (t := 36) (by decide) rfl c_lt (fun hy23 => ?_) (fun hn24 => ?_)
        · refine g_iload_n o (pc := 36) d_prog_18_method_3_36 rfl ?_
          refine g_bipush o (pc := 37) d_prog_18_method_3_37 (v := 45) rfl ?_
          refine g_icmp o (pc := 39) d_prog_18_method_3_39 (t := 54) (by decide) rfl c_eq (fun hy25 => ?_) (fun hn26 => ?_)
          · refine g_iconst o (pc := 54) d_prog_18_method_3_54 (v := 1) rfl ?_
            refine g_goto o (pc := 55) d_prog_18_method_3_55 (t := 59) (by decide) rfl ?_
            refine g_nreturn o (pc := 59) (by simp) d_prog_18_method_3_59 (y := 1) rfl ?_ (by decide) (by decide)
            exact ⟨congrArg (fun z => some (Value.int z)) (by rw [okA, if_pos hy1, okB, if_neg hn4, if_pos hn22, okC, if_pos hy23, okD, if_pos hy25] : okA c = 1).symm, rfl⟩
          · refine g_iload_n o (pc := 42) d_prog_18_method_3_42 rfl ?_
            refine g_bipush o (pc := 43) d_prog_18_method_3_43 (v := 95) rfl ?_
            refine g_icmp o (pc := 45) d_prog_18_method_3_45 (t := 54) (by decide) rfl c_eq (fun hy27 => ?_) (fun hn28 => ?_)
            · refine g_iconst o (pc := 54) d_prog_18_method_3_54 (v := 1) rfl ?_
              refine g_goto o (pc := 55) d_prog_18_method_3_55 (t := 59) (by decide) rfl ?_
              refine g_nreturn o (pc := 59) (by simp) d_prog_18_method_3_59 (y := 1) rfl ?_ (by decide) (by decide)
              exact ⟨congrArg (fun z => some (Value.int z)) (by rw [okA, if_pos hy1, okB, if_neg hn4, if_pos hn22, okC, if_pos hy23, okD, if_neg hn26, if_pos hy27] : okA c = 1).symm, rfl⟩
            · refine g_iload_n o (pc := 48) d_prog_18_method_3_48 rfl ?_
              refine g_bipush o (pc := 49) d_prog_18_method_3_49 (v := 46) rfl ?_
              refine g_icmpN o (pc := 51) d_prog_18_method_3_51 (t := 58) (by decide) rfl c_ne (fun hy29 => ?_) (fun hn30 => ?_)
              · refine g_iconst o (pc := 58) d_prog_18_method_3_58 (v := 0) rfl ?_
                refine g_nreturn o (pc := 59) (by simp) d_prog_18_method_3_59 (y := 0) rfl ?_ (by decide) (by decide)
                exact ⟨congrArg (fun z => some (Value.int z)) (by rw [okA, if_pos hy1, okB, if_neg hn4, if_pos hn22, okC, if_pos hy23, okD, if_neg hn26, if_neg hn28, if_neg hy29] : okA c = 0).symm, rfl⟩
              · refine g_iconst o (pc := 54) d_prog_18_method_3_54 (v := 1) rfl ?_
                refine g_goto o (pc := 55) d_prog_18_method_3_55 (t := 59) (by decide) rfl ?_
                refine g_nreturn o (pc := 59) (by simp) d_prog_18_method_3_59 (y := 1) rfl ?_ (by decide) (by decide)
                exact ⟨congrArg (fun z => some (Value.int z)) (by rw [okA, if_pos hy1, okB, if_neg hn4, if_pos hn22, okC, if_pos hy23, okD, if_neg hn26, if_neg hn28, if_pos hn30] : okA c = 1).symm, rfl⟩
        · refine g_iload_n o (pc := 30) d_prog_18_method_3_30 rfl ?_
          refine g_bipush o (pc := 31) d_prog_18_method_3_31 (v := 57) rfl ?_
          refine g_icmpN o (pc := 33) d_prog_18_method_3_33 (t := 54) (by decide) rfl c_le (fun hy31 => ?_) (fun hn32 => ?_)
          · refine g_iconst o (pc := 54) d_prog_18_method_3_54 (v := 1) rfl ?_
            refine g_goto o (pc := 55) d_prog_18_method_3_55 (t := 59) (by decide) rfl ?_
            refine g_nreturn o (pc := 59) (by simp) d_prog_18_method_3_59 (y := 1) rfl ?_ (by decide) (by decide)
            exact ⟨congrArg (fun z => some (Value.int z)) (by rw [okA, if_pos hy1, okB, if_neg hn4, if_pos hn22, okC, if_neg hn24, if_neg hy31] : okA c = 1).symm, rfl⟩
          · refine g_iload_n o (pc := 36) d_prog_18_method_3_36 rfl ?_
            refine g_bipush o (pc := 37) d_prog_18_method_3_37 (v := 45) rfl ?_
            refine g_icmp o (pc := 39) d_prog_18_method_3_39 (t := 54) (by decide) rfl c_eq (fun hy33 => ?_) (fun hn34 => ?_)
            · refine g_iconst o (pc := 54) d_prog_18_method_3_54 (v := 1) rfl ?_
              refine g_goto o (pc := 55) d_prog_18_method_3_55 (t := 59) (by decide) rfl ?_
              refine g_nreturn o (pc := 59) (by simp) d_prog_18_method_3_59 (y := 1) rfl ?_ (by decide) (by decide)
              exact ⟨congrArg (fun z => some (Value.int z)) (by rw [okA, if_pos hy1, okB, if_neg hn4, if_pos hn22, okC, if_neg hn24, if_pos hn32, okD, if_pos hy33] : okA c = 1).symm, rfl⟩
            · refine g_iload_n o (pc := 42) d_prog_18_method_3_42 rfl ?_
              refine g_bipush o (pc := 43) d_prog_18_method_3_43 (v := 95) rfl ?_
              refine g_icmp o (pc := 45) d_prog_18_method_3_45 (t := 54) (by decide) rfl c_eq (fun hy35 => ?_) (fun hn36 => ?_)
              · refine g_iconst o (pc := 54) d_prog_18_method_3_54 (v := 1) rfl ?_
                refine g_goto o (pc := 55) d_prog_18_method_3_55 (t := 59) (by decide) rfl ?_
                refine g_nreturn o (pc := 59) (by simp) d_prog_18_method_3_59 (y := 1) rfl ?_ (by decide) (by decide)
                exact ⟨congrArg (fun z => some (Value.int z)) (by rw [okA, if_pos hy1, okB, if_neg hn4, if_pos hn22, okC, if_neg hn24, if_pos hn32, okD, if_neg hn34, if_pos hy35] : okA c = 1).symm, rfl⟩
              · refine g_iload_n o (pc := 48) d_prog_18_method_3_48 rfl ?_
                refine g_bipush o (pc := 49) d_prog_18_method_3_49 (v := 46) rfl ?_
                refine g_icmpN o (pc := 51) d_prog_18_method_3_51 (t := 58) (by decide) rfl c_ne (fun hy37 => ?_) (fun hn38 => ?_)
                · refine g_iconst o (pc := 58) d_prog_18_method_3_58 (v := 0) rfl ?_
                  refine g_nreturn o (pc := 59) (by simp) d_prog_18_method_3_59 (y := 0) rfl ?_ (by decide) (by decide)
                  exact ⟨congrArg (fun z => some (Value.int z)) (by rw [okA, if_pos hy1, okB, if_neg hn4, if_pos hn22, okC, if_neg hn24, if_pos hn32, okD, if_neg hn34, if_neg hn36, if_neg hy37] : okA c = 0).symm, rfl⟩
                · refine g_iconst o (pc := 54) d_prog_18_method_3_54 (v := 1) rfl ?_
                  refine g_goto o (pc := 55) d_prog_18_method_3_55 (t := 59) (by decide) rfl ?_
                  refine g_nreturn o (pc := 59) (by simp) d_prog_18_method_3_59 (y := 1) rfl ?_ (by decide) (by decide)
                  exact ⟨congrArg (fun z => some (Value.int z)) (by rw [okA, if_pos hy1, okB, if_neg hn4, if_pos hn22, okC, if_neg hn24, if_pos hn32, okD, if_neg hn34, if_neg hn36, if_pos hn38] : okA c = 1).symm, rfl⟩
  · refine g_iload_n o (pc := 6) d_prog_18_method_3_6 rfl ?_
    refine g_bipush o (pc := 7) d_prog_18_method_3_7 (v := 122) rfl ?_
    refine g_icmpN o (pc := 9) d_prog_18_method_3_9 (t := 54) (by decide) rfl c_le (fun hy39 => ?_) (fun hn40 => ?_)
    · refine g_iconst o (pc := 54) d_prog_18_method_3_54 (v := 1) rfl ?_
      refine g_goto o (pc := 55) d_prog_18_method_3_55 (t := 59) (by decide) rfl ?_
      refine g_nreturn o (pc := 59) (by simp) d_prog_18_method_3_59 (y := 1) rfl ?_ (by decide) (by decide)
      exact ⟨congrArg (fun z => some (Value.int z)) (by rw [okA, if_neg hn2, if_neg hy39] : okA c = 1).symm, rfl⟩
    · refine g_iload_n o (pc := 12) d_prog_18_method_3_12 rfl ?_
      refine g_bipush o (pc := 13) d_prog_18_method_3_13 (v := 65) rfl ?_
      refine g_icmp o (pc := 15) d_prog_18_method_3_15 (t := 24) (by decide) rfl c_lt (fun hy41 => ?_) (fun hn42 => ?_)
      · refine g_iload_n o (pc := 24) d_prog_18_method_3_24 rfl ?_
        refine g_bipush o (pc := 25) d_prog_18_method_3_25 (v := 48) rfl ?_
        refine g_icmp o (pc := 27) d_prog_18_method_3_27 (t := 36) (by decide) rfl c_lt (fun hy43 => ?_) (fun hn44 => ?_)
        · refine g_iload_n o (pc := 36) d_prog_18_method_3_36 rfl ?_
          refine g_bipush o (pc := 37) d_prog_18_method_3_37 (v := 45) rfl ?_
          refine g_icmp o (pc := 39) d_prog_18_method_3_39 (t := 54) (by decide) rfl c_eq (fun hy45 => ?_) (fun hn46 => ?_)
          · refine g_iconst o (pc := 54) d_prog_18_method_3_54 (v := 1) rfl ?_
            refine g_goto o (pc := 55) d_prog_18_method_3_55 (t := 59) (by decide) rfl ?_
            refine g_nreturn o (pc := 59) (by simp) d_prog_18_method_3_59 (y := 1) rfl ?_ (by decide) (by decide)
            exact ⟨congrArg (fun z => some (Value.int z)) (by rw [okA, if_neg hn2, if_pos hn40, okB, if_pos hy41, okC, if_pos hy43, okD, if_pos hy45] : okA c = 1).symm, rfl⟩
          · refine g_iload_n o (pc := 42) d_prog_18_method_3_42 rfl ?_
            refine g_bipush o (pc := 43) d_prog_18_method_3_43 (v := 95) rfl ?_
            refine g_icmp o (pc := 45) d_prog_18_method_3_45 (t := 54) (by decide) rfl c_eq (fun hy47 => ?_) (fun hn48 => ?_)
            · refine g_iconst o (pc := 54) d_prog_18_method_3_54 (v := 1) rfl ?_
              refine g_goto o (pc := 55) d_prog_18_method_3_55 (t := 59) (by decide) rfl ?_
              refine g_nreturn o (pc := 59) (by simp) d_prog_18_method_3_59 (y := 1) rfl ?_ (by decide) (by decide)
              exact ⟨congrArg (fun z => some (Value.int z)) (by rw [okA, if_neg hn2, if_pos hn40, okB, if_pos hy41, okC, if_pos hy43, okD, if_neg hn46, if_pos hy47] : okA c = 1).symm, rfl⟩
            · refine g_iload_n o (pc := 48) d_prog_18_method_3_48 rfl ?_
              refine g_bipush o (pc := 49) d_prog_18_method_3_49 (v := 46) rfl ?_
              refine g_icmpN o (pc := 51) d_prog_18_method_3_51 (t := 58) (by decide) rfl c_ne (fun hy49 => ?_) (fun hn50 => ?_)
              · refine g_iconst o (pc := 58) d_prog_18_method_3_58 (v := 0) rfl ?_
                refine g_nreturn o (pc := 59) (by simp) d_prog_18_method_3_59 (y := 0) rfl ?_ (by decide) (by decide)
                exact ⟨congrArg (fun z => some (Value.int z)) (by rw [okA, if_neg hn2, if_pos hn40, okB, if_pos hy41, okC, if_pos hy43, okD, if_neg hn46, if_neg hn48, if_neg hy49] : okA c = 0).symm, rfl⟩
              · refine g_iconst o (pc := 54) d_prog_18_method_3_54 (v := 1) rfl ?_
                refine g_goto o (pc := 55) d_prog_18_method_3_55 (t := 59) (by decide) rfl ?_
                refine g_nreturn o (pc := 59) (by simp) d_prog_18_method_3_59 (y := 1) rfl ?_ (by decide) (by decide)
                exact ⟨congrArg (fun z => some (Value.int z)) (by rw [okA, if_neg hn2, if_pos hn40, okB, if_pos hy41, okC, if_pos hy43, okD, if_neg hn46, if_neg hn48, if_pos hn50] : okA c = 1).symm, rfl⟩
        · refine g_iload_n o (pc := 30) d_prog_18_method_3_30 rfl ?_
          refine g_bipush o (pc := 31) d_prog_18_method_3_31 (v := 57) rfl ?_
          refine g_icmpN o (pc := 33) d_prog_18_method_3_33 (t := 54) (by decide) rfl c_le (fun hy51 => ?_) (fun hn52 => ?_)
          · refine g_iconst o (pc := 54) d_prog_18_method_3_54 (v := 1) rfl ?_
            refine g_goto o (pc := 55) d_prog_18_method_3_55 (t := 59) (by decide) rfl ?_
            refine g_nreturn o (pc := 59) (by simp) d_prog_18_method_3_59 (y := 1) rfl ?_ (by decide) (by decide)
            exact ⟨congrArg (fun z => some (Value.int z)) (by rw [okA, if_neg hn2, if_pos hn40, okB, if_pos hy41, okC, if_neg hn44, if_neg hy51] : okA c = 1).symm, rfl⟩
          · refine g_iload_n o (pc := 36) d_prog_18_method_3_36 rfl ?_
            refine g_bipush o (pc := 37) d_prog_18_method_3_37 (v := 45) rfl ?_
            refine g_icmp o (pc := 39) d_prog_18_method_3_39 (t := 54) (by decide) rfl c_eq (fun hy53 => ?_) (fun hn54 => ?_)
            · refine g_iconst o (pc := 54) d_prog_18_method_3_54 (v := 1) rfl ?_
              refine g_goto o (pc := 55) d_prog_18_method_3_55 (t := 59) (by decide) rfl ?_
              refine g_nreturn o (pc := 59) (by simp) d_prog_18_method_3_59 (y := 1) rfl ?_ (by decide) (by decide)
              exact ⟨congrArg (fun z => some (Value.int z)) (by rw [okA, if_neg hn2, if_pos hn40, okB, if_pos hy41, okC, if_neg hn44, if_pos hn52, okD, if_pos hy53] : okA c = 1).symm, rfl⟩
            · refine g_iload_n o (pc := 42) d_prog_18_method_3_42 rfl ?_
              refine g_bipush o (pc := 43) d_prog_18_method_3_43 (v := 95) rfl ?_
              refine g_icmp o (pc := 45) d_prog_18_method_3_45 (t := 54) (by decide) rfl c_eq (fun hy55 => ?_) (fun hn56 => ?_)
              · refine g_iconst o (pc := 54) d_prog_18_method_3_54 (v := 1) rfl ?_
                refine g_goto o (pc := 55) d_prog_18_method_3_55 (t := 59) (by decide) rfl ?_
                refine g_nreturn o (pc := 59) (by simp) d_prog_18_method_3_59 (y := 1) rfl ?_ (by decide) (by decide)
                exact ⟨congrArg (fun z => some (Value.int z)) (by rw [okA, if_neg hn2, if_pos hn40, okB, if_pos hy41, okC, if_neg hn44, if_pos hn52, okD, if_neg hn54, if_pos hy55] : okA c = 1).symm, rfl⟩
              · refine g_iload_n o (pc := 48) d_prog_18_method_3_48 rfl ?_
                refine g_bipush o (pc := 49) d_prog_18_method_3_49 (v := 46) rfl ?_
                refine g_icmpN o (pc := 51) d_prog_18_method_3_51 (t := 58) (by decide) rfl c_ne (fun hy57 => ?_) (fun hn58 => ?_)
                · refine g_iconst o (pc := 58) d_prog_18_method_3_58 (v := 0) rfl ?_
                  refine g_nreturn o (pc := 59) (by simp) d_prog_18_method_3_59 (y := 0) rfl ?_ (by decide) (by decide)
                  exact ⟨congrArg (fun z => some (Value.int z)) (by rw [okA, if_neg hn2, if_pos hn40, okB, if_pos hy41, okC, if_neg hn44, if_pos hn52, okD, if_neg hn54, if_neg hn56, if_neg hy57] : okA c = 0).symm, rfl⟩
                · refine g_iconst o (pc := 54) d_prog_18_method_3_54 (v := 1) rfl ?_
                  refine g_goto o (pc := 55) d_prog_18_method_3_55 (t := 59) (by decide) rfl ?_
                  refine g_nreturn o (pc := 59) (by simp) d_prog_18_method_3_59 (y := 1) rfl ?_ (by decide) (by decide)
                  exact ⟨congrArg (fun z => some (Value.int z)) (by rw [okA, if_neg hn2, if_pos hn40, okB, if_pos hy41, okC, if_neg hn44, if_pos hn52, okD, if_neg hn54, if_neg hn56, if_pos hn58] : okA c = 1).symm, rfl⟩
      · refine g_iload_n o (pc := 18) d_prog_18_method_3_18 rfl ?_
        refine g_bipush o (pc := 19) d_prog_18_method_3_19 (v := 90) rfl ?_
        refine g_icmpN o (pc := 21) d_prog_18_method_3_21 (t := 54) (by decide) rfl c_le (fun hy59 => ?_) (fun hn60 => ?_)
        · refine g_iconst o (pc := 54) d_prog_18_method_3_54 (v := 1) rfl ?_
          refine g_goto o (pc := 55) d_prog_18_method_3_55 (t := 59) (by decide) rfl ?_
          refine g_nreturn o (pc := 59) (by simp) d_prog_18_method_3_59 (y := 1) rfl ?_ (by decide) (by decide)
          exact ⟨congrArg (fun z => some (Value.int z)) (by rw [okA, if_neg hn2, if_pos hn40, okB, if_neg hn42, if_neg hy59] : okA c = 1).symm, rfl⟩
        · refine g_iload_n o (pc := 24) d_prog_18_method_3_24 rfl ?_
          refine g_bipush o (pc := 25) d_prog_18_method_3_25 (v := 48) rfl ?_
          refine g_icmp o (pc := 27) d_prog_18_method_3_27 (t := 36) (by decide) rfl c_lt (fun hy61 => ?_) (fun hn62 => ?_)
          · refine g_iload_n o (pc := 36) d_prog_18_method_3_36 rfl ?_
            refine g_bipush o (pc := 37) d_prog_18_method_3_37 (v := 45) rfl ?_
            refine g_icmp o (pc := 39) d_prog_18_method_3_39 (t := 54) (by decide) rfl c_eq (fun hy63 => ?_) (fun hn64 => ?_)
            · refine g_iconst o (pc := 54) d_prog_18_method_3_54 (v := 1) rfl ?_
              refine g_goto o (pc := 55) d_prog_18_method_3_55 (t := 59) (by decide) rfl ?_
              refine g_nreturn o (pc := 59) (by simp) d_prog_18_method_3_59 (y := 1) rfl ?_ (by decide) (by decide)
              exact ⟨congrArg (fun z => some (Value.int z)) (by rw [okA, if_neg hn2, if_pos hn40, okB, if_neg hn42, if_pos hn60, okC, if_pos hy61, okD, if_pos hy63] : okA c = 1).symm, rfl⟩
            · refine g_iload_n o (pc := 42) d_prog_18_method_3_42 rfl ?_
              refine g_bipush o (pc := 43) d_prog_18_method_3_43 (v := 95) rfl ?_
              refine g_icmp o (pc := 45) d_prog_18_method_3_45 (t := 54) (by decide) rfl c_eq (fun hy65 => ?_) (fun hn66 => ?_)
              · refine g_iconst o (pc := 54) d_prog_18_method_3_54 (v := 1) rfl ?_
                refine g_goto o (pc := 55) d_prog_18_method_3_55 (t := 59) (by decide) rfl ?_
                refine g_nreturn o (pc := 59) (by simp) d_prog_18_method_3_59 (y := 1) rfl ?_ (by decide) (by decide)
                exact ⟨congrArg (fun z => some (Value.int z)) (by rw [okA, if_neg hn2, if_pos hn40, okB, if_neg hn42, if_pos hn60, okC, if_pos hy61, okD, if_neg hn64, if_pos hy65] : okA c = 1).symm, rfl⟩
              · refine g_iload_n o (pc := 48) d_prog_18_method_3_48 rfl ?_
                refine g_bipush o (pc := 49) d_prog_18_method_3_49 (v := 46) rfl ?_
                refine g_icmpN o (pc := 51) d_prog_18_method_3_51 (t := 58) (by decide) rfl c_ne (fun hy67 => ?_) (fun hn68 => ?_)
                · refine g_iconst o (pc := 58) d_prog_18_method_3_58 (v := 0) rfl ?_
                  refine g_nreturn o (pc := 59) (by simp) d_prog_18_method_3_59 (y := 0) rfl ?_ (by decide) (by decide)
                  exact ⟨congrArg (fun z => some (Value.int z)) (by rw [okA, if_neg hn2, if_pos hn40, okB, if_neg hn42, if_pos hn60, okC, if_pos hy61, okD, if_neg hn64, if_neg hn66, if_neg hy67] : okA c = 0).symm, rfl⟩
                · refine g_iconst o (pc := 54) d_prog_18_method_3_54 (v := 1) rfl ?_
                  refine g_goto o (pc := 55) d_prog_18_method_3_55 (t := 59) (by decide) rfl ?_
                  refine g_nreturn o (pc := 59) (by simp) d_prog_18_method_3_59 (y := 1) rfl ?_ (by decide) (by decide)
                  exact ⟨congrArg (fun z => some (Value.int z)) (by rw [okA, if_neg hn2, if_pos hn40, okB, if_neg hn42, if_pos hn60, okC, if_pos hy61, okD, if_neg hn64, if_neg hn66, if_pos hn68] : okA c = 1).symm, rfl⟩
          · refine g_iload_n o (pc := 30) d_prog_18_method_3_30 rfl ?_
            refine g_bipush o (pc := 31) d_prog_18_method_3_31 (v := 57) rfl ?_
            refine g_icmpN o (pc := 33) d_prog_18_method_3_33 (t := 54) (by decide) rfl c_le (fun hy69 => ?_) (fun hn70 => ?_)
            · refine g_iconst o (pc := 54) d_prog_18_method_3_54 (v := 1) rfl ?_
              refine g_goto o (pc := 55) d_prog_18_method_3_55 (t := 59) (by decide) rfl ?_
              refine g_nreturn o (pc := 59) (by simp) d_prog_18_method_3_59 (y := 1) rfl ?_ (by decide) (by decide)
              exact ⟨congrArg (fun z => some (Value.int z)) (by rw [okA, if_neg hn2, if_pos hn40, okB, if_neg hn42, if_pos hn60, okC, if_neg hn62, if_neg hy69] : okA c = 1).symm, rfl⟩
            · refine g_iload_n o (pc := 36) d_prog_18_method_3_36 rfl ?_
              refine g_bipush o (pc := 37) d_prog_18_method_3_37 (v := 45) rfl ?_
              refine g_icmp o (pc := 39) d_prog_18_method_3_39 (t := 54) (by decide) rfl c_eq (fun hy71 => ?_) (fun hn72 => ?_)
              · refine g_iconst o (pc := 54) d_prog_18_method_3_54 (v := 1) rfl ?_
                refine g_goto o (pc := 55) d_prog_18_method_3_55 (t := 59) (by decide) rfl ?_
                refine g_nreturn o (pc := 59) (by simp) d_prog_18_method_3_59 (y := 1) rfl ?_ (by decide) (by decide)
                exact ⟨congrArg (fun z => some (Value.int z)) (by rw [okA, if_neg hn2, if_pos hn40, okB, if_neg hn42, if_pos hn60, okC, if_neg hn62, if_pos hn70, okD, if_pos hy71] : okA c = 1).symm, rfl⟩
              · refine g_iload_n o (pc := 42) d_prog_18_method_3_42 rfl ?_
                refine g_bipush o (pc := 43) d_prog_18_method_3_43 (v := 95) rfl ?_
                refine g_icmp o (pc := 45) d_prog_18_method_3_45 (t := 54) (by decide) rfl c_eq (fun hy73 => ?_) (fun hn74 => ?_)
                · refine g_iconst o (pc := 54) d_prog_18_method_3_54 (v := 1) rfl ?_
                  refine g_goto o (pc := 55) d_prog_18_method_3_55 (t := 59) (by decide) rfl ?_
                  refine g_nreturn o (pc := 59) (by simp) d_prog_18_method_3_59 (y := 1) rfl ?_ (by decide) (by decide)
                  exact ⟨congrArg (fun z => some (Value.int z)) (by rw [okA, if_neg hn2, if_pos hn40, okB, if_neg hn42, if_pos hn60, okC, if_neg hn62, if_pos hn70, okD, if_neg hn72, if_pos hy73] : okA c = 1).symm, rfl⟩
                · refine g_iload_n o (pc := 48) d_prog_18_method_3_48 rfl ?_
                  refine g_bipush o (pc := 49) d_prog_18_method_3_49 (v := 46) rfl ?_
                  refine g_icmpN o (pc := 51) d_prog_18_method_3_51 (t := 58) (by decide) rfl c_ne (fun hy75 => ?_) (fun hn76 => ?_)
                  · refine g_iconst o (pc := 58) d_prog_18_method_3_58 (v := 0) rfl ?_
                    refine g_nreturn o (pc := 59) (by simp) d_prog_18_method_3_59 (y := 0) rfl ?_ (by decide) (by decide)
                    exact ⟨congrArg (fun z => some (Value.int z)) (by rw [okA, if_neg hn2, if_pos hn40, okB, if_neg hn42, if_pos hn60, okC, if_neg hn62, if_pos hn70, okD, if_neg hn72, if_neg hn74, if_neg hy75] : okA c = 0).symm, rfl⟩
                  · refine g_iconst o (pc := 54) d_prog_18_method_3_54 (v := 1) rfl ?_
                    refine g_goto o (pc := 55) d_prog_18_method_3_55 (t := 59) (by decide) rfl ?_
                    refine g_nreturn o (pc := 59) (by simp) d_prog_18_method_3_59 (y := 1) rfl ?_ (by decide) (by decide)
                    exact ⟨congrArg (fun z => some (Value.int z)) (by rw [okA, if_neg hn2, if_pos hn40, okB, if_neg hn42, if_pos hn60, okC, if_neg hn62, if_pos hn70, okD, if_neg hn72, if_neg hn74, if_pos hn76] : okA c = 1).symm, rfl⟩
set_option maxRecDepth 65536 in
set_option maxHeartbeats 40000000 in
theorem rm_draw (l : Launch) (Z : State) (a0 : Array Value) (hw : ∀ d ∈ tables_1, d.before a0 Z = true) (n0 : Nat) (h0 : Heap) (X0 : Old Z n0 h0) (p : Int32)  :
    Met l Z n0 (⟨"com/example/traceloom/traceloom/TraceIdsIsAcceptedPinLaw", "draw", "(I)C"⟩ : MethodName) method_2_code 1 (some .char) ({ frames := 0, cells := 0, slots := 0, locals := 0 } : Room) #[(.int p)] h0 (fun v h => ∃ y, v = some (.int y) ∧ U16 y ∧ h = h0) := by
  refine met_of (plainFor_of_name pn_4) hw (L := #[.val (.int p)]) (fun m => by first | (simp [entryFrame, mkF, argsToLocals, Value.category]; done) | rfl) fun C hl hwd hE hPL hcs hr o => ?_
  subst hl
  have o : Ok C Z a0 method_2_code 1 (some .char) "draw" "com/example/traceloom/traceloom/TraceIdsIsAcceptedPinLaw" ({ frames := 0, cells := 0, slots := 0, locals := 0 } : Room) := o
  refine g_iload_n o (pc := 0) d_method_2_0 rfl ?_
  refine g_ldcI o (pc := 1) d_method_2_1 (wd_4 hw) ?_
  refine g_iand o (pc := 3) d_method_2_3 (v := (p &&& 65536)) rfl ?_
  refine g_ifC o (pc := 4) d_method_2_4 (t := 13) (by decide) rfl c_eq (fun hy1 => ?_) (fun hn2 => ?_)
  · refine g_iload_n o (pc := 13) d_method_2_13 rfl ?_
    refine g_bipush o (pc := 14) d_method_2_14 (v := 127) rfl ?_
    refine g_iand o (pc := 16) d_method_2_16 (v := (p &&& 127)) rfl ?_
    refine g_i2c o (pc := 17) d_method_2_17 (v := (p &&& 127)) (nar16 (and7 _)) ?_
    refine g_nreturn o (pc := 18) (by simp) d_method_2_18 (y := (p &&& 127)) (nar16 (and7 _)) ?_ (by decide) (by decide)
    exact ⟨_, rfl, and7 _, rfl⟩
  · refine g_iload_n o (pc := 7) d_method_2_7 rfl ?_
    refine g_ldcI o (pc := 8) d_method_2_8 (wd_83 hw) ?_
    refine g_iand o (pc := 10) d_method_2_10 (v := (p &&& 65535)) rfl ?_
    refine g_i2c o (pc := 11) d_method_2_11 (v := (p &&& 65535)) (nar16 (and16 _)) ?_
    refine g_nreturn o (pc := 12) (by simp) d_method_2_12 (y := (p &&& 65535)) (nar16 (and16 _)) ?_ (by decide) (by decide)
    exact ⟨_, rfl, and16 _, rfl⟩
set_option maxRecDepth 65536 in
set_option maxHeartbeats 40000000 in
theorem rm_cen (l : Launch) (Z : State) (a0 : Array Value) (hw : ∀ d ∈ tables_1, d.before a0 Z = true) (n0 : Nat) (h0 : Heap) (X0 : Old Z n0 h0) (c : Int32)  :
    Met l Z n0 (⟨"java/lang/StringLatin1", "canEncode", "(C)Z"⟩ : MethodName) jdk_43_method_3_code 1 (some .boolean) ({ frames := 0, cells := 0, slots := 0, locals := 0 } : Room) #[(.int c)] h0 (fun v h => v = some (.int (if (255 : Int32) < c then 0 else 1)) ∧ h = h0) := by
  refine met_of (plainFor_of_name pn_3) hw (L := #[.val (.int c)]) (fun m => by first | (simp [entryFrame, mkF, argsToLocals, Value.category]; done) | rfl) fun C hl hwd hE hPL hcs hr o => ?_
  subst hl
  have o : Ok C Z a0 jdk_43_method_3_code 1 (some .boolean) "canEncode" "java/lang/StringLatin1" ({ frames := 0, cells := 0, slots := 0, locals := 0 } : Room) := o
  refine g_iload_n o (pc := 0) d_jdk_43_method_3_0 rfl ?_
  refine g_sipush o (pc := 1) d_jdk_43_method_3_1 (v := 255) rfl ?_
  refine g_icmp o (pc := 4) d_jdk_43_method_3_4 (t := 11) (by decide) rfl c_gt (fun hy1 => ?_) (fun hn2 => ?_)
  · refine g_iconst o (pc := 11) d_jdk_43_method_3_11 (v := 0) rfl ?_
    refine g_nreturn o (pc := 12) (by simp) d_jdk_43_method_3_12 (y := 0) rfl ?_ (by decide) (by decide)
    exact ⟨congrArg (fun z => some (Value.int z)) (if_pos hy1).symm, rfl⟩
  · refine g_iconst o (pc := 7) d_jdk_43_method_3_7 (v := 1) rfl ?_
    refine g_goto o (pc := 8) d_jdk_43_method_3_8 (t := 12) (by decide) rfl ?_
    refine g_nreturn o (pc := 12) (by simp) d_jdk_43_method_3_12 (y := 1) rfl ?_ (by decide) (by decide)
    exact ⟨congrArg (fun z => some (Value.int z)) (if_neg hn2).symm, rfl⟩
set_option maxRecDepth 65536 in
set_option maxHeartbeats 40000000 in
theorem rm_lt1 (l : Launch) (Z : State) (a0 : Array Value) (hw : ∀ d ∈ tables_1, d.before a0 Z = true) (n0 : Nat) (h0 : Heap) (X0 : Old Z n0 h0) (c : Int32)  :
    Met l Z n0 (⟨"java/lang/StringLatin1", "toBytes", "(C)[B"⟩ : MethodName) jdk_43_method_46_code 1 (some (.array .byte)) ({ frames := 0, cells := 1, slots := 1, locals := 0 } : Room) #[(.int c)] h0 (fun v h => ∃ t kt, v = some (.ref t) ∧ Keep h0 h [] ∧ Arv Z h t kt .byte 1 [.int c.toInt8.toInt32] (.int 0)) := by
  refine met_of (plainFor_of_name pn_3) hw (L := #[.val (.int c)]) (fun m => by first | (simp [entryFrame, mkF, argsToLocals, Value.category]; done) | rfl) fun C hl hwd hE hPL hcs hr o => ?_
  subst hl
  have o : Ok C Z a0 jdk_43_method_46_code 1 (some (.array .byte)) "toBytes" "java/lang/StringLatin1" ({ frames := 0, cells := 1, slots := 1, locals := 0 } : Room) := o
  refine g_iconst o (pc := 0) d_jdk_43_method_46_0 (v := 1) rfl ?_
  refine g_newarr o (pc := 1) d_jdk_43_method_46_1 (dv := .int 0) rfl rfl (wd_29 hw) (by decide) (m := 1) (by decide) (by decide) (by decide) (by decide) (M' := fun _ => []) (fun _ _ q => nomatch q) fun a1 h2 kc3 ha4 E5 V6 => ?_
  have V7 : Arv Z h2 a1 kc3 .byte 1 [.int 0] (.int 0) := V6
  refine g_dup o (pc := 3) d_jdk_43_method_46_3 rfl ?_
  refine g_iconst o (pc := 4) d_jdk_43_method_46_4 (v := 0) rfl ?_
  refine g_iload_n o (pc := 5) d_jdk_43_method_46_5 rfl ?_
  refine g_i2b o (pc := 6) d_jdk_43_method_46_6 (v := c.toInt8.toInt32) rfl ?_
  refine g_bbstore o (pc := 7) d_jdk_43_method_46_7 V7 rfl (by decide) (i := 0) rfl (Nat.le_of_ble_eq_true rfl) (y := c.toInt8.toInt32) (i8_idem _) (ge_new ha4 X0) (Or.inl hE) fun h8 W9 V10 => ?_
  refine g_areturn o (pc := 8) rfl rfl d_jdk_43_method_46_8 ?_ (by decide) (by decide)
  exact ⟨a1, kc3, rfl, (((Keep.refl _ []).ext E5).wr W9 (Or.inr (keep_new ha4 (Keep.refl _ [])))), V10⟩
set_option maxRecDepth 65536 in
set_option maxHeartbeats 40000000 in
theorem rm_ut1 (l : Launch) (Z : State) (a0 : Array Value) (hw : ∀ d ∈ tables_1, d.before a0 Z = true) (n0 : Nat) (h0 : Heap) (X0 : Old Z n0 h0) (c : Int32) (Sa : Sta Z Z.heap "java/lang/StringUTF16" "$assertionsDisabled" "Z" (.int 1)) (Sh : Sta Z Z.heap "java/lang/StringUTF16" "HI_BYTE_SHIFT" "I" (.int 0)) (Sl : Sta Z Z.heap "java/lang/StringUTF16" "LO_BYTE_SHIFT" "I" (.int 8)) :
    Met l Z n0 (⟨"java/lang/StringUTF16", "toBytes", "(C)[B"⟩ : MethodName) jdk_52_method_24_code 2 (some (.array .byte)) ({ frames := 1, cells := 1, slots := 2, locals := 14 } : Room) #[(.int c)] h0 (fun v h => ∃ t kt, v = some (.ref t) ∧ Keep h0 h [] ∧ Arv Z h t kt .byte 2 [.int c.toInt8.toInt32, .int (c >>> ((8 : Int32) &&& 31)).toInt8.toInt32] (.int 0)) := by
  refine met_of (plainFor_of_name pn_2) hw (L := #[.val (.int c), .unset]) (fun m => by first | (simp [entryFrame, mkF, argsToLocals, Value.category]; done) | rfl) fun C hl hwd hE hPL hcs hr o => ?_
  subst hl
  have o : Ok C Z a0 jdk_52_method_24_code 2 (some (.array .byte)) "toBytes" "java/lang/StringUTF16" ({ frames := 1, cells := 1, slots := 2, locals := 14 } : Room) := o
  refine g_iconst o (pc := 0) d_jdk_52_method_24_0 (v := 2) rfl ?_
  refine g_newarr o (pc := 1) d_jdk_52_method_24_1 (dv := .int 0) rfl rfl (wd_29 hw) (by decide) (m := 2) (by decide) (by decide) (by decide) (by decide) (M' := fun _ => []) (fun _ _ q => nomatch q) fun a1 h2 kc3 ha4 E5 V6 => ?_
  have V7 : Arv Z h2 a1 kc3 .byte 2 [.int 0, .int 0] (.int 0) := V6
  refine g_astore_n o (pc := 3) d_jdk_52_method_24_3 rfl (L' := #[.val (.int c), .val (.ref a1)]) rfl ?_
  refine g_aload_n o (pc := 4) d_jdk_52_method_24_4 rfl rfl ?_
  refine g_iconst o (pc := 5) d_jdk_52_method_24_5 (v := 0) rfl ?_
  refine g_iload_n o (pc := 6) d_jdk_52_method_24_6 rfl ?_
  have q8 := (X0.ext E5)
  refine g_static o (pc := 7) [(.ref a1), (.int 0), (.int c)] [] d_jdk_52_method_24_7 (wd_94 hw) (wd_95 hw) (wd_27 hw) (wd_96 hw) (by decide) (Met.back o (W := 0) (rm_upc C.l Z a0 hw n0 h2 q8 a1 kc3 ([.int 0, .int 0]) 1 0 c Sa Sh Sl V7 rfl (by decide) (by decide) (ge_new ha4 X0)) (wd_96 hw) (wd_27 hw) (by decide) (by decide)) (fun _ _ _ q => q) (Or.inl hE) pd_8 rfl rfl rfl rfl (by decide) (by decide) fun v9 h10 q11 => ?_
  obtain ⟨rfl, K12, A13⟩ := q11
  show Go C Z n0 (fun v h => ∃ t kt, v = some (.ref t) ∧ Keep h0 h [] ∧ Arv Z h t kt .byte 2 [.int c.toInt8.toInt32, .int (c >>> ((8 : Int32) &&& 31)).toInt8.toInt32] (.int 0)) [] h10 1 2 10 #[.val (.int c), .val (.ref a1)] []
  refine g_aload_n o (pc := 10) d_jdk_52_method_24_10 rfl rfl ?_
  refine g_areturn o (pc := 11) rfl rfl d_jdk_52_method_24_11 ?_ (by decide) (by decide)
  exact ⟨a1, kc3, rfl, (((Keep.refl _ []).ext E5).trans K12 (allS (Or.inr (keep_new ha4 (Keep.refl _ []))) all0)), A13⟩
set_option maxRecDepth 65536 in
set_option maxHeartbeats 40000000 in
theorem rm_nbb0 (l : Launch) (Z : State) (a0 : Array Value) (hw : ∀ d ∈ tables_1, d.before a0 Z = true) (n0 : Nat) (h0 : Heap) (X0 : Old Z n0 h0) (x : Addr) (t : Addr) (A : Exa Z h0 x "java/lang/String") (Fv : Fld Z h0 x "java/lang/String" "value" "[B" .null) (Fc : Fld Z h0 x "java/lang/String" "coder" "B" (.int 0)) (gx : n0 ≤ x) :
    Met l Z n0 (⟨"java/lang/String", "<init>", "([BB)V"⟩ : MethodName) jdk_42_method_151_code 3 none ({ frames := 1, cells := 0, slots := 0, locals := 12 } : Room) #[(.ref x), (.ref t), (.int 0)] h0 (fun v h => v = none ∧ Keep h0 h [x] ∧ Exa Z h x "java/lang/String" ∧ Fld Z h x "java/lang/String" "coder" "B" (.int 0) ∧ Fld Z h x "java/lang/String" "value" "[B" (.ref t)) := by
  refine met_of (plainFor_of_name pn_1) hw (L := #[.val (.ref x), .val (.ref t), .val (.int 0)]) (fun m => by first | (simp [entryFrame, mkF, argsToLocals, Value.category]; done) | rfl) fun C hl hwd hE hPL hcs hr o => ?_
  subst hl
  have o : Ok C Z a0 jdk_42_method_151_code 3 none "<init>" "java/lang/String" ({ frames := 1, cells := 0, slots := 0, locals := 12 } : Room) := o
  refine g_aload_n o (pc := 0) d_jdk_42_method_151_0 rfl rfl ?_
  refine g_initO o (pc := 1) d_jdk_42_method_151_1 (wd_21 hw) (wd_22 hw) (wd_23 hw) rfl (by decide) (by decide) ?_
  refine g_aload_n o (pc := 4) d_jdk_42_method_151_4 rfl rfl ?_
  refine g_aload_n o (pc := 5) d_jdk_42_method_151_5 rfl rfl ?_
  refine g_putF o (pc := 6) d_jdk_42_method_151_6 (wd_38 hw) Via.refl Fv A (Or.inr ⟨(wd_39 hw), rfl, rfl⟩) (wd_12 hw) (ty := (.array .byte)) (by decide) rfl rfl gx (Or.inl hE) fun h1 W2 => ?_
  have F3 := Fv.same W2
  refine g_aload_n o (pc := 9) d_jdk_42_method_151_9 rfl rfl ?_
  refine g_iload_n o (pc := 10) d_jdk_42_method_151_10 rfl ?_
  have q4 := (Fc.other W2 (Or.inr (slot_ne (Or.inr (wd_37 hw)) (Or.inr (wd_39 hw)) (by decide) (t := .byte) (t' := (.array .byte)) (by decide) (by decide))))
  have q5 := (A.wr W2)
  refine g_putF o (pc := 11) d_jdk_42_method_151_11 (wd_36 hw) Via.refl q4 q5 (Or.inr ⟨(wd_37 hw), rfl, rfl⟩) (wd_12 hw) (ty := .byte) (by decide) rfl rfl gx (Or.inl hE) fun h6 W7 => ?_
  have F8 := q4.same W7
  refine g_return o (pc := 14) d_jdk_42_method_151_14 ?_ (by decide) (by decide)
  exact ⟨rfl, (((Keep.refl _ [x]).wr W2 (Or.inl (by simp))).wr W7 (Or.inl (by simp))), (q5.wr W7), F8, (F3.other W7 (Or.inr (slot_ne (Or.inr (wd_39 hw)) (Or.inr (wd_37 hw)) (by decide) (t := (.array .byte)) (t' := .byte) (by decide) (by decide))))⟩
set_option maxRecDepth 65536 in
set_option maxHeartbeats 40000000 in
theorem rm_nbb1 (l : Launch) (Z : State) (a0 : Array Value) (hw : ∀ d ∈ tables_1, d.before a0 Z = true) (n0 : Nat) (h0 : Heap) (X0 : Old Z n0 h0) (x : Addr) (t : Addr) (A : Exa Z h0 x "java/lang/String") (Fv : Fld Z h0 x "java/lang/String" "value" "[B" .null) (Fc : Fld Z h0 x "java/lang/String" "coder" "B" (.int 0)) (gx : n0 ≤ x) :
    Met l Z n0 (⟨"java/lang/String", "<init>", "([BB)V"⟩ : MethodName) jdk_42_method_151_code 3 none ({ frames := 1, cells := 0, slots := 0, locals := 12 } : Room) #[(.ref x), (.ref t), (.int 1)] h0 (fun v h => v = none ∧ Keep h0 h [x] ∧ Exa Z h x "java/lang/String" ∧ Fld Z h x "java/lang/String" "coder" "B" (.int 1) ∧ Fld Z h x "java/lang/String" "value" "[B" (.ref t)) := by
  refine met_of (plainFor_of_name pn_1) hw (L := #[.val (.ref x), .val (.ref t), .val (.int 1)]) (fun m => by first | (simp [entryFrame, mkF, argsToLocals, Value.category]; done) | rfl) fun C hl hwd hE hPL hcs hr o => ?_
  subst hl
  have o : Ok C Z a0 jdk_42_method_151_code 3 none "<init>" "java/lang/String" ({ frames := 1, cells := 0, slots := 0, locals := 12 } : Room) := o
  refine g_aload_n o (pc := 0) d_jdk_42_method_151_0 rfl rfl ?_
  refine g_initO o (pc := 1) d_jdk_42_method_151_1 (wd_21 hw) (wd_22 hw) (wd_23 hw) rfl (by decide) (by decide) ?_
  refine g_aload_n o (pc := 4) d_jdk_42_method_151_4 rfl rfl ?_
  refine g_aload_n o (pc := 5) d_jdk_42_method_151_5 rfl rfl ?_
  refine g_putF o (pc := 6) d_jdk_42_method_151_6 (wd_38 hw) Via.refl Fv A (Or.inr ⟨(wd_39 hw), rfl, rfl⟩) (wd_12 hw) (ty := (.array .byte)) (by decide) rfl rfl gx (Or.inl hE) fun h1 W2 => ?_
  have F3 := Fv.same W2
  refine g_aload_n o (pc := 9) d_jdk_42_method_151_9 rfl rfl ?_
  refine g_iload_n o (pc := 10) d_jdk_42_method_151_10 rfl ?_
  have q4 := (Fc.other W2 (Or.inr (slot_ne (Or.inr (wd_37 hw)) (Or.inr (wd_39 hw)) (by decide) (t := .byte) (t' := (.array .byte)) (by decide) (by decide))))
  have q5 := (A.wr W2)
  refine g_putF o (pc := 11) d_jdk_42_method_151_11 (wd_36 hw) Via.refl q4 q5 (Or.inr ⟨(wd_37 hw), rfl, rfl⟩) (wd_12 hw) (ty := .byte) (by decide) rfl rfl gx (Or.inl hE) fun h6 W7 => ?_
  have F8 := q4.same W7
  refine g_return o (pc := 14) d_jdk_42_method_151_14 ?_ (by decide) (by decide)
  exact ⟨rfl, (((Keep.refl _ [x]).wr W2 (Or.inl (by simp))).wr W7 (Or.inl (by simp))), (q5.wr W7), F8, (F3.other W7 (Or.inr (slot_ne (Or.inr (wd_39 hw)) (Or.inr (wd_37 hw)) (by decide) (t := (.array .byte)) (t' := .byte) (by decide) (by decide))))⟩
set_option maxRecDepth 65536 in
set_option maxHeartbeats 40000000 in
theorem rm_vof (l : Launch) (Z : State) (a0 : Array Value) (hw : ∀ d ∈ tables_1, d.before a0 Z = true) (n0 : Nat) (h0 : Heap) (X0 : Old Z n0 h0) (c : Int32) (zc : Int32) (Sc : Sta Z Z.heap "java/lang/String" "COMPACT_STRINGS" "Z" (.int zc)) (nzc : ¬ zc = 0) (Sa : Sta Z Z.heap "java/lang/StringUTF16" "$assertionsDisabled" "Z" (.int 1)) (Sh : Sta Z Z.heap "java/lang/StringUTF16" "HI_BYTE_SHIFT" "I" (.int 0)) (Sl : Sta Z Z.heap "java/lang/StringUTF16" "LO_BYTE_SHIFT" "I" (.int 8)) (hu : U16 c) :
    Met l Z n0 (⟨"java/lang/String", "valueOf", "(C)Ljava/lang/String;"⟩ : MethodName) jdk_42_method_139_code 1 (some (.object "java/lang/String")) ({ frames := 2, cells := 2, slots := 6, locals := 29 } : Room) #[(.int c)] h0 (fun v h => ∃ x, v = some (.ref x) ∧ Keep h0 h [] ∧ StrA Z h x [c]) := by
  refine met_of (plainFor_of_name pn_1) hw (L := #[.val (.int c)]) (fun m => by first | (simp [entryFrame, mkF, argsToLocals, Value.category]; done) | rfl) fun C hl hwd hE hPL hcs hr o => ?_
  subst hl
  have o : Ok C Z a0 jdk_42_method_139_code 1 (some (.object "java/lang/String")) "valueOf" "java/lang/String" ({ frames := 2, cells := 2, slots := 6, locals := 29 } : Room) := o
  refine g_getS o (pc := 0) d_jdk_42_method_139_0 (wd_24 hw) Via.refl (Sc.ext X0.2) ?_
  refine g_ifC o (pc := 3) d_jdk_42_method_139_3 (t := 26) (by decide) rfl c_eq (fun hy1 => absurd hy1 nzc) (fun _ => ?_)
  refine g_iload_n o (pc := 6) d_jdk_42_method_139_6 rfl ?_
  refine g_static o (pc := 7) [(.int c)] [] d_jdk_42_method_139_7 (wd_119 hw) (wd_120 hw) (wd_67 hw) (wd_121 hw) (by decide) (Met.back o (W := 0) (rm_cen C.l Z a0 hw n0 h0 X0 c ) (wd_121 hw) (wd_67 hw) (by decide) (by decide)) (fun _ _ _ q => q) (Or.inl hE) pd_14 rfl rfl rfl rfl (by decide) (by decide) fun v2 h3 q4 => ?_
  obtain ⟨rfl, hh⟩ := q4
  obtain rfl := hh.symm
  show Go C Z n0 (fun v h => ∃ x, v = some (.ref x) ∧ Keep h0 h [] ∧ StrA Z h x [c]) [] h0 0 0 10 #[.val (.int c)] [(.int (if (255 : Int32) < c then (0 : Int32) else 1))]
  refine g_ifC o (pc := 10) d_jdk_42_method_139_10 (t := 26) (by decide) rfl c_eq (fun hy5 => ?_) (fun hn6 => ?_)
  · refine g_new o (pc := 26) d_jdk_42_method_139_26 (wd_122 hw) (wd_12 hw) (wd_13 hw) (by decide) (by decide) (M' := fun _ => []) (fun _ _ q => nomatch q) fun a7 h8 ha9 E10 A11 D12 => ?_
    have F13 : Fld Z h8 a7 "java/lang/String" "coder" "B" (.int 0) := D12 (Or.inr (wd_37 hw)) (ty := .byte) (by decide)
    have F14 : Fld Z h8 a7 "java/lang/String" "value" "[B" .null := D12 (Or.inr (wd_39 hw)) (ty := (.array .byte)) (by decide)
    refine g_dup o (pc := 29) d_jdk_42_method_139_29 rfl ?_
    refine g_iload_n o (pc := 30) d_jdk_42_method_139_30 rfl ?_
    have q15 := (X0.ext E10)
    refine g_static o (pc := 31) [(.int c)] [(.ref a7), (.ref a7)] d_jdk_42_method_139_31 (wd_123 hw) (wd_124 hw) (wd_27 hw) (wd_125 hw) (by decide) (Met.back o (W := 2) (rm_ut1 C.l Z a0 hw n0 h8 q15 c Sa Sh Sl) (wd_125 hw) (wd_27 hw) (by decide) (by decide)) (fun _ _ _ q => q) (Or.inl hE) pd_15 rfl rfl rfl rfl (by decide) (by decide) fun v16 h17 q18 => ?_
    obtain ⟨t21, kt22, rfl, K19, A20⟩ := q18
    show Go C Z n0 (fun v h => ∃ x, v = some (.ref x) ∧ Keep h0 h [] ∧ StrA Z h x [c]) [] h17 2 6 34 #[.val (.int c)] [(.ref t21), (.ref a7), (.ref a7)]
    refine g_iconst o (pc := 34) d_jdk_42_method_139_34 (v := 1) rfl ?_
    have q23 := (A11.keep K19)
    have q24 := (F14.keep K19 nin0)
    have q25 := (F13.keep K19 nin0)
    have q26 := (q15.keep K19 all0)
    refine g_special o (pc := 35) a7 [(.ref t21), (.int 1)] [(.ref a7)] d_jdk_42_method_139_35 rfl (wd_126 hw) (wd_127 hw) (wd_128 hw) (by decide) (Met.back o (W := 1) (rm_nbb1 C.l Z a0 hw n0 h17 q26 a7 t21 q23 q24 q25 (ge_new ha9 X0)) (wd_128 hw) (wd_13 hw) (by decide) (by decide)) (fun _ _ _ q => q) (Or.inl hE) pd_16 rfl rfl rfl rfl (by decide) (by decide) fun v27 h28 q29 => ?_
    obtain ⟨rfl, K30, A31, F32, F33⟩ := q29
    show Go C Z n0 (fun v h => ∃ x, v = some (.ref x) ∧ Keep h0 h [] ∧ StrA Z h x [c]) [] h28 2 6 38 #[.val (.int c)] [(.ref a7)]
    refine g_areturn o (pc := 38) rfl rfl d_jdk_42_method_139_38 ?_ (by decide) (by decide)
    exact ⟨a7, rfl, ((((Keep.refl _ []).ext E10).trans K19 all0).trans K30 (allS (Or.inr (keep_new ha9 (Keep.refl _ []))) all0)), StrA.utf ⟨A31, F32, fun ch_ hc_ => by rw [List.mem_singleton.mp hc_]; exact hu, ⟨c, List.mem_singleton.mpr rfl, if_z1 hy5⟩, t21, _, F33, (A20.keep K30 (ninS (Ne.symm (Exa.neArv (A11.keep K19) A20 (wd_12 hw))) nin0))⟩⟩
  · refine g_new o (pc := 13) d_jdk_42_method_139_13 (wd_122 hw) (wd_12 hw) (wd_13 hw) (by decide) (by decide) (M' := fun _ => []) (fun _ _ q => nomatch q) fun a34 h35 ha36 E37 A38 D39 => ?_
    have F40 : Fld Z h35 a34 "java/lang/String" "coder" "B" (.int 0) := D39 (Or.inr (wd_37 hw)) (ty := .byte) (by decide)
    have F41 : Fld Z h35 a34 "java/lang/String" "value" "[B" .null := D39 (Or.inr (wd_39 hw)) (ty := (.array .byte)) (by decide)
    refine g_dup o (pc := 16) d_jdk_42_method_139_16 rfl ?_
    refine g_iload_n o (pc := 17) d_jdk_42_method_139_17 rfl ?_
    have q42 := (X0.ext E37)
    refine g_static o (pc := 18) [(.int c)] [(.ref a34), (.ref a34)] d_jdk_42_method_139_18 (wd_129 hw) (wd_130 hw) (wd_67 hw) (wd_131 hw) (by decide) (Met.back o (W := 2) (rm_lt1 C.l Z a0 hw n0 h35 q42 c ) (wd_131 hw) (wd_67 hw) (by decide) (by decide)) (fun _ _ _ q => q) (Or.inl hE) pd_15 rfl rfl rfl rfl (by decide) (by decide) fun v43 h44 q45 => ?_
    obtain ⟨t48, kt49, rfl, K46, A47⟩ := q45
    show Go C Z n0 (fun v h => ∃ x, v = some (.ref x) ∧ Keep h0 h [] ∧ StrA Z h x [c]) [] h44 2 5 21 #[.val (.int c)] [(.ref t48), (.ref a34), (.ref a34)]
    refine g_iconst o (pc := 21) d_jdk_42_method_139_21 (v := 0) rfl ?_
    have q50 := (A38.keep K46)
    have q51 := (F41.keep K46 nin0)
    have q52 := (F40.keep K46 nin0)
    have q53 := (q42.keep K46 all0)
    refine g_special o (pc := 22) a34 [(.ref t48), (.int 0)] [(.ref a34)] d_jdk_42_method_139_22 rfl (wd_126 hw) (wd_127 hw) (wd_128 hw) (by decide) (Met.back o (W := 1) (rm_nbb0 C.l Z a0 hw n0 h44 q53 a34 t48 q50 q51 q52 (ge_new ha36 X0)) (wd_128 hw) (wd_13 hw) (by decide) (by decide)) (fun _ _ _ q => q) (Or.inl hE) pd_16 rfl rfl rfl rfl (by decide) (by decide) fun v54 h55 q56 => ?_
    obtain ⟨rfl, K57, A58, F59, F60⟩ := q56
    show Go C Z n0 (fun v h => ∃ x, v = some (.ref x) ∧ Keep h0 h [] ∧ StrA Z h x [c]) [] h55 2 5 25 #[.val (.int c)] [(.ref a34)]
    refine g_areturn o (pc := 25) rfl rfl d_jdk_42_method_139_25 ?_ (by decide) (by decide)
    have hl : Lat c := ⟨hu.1, if_o1 hn6⟩
    exact ⟨a34, rfl, ((((Keep.refl _ []).ext E37).trans K46 all0).trans K57 (allS (Or.inr (keep_new ha36 (Keep.refl _ []))) all0)), StrA.lat ⟨A58, F59, fun ch_ hc_ => by rw [List.mem_singleton.mp hc_]; exact hl, t48, _, F60, (A47.keep K57 (ninS (Ne.symm (Exa.neArv (A38.keep K46) A47 (wd_12 hw))) nin0))⟩⟩
set_option maxRecDepth 65536 in
set_option maxHeartbeats 40000000 in
theorem lp_isa {C : Cx} {Z : State} {a0 : Array Value} (hw : ∀ d ∈ tables_1, d.before a0 Z = true) (hE : C.EL = []) (hPL : C.PL = []) (hcs : C.cs = 0) (hwd : C.wide = false) (n0 : Nat) (o : Ok C Z a0 prog_18_method_2_code 2 (some .boolean) "isAccepted" "com/example/traceloom/traceloom/TraceIds" ({ frames := 5, cells := 0, slots := 0, locals := 66 } : Room)) (h0 : Heap) (X0 : Old Z n0 h0) (x : Addr) (cs : List Int32) (R : Int32) (zc : Int32) (fm : Value) (Sc : Sta Z Z.heap "java/lang/String" "COMPACT_STRINGS" "Z" (.int zc)) (nzc : ¬ zc = 0) (Sf : Sta Z Z.heap "jdk/internal/util/Preconditions" "SIOOBE_FORMATTER" "Ljava/util/function/BiFunction;" fm) (rf : fm.isRef = true) (Sa : Sta Z Z.heap "java/lang/StringUTF16" "$assertionsDisabled" "Z" (.int 1)) (Sh : Sta Z Z.heap "java/lang/StringUTF16" "HI_BYTE_SHIFT" "I" (.int 0)) (Sl : Sta Z Z.heap "java/lang/StringUTF16" "LO_BYTE_SHIFT" "I" (.int 8)) (Sx : StrA Z h0 x cs) (hN : cs.length < 1000) :
    ∀ (f : Nat) (i : Nat), (i ≤ cs.length) → (cs.length - i < f) → (accL cs f i = R) → Go C Z n0 (fun v h => v = some (.int R) ∧ h = h0) [] h0 0 0 24 #[.val (.ref x), .val (.int (Int32.ofNat i))] [] := by
  intro f
  induction f with
  | zero => intro i hi hf hR; exfalso; omega
  | succ f ih =>
    intro i hi hf hR
    refine g_iload_n o (pc := 24) d_prog_18_method_2_24 rfl ?_
    refine g_aload_n o (pc := 25) d_prog_18_method_2_25 rfl rfl ?_
    have q4 := Sx.exa
    refine g_virtual o (pc := 26) x [] [(.int (Int32.ofNat i))] d_prog_18_method_2_26 (wd_45 hw) (wd_46 hw) (wd_48 hw) (wd_47 hw) (fun _ q => notFace_of_selects q) (by decide) q4 (Met.back o (W := 1) (rm_len C.l Z a0 hw n0 h0 X0 x cs zc Sc nzc Sx hN) (wd_49 hw) (wd_13 hw) (by decide) (by decide)) (fun _ _ _ q => q) (Or.inl hE) pd_17 rfl rfl rfl rfl (by decide) (by decide) fun v1 h2 q3 => ?_
    obtain ⟨rfl, hh⟩ := q3
    obtain rfl := hh.symm
    show Go C Z n0 (fun v h => v = some (.int R) ∧ h = h0) [] h0 0 0 29 #[.val (.ref x), .val (.int (Int32.ofNat i))] [(.int (Int32.ofNat cs.length)), (.int (Int32.ofNat i))]
    refine g_icmpN o (pc := 29) d_prog_18_method_2_29 (t := 51) (by decide) rfl c_ge (fun hy5 => ?_) (fun hn6 => ?_)
    · refine g_iconst o (pc := 51) d_prog_18_method_2_51 (v := 1) rfl ?_
      refine g_nreturn o (pc := 52) (by simp) d_prog_18_method_2_52 (y := 1) rfl ?_ (by decide) (by decide)
      exact ⟨congrArg (fun z => some (Value.int z)) ((acl_0 (mt (n_lt (i := i) (j := cs.length) (by omega) (by omega)).mpr hy5)).symm.trans hR), rfl⟩
    · have hlt : i < cs.length := (n_lt (by omega) (by omega)).mp hn6
      refine g_aload_n o (pc := 32) d_prog_18_method_2_32 rfl rfl ?_
      refine g_iload_n o (pc := 33) d_prog_18_method_2_33 rfl ?_
      refine g_virtual o (pc := 34) x [(.int (Int32.ofNat i))] [] d_prog_18_method_2_34 (wd_55 hw) (wd_56 hw) (wd_58 hw) (wd_57 hw) (fun _ q => notFace_of_selects q) (by decide) q4 (Met.back o (W := 0) (rm_ch C.l Z a0 hw n0 h0 X0 x cs i zc fm Sc nzc Sf rf Sa Sh Sl Sx hN hlt) (wd_59 hw) (wd_13 hw) (by decide) (by decide)) (fun _ _ _ q => q) (Or.inl hE) pd_18 rfl rfl rfl rfl (by decide) (by decide) fun v7 h8 q9 => ?_
      obtain ⟨rfl, hh⟩ := q9
      obtain rfl := hh.symm
      show Go C Z n0 (fun v h => v = some (.int R) ∧ h = h0) [] h0 0 0 37 #[.val (.ref x), .val (.int (Int32.ofNat i))] [(.int (cs.getD i 0))]
      refine g_static o (pc := 37) [(.int (cs.getD i 0))] [] d_prog_18_method_2_37 (wd_77 hw) (wd_78 hw) (wd_8 hw) (wd_79 hw) (by decide) (Met.back o (W := 0) (rm_isc C.l Z a0 hw n0 h0 X0 (cs.getD i 0) ) (wd_79 hw) (wd_8 hw) (by decide) (by decide)) (fun _ _ _ q => q) (Or.inl hE) pd_14 rfl rfl rfl rfl (by decide) (by decide) fun v10 h11 q12 => ?_
      obtain ⟨rfl, hh⟩ := q12
      obtain rfl := hh.symm
      show Go C Z n0 (fun v h => v = some (.int R) ∧ h = h0) [] h0 0 0 40 #[.val (.ref x), .val (.int (Int32.ofNat i))] [(.int (okA (cs.getD i 0)))]
      refine g_ifCN o (pc := 40) d_prog_18_method_2_40 (t := 45) (by decide) rfl c_ne (fun hy13 => ?_) (fun hn14 => ?_)
      · refine g_iinc o (pc := 45) d_prog_18_method_2_45 rfl (w := (Int32.ofNat (i + 1))) (n_add i 1) (L' := #[.val (.ref x), .val (.int (Int32.ofNat (i + 1)))]) rfl ?_
        refine g_goto o (pc := 48) d_prog_18_method_2_48 (t := 24) (by decide) rfl ?_
        exact ih (i + 1) (by omega) (by omega) ((acl_2 hlt hy13).symm.trans hR)
      · refine g_iconst o (pc := 43) d_prog_18_method_2_43 (v := 0) rfl ?_
        refine g_nreturn o (pc := 44) (by simp) d_prog_18_method_2_44 (y := 0) rfl ?_ (by decide) (by decide)
        exact ⟨congrArg (fun z => some (Value.int z)) ((acl_1 hlt hn14).symm.trans hR), rfl⟩
set_option maxRecDepth 65536 in
set_option maxHeartbeats 40000000 in
theorem rm_isa (l : Launch) (Z : State) (a0 : Array Value) (hw : ∀ d ∈ tables_1, d.before a0 Z = true) (n0 : Nat) (h0 : Heap) (X0 : Old Z n0 h0) (x : Addr) (cs : List Int32) (zc : Int32) (fm : Value) (Sc : Sta Z Z.heap "java/lang/String" "COMPACT_STRINGS" "Z" (.int zc)) (nzc : ¬ zc = 0) (Sf : Sta Z Z.heap "jdk/internal/util/Preconditions" "SIOOBE_FORMATTER" "Ljava/util/function/BiFunction;" fm) (rf : fm.isRef = true) (Sa : Sta Z Z.heap "java/lang/StringUTF16" "$assertionsDisabled" "Z" (.int 1)) (Sh : Sta Z Z.heap "java/lang/StringUTF16" "HI_BYTE_SHIFT" "I" (.int 0)) (Sl : Sta Z Z.heap "java/lang/StringUTF16" "LO_BYTE_SHIFT" "I" (.int 8)) (Sx : StrA Z h0 x cs) (hN : cs.length < 1000) :
    Met l Z n0 (⟨"com/example/traceloom/traceloom/TraceIds", "isAccepted", "(Ljava/lang/String;)Z"⟩ : MethodName) prog_18_method_2_code 2 (some .boolean) ({ frames := 5, cells := 0, slots := 0, locals := 66 } : Room) #[(.ref x)] h0 (fun v h => v = some (.int (accF cs)) ∧ h = h0) := by
  refine met_of (plainFor_of_name pn_5) hw (L := #[.val (.ref x), .unset]) (fun m => by first | (simp [entryFrame, mkF, argsToLocals, Value.category]; done) | rfl) fun C hl hwd hE hPL hcs hr o => ?_
  subst hl
  have o : Ok C Z a0 prog_18_method_2_code 2 (some .boolean) "isAccepted" "com/example/traceloom/traceloom/TraceIds" ({ frames := 5, cells := 0, slots := 0, locals := 66 } : Room) := o
  refine g_aload_n o (pc := 0) d_prog_18_method_2_0 rfl rfl ?_
  refine g_ifnullN o (pc := 1) d_prog_18_method_2_1 ?_
  refine g_aload_n o (pc := 4) d_prog_18_method_2_4 rfl rfl ?_
  have q4 := Sx.exa
  refine g_virtual o (pc := 5) x [] [] d_prog_18_method_2_5 (wd_40 hw) (wd_41 hw) (wd_43 hw) (wd_42 hw) (fun _ q => notFace_of_selects q) (by decide) q4 (Met.back o (W := 0) (rm_emp C.l Z a0 hw n0 h0 X0 x cs zc Sc nzc Sx hN) (wd_44 hw) (wd_13 hw) (by decide) (by decide)) (fun _ _ _ q => q) (Or.inl hE) pd_5 rfl rfl rfl rfl (by decide) (by decide) fun v1 h2 q3 => ?_
  obtain ⟨rfl, hh⟩ := q3
  obtain rfl := hh.symm
  show Go C Z n0 (fun v h => v = some (.int (accF cs)) ∧ h = h0) [] h0 0 0 8 #[.val (.ref x), .unset] [(.int (if cs.length = 0 then (1 : Int32) else 0))]
  refine g_ifCN o (pc := 8) d_prog_18_method_2_8 (t := 20) (by decide) rfl c_ne (fun hy5 => ?_) (fun hn6 => ?_)
  · refine g_iconst o (pc := 20) d_prog_18_method_2_20 (v := 0) rfl ?_
    refine g_nreturn o (pc := 21) (by simp) d_prog_18_method_2_21 (y := 0) rfl ?_ (by decide) (by decide)
    exact ⟨congrArg (fun z => some (Value.int z)) (by rw [accF, if_pos (if_o hy5)] : accF cs = 0).symm, rfl⟩
  · refine g_aload_n o (pc := 11) d_prog_18_method_2_11 rfl rfl ?_
    refine g_virtual o (pc := 12) x [] [] d_prog_18_method_2_12 (wd_45 hw) (wd_46 hw) (wd_48 hw) (wd_47 hw) (fun _ q => notFace_of_selects q) (by decide) q4 (Met.back o (W := 0) (rm_len C.l Z a0 hw n0 h0 X0 x cs zc Sc nzc Sx hN) (wd_49 hw) (wd_13 hw) (by decide) (by decide)) (fun _ _ _ q => q) (Or.inl hE) pd_17 rfl rfl rfl rfl (by decide) (by decide) fun v7 h8 q9 => ?_
    obtain ⟨rfl, hh⟩ := q9
    obtain rfl := hh.symm
    show Go C Z n0 (fun v h => v = some (.int (accF cs)) ∧ h = h0) [] h0 0 0 15 #[.val (.ref x), .unset] [(.int (Int32.ofNat cs.length))]
    refine g_bipush o (pc := 15) d_prog_18_method_2_15 (v := 64) rfl ?_
    refine g_icmpN o (pc := 17) d_prog_18_method_2_17 (t := 22) (by decide) rfl c_le (fun hy10 => ?_) (fun hn11 => ?_)
    · refine g_iconst o (pc := 22) d_prog_18_method_2_22 (v := 0) rfl ?_
      refine g_istore_n o (pc := 23) d_prog_18_method_2_23 (L' := #[.val (.ref x), .val (.int 0)]) rfl ?_
      have e : accF cs = accL cs (cs.length + 1) 0 := by rw [accF, if_neg (if_z hn6), if_neg (mt (n_lt (i := 64) (j := cs.length) (by decide) (by omega)).mpr hy10)]
      rw [e]
      exact lp_isa hw hE hPL hcs hwd n0 o h0 X0 x cs _ zc fm Sc nzc Sf rf Sa Sh Sl Sx hN (cs.length + 1) 0 (Nat.zero_le _) (by omega) rfl
    · refine g_iconst o (pc := 20) d_prog_18_method_2_20 (v := 0) rfl ?_
      refine g_nreturn o (pc := 21) (by simp) d_prog_18_method_2_21 (y := 0) rfl ?_ (by decide) (by decide)
      exact ⟨congrArg (fun z => some (Value.int z)) (by rw [accF, if_neg (if_z hn6), if_pos ((n_lt (i := 64) (j := cs.length) (by decide) (by omega)).mp hn11)] : accF cs = 0).symm, rfl⟩
set_option maxRecDepth 65536 in
set_option maxHeartbeats 40000000 in
theorem rm_isn (l : Launch) (Z : State) (a0 : Array Value) (hw : ∀ d ∈ tables_1, d.before a0 Z = true) (n0 : Nat) (h0 : Heap) (X0 : Old Z n0 h0)   :
    Met l Z n0 (⟨"com/example/traceloom/traceloom/TraceIds", "isAccepted", "(Ljava/lang/String;)Z"⟩ : MethodName) prog_18_method_2_code 2 (some .boolean) ({ frames := 0, cells := 0, slots := 0, locals := 0 } : Room) #[.null] h0 (fun v h => v = some (.int 0) ∧ h = h0) := by
  refine met_of (plainFor_of_name pn_5) hw (L := #[.val .null, .unset]) (fun m => by first | (simp [entryFrame, mkF, argsToLocals, Value.category]; done) | rfl) fun C hl hwd hE hPL hcs hr o => ?_
  subst hl
  have o : Ok C Z a0 prog_18_method_2_code 2 (some .boolean) "isAccepted" "com/example/traceloom/traceloom/TraceIds" ({ frames := 0, cells := 0, slots := 0, locals := 0 } : Room) := o
  refine g_aload_n o (pc := 0) d_prog_18_method_2_0 rfl rfl ?_
  refine g_ifnullY o (pc := 1) d_prog_18_method_2_1 (t := 20) (by decide) rfl ?_
  refine g_iconst o (pc := 20) d_prog_18_method_2_20 (v := 0) rfl ?_
  refine g_nreturn o (pc := 21) (by simp) d_prog_18_method_2_21 (y := 0) rfl ?_ (by decide) (by decide)
  exact ⟨rfl, rfl⟩
set_option maxRecDepth 65536 in
set_option maxHeartbeats 40000000 in
theorem bl_5 {C : Cx} {Z : State} {a0 : Array Value} (hw : ∀ d ∈ tables_1, d.before a0 Z = true) (hE : C.EL = consts_1) (hPL : C.PL = consts_1) (hcs : C.cs = 4) (hwd : C.wide = true) (n0 : Nat) (o : Ok C Z a0 code 15 (some .boolean) "law" "com/example/traceloom/traceloom/TraceIdsIsAcceptedPinLaw" ({ frames := 9, cells := 22, slots := 1660, locals := 208 } : Room)) (h0 : Heap) (X0 : Old Z n0 h0) (p0 : Int32) (p1 : Int32) (p2 : Int32) (p3 : Int32) (p4 : Int32) (x5 : Int32) (x6 : Int32) (x7 : Int32) (c : Addr) (kc : ClassId) (bs : List Int32) (zc : Int32) (fm : Value) (Sc : Sta Z Z.heap "java/lang/String" "COMPACT_STRINGS" "Z" (.int zc)) (nzc : ¬ zc = 0) (Sf : Sta Z Z.heap "jdk/internal/util/Preconditions" "SIOOBE_FORMATTER" "Ljava/util/function/BiFunction;" fm) (rf : fm.isRef = true) (Sa : Sta Z Z.heap "java/lang/StringUTF16" "$assertionsDisabled" "Z" (.int 1)) (Sh : Sta Z Z.heap "java/lang/StringUTF16" "HI_BYTE_SHIFT" "I" (.int 0)) (Sl : Sta Z Z.heap "java/lang/StringUTF16" "LO_BYTE_SHIFT" "I" (.int 8)) (Kc : Arv Z h0 c kc .char 64 (bs.map Value.int) (.int 0)) (hlen : bs.length = 64) (hok : ∀ ch_ ∈ bs, ¬ okA ch_ = 0) (hub : ∀ ch_ ∈ bs, U16 ch_) (hx5 : U16 x5) (hx6 : U16 x6) (gc : n0 ≤ c) :
    Go C Z n0 (fun v _ => v = some (.int 1)) [] h0 1 64 1015 #[.val (.int p0), .val (.int p1), .val (.int p2), .val (.int p3), .val (.int p4), .val (.int x5), .val (.int x6), .val (.int x7), .val (.int 5), .val (.ref c), .unset, .unset, .unset, .unset, .unset] [] := by
  refine g_aload o (pc := 1015) at_1015 rfl rfl ?_
  refine g_alen o (pc := 1017) at_1017 Kc ?_
  refine g_istore o (pc := 1018) at_1018 (L' := #[.val (.int p0), .val (.int p1), .val (.int p2), .val (.int p3), .val (.int p4), .val (.int x5), .val (.int x6), .val (.int x7), .val (.int 5), .val (.ref c), .val (.int 64), .unset, .unset, .unset, .unset]) rfl ?_
  refine g_iload o (pc := 1020) at_1020 rfl ?_
  refine g_ldcI o (pc := 1022) at_1022 (wd_5 hw) ?_
  refine g_iand o (pc := 1024) at_1024 (v := (p4 &&& 2147483647)) rfl ?_
  refine g_iload o (pc := 1025) at_1025 rfl ?_
  refine g_irem o (pc := 1027) at_1027 (by decide) (v := ((p4 &&& 2147483647) % 64)) rfl ?_
  obtain ⟨i, hi, e_1⟩ := rem_small (n := 64) (msk_nonneg p4) (by decide) (by decide)
  rw [show ((p4 &&& 2147483647) % 64) = Int32.ofNat i from e_1]
  refine g_istore o (pc := 1028) at_1028 (L' := #[.val (.int p0), .val (.int p1), .val (.int p2), .val (.int p3), .val (.int p4), .val (.int x5), .val (.int x6), .val (.int x7), .val (.int 5), .val (.ref c), .val (.int 64), .val (.int (Int32.ofNat i)), .unset, .unset, .unset]) rfl ?_
  refine g_iload o (pc := 1030) at_1030 rfl ?_
  refine g_bipush o (pc := 1032) at_1032 (v := 16) rfl ?_
  refine g_iushr o (pc := 1034) at_1034 (v := (XT.ushr p4 16)) rfl ?_
  refine g_iload o (pc := 1035) at_1035 rfl ?_
  refine g_irem o (pc := 1037) at_1037 (by decide) (v := ((XT.ushr p4 16) % 64)) rfl ?_
  obtain ⟨j, hj, e_2⟩ := rem_small (n := 64) (ushr16_nn p4) (by decide) (by decide)
  rw [show ((XT.ushr p4 16) % 64) = Int32.ofNat j from e_2]
  refine g_istore o (pc := 1038) at_1038 (L' := #[.val (.int p0), .val (.int p1), .val (.int p2), .val (.int p3), .val (.int p4), .val (.int x5), .val (.int x6), .val (.int x7), .val (.int 5), .val (.ref c), .val (.int 64), .val (.int (Int32.ofNat i)), .val (.int (Int32.ofNat j)), .unset, .unset]) rfl ?_
  refine g_aload o (pc := 1040) at_1040 rfl rfl ?_
  refine g_iload o (pc := 1042) at_1042 rfl ?_
  refine g_iload o (pc := 1044) at_1044 rfl ?_
  refine g_castore o (pc := 1046) at_1046 Kc (by rw [List.length_map, hlen]; rfl) (n_nn (by omega)) (i := i) (n_clamp (by omega)) (by rw [List.length_map, hlen]; exact hi) (y := x5) (nar16 hx5) gc (Or.inr (Or.inr fun _ hal => Safe.arv hal Kc (by decide))) fun h3 W4 V5 => ?_
  have V6 : Arv Z h3 c kc .char 64 ((bs.set i x5).map Value.int) (.int 0) := by rw [List.map_set]; exact V5
  refine g_aload o (pc := 1047) at_1047 rfl rfl ?_
  refine g_iload o (pc := 1049) at_1049 rfl ?_
  refine g_iload o (pc := 1051) at_1051 rfl ?_
  refine g_castore o (pc := 1053) at_1053 V6 (by rw [List.length_map, List.length_set, hlen]; rfl) (n_nn (by omega)) (i := j) (n_clamp (by omega)) (by rw [List.length_map, List.length_set, hlen]; exact hj) (y := x6) (nar16 hx6) gc (Or.inr (Or.inr fun _ hal => Safe.arv hal V6 (by decide))) fun h7 W8 V9 => ?_
  have V10 : Arv Z h7 c kc .char 64 (((bs.set i x5).set j x6).map Value.int) (.int 0) := by rw [List.map_set]; exact V9
  refine g_iload o (pc := 1054) at_1054 rfl ?_
  refine g_iload o (pc := 1056) at_1056 rfl ?_
  refine g_icmpN o (pc := 1058) at_1058 (t := 1071) (by decide) rfl c_ne (fun hy11 => ?_) (fun hn12 => ?_)
  · refine g_iload o (pc := 1071) at_1071 rfl ?_
    have q13 := ((X0.wr W4 gc).wr W8 gc)
    refine g_static o (pc := 1073) [(.int x5)] [] at_1073 (wd_80 hw) (wd_81 hw) (wd_2 hw) (wd_82 hw) (by decide) (Met.back o (W := 0) (rm_lok C.l Z a0 hw n0 h7 q13 x5 ) (wd_82 hw) (wd_2 hw) (by decide) (by decide)) (fun _ _ _ q => q) (Or.inr fun _ _ q => by rw [q.2]; exact Mv.refl) pd_14 rfl rfl rfl rfl (by decide) (by decide) fun v14 h15 q16 => ?_
    obtain ⟨rfl, hh⟩ := q16
    obtain rfl := hh.symm
    show Go C Z n0 (fun v _ => v = some (.int 1)) [] h7 1 64 1076 #[.val (.int p0), .val (.int p1), .val (.int p2), .val (.int p3), .val (.int p4), .val (.int x5), .val (.int x6), .val (.int x7), .val (.int 5), .val (.ref c), .val (.int 64), .val (.int (Int32.ofNat i)), .val (.int (Int32.ofNat j)), .unset, .unset] [(.int (okA x5))]
    refine g_ifC o (pc := 1076) at_1076 (t := 1091) (by decide) rfl c_eq (fun hy17 => ?_) (fun hn18 => ?_)
    · refine g_iconst o (pc := 1091) at_1091 (v := 0) rfl ?_
      refine g_istore o (pc := 1092) at_1092 (L' := #[.val (.int p0), .val (.int p1), .val (.int p2), .val (.int p3), .val (.int p4), .val (.int x5), .val (.int x6), .val (.int x7), .val (.int 5), .val (.ref c), .val (.int 64), .val (.int (Int32.ofNat i)), .val (.int (Int32.ofNat j)), .val (.int 0), .unset]) rfl ?_
      refine g_iload o (pc := 1094) at_1094 rfl ?_
      refine g_iconst o (pc := 1096) at_1096 (v := 5) rfl ?_
      refine g_icmpN o (pc := 1097) at_1097 (t := 1109) (by decide) rfl c_ne (fun hy19 => absurd (by decide) hy19) (fun _ => ?_)
      refine g_iload o (pc := 1100) at_1100 rfl ?_
      refine g_ifC o (pc := 1102) at_1102 (t := 1109) (by decide) rfl c_eq (fun _ => ?_) (fun hn20 => absurd (by decide) hn20)
      refine g_iconst o (pc := 1109) at_1109 (v := 0) rfl ?_
      refine g_istore o (pc := 1110) at_1110 (L' := #[.val (.int p0), .val (.int p1), .val (.int p2), .val (.int p3), .val (.int p4), .val (.int x5), .val (.int x6), .val (.int x7), .val (.int 5), .val (.ref c), .val (.int 64), .val (.int (Int32.ofNat i)), .val (.int (Int32.ofNat j)), .val (.int 0), .val (.int 0)]) rfl ?_
      have hu2 : ∀ ch_ ∈ ((bs.set i x5).set j x6), U16 ch_ := set2_all hub hx5 hx6
      refine g_new o (pc := 1112) at_1112 (wd_11 hw) (wd_12 hw) (wd_13 hw) (by decide) (by decide) (M' := fun a => a :: []) (fun _ _ q => (List.mem_cons.mp q).elim Or.inr Or.inl) fun a21 h22 ha23 E24 A25 D26 => ?_
      have F27 : Fld Z h22 a21 "java/lang/String" "coder" "B" (.int 0) := D26 (Or.inr (wd_37 hw)) (ty := .byte) (by decide)
      have F28 : Fld Z h22 a21 "java/lang/String" "value" "[B" .null := D26 (Or.inr (wd_39 hw)) (ty := (.array .byte)) (by decide)
      refine g_dup o (pc := 1115) at_1115 rfl ?_
      refine g_aload o (pc := 1116) at_1116 rfl rfl ?_
      rcases lat_or ((bs.set i x5).set j x6) hu2 with hp29 | ⟨j30, hj31, hl32, hb33⟩
      · have q34 := (q13.ext E24)
        have q35 := (V10.ext E24)
        refine g_special o (pc := 1118) a21 [(.ref c)] [(.ref a21)] at_1118 rfl (wd_14 hw) (wd_15 hw) (wd_16 hw) (by decide) (kc := 1) (ks := 64) (fun vm0 hZ => StrChars.Road.backV (W := 1) (s := C.s.setVm vm0) hZ (hwS hw) (kI := 4) (wd_12 hw) (cs := ((bs.set i x5).set j x6)) (bs := ((bs.set i x5).set j x6).map fun ch_ => ch_.toInt8.toInt32) (n := 64) (n0 := n0) (ge_new ha23 ((X0.wr W4 gc).wr W8 gc)) (Old.sz q34) A25 F28 F27 q35 (Sc.ext q34.2) nzc (set2_len.trans hlen) rfl (by decide) (by decide) hp29 rfl (o.rf (by decide)) (o.rl (by decide))) (Q' := fun v h' => StrOf Z n0 h22 64 h' a21 ((bs.set i x5).set j x6) v) (fun v h' L q => strOf_of (n := 64) (set2_len.trans hlen) hp29 q) (Or.inr fun _ _ q => Mv.keep q.2.1 (allS (Or.inr (Or.inl (by simp))) all0)) pd_19 rfl rfl rfl rfl (by decide) (by decide) fun v37 h38 q39 => ?_
        obtain ⟨rfl, K40, St42⟩ := q39
        show Go C Z n0 (fun v _ => v = some (.int 1)) [a21] h38 3 132 1121 #[.val (.int p0), .val (.int p1), .val (.int p2), .val (.int p3), .val (.int p4), .val (.int x5), .val (.int x6), .val (.int x7), .val (.int 5), .val (.ref c), .val (.int 64), .val (.int (Int32.ofNat i)), .val (.int (Int32.ofNat j)), .val (.int 0), .val (.int 0)] [(.ref a21)]
        have q43 := (StrA.lat St42)
        have q44 := (q34.keep K40 (allS (ge_new ha23 ((X0.wr W4 gc).wr W8 gc)) all0))
        refine g_static o (pc := 1121) [(.ref a21)] [] at_1121 (wd_6 hw) (wd_7 hw) (wd_8 hw) (wd_9 hw) (by decide) (Met.back o (W := 0) (rm_isa C.l Z a0 hw n0 h38 q44 a21 ((bs.set i x5).set j x6) zc fm Sc nzc Sf rf Sa Sh Sl q43 (by rw [set2_len, hlen]; decide)) (wd_9 hw) (wd_8 hw) (by decide) (by decide)) (fun _ _ _ q => q) (Or.inr fun _ _ q => by rw [q.2]; exact Mv.refl) pd_20 rfl rfl rfl rfl (by decide) (by decide) fun v45 h46 q47 => ?_
        obtain ⟨rfl, hh⟩ := q47
        obtain rfl := hh.symm
        show Go C Z n0 (fun v _ => v = some (.int 1)) [a21] h38 3 132 1124 #[.val (.int p0), .val (.int p1), .val (.int p2), .val (.int p3), .val (.int p4), .val (.int x5), .val (.int x6), .val (.int x7), .val (.int 5), .val (.ref c), .val (.int 64), .val (.int (Int32.ofNat i)), .val (.int (Int32.ofNat j)), .val (.int 0), .val (.int 0)] [(.int (accF ((bs.set i x5).set j x6)))]
        refine g_iload o (pc := 1124) at_1124 rfl ?_
        refine g_icmpN o (pc := 1126) at_1126 (t := 1133) (by decide) rfl c_ne (fun hy48 => absurd (acc_sx hlen hi (mt (n_eq (i := i) (j := j) (by omega) (by omega)).mpr hy11) hy17) hy48) (fun _ => ?_)
        refine g_iconst o (pc := 1129) at_1129 (v := 1) rfl ?_
        refine g_goto o (pc := 1130) at_1130 (t := 1134) (by decide) rfl ?_
        refine g_nreturn o (pc := 1134) (by simp) at_1134 (y := 1) rfl ?_ (by decide) (by decide)
        exact rfl
      · have q49 := (V10.ext E24)
        have q50 := (q13.ext E24)
        refine g_special o (pc := 1118) a21 [(.ref c)] [(.ref a21)] at_1118 rfl (wd_14 hw) (wd_15 hw) (wd_16 hw) (by decide) (Met.back o (W := 1) (rm_new1U C.l Z a0 hw n0 h22 q50 a21 zc c kc ((bs.set i x5).set j x6) 64 j30 Sc nzc A25 F28 F27 (ge_new ha23 ((X0.wr W4 gc).wr W8 gc)) Sa Sh Sl q49 (set2_len.trans hlen) (by omega) (by omega) (by rw [set2_len, hlen] at hj31; exact hj31) hl32 hb33 hu2) (wd_16 hw) (wd_13 hw) (by decide) (by decide)) (fun _ _ _ q => q) (Or.inr fun _ _ q => Mv.keep q.2.1 (allS (Or.inr (Or.inl (by simp))) all0)) pd_19 rfl rfl rfl rfl (by decide) (by decide) fun v51 h52 q53 => ?_
        obtain ⟨rfl, K54, St55⟩ := q53
        show Go C Z n0 (fun v _ => v = some (.int 1)) [a21] h52 4 263 1121 #[.val (.int p0), .val (.int p1), .val (.int p2), .val (.int p3), .val (.int p4), .val (.int x5), .val (.int x6), .val (.int x7), .val (.int 5), .val (.ref c), .val (.int 64), .val (.int (Int32.ofNat i)), .val (.int (Int32.ofNat j)), .val (.int 0), .val (.int 0)] [(.ref a21)]
        have q56 := (StrA.utf St55)
        have q57 := (q50.keep K54 (allS (ge_new ha23 ((X0.wr W4 gc).wr W8 gc)) all0))
        refine g_static o (pc := 1121) [(.ref a21)] [] at_1121 (wd_6 hw) (wd_7 hw) (wd_8 hw) (wd_9 hw) (by decide) (Met.back o (W := 0) (rm_isa C.l Z a0 hw n0 h52 q57 a21 ((bs.set i x5).set j x6) zc fm Sc nzc Sf rf Sa Sh Sl q56 (by rw [set2_len, hlen]; decide)) (wd_9 hw) (wd_8 hw) (by decide) (by decide)) (fun _ _ _ q => q) (Or.inr fun _ _ q => by rw [q.2]; exact Mv.refl) pd_20 rfl rfl rfl rfl (by decide) (by decide) fun v58 h59 q60 => ?_
        obtain ⟨rfl, hh⟩ := q60
        obtain rfl := hh.symm
        show Go C Z n0 (fun v _ => v = some (.int 1)) [a21] h52 4 263 1124 #[.val (.int p0), .val (.int p1), .val (.int p2), .val (.int p3), .val (.int p4), .val (.int x5), .val (.int x6), .val (.int x7), .val (.int 5), .val (.ref c), .val (.int 64), .val (.int (Int32.ofNat i)), .val (.int (Int32.ofNat j)), .val (.int 0), .val (.int 0)] [(.int (accF ((bs.set i x5).set j x6)))]
        refine g_iload o (pc := 1124) at_1124 rfl ?_
        refine g_icmpN o (pc := 1126) at_1126 (t := 1133) (by decide) rfl c_ne (fun hy61 => absurd (acc_sx hlen hi (mt (n_eq (i := i) (j := j) (by omega) (by omega)).mpr hy11) hy17) hy61) (fun _ => ?_)
        refine g_iconst o (pc := 1129) at_1129 (v := 1) rfl ?_
        refine g_goto o (pc := 1130) at_1130 (t := 1134) (by decide) rfl ?_
        refine g_nreturn o (pc := 1134) (by simp) at_1134 (y := 1) rfl ?_ (by decide) (by decide)
        exact rfl
    · refine g_iload o (pc := 1079) at_1079 rfl ?_
      refine g_static o (pc := 1081) [(.int x6)] [] at_1081 (wd_80 hw) (wd_81 hw) (wd_2 hw) (wd_82 hw) (by decide) (Met.back o (W := 0) (rm_lok C.l Z a0 hw n0 h7 q13 x6 ) (wd_82 hw) (wd_2 hw) (by decide) (by decide)) (fun _ _ _ q => q) (Or.inr fun _ _ q => by rw [q.2]; exact Mv.refl) pd_14 rfl rfl rfl rfl (by decide) (by decide) fun v62 h63 q64 => ?_
      obtain ⟨rfl, hh⟩ := q64
      obtain rfl := hh.symm
      show Go C Z n0 (fun v _ => v = some (.int 1)) [] h7 1 64 1084 #[.val (.int p0), .val (.int p1), .val (.int p2), .val (.int p3), .val (.int p4), .val (.int x5), .val (.int x6), .val (.int x7), .val (.int 5), .val (.ref c), .val (.int 64), .val (.int (Int32.ofNat i)), .val (.int (Int32.ofNat j)), .unset, .unset] [(.int (okA x6))]
      refine g_ifC o (pc := 1084) at_1084 (t := 1091) (by decide) rfl c_eq (fun hy65 => ?_) (fun hn66 => ?_)
      · refine g_iconst o (pc := 1091) at_1091 (v := 0) rfl ?_
        refine g_istore o (pc := 1092) at_1092 (L' := #[.val (.int p0), .val (.int p1), .val (.int p2), .val (.int p3), .val (.int p4), .val (.int x5), .val (.int x6), .val (.int x7), .val (.int 5), .val (.ref c), .val (.int 64), .val (.int (Int32.ofNat i)), .val (.int (Int32.ofNat j)), .val (.int 0), .unset]) rfl ?_
        refine g_iload o (pc := 1094) at_1094 rfl ?_
        refine g_iconst o (pc := 1096) at_1096 (v := 5) rfl ?_
        refine g_icmpN o (pc := 1097) at_1097 (t := 1109) (by decide) rfl c_ne (fun hy67 => absurd (by decide) hy67) (fun _ => ?_)
        refine g_iload o (pc := 1100) at_1100 rfl ?_
        refine g_ifC o (pc := 1102) at_1102 (t := 1109) (by decide) rfl c_eq (fun _ => ?_) (fun hn68 => absurd (by decide) hn68)
        refine g_iconst o (pc := 1109) at_1109 (v := 0) rfl ?_
        refine g_istore o (pc := 1110) at_1110 (L' := #[.val (.int p0), .val (.int p1), .val (.int p2), .val (.int p3), .val (.int p4), .val (.int x5), .val (.int x6), .val (.int x7), .val (.int 5), .val (.ref c), .val (.int 64), .val (.int (Int32.ofNat i)), .val (.int (Int32.ofNat j)), .val (.int 0), .val (.int 0)]) rfl ?_
        have hu2 : ∀ ch_ ∈ ((bs.set i x5).set j x6), U16 ch_ := set2_all hub hx5 hx6
        refine g_new o (pc := 1112) at_1112 (wd_11 hw) (wd_12 hw) (wd_13 hw) (by decide) (by decide) (M' := fun a => a :: []) (fun _ _ q => (List.mem_cons.mp q).elim Or.inr Or.inl) fun a69 h70 ha71 E72 A73 D74 => ?_
        have F75 : Fld Z h70 a69 "java/lang/String" "coder" "B" (.int 0) := D74 (Or.inr (wd_37 hw)) (ty := .byte) (by decide)
        have F76 : Fld Z h70 a69 "java/lang/String" "value" "[B" .null := D74 (Or.inr (wd_39 hw)) (ty := (.array .byte)) (by decide)
        refine g_dup o (pc := 1115) at_1115 rfl ?_
        refine g_aload o (pc := 1116) at_1116 rfl rfl ?_
        rcases lat_or ((bs.set i x5).set j x6) hu2 with hp77 | ⟨j78, hj79, hl80, hb81⟩
        · have q82 := (q13.ext E72)
          have q83 := (V10.ext E72)
          refine g_special o (pc := 1118) a69 [(.ref c)] [(.ref a69)] at_1118 rfl (wd_14 hw) (wd_15 hw) (wd_16 hw) (by decide) (kc := 1) (ks := 64) (fun vm0 hZ => StrChars.Road.backV (W := 1) (s := C.s.setVm vm0) hZ (hwS hw) (kI := 4) (wd_12 hw) (cs := ((bs.set i x5).set j x6)) (bs := ((bs.set i x5).set j x6).map fun ch_ => ch_.toInt8.toInt32) (n := 64) (n0 := n0) (ge_new ha71 ((X0.wr W4 gc).wr W8 gc)) (Old.sz q82) A73 F76 F75 q83 (Sc.ext q82.2) nzc (set2_len.trans hlen) rfl (by decide) (by decide) hp77 rfl (o.rf (by decide)) (o.rl (by decide))) (Q' := fun v h' => StrOf Z n0 h70 64 h' a69 ((bs.set i x5).set j x6) v) (fun v h' L q => strOf_of (n := 64) (set2_len.trans hlen) hp77 q) (Or.inr fun _ _ q => Mv.keep q.2.1 (allS (Or.inr (Or.inl (by simp))) all0)) pd_19 rfl rfl rfl rfl (by decide) (by decide) fun v85 h86 q87 => ?_
          obtain ⟨rfl, K88, St90⟩ := q87
          show Go C Z n0 (fun v _ => v = some (.int 1)) [a69] h86 3 132 1121 #[.val (.int p0), .val (.int p1), .val (.int p2), .val (.int p3), .val (.int p4), .val (.int x5), .val (.int x6), .val (.int x7), .val (.int 5), .val (.ref c), .val (.int 64), .val (.int (Int32.ofNat i)), .val (.int (Int32.ofNat j)), .val (.int 0), .val (.int 0)] [(.ref a69)]
          have q91 := (StrA.lat St90)
          have q92 := (q82.keep K88 (allS (ge_new ha71 ((X0.wr W4 gc).wr W8 gc)) all0))
          refine g_static o (pc := 1121) [(.ref a69)] [] at_1121 (wd_6 hw) (wd_7 hw) (wd_8 hw) (wd_9 hw) (by decide) (Met.back o (W := 0) (rm_isa C.l Z a0 hw n0 h86 q92 a69 ((bs.set i x5).set j x6) zc fm Sc nzc Sf rf Sa Sh Sl q91 (by rw [set2_len, hlen]; decide)) (wd_9 hw) (wd_8 hw) (by decide) (by decide)) (fun _ _ _ q => q) (Or.inr fun _ _ q => by rw [q.2]; exact Mv.refl) pd_20 rfl rfl rfl rfl (by decide) (by decide) fun v93 h94 q95 => ?_
          obtain ⟨rfl, hh⟩ := q95
          obtain rfl := hh.symm
          show Go C Z n0 (fun v _ => v = some (.int 1)) [a69] h86 3 132 1124 #[.val (.int p0), .val (.int p1), .val (.int p2), .val (.int p3), .val (.int p4), .val (.int x5), .val (.int x6), .val (.int x7), .val (.int 5), .val (.ref c), .val (.int 64), .val (.int (Int32.ofNat i)), .val (.int (Int32.ofNat j)), .val (.int 0), .val (.int 0)] [(.int (accF ((bs.set i x5).set j x6)))]
          refine g_iload o (pc := 1124) at_1124 rfl ?_
          refine g_icmpN o (pc := 1126) at_1126 (t := 1133) (by decide) rfl c_ne (fun hy96 => absurd (acc_sy hlen hj hy65) hy96) (fun _ => ?_)
          refine g_iconst o (pc := 1129) at_1129 (v := 1) rfl ?_
          refine g_goto o (pc := 1130) at_1130 (t := 1134) (by decide) rfl ?_
          refine g_nreturn o (pc := 1134) (by simp) at_1134 (y := 1) rfl ?_ (by decide) (by decide)
          exact rfl
        · have q97 := (V10.ext E72)
          have q98 := (q13.ext E72)
          refine g_special o (pc := 1118) a69 [(.ref c)] [(.ref a69)] at_1118 rfl (wd_14 hw) (wd_15 hw) (wd_16 hw) (by decide) (Met.back o (W := 1) (rm_new1U C.l Z a0 hw n0 h70 q98 a69 zc c kc ((bs.set i x5).set j x6) 64 j78 Sc nzc A73 F76 F75 (ge_new ha71 ((X0.wr W4 gc).wr W8 gc)) Sa Sh Sl q97 (set2_len.trans hlen) (by omega) (by omega) (by rw [set2_len, hlen] at hj79; exact hj79) hl80 hb81 hu2) (wd_16 hw) (wd_13 hw) (by decide) (by decide)) (fun _ _ _ q => q) (Or.inr fun _ _ q => Mv.keep q.2.1 (allS (Or.inr (Or.inl (by simp))) all0)) pd_19 rfl rfl rfl rfl (by decide) (by decide) fun v99 h100 q101 => ?_
          obtain ⟨rfl, K102, St103⟩ := q101
          show Go C Z n0 (fun v _ => v = some (.int 1)) [a69] h100 4 263 1121 #[.val (.int p0), .val (.int p1), .val (.int p2), .val (.int p3), .val (.int p4), .val (.int x5), .val (.int x6), .val (.int x7), .val (.int 5), .val (.ref c), .val (.int 64), .val (.int (Int32.ofNat i)), .val (.int (Int32.ofNat j)), .val (.int 0), .val (.int 0)] [(.ref a69)]
          have q104 := (StrA.utf St103)
          have q105 := (q98.keep K102 (allS (ge_new ha71 ((X0.wr W4 gc).wr W8 gc)) all0))
          refine g_static o (pc := 1121) [(.ref a69)] [] at_1121 (wd_6 hw) (wd_7 hw) (wd_8 hw) (wd_9 hw) (by decide) (Met.back o (W := 0) (rm_isa C.l Z a0 hw n0 h100 q105 a69 ((bs.set i x5).set j x6) zc fm Sc nzc Sf rf Sa Sh Sl q104 (by rw [set2_len, hlen]; decide)) (wd_9 hw) (wd_8 hw) (by decide) (by decide)) (fun _ _ _ q => q) (Or.inr fun _ _ q => by rw [q.2]; exact Mv.refl) pd_20 rfl rfl rfl rfl (by decide) (by decide) fun v106 h107 q108 => ?_
          obtain ⟨rfl, hh⟩ := q108
          obtain rfl := hh.symm
          show Go C Z n0 (fun v _ => v = some (.int 1)) [a69] h100 4 263 1124 #[.val (.int p0), .val (.int p1), .val (.int p2), .val (.int p3), .val (.int p4), .val (.int x5), .val (.int x6), .val (.int x7), .val (.int 5), .val (.ref c), .val (.int 64), .val (.int (Int32.ofNat i)), .val (.int (Int32.ofNat j)), .val (.int 0), .val (.int 0)] [(.int (accF ((bs.set i x5).set j x6)))]
          refine g_iload o (pc := 1124) at_1124 rfl ?_
          refine g_icmpN o (pc := 1126) at_1126 (t := 1133) (by decide) rfl c_ne (fun hy109 => absurd (acc_sy hlen hj hy65) hy109) (fun _ => ?_)
          refine g_iconst o (pc := 1129) at_1129 (v := 1) rfl ?_
          refine g_goto o (pc := 1130) at_1130 (t := 1134) (by decide) rfl ?_
          refine g_nreturn o (pc := 1134) (by simp) at_1134 (y := 1) rfl ?_ (by decide) (by decide)
          exact rfl
      · refine g_iconst o (pc := 1087) at_1087 (v := 1) rfl ?_
        refine g_goto o (pc := 1088) at_1088 (t := 1092) (by decide) rfl ?_
        refine g_istore o (pc := 1092) at_1092 (L' := #[.val (.int p0), .val (.int p1), .val (.int p2), .val (.int p3), .val (.int p4), .val (.int x5), .val (.int x6), .val (.int x7), .val (.int 5), .val (.ref c), .val (.int 64), .val (.int (Int32.ofNat i)), .val (.int (Int32.ofNat j)), .val (.int 1), .unset]) rfl ?_
        refine g_iload o (pc := 1094) at_1094 rfl ?_
        refine g_iconst o (pc := 1096) at_1096 (v := 5) rfl ?_
        refine g_icmpN o (pc := 1097) at_1097 (t := 1109) (by decide) rfl c_ne (fun hy110 => absurd (by decide) hy110) (fun _ => ?_)
        refine g_iload o (pc := 1100) at_1100 rfl ?_
        refine g_ifC o (pc := 1102) at_1102 (t := 1109) (by decide) rfl c_eq (fun hy111 => absurd hy111 (by decide)) (fun _ => ?_)
        refine g_iconst o (pc := 1105) at_1105 (v := 1) rfl ?_
        refine g_goto o (pc := 1106) at_1106 (t := 1110) (by decide) rfl ?_
        refine g_istore o (pc := 1110) at_1110 (L' := #[.val (.int p0), .val (.int p1), .val (.int p2), .val (.int p3), .val (.int p4), .val (.int x5), .val (.int x6), .val (.int x7), .val (.int 5), .val (.ref c), .val (.int 64), .val (.int (Int32.ofNat i)), .val (.int (Int32.ofNat j)), .val (.int 1), .val (.int 1)]) rfl ?_
        have hu2 : ∀ ch_ ∈ ((bs.set i x5).set j x6), U16 ch_ := set2_all hub hx5 hx6
        refine g_new o (pc := 1112) at_1112 (wd_11 hw) (wd_12 hw) (wd_13 hw) (by decide) (by decide) (M' := fun a => a :: []) (fun _ _ q => (List.mem_cons.mp q).elim Or.inr Or.inl) fun a112 h113 ha114 E115 A116 D117 => ?_
        have F118 : Fld Z h113 a112 "java/lang/String" "coder" "B" (.int 0) := D117 (Or.inr (wd_37 hw)) (ty := .byte) (by decide)
        have F119 : Fld Z h113 a112 "java/lang/String" "value" "[B" .null := D117 (Or.inr (wd_39 hw)) (ty := (.array .byte)) (by decide)
        refine g_dup o (pc := 1115) at_1115 rfl ?_
        refine g_aload o (pc := 1116) at_1116 rfl rfl ?_
        rcases lat_or ((bs.set i x5).set j x6) hu2 with hp120 | ⟨j121, hj122, hl123, hb124⟩
        · have q125 := (q13.ext E115)
          have q126 := (V10.ext E115)
          refine g_special o (pc := 1118) a112 [(.ref c)] [(.ref a112)] at_1118 rfl (wd_14 hw) (wd_15 hw) (wd_16 hw) (by decide) (kc := 1) (ks := 64) (fun vm0 hZ => StrChars.Road.backV (W := 1) (s := C.s.setVm vm0) hZ (hwS hw) (kI := 4) (wd_12 hw) (cs := ((bs.set i x5).set j x6)) (bs := ((bs.set i x5).set j x6).map fun ch_ => ch_.toInt8.toInt32) (n := 64) (n0 := n0) (ge_new ha114 ((X0.wr W4 gc).wr W8 gc)) (Old.sz q125) A116 F119 F118 q126 (Sc.ext q125.2) nzc (set2_len.trans hlen) rfl (by decide) (by decide) hp120 rfl (o.rf (by decide)) (o.rl (by decide))) (Q' := fun v h' => StrOf Z n0 h113 64 h' a112 ((bs.set i x5).set j x6) v) (fun v h' L q => strOf_of (n := 64) (set2_len.trans hlen) hp120 q) (Or.inr fun _ _ q => Mv.keep q.2.1 (allS (Or.inr (Or.inl (by simp))) all0)) pd_19 rfl rfl rfl rfl (by decide) (by decide) fun v128 h129 q130 => ?_
          obtain ⟨rfl, K131, St133⟩ := q130
          show Go C Z n0 (fun v _ => v = some (.int 1)) [a112] h129 3 132 1121 #[.val (.int p0), .val (.int p1), .val (.int p2), .val (.int p3), .val (.int p4), .val (.int x5), .val (.int x6), .val (.int x7), .val (.int 5), .val (.ref c), .val (.int 64), .val (.int (Int32.ofNat i)), .val (.int (Int32.ofNat j)), .val (.int 1), .val (.int 1)] [(.ref a112)]
          have q134 := (StrA.lat St133)
          have q135 := (q125.keep K131 (allS (ge_new ha114 ((X0.wr W4 gc).wr W8 gc)) all0))
          refine g_static o (pc := 1121) [(.ref a112)] [] at_1121 (wd_6 hw) (wd_7 hw) (wd_8 hw) (wd_9 hw) (by decide) (Met.back o (W := 0) (rm_isa C.l Z a0 hw n0 h129 q135 a112 ((bs.set i x5).set j x6) zc fm Sc nzc Sf rf Sa Sh Sl q134 (by rw [set2_len, hlen]; decide)) (wd_9 hw) (wd_8 hw) (by decide) (by decide)) (fun _ _ _ q => q) (Or.inr fun _ _ q => by rw [q.2]; exact Mv.refl) pd_20 rfl rfl rfl rfl (by decide) (by decide) fun v136 h137 q138 => ?_
          obtain ⟨rfl, hh⟩ := q138
          obtain rfl := hh.symm
          show Go C Z n0 (fun v _ => v = some (.int 1)) [a112] h129 3 132 1124 #[.val (.int p0), .val (.int p1), .val (.int p2), .val (.int p3), .val (.int p4), .val (.int x5), .val (.int x6), .val (.int x7), .val (.int 5), .val (.ref c), .val (.int 64), .val (.int (Int32.ofNat i)), .val (.int (Int32.ofNat j)), .val (.int 1), .val (.int 1)] [(.int (accF ((bs.set i x5).set j x6)))]
          refine g_iload o (pc := 1124) at_1124 rfl ?_
          refine g_icmpN o (pc := 1126) at_1126 (t := 1133) (by decide) rfl c_ne (fun hy139 => absurd (acc_s1 hlen hok hn18 hn66) hy139) (fun _ => ?_)
          refine g_iconst o (pc := 1129) at_1129 (v := 1) rfl ?_
          refine g_goto o (pc := 1130) at_1130 (t := 1134) (by decide) rfl ?_
          refine g_nreturn o (pc := 1134) (by simp) at_1134 (y := 1) rfl ?_ (by decide) (by decide)
          exact rfl
        · have q140 := (V10.ext E115)
          have q141 := (q13.ext E115)
          refine g_special o (pc := 1118) a112 [(.ref c)] [(.ref a112)] at_1118 rfl (wd_14 hw) (wd_15 hw) (wd_16 hw) (by decide) (Met.back o (W := 1) (rm_new1U C.l Z a0 hw n0 h113 q141 a112 zc c kc ((bs.set i x5).set j x6) 64 j121 Sc nzc A116 F119 F118 (ge_new ha114 ((X0.wr W4 gc).wr W8 gc)) Sa Sh Sl q140 (set2_len.trans hlen) (by omega) (by omega) (by rw [set2_len, hlen] at hj122; exact hj122) hl123 hb124 hu2) (wd_16 hw) (wd_13 hw) (by decide) (by decide)) (fun _ _ _ q => q) (Or.inr fun _ _ q => Mv.keep q.2.1 (allS (Or.inr (Or.inl (by simp))) all0)) pd_19 rfl rfl rfl rfl (by decide) (by decide) fun v142 h143 q144 => ?_
          obtain ⟨rfl, K145, St146⟩ := q144
          show Go C Z n0 (fun v _ => v = some (.int 1)) [a112] h143 4 263 1121 #[.val (.int p0), .val (.int p1), .val (.int p2), .val (.int p3), .val (.int p4), .val (.int x5), .val (.int x6), .val (.int x7), .val (.int 5), .val (.ref c), .val (.int 64), .val (.int (Int32.ofNat i)), .val (.int (Int32.ofNat j)), .val (.int 1), .val (.int 1)] [(.ref a112)]
          have q147 := (StrA.utf St146)
          have q148 := (q141.keep K145 (allS (ge_new ha114 ((X0.wr W4 gc).wr W8 gc)) all0))
          refine g_static o (pc := 1121) [(.ref a112)] [] at_1121 (wd_6 hw) (wd_7 hw) (wd_8 hw) (wd_9 hw) (by decide) (Met.back o (W := 0) (rm_isa C.l Z a0 hw n0 h143 q148 a112 ((bs.set i x5).set j x6) zc fm Sc nzc Sf rf Sa Sh Sl q147 (by rw [set2_len, hlen]; decide)) (wd_9 hw) (wd_8 hw) (by decide) (by decide)) (fun _ _ _ q => q) (Or.inr fun _ _ q => by rw [q.2]; exact Mv.refl) pd_20 rfl rfl rfl rfl (by decide) (by decide) fun v149 h150 q151 => ?_
          obtain ⟨rfl, hh⟩ := q151
          obtain rfl := hh.symm
          show Go C Z n0 (fun v _ => v = some (.int 1)) [a112] h143 4 263 1124 #[.val (.int p0), .val (.int p1), .val (.int p2), .val (.int p3), .val (.int p4), .val (.int x5), .val (.int x6), .val (.int x7), .val (.int 5), .val (.ref c), .val (.int 64), .val (.int (Int32.ofNat i)), .val (.int (Int32.ofNat j)), .val (.int 1), .val (.int 1)] [(.int (accF ((bs.set i x5).set j x6)))]
          refine g_iload o (pc := 1124) at_1124 rfl ?_
          refine g_icmpN o (pc := 1126) at_1126 (t := 1133) (by decide) rfl c_ne (fun hy152 => absurd (acc_s1 hlen hok hn18 hn66) hy152) (fun _ => ?_)
          refine g_iconst o (pc := 1129) at_1129 (v := 1) rfl ?_
          refine g_goto o (pc := 1130) at_1130 (t := 1134) (by decide) rfl ?_
          refine g_nreturn o (pc := 1134) (by simp) at_1134 (y := 1) rfl ?_ (by decide) (by decide)
          exact rfl
  · refine g_iload o (pc := 1061) at_1061 rfl ?_
    have q153 := ((X0.wr W4 gc).wr W8 gc)
    refine g_static o (pc := 1063) [(.int x6)] [] at_1063 (wd_80 hw) (wd_81 hw) (wd_2 hw) (wd_82 hw) (by decide) (Met.back o (W := 0) (rm_lok C.l Z a0 hw n0 h7 q153 x6 ) (wd_82 hw) (wd_2 hw) (by decide) (by decide)) (fun _ _ _ q => q) (Or.inr fun _ _ q => by rw [q.2]; exact Mv.refl) pd_14 rfl rfl rfl rfl (by decide) (by decide) fun v154 h155 q156 => ?_
    obtain ⟨rfl, hh⟩ := q156
    obtain rfl := hh.symm
    show Go C Z n0 (fun v _ => v = some (.int 1)) [] h7 1 64 1066 #[.val (.int p0), .val (.int p1), .val (.int p2), .val (.int p3), .val (.int p4), .val (.int x5), .val (.int x6), .val (.int x7), .val (.int 5), .val (.ref c), .val (.int 64), .val (.int (Int32.ofNat i)), .val (.int (Int32.ofNat j)), .unset, .unset] [(.int (okA x6))]
    refine g_istore o (pc := 1066) at_1066 (L' := #[.val (.int p0), .val (.int p1), .val (.int p2), .val (.int p3), .val (.int p4), .val (.int x5), .val (.int x6), .val (.int x7), .val (.int 5), .val (.ref c), .val (.int 64), .val (.int (Int32.ofNat i)), .val (.int (Int32.ofNat j)), .val (.int (okA x6)), .unset]) rfl ?_
    refine g_goto o (pc := 1068) at_1068 (t := 1094) (by decide) rfl ?_
    refine g_iload o (pc := 1094) at_1094 rfl ?_
    refine g_iconst o (pc := 1096) at_1096 (v := 5) rfl ?_
    refine g_icmpN o (pc := 1097) at_1097 (t := 1109) (by decide) rfl c_ne (fun hy157 => absurd (by decide) hy157) (fun _ => ?_)
    refine g_iload o (pc := 1100) at_1100 rfl ?_
    refine g_ifC o (pc := 1102) at_1102 (t := 1109) (by decide) rfl c_eq (fun hy158 => ?_) (fun hn159 => ?_)
    · refine g_iconst o (pc := 1109) at_1109 (v := 0) rfl ?_
      refine g_istore o (pc := 1110) at_1110 (L' := #[.val (.int p0), .val (.int p1), .val (.int p2), .val (.int p3), .val (.int p4), .val (.int x5), .val (.int x6), .val (.int x7), .val (.int 5), .val (.ref c), .val (.int 64), .val (.int (Int32.ofNat i)), .val (.int (Int32.ofNat j)), .val (.int (okA x6)), .val (.int 0)]) rfl ?_
      have hu2 : ∀ ch_ ∈ ((bs.set i x5).set j x6), U16 ch_ := set2_all hub hx5 hx6
      refine g_new o (pc := 1112) at_1112 (wd_11 hw) (wd_12 hw) (wd_13 hw) (by decide) (by decide) (M' := fun a => a :: []) (fun _ _ q => (List.mem_cons.mp q).elim Or.inr Or.inl) fun a160 h161 ha162 E163 A164 D165 => ?_
      have F166 : Fld Z h161 a160 "java/lang/String" "coder" "B" (.int 0) := D165 (Or.inr (wd_37 hw)) (ty := .byte) (by decide)
      have F167 : Fld Z h161 a160 "java/lang/String" "value" "[B" .null := D165 (Or.inr (wd_39 hw)) (ty := (.array .byte)) (by decide)
      refine g_dup o (pc := 1115) at_1115 rfl ?_
      refine g_aload o (pc := 1116) at_1116 rfl rfl ?_
      rcases lat_or ((bs.set i x5).set j x6) hu2 with hp168 | ⟨j169, hj170, hl171, hb172⟩
      · have q173 := (q153.ext E163)
        have q174 := (V10.ext E163)
        refine g_special o (pc := 1118) a160 [(.ref c)] [(.ref a160)] at_1118 rfl (wd_14 hw) (wd_15 hw) (wd_16 hw) (by decide) (kc := 1) (ks := 64) (fun vm0 hZ => StrChars.Road.backV (W := 1) (s := C.s.setVm vm0) hZ (hwS hw) (kI := 4) (wd_12 hw) (cs := ((bs.set i x5).set j x6)) (bs := ((bs.set i x5).set j x6).map fun ch_ => ch_.toInt8.toInt32) (n := 64) (n0 := n0) (ge_new ha162 ((X0.wr W4 gc).wr W8 gc)) (Old.sz q173) A164 F167 F166 q174 (Sc.ext q173.2) nzc (set2_len.trans hlen) rfl (by decide) (by decide) hp168 rfl (o.rf (by decide)) (o.rl (by decide))) (Q' := fun v h' => StrOf Z n0 h161 64 h' a160 ((bs.set i x5).set j x6) v) (fun v h' L q => strOf_of (n := 64) (set2_len.trans hlen) hp168 q) (Or.inr fun _ _ q => Mv.keep q.2.1 (allS (Or.inr (Or.inl (by simp))) all0)) pd_19 rfl rfl rfl rfl (by decide) (by decide) fun v176 h177 q178 => ?_
        obtain ⟨rfl, K179, St181⟩ := q178
        show Go C Z n0 (fun v _ => v = some (.int 1)) [a160] h177 3 132 1121 #[.val (.int p0), .val (.int p1), .val (.int p2), .val (.int p3), .val (.int p4), .val (.int x5), .val (.int x6), .val (.int x7), .val (.int 5), .val (.ref c), .val (.int 64), .val (.int (Int32.ofNat i)), .val (.int (Int32.ofNat j)), .val (.int (okA x6)), .val (.int 0)] [(.ref a160)]
        have q182 := (StrA.lat St181)
        have q183 := (q173.keep K179 (allS (ge_new ha162 ((X0.wr W4 gc).wr W8 gc)) all0))
        refine g_static o (pc := 1121) [(.ref a160)] [] at_1121 (wd_6 hw) (wd_7 hw) (wd_8 hw) (wd_9 hw) (by decide) (Met.back o (W := 0) (rm_isa C.l Z a0 hw n0 h177 q183 a160 ((bs.set i x5).set j x6) zc fm Sc nzc Sf rf Sa Sh Sl q182 (by rw [set2_len, hlen]; decide)) (wd_9 hw) (wd_8 hw) (by decide) (by decide)) (fun _ _ _ q => q) (Or.inr fun _ _ q => by rw [q.2]; exact Mv.refl) pd_20 rfl rfl rfl rfl (by decide) (by decide) fun v184 h185 q186 => ?_
        obtain ⟨rfl, hh⟩ := q186
        obtain rfl := hh.symm
        show Go C Z n0 (fun v _ => v = some (.int 1)) [a160] h177 3 132 1124 #[.val (.int p0), .val (.int p1), .val (.int p2), .val (.int p3), .val (.int p4), .val (.int x5), .val (.int x6), .val (.int x7), .val (.int 5), .val (.ref c), .val (.int 64), .val (.int (Int32.ofNat i)), .val (.int (Int32.ofNat j)), .val (.int (okA x6)), .val (.int 0)] [(.int (accF ((bs.set i x5).set j x6)))]
        refine g_iload o (pc := 1124) at_1124 rfl ?_
        refine g_icmpN o (pc := 1126) at_1126 (t := 1133) (by decide) rfl c_ne (fun hy187 => absurd (acc_sy hlen hj hy158) hy187) (fun _ => ?_)
        refine g_iconst o (pc := 1129) at_1129 (v := 1) rfl ?_
        refine g_goto o (pc := 1130) at_1130 (t := 1134) (by decide) rfl ?_
        refine g_nreturn o (pc := 1134) (by simp) at_1134 (y := 1) rfl ?_ (by decide) (by decide)
        exact rfl
      · have q188 := (V10.ext E163)
        have q189 := (q153.ext E163)
        refine g_special o (pc := 1118) a160 [(.ref c)] [(.ref a160)] at_1118 rfl (wd_14 hw) (wd_15 hw) (wd_16 hw) (by decide) (Met.back o (W := 1) (rm_new1U C.l Z a0 hw n0 h161 q189 a160 zc c kc ((bs.set i x5).set j x6) 64 j169 Sc nzc A164 F167 F166 (ge_new ha162 ((X0.wr W4 gc).wr W8 gc)) Sa Sh Sl q188 (set2_len.trans hlen) (by omega) (by omega) (by rw [set2_len, hlen] at hj170; exact hj170) hl171 hb172 hu2) (wd_16 hw) (wd_13 hw) (by decide) (by decide)) (fun _ _ _ q => q) (Or.inr fun _ _ q => Mv.keep q.2.1 (allS (Or.inr (Or.inl (by simp))) all0)) pd_19 rfl rfl rfl rfl (by decide) (by decide) fun v190 h191 q192 => ?_
        obtain ⟨rfl, K193, St194⟩ := q192
        show Go C Z n0 (fun v _ => v = some (.int 1)) [a160] h191 4 263 1121 #[.val (.int p0), .val (.int p1), .val (.int p2), .val (.int p3), .val (.int p4), .val (.int x5), .val (.int x6), .val (.int x7), .val (.int 5), .val (.ref c), .val (.int 64), .val (.int (Int32.ofNat i)), .val (.int (Int32.ofNat j)), .val (.int (okA x6)), .val (.int 0)] [(.ref a160)]
        have q195 := (StrA.utf St194)
        have q196 := (q189.keep K193 (allS (ge_new ha162 ((X0.wr W4 gc).wr W8 gc)) all0))
        refine g_static o (pc := 1121) [(.ref a160)] [] at_1121 (wd_6 hw) (wd_7 hw) (wd_8 hw) (wd_9 hw) (by decide) (Met.back o (W := 0) (rm_isa C.l Z a0 hw n0 h191 q196 a160 ((bs.set i x5).set j x6) zc fm Sc nzc Sf rf Sa Sh Sl q195 (by rw [set2_len, hlen]; decide)) (wd_9 hw) (wd_8 hw) (by decide) (by decide)) (fun _ _ _ q => q) (Or.inr fun _ _ q => by rw [q.2]; exact Mv.refl) pd_20 rfl rfl rfl rfl (by decide) (by decide) fun v197 h198 q199 => ?_
        obtain ⟨rfl, hh⟩ := q199
        obtain rfl := hh.symm
        show Go C Z n0 (fun v _ => v = some (.int 1)) [a160] h191 4 263 1124 #[.val (.int p0), .val (.int p1), .val (.int p2), .val (.int p3), .val (.int p4), .val (.int x5), .val (.int x6), .val (.int x7), .val (.int 5), .val (.ref c), .val (.int 64), .val (.int (Int32.ofNat i)), .val (.int (Int32.ofNat j)), .val (.int (okA x6)), .val (.int 0)] [(.int (accF ((bs.set i x5).set j x6)))]
        refine g_iload o (pc := 1124) at_1124 rfl ?_
        refine g_icmpN o (pc := 1126) at_1126 (t := 1133) (by decide) rfl c_ne (fun hy200 => absurd (acc_sy hlen hj hy158) hy200) (fun _ => ?_)
        refine g_iconst o (pc := 1129) at_1129 (v := 1) rfl ?_
        refine g_goto o (pc := 1130) at_1130 (t := 1134) (by decide) rfl ?_
        refine g_nreturn o (pc := 1134) (by simp) at_1134 (y := 1) rfl ?_ (by decide) (by decide)
        exact rfl
    · refine g_iconst o (pc := 1105) at_1105 (v := 1) rfl ?_
      refine g_goto o (pc := 1106) at_1106 (t := 1110) (by decide) rfl ?_
      refine g_istore o (pc := 1110) at_1110 (L' := #[.val (.int p0), .val (.int p1), .val (.int p2), .val (.int p3), .val (.int p4), .val (.int x5), .val (.int x6), .val (.int x7), .val (.int 5), .val (.ref c), .val (.int 64), .val (.int (Int32.ofNat i)), .val (.int (Int32.ofNat j)), .val (.int (okA x6)), .val (.int 1)]) rfl ?_
      have hu2 : ∀ ch_ ∈ ((bs.set i x5).set j x6), U16 ch_ := set2_all hub hx5 hx6
      refine g_new o (pc := 1112) at_1112 (wd_11 hw) (wd_12 hw) (wd_13 hw) (by decide) (by decide) (M' := fun a => a :: []) (fun _ _ q => (List.mem_cons.mp q).elim Or.inr Or.inl) fun a201 h202 ha203 E204 A205 D206 => ?_
      have F207 : Fld Z h202 a201 "java/lang/String" "coder" "B" (.int 0) := D206 (Or.inr (wd_37 hw)) (ty := .byte) (by decide)
      have F208 : Fld Z h202 a201 "java/lang/String" "value" "[B" .null := D206 (Or.inr (wd_39 hw)) (ty := (.array .byte)) (by decide)
      refine g_dup o (pc := 1115) at_1115 rfl ?_
      refine g_aload o (pc := 1116) at_1116 rfl rfl ?_
      rcases lat_or ((bs.set i x5).set j x6) hu2 with hp209 | ⟨j210, hj211, hl212, hb213⟩
      · have q214 := (q153.ext E204)
        have q215 := (V10.ext E204)
        refine g_special o (pc := 1118) a201 [(.ref c)] [(.ref a201)] at_1118 rfl (wd_14 hw) (wd_15 hw) (wd_16 hw) (by decide) (kc := 1) (ks := 64) (fun vm0 hZ => StrChars.Road.backV (W := 1) (s := C.s.setVm vm0) hZ (hwS hw) (kI := 4) (wd_12 hw) (cs := ((bs.set i x5).set j x6)) (bs := ((bs.set i x5).set j x6).map fun ch_ => ch_.toInt8.toInt32) (n := 64) (n0 := n0) (ge_new ha203 ((X0.wr W4 gc).wr W8 gc)) (Old.sz q214) A205 F208 F207 q215 (Sc.ext q214.2) nzc (set2_len.trans hlen) rfl (by decide) (by decide) hp209 rfl (o.rf (by decide)) (o.rl (by decide))) (Q' := fun v h' => StrOf Z n0 h202 64 h' a201 ((bs.set i x5).set j x6) v) (fun v h' L q => strOf_of (n := 64) (set2_len.trans hlen) hp209 q) (Or.inr fun _ _ q => Mv.keep q.2.1 (allS (Or.inr (Or.inl (by simp))) all0)) pd_19 rfl rfl rfl rfl (by decide) (by decide) fun v217 h218 q219 => ?_
        obtain ⟨rfl, K220, St222⟩ := q219
        show Go C Z n0 (fun v _ => v = some (.int 1)) [a201] h218 3 132 1121 #[.val (.int p0), .val (.int p1), .val (.int p2), .val (.int p3), .val (.int p4), .val (.int x5), .val (.int x6), .val (.int x7), .val (.int 5), .val (.ref c), .val (.int 64), .val (.int (Int32.ofNat i)), .val (.int (Int32.ofNat j)), .val (.int (okA x6)), .val (.int 1)] [(.ref a201)]
        have q223 := (StrA.lat St222)
        have q224 := (q214.keep K220 (allS (ge_new ha203 ((X0.wr W4 gc).wr W8 gc)) all0))
        refine g_static o (pc := 1121) [(.ref a201)] [] at_1121 (wd_6 hw) (wd_7 hw) (wd_8 hw) (wd_9 hw) (by decide) (Met.back o (W := 0) (rm_isa C.l Z a0 hw n0 h218 q224 a201 ((bs.set i x5).set j x6) zc fm Sc nzc Sf rf Sa Sh Sl q223 (by rw [set2_len, hlen]; decide)) (wd_9 hw) (wd_8 hw) (by decide) (by decide)) (fun _ _ _ q => q) (Or.inr fun _ _ q => by rw [q.2]; exact Mv.refl) pd_20 rfl rfl rfl rfl (by decide) (by decide) fun v225 h226 q227 => ?_
        obtain ⟨rfl, hh⟩ := q227
        obtain rfl := hh.symm
        show Go C Z n0 (fun v _ => v = some (.int 1)) [a201] h218 3 132 1124 #[.val (.int p0), .val (.int p1), .val (.int p2), .val (.int p3), .val (.int p4), .val (.int x5), .val (.int x6), .val (.int x7), .val (.int 5), .val (.ref c), .val (.int 64), .val (.int (Int32.ofNat i)), .val (.int (Int32.ofNat j)), .val (.int (okA x6)), .val (.int 1)] [(.int (accF ((bs.set i x5).set j x6)))]
        refine g_iload o (pc := 1124) at_1124 rfl ?_
        refine g_icmpN o (pc := 1126) at_1126 (t := 1133) (by decide) rfl c_ne (fun hy228 => absurd (acc_s1e hlen hok ((n_eq (i := i) (j := j) (by omega) (by omega)).mp hn12) hn159) hy228) (fun _ => ?_)
        refine g_iconst o (pc := 1129) at_1129 (v := 1) rfl ?_
        refine g_goto o (pc := 1130) at_1130 (t := 1134) (by decide) rfl ?_
        refine g_nreturn o (pc := 1134) (by simp) at_1134 (y := 1) rfl ?_ (by decide) (by decide)
        exact rfl
      · have q229 := (V10.ext E204)
        have q230 := (q153.ext E204)
        refine g_special o (pc := 1118) a201 [(.ref c)] [(.ref a201)] at_1118 rfl (wd_14 hw) (wd_15 hw) (wd_16 hw) (by decide) (Met.back o (W := 1) (rm_new1U C.l Z a0 hw n0 h202 q230 a201 zc c kc ((bs.set i x5).set j x6) 64 j210 Sc nzc A205 F208 F207 (ge_new ha203 ((X0.wr W4 gc).wr W8 gc)) Sa Sh Sl q229 (set2_len.trans hlen) (by omega) (by omega) (by rw [set2_len, hlen] at hj211; exact hj211) hl212 hb213 hu2) (wd_16 hw) (wd_13 hw) (by decide) (by decide)) (fun _ _ _ q => q) (Or.inr fun _ _ q => Mv.keep q.2.1 (allS (Or.inr (Or.inl (by simp))) all0)) pd_19 rfl rfl rfl rfl (by decide) (by decide) fun v231 h232 q233 => ?_
        obtain ⟨rfl, K234, St235⟩ := q233
        show Go C Z n0 (fun v _ => v = some (.int 1)) [a201] h232 4 263 1121 #[.val (.int p0), .val (.int p1), .val (.int p2), .val (.int p3), .val (.int p4), .val (.int x5), .val (.int x6), .val (.int x7), .val (.int 5), .val (.ref c), .val (.int 64), .val (.int (Int32.ofNat i)), .val (.int (Int32.ofNat j)), .val (.int (okA x6)), .val (.int 1)] [(.ref a201)]
        have q236 := (StrA.utf St235)
        have q237 := (q230.keep K234 (allS (ge_new ha203 ((X0.wr W4 gc).wr W8 gc)) all0))
        refine g_static o (pc := 1121) [(.ref a201)] [] at_1121 (wd_6 hw) (wd_7 hw) (wd_8 hw) (wd_9 hw) (by decide) (Met.back o (W := 0) (rm_isa C.l Z a0 hw n0 h232 q237 a201 ((bs.set i x5).set j x6) zc fm Sc nzc Sf rf Sa Sh Sl q236 (by rw [set2_len, hlen]; decide)) (wd_9 hw) (wd_8 hw) (by decide) (by decide)) (fun _ _ _ q => q) (Or.inr fun _ _ q => by rw [q.2]; exact Mv.refl) pd_20 rfl rfl rfl rfl (by decide) (by decide) fun v238 h239 q240 => ?_
        obtain ⟨rfl, hh⟩ := q240
        obtain rfl := hh.symm
        show Go C Z n0 (fun v _ => v = some (.int 1)) [a201] h232 4 263 1124 #[.val (.int p0), .val (.int p1), .val (.int p2), .val (.int p3), .val (.int p4), .val (.int x5), .val (.int x6), .val (.int x7), .val (.int 5), .val (.ref c), .val (.int 64), .val (.int (Int32.ofNat i)), .val (.int (Int32.ofNat j)), .val (.int (okA x6)), .val (.int 1)] [(.int (accF ((bs.set i x5).set j x6)))]
        refine g_iload o (pc := 1124) at_1124 rfl ?_
        refine g_icmpN o (pc := 1126) at_1126 (t := 1133) (by decide) rfl c_ne (fun hy241 => absurd (acc_s1e hlen hok ((n_eq (i := i) (j := j) (by omega) (by omega)).mp hn12) hn159) hy241) (fun _ => ?_)
        refine g_iconst o (pc := 1129) at_1129 (v := 1) rfl ?_
        refine g_goto o (pc := 1130) at_1130 (t := 1134) (by decide) rfl ?_
        refine g_nreturn o (pc := 1134) (by simp) at_1134 (y := 1) rfl ?_ (by decide) (by decide)
        exact rfl
set_option maxRecDepth 65536 in
set_option maxHeartbeats 40000000 in
theorem bl_6 {C : Cx} {Z : State} {a0 : Array Value} (hw : ∀ d ∈ tables_1, d.before a0 Z = true) (hE : C.EL = consts_1) (hPL : C.PL = consts_1) (hcs : C.cs = 4) (hwd : C.wide = true) (n0 : Nat) (o : Ok C Z a0 code 15 (some .boolean) "law" "com/example/traceloom/traceloom/TraceIdsIsAcceptedPinLaw" ({ frames := 9, cells := 22, slots := 1660, locals := 208 } : Room)) (h0 : Heap) (X0 : Old Z n0 h0) (p0 : Int32) (p1 : Int32) (p2 : Int32) (p3 : Int32) (p4 : Int32) (x5 : Int32) (x6 : Int32) (x7 : Int32) (c : Addr) (kc : ClassId) (bs : List Int32) (zc : Int32) (fm : Value) (Sc : Sta Z Z.heap "java/lang/String" "COMPACT_STRINGS" "Z" (.int zc)) (nzc : ¬ zc = 0) (Sf : Sta Z Z.heap "jdk/internal/util/Preconditions" "SIOOBE_FORMATTER" "Ljava/util/function/BiFunction;" fm) (rf : fm.isRef = true) (Sa : Sta Z Z.heap "java/lang/StringUTF16" "$assertionsDisabled" "Z" (.int 1)) (Sh : Sta Z Z.heap "java/lang/StringUTF16" "HI_BYTE_SHIFT" "I" (.int 0)) (Sl : Sta Z Z.heap "java/lang/StringUTF16" "LO_BYTE_SHIFT" "I" (.int 8)) (Kc : Arv Z h0 c kc .char 65 (bs.map Value.int) (.int 0)) (hlen : bs.length = 65) (hok : ∀ ch_ ∈ bs, ¬ okA ch_ = 0) (hub : ∀ ch_ ∈ bs, U16 ch_) (hx5 : U16 x5) (hx6 : U16 x6) (gc : n0 ≤ c) :
    Go C Z n0 (fun v _ => v = some (.int 1)) [] h0 1 65 1015 #[.val (.int p0), .val (.int p1), .val (.int p2), .val (.int p3), .val (.int p4), .val (.int x5), .val (.int x6), .val (.int x7), .val (.int 6), .val (.ref c), .unset, .unset, .unset, .unset, .unset] [] := by
  refine g_aload o (pc := 1015) at_1015 rfl rfl ?_
  refine g_alen o (pc := 1017) at_1017 Kc ?_
  refine g_istore o (pc := 1018) at_1018 (L' := #[.val (.int p0), .val (.int p1), .val (.int p2), .val (.int p3), .val (.int p4), .val (.int x5), .val (.int x6), .val (.int x7), .val (.int 6), .val (.ref c), .val (.int 65), .unset, .unset, .unset, .unset]) rfl ?_
  refine g_iload o (pc := 1020) at_1020 rfl ?_
  refine g_ldcI o (pc := 1022) at_1022 (wd_5 hw) ?_
  refine g_iand o (pc := 1024) at_1024 (v := (p4 &&& 2147483647)) rfl ?_
  refine g_iload o (pc := 1025) at_1025 rfl ?_
  refine g_irem o (pc := 1027) at_1027 (by decide) (v := ((p4 &&& 2147483647) % 65)) rfl ?_
  obtain ⟨i, hi, e_1⟩ := rem_small (n := 65) (msk_nonneg p4) (by decide) (by decide)
  rw [show ((p4 &&& 2147483647) % 65) = Int32.ofNat i from e_1]
  refine g_istore o (pc := 1028) at_1028 (L' := #[.val (.int p0), .val (.int p1), .val (.int p2), .val (.int p3), .val (.int p4), .val (.int x5), .val (.int x6), .val (.int x7), .val (.int 6), .val (.ref c), .val (.int 65), .val (.int (Int32.ofNat i)), .unset, .unset, .unset]) rfl ?_
  refine g_iload o (pc := 1030) at_1030 rfl ?_
  refine g_bipush o (pc := 1032) at_1032 (v := 16) rfl ?_
  refine g_iushr o (pc := 1034) at_1034 (v := (XT.ushr p4 16)) rfl ?_
  refine g_iload o (pc := 1035) at_1035 rfl ?_
  refine g_irem o (pc := 1037) at_1037 (by decide) (v := ((XT.ushr p4 16) % 65)) rfl ?_
  obtain ⟨j, hj, e_2⟩ := rem_small (n := 65) (ushr16_nn p4) (by decide) (by decide)
  rw [show ((XT.ushr p4 16) % 65) = Int32.ofNat j from e_2]
  refine g_istore o (pc := 1038) at_1038 (L' := #[.val (.int p0), .val (.int p1), .val (.int p2), .val (.int p3), .val (.int p4), .val (.int x5), .val (.int x6), .val (.int x7), .val (.int 6), .val (.ref c), .val (.int 65), .val (.int (Int32.ofNat i)), .val (.int (Int32.ofNat j)), .unset, .unset]) rfl ?_
  refine g_aload o (pc := 1040) at_1040 rfl rfl ?_
  refine g_iload o (pc := 1042) at_1042 rfl ?_
  refine g_iload o (pc := 1044) at_1044 rfl ?_
  refine g_castore o (pc := 1046) at_1046 Kc (by rw [List.length_map, hlen]; rfl) (n_nn (by omega)) (i := i) (n_clamp (by omega)) (by rw [List.length_map, hlen]; exact hi) (y := x5) (nar16 hx5) gc (Or.inr (Or.inr fun _ hal => Safe.arv hal Kc (by decide))) fun h3 W4 V5 => ?_
  have V6 : Arv Z h3 c kc .char 65 ((bs.set i x5).map Value.int) (.int 0) := by rw [List.map_set]; exact V5
  refine g_aload o (pc := 1047) at_1047 rfl rfl ?_
  refine g_iload o (pc := 1049) at_1049 rfl ?_
  refine g_iload o (pc := 1051) at_1051 rfl ?_
  refine g_castore o (pc := 1053) at_1053 V6 (by rw [List.length_map, List.length_set, hlen]; rfl) (n_nn (by omega)) (i := j) (n_clamp (by omega)) (by rw [List.length_map, List.length_set, hlen]; exact hj) (y := x6) (nar16 hx6) gc (Or.inr (Or.inr fun _ hal => Safe.arv hal V6 (by decide))) fun h7 W8 V9 => ?_
  have V10 : Arv Z h7 c kc .char 65 (((bs.set i x5).set j x6).map Value.int) (.int 0) := by rw [List.map_set]; exact V9
  refine g_iload o (pc := 1054) at_1054 rfl ?_
  refine g_iload o (pc := 1056) at_1056 rfl ?_
  refine g_icmpN o (pc := 1058) at_1058 (t := 1071) (by decide) rfl c_ne (fun hy11 => ?_) (fun hn12 => ?_)
  · refine g_iload o (pc := 1071) at_1071 rfl ?_
    have q13 := ((X0.wr W4 gc).wr W8 gc)
    refine g_static o (pc := 1073) [(.int x5)] [] at_1073 (wd_80 hw) (wd_81 hw) (wd_2 hw) (wd_82 hw) (by decide) (Met.back o (W := 0) (rm_lok C.l Z a0 hw n0 h7 q13 x5 ) (wd_82 hw) (wd_2 hw) (by decide) (by decide)) (fun _ _ _ q => q) (Or.inr fun _ _ q => by rw [q.2]; exact Mv.refl) pd_14 rfl rfl rfl rfl (by decide) (by decide) fun v14 h15 q16 => ?_
    obtain ⟨rfl, hh⟩ := q16
    obtain rfl := hh.symm
    show Go C Z n0 (fun v _ => v = some (.int 1)) [] h7 1 65 1076 #[.val (.int p0), .val (.int p1), .val (.int p2), .val (.int p3), .val (.int p4), .val (.int x5), .val (.int x6), .val (.int x7), .val (.int 6), .val (.ref c), .val (.int 65), .val (.int (Int32.ofNat i)), .val (.int (Int32.ofNat j)), .unset, .unset] [(.int (okA x5))]
    refine g_ifC o (pc := 1076) at_1076 (t := 1091) (by decide) rfl c_eq (fun hy17 => ?_) (fun hn18 => ?_)
    · refine g_iconst o (pc := 1091) at_1091 (v := 0) rfl ?_
      refine g_istore o (pc := 1092) at_1092 (L' := #[.val (.int p0), .val (.int p1), .val (.int p2), .val (.int p3), .val (.int p4), .val (.int x5), .val (.int x6), .val (.int x7), .val (.int 6), .val (.ref c), .val (.int 65), .val (.int (Int32.ofNat i)), .val (.int (Int32.ofNat j)), .val (.int 0), .unset]) rfl ?_
      refine g_iload o (pc := 1094) at_1094 rfl ?_
      refine g_iconst o (pc := 1096) at_1096 (v := 5) rfl ?_
      refine g_icmpN o (pc := 1097) at_1097 (t := 1109) (by decide) rfl c_ne (fun _ => ?_) (fun hn19 => absurd hn19 (by decide))
      refine g_iconst o (pc := 1109) at_1109 (v := 0) rfl ?_
      refine g_istore o (pc := 1110) at_1110 (L' := #[.val (.int p0), .val (.int p1), .val (.int p2), .val (.int p3), .val (.int p4), .val (.int x5), .val (.int x6), .val (.int x7), .val (.int 6), .val (.ref c), .val (.int 65), .val (.int (Int32.ofNat i)), .val (.int (Int32.ofNat j)), .val (.int 0), .val (.int 0)]) rfl ?_
      have hu2 : ∀ ch_ ∈ ((bs.set i x5).set j x6), U16 ch_ := set2_all hub hx5 hx6
      refine g_new o (pc := 1112) at_1112 (wd_11 hw) (wd_12 hw) (wd_13 hw) (by decide) (by decide) (M' := fun a => a :: []) (fun _ _ q => (List.mem_cons.mp q).elim Or.inr Or.inl) fun a20 h21 ha22 E23 A24 D25 => ?_
      have F26 : Fld Z h21 a20 "java/lang/String" "coder" "B" (.int 0) := D25 (Or.inr (wd_37 hw)) (ty := .byte) (by decide)
      have F27 : Fld Z h21 a20 "java/lang/String" "value" "[B" .null := D25 (Or.inr (wd_39 hw)) (ty := (.array .byte)) (by decide)
      refine g_dup o (pc := 1115) at_1115 rfl ?_
      refine g_aload o (pc := 1116) at_1116 rfl rfl ?_
      rcases lat_or ((bs.set i x5).set j x6) hu2 with hp28 | ⟨j29, hj30, hl31, hb32⟩
      · have q33 := (q13.ext E23)
        have q34 := (V10.ext E23)
        refine g_special o (pc := 1118) a20 [(.ref c)] [(.ref a20)] at_1118 rfl (wd_14 hw) (wd_15 hw) (wd_16 hw) (by decide) (kc := 1) (ks := 65) (fun vm0 hZ => StrChars.Road.backV (W := 1) (s := C.s.setVm vm0) hZ (hwS hw) (kI := 4) (wd_12 hw) (cs := ((bs.set i x5).set j x6)) (bs := ((bs.set i x5).set j x6).map fun ch_ => ch_.toInt8.toInt32) (n := 65) (n0 := n0) (ge_new ha22 ((X0.wr W4 gc).wr W8 gc)) (Old.sz q33) A24 F27 F26 q34 (Sc.ext q33.2) nzc (set2_len.trans hlen) rfl (by decide) (by decide) hp28 rfl (o.rf (by decide)) (o.rl (by decide))) (Q' := fun v h' => StrOf Z n0 h21 65 h' a20 ((bs.set i x5).set j x6) v) (fun v h' L q => strOf_of (n := 65) (set2_len.trans hlen) hp28 q) (Or.inr fun _ _ q => Mv.keep q.2.1 (allS (Or.inr (Or.inl (by simp))) all0)) pd_19 rfl rfl rfl rfl (by decide) (by decide) fun v36 h37 q38 => ?_
        obtain ⟨rfl, K39, St41⟩ := q38
        show Go C Z n0 (fun v _ => v = some (.int 1)) [a20] h37 3 134 1121 #[.val (.int p0), .val (.int p1), .val (.int p2), .val (.int p3), .val (.int p4), .val (.int x5), .val (.int x6), .val (.int x7), .val (.int 6), .val (.ref c), .val (.int 65), .val (.int (Int32.ofNat i)), .val (.int (Int32.ofNat j)), .val (.int 0), .val (.int 0)] [(.ref a20)]
        have q42 := (StrA.lat St41)
        have q43 := (q33.keep K39 (allS (ge_new ha22 ((X0.wr W4 gc).wr W8 gc)) all0))
        refine g_static o (pc := 1121) [(.ref a20)] [] at_1121 (wd_6 hw) (wd_7 hw) (wd_8 hw) (wd_9 hw) (by decide) (Met.back o (W := 0) (rm_isa C.l Z a0 hw n0 h37 q43 a20 ((bs.set i x5).set j x6) zc fm Sc nzc Sf rf Sa Sh Sl q42 (by rw [set2_len, hlen]; decide)) (wd_9 hw) (wd_8 hw) (by decide) (by decide)) (fun _ _ _ q => q) (Or.inr fun _ _ q => by rw [q.2]; exact Mv.refl) pd_20 rfl rfl rfl rfl (by decide) (by decide) fun v44 h45 q46 => ?_
        obtain ⟨rfl, hh⟩ := q46
        obtain rfl := hh.symm
        show Go C Z n0 (fun v _ => v = some (.int 1)) [a20] h37 3 134 1124 #[.val (.int p0), .val (.int p1), .val (.int p2), .val (.int p3), .val (.int p4), .val (.int x5), .val (.int x6), .val (.int x7), .val (.int 6), .val (.ref c), .val (.int 65), .val (.int (Int32.ofNat i)), .val (.int (Int32.ofNat j)), .val (.int 0), .val (.int 0)] [(.int (accF ((bs.set i x5).set j x6)))]
        refine g_iload o (pc := 1124) at_1124 rfl ?_
        refine g_icmpN o (pc := 1126) at_1126 (t := 1133) (by decide) rfl c_ne (fun hy47 => absurd (acc_sb hlen) hy47) (fun _ => ?_)
        refine g_iconst o (pc := 1129) at_1129 (v := 1) rfl ?_
        refine g_goto o (pc := 1130) at_1130 (t := 1134) (by decide) rfl ?_
        refine g_nreturn o (pc := 1134) (by simp) at_1134 (y := 1) rfl ?_ (by decide) (by decide)
        exact rfl
      · have q48 := (V10.ext E23)
        have q49 := (q13.ext E23)
        refine g_special o (pc := 1118) a20 [(.ref c)] [(.ref a20)] at_1118 rfl (wd_14 hw) (wd_15 hw) (wd_16 hw) (by decide) (Met.back o (W := 1) (rm_new1U C.l Z a0 hw n0 h21 q49 a20 zc c kc ((bs.set i x5).set j x6) 65 j29 Sc nzc A24 F27 F26 (ge_new ha22 ((X0.wr W4 gc).wr W8 gc)) Sa Sh Sl q48 (set2_len.trans hlen) (by omega) (by omega) (by rw [set2_len, hlen] at hj30; exact hj30) hl31 hb32 hu2) (wd_16 hw) (wd_13 hw) (by decide) (by decide)) (fun _ _ _ q => q) (Or.inr fun _ _ q => Mv.keep q.2.1 (allS (Or.inr (Or.inl (by simp))) all0)) pd_19 rfl rfl rfl rfl (by decide) (by decide) fun v50 h51 q52 => ?_
        obtain ⟨rfl, K53, St54⟩ := q52
        show Go C Z n0 (fun v _ => v = some (.int 1)) [a20] h51 4 264 1121 #[.val (.int p0), .val (.int p1), .val (.int p2), .val (.int p3), .val (.int p4), .val (.int x5), .val (.int x6), .val (.int x7), .val (.int 6), .val (.ref c), .val (.int 65), .val (.int (Int32.ofNat i)), .val (.int (Int32.ofNat j)), .val (.int 0), .val (.int 0)] [(.ref a20)]
        have q55 := (StrA.utf St54)
        have q56 := (q49.keep K53 (allS (ge_new ha22 ((X0.wr W4 gc).wr W8 gc)) all0))
        refine g_static o (pc := 1121) [(.ref a20)] [] at_1121 (wd_6 hw) (wd_7 hw) (wd_8 hw) (wd_9 hw) (by decide) (Met.back o (W := 0) (rm_isa C.l Z a0 hw n0 h51 q56 a20 ((bs.set i x5).set j x6) zc fm Sc nzc Sf rf Sa Sh Sl q55 (by rw [set2_len, hlen]; decide)) (wd_9 hw) (wd_8 hw) (by decide) (by decide)) (fun _ _ _ q => q) (Or.inr fun _ _ q => by rw [q.2]; exact Mv.refl) pd_20 rfl rfl rfl rfl (by decide) (by decide) fun v57 h58 q59 => ?_
        obtain ⟨rfl, hh⟩ := q59
        obtain rfl := hh.symm
        show Go C Z n0 (fun v _ => v = some (.int 1)) [a20] h51 4 264 1124 #[.val (.int p0), .val (.int p1), .val (.int p2), .val (.int p3), .val (.int p4), .val (.int x5), .val (.int x6), .val (.int x7), .val (.int 6), .val (.ref c), .val (.int 65), .val (.int (Int32.ofNat i)), .val (.int (Int32.ofNat j)), .val (.int 0), .val (.int 0)] [(.int (accF ((bs.set i x5).set j x6)))]
        refine g_iload o (pc := 1124) at_1124 rfl ?_
        refine g_icmpN o (pc := 1126) at_1126 (t := 1133) (by decide) rfl c_ne (fun hy60 => absurd (acc_sb hlen) hy60) (fun _ => ?_)
        refine g_iconst o (pc := 1129) at_1129 (v := 1) rfl ?_
        refine g_goto o (pc := 1130) at_1130 (t := 1134) (by decide) rfl ?_
        refine g_nreturn o (pc := 1134) (by simp) at_1134 (y := 1) rfl ?_ (by decide) (by decide)
        exact rfl
    · refine g_iload o (pc := 1079) at_1079 rfl ?_
      refine g_static o (pc := 1081) [(.int x6)] [] at_1081 (wd_80 hw) (wd_81 hw) (wd_2 hw) (wd_82 hw) (by decide) (Met.back o (W := 0) (rm_lok C.l Z a0 hw n0 h7 q13 x6 ) (wd_82 hw) (wd_2 hw) (by decide) (by decide)) (fun _ _ _ q => q) (Or.inr fun _ _ q => by rw [q.2]; exact Mv.refl) pd_14 rfl rfl rfl rfl (by decide) (by decide) fun v61 h62 q63 => ?_
      obtain ⟨rfl, hh⟩ := q63
      obtain rfl := hh.symm
      show Go C Z n0 (fun v _ => v = some (.int 1)) [] h7 1 65 1084 #[.val (.int p0), .val (.int p1), .val (.int p2), .val (.int p3), .val (.int p4), .val (.int x5), .val (.int x6), .val (.int x7), .val (.int 6), .val (.ref c), .val (.int 65), .val (.int (Int32.ofNat i)), .val (.int (Int32.ofNat j)), .unset, .unset] [(.int (okA x6))]
      refine g_ifC o (pc := 1084) at_1084 (t := 1091) (by decide) rfl c_eq (fun hy64 => ?_) (fun hn65 => ?_)
      · refine g_iconst o (pc := 1091) at_1091 (v := 0) rfl ?_
        refine g_istore o (pc := 1092) at_1092 (L' := #[.val (.int p0), .val (.int p1), .val (.int p2), .val (.int p3), .val (.int p4), .val (.int x5), .val (.int x6), .val (.int x7), .val (.int 6), .val (.ref c), .val (.int 65), .val (.int (Int32.ofNat i)), .val (.int (Int32.ofNat j)), .val (.int 0), .unset]) rfl ?_
        refine g_iload o (pc := 1094) at_1094 rfl ?_
        refine g_iconst o (pc := 1096) at_1096 (v := 5) rfl ?_
        refine g_icmpN o (pc := 1097) at_1097 (t := 1109) (by decide) rfl c_ne (fun _ => ?_) (fun hn66 => absurd hn66 (by decide))
        refine g_iconst o (pc := 1109) at_1109 (v := 0) rfl ?_
        refine g_istore o (pc := 1110) at_1110 (L' := #[.val (.int p0), .val (.int p1), .val (.int p2), .val (.int p3), .val (.int p4), .val (.int x5), .val (.int x6), .val (.int x7), .val (.int 6), .val (.ref c), .val (.int 65), .val (.int (Int32.ofNat i)), .val (.int (Int32.ofNat j)), .val (.int 0), .val (.int 0)]) rfl ?_
        have hu2 : ∀ ch_ ∈ ((bs.set i x5).set j x6), U16 ch_ := set2_all hub hx5 hx6
        refine g_new o (pc := 1112) at_1112 (wd_11 hw) (wd_12 hw) (wd_13 hw) (by decide) (by decide) (M' := fun a => a :: []) (fun _ _ q => (List.mem_cons.mp q).elim Or.inr Or.inl) fun a67 h68 ha69 E70 A71 D72 => ?_
        have F73 : Fld Z h68 a67 "java/lang/String" "coder" "B" (.int 0) := D72 (Or.inr (wd_37 hw)) (ty := .byte) (by decide)
        have F74 : Fld Z h68 a67 "java/lang/String" "value" "[B" .null := D72 (Or.inr (wd_39 hw)) (ty := (.array .byte)) (by decide)
        refine g_dup o (pc := 1115) at_1115 rfl ?_
        refine g_aload o (pc := 1116) at_1116 rfl rfl ?_
        rcases lat_or ((bs.set i x5).set j x6) hu2 with hp75 | ⟨j76, hj77, hl78, hb79⟩
        · have q80 := (q13.ext E70)
          have q81 := (V10.ext E70)
          refine g_special o (pc := 1118) a67 [(.ref c)] [(.ref a67)] at_1118 rfl (wd_14 hw) (wd_15 hw) (wd_16 hw) (by decide) (kc := 1) (ks := 65) (fun vm0 hZ => StrChars.Road.backV (W := 1) (s := C.s.setVm vm0) hZ (hwS hw) (kI := 4) (wd_12 hw) (cs := ((bs.set i x5).set j x6)) (bs := ((bs.set i x5).set j x6).map fun ch_ => ch_.toInt8.toInt32) (n := 65) (n0 := n0) (ge_new ha69 ((X0.wr W4 gc).wr W8 gc)) (Old.sz q80) A71 F74 F73 q81 (Sc.ext q80.2) nzc (set2_len.trans hlen) rfl (by decide) (by decide) hp75 rfl (o.rf (by decide)) (o.rl (by decide))) (Q' := fun v h' => StrOf Z n0 h68 65 h' a67 ((bs.set i x5).set j x6) v) (fun v h' L q => strOf_of (n := 65) (set2_len.trans hlen) hp75 q) (Or.inr fun _ _ q => Mv.keep q.2.1 (allS (Or.inr (Or.inl (by simp))) all0)) pd_19 rfl rfl rfl rfl (by decide) (by decide) fun v83 h84 q85 => ?_
          obtain ⟨rfl, K86, St88⟩ := q85
          show Go C Z n0 (fun v _ => v = some (.int 1)) [a67] h84 3 134 1121 #[.val (.int p0), .val (.int p1), .val (.int p2), .val (.int p3), .val (.int p4), .val (.int x5), .val (.int x6), .val (.int x7), .val (.int 6), .val (.ref c), .val (.int 65), .val (.int (Int32.ofNat i)), .val (.int (Int32.ofNat j)), .val (.int 0), .val (.int 0)] [(.ref a67)]
          have q89 := (StrA.lat St88)
          have q90 := (q80.keep K86 (allS (ge_new ha69 ((X0.wr W4 gc).wr W8 gc)) all0))
          refine g_static o (pc := 1121) [(.ref a67)] [] at_1121 (wd_6 hw) (wd_7 hw) (wd_8 hw) (wd_9 hw) (by decide) (Met.back o (W := 0) (rm_isa C.l Z a0 hw n0 h84 q90 a67 ((bs.set i x5).set j x6) zc fm Sc nzc Sf rf Sa Sh Sl q89 (by rw [set2_len, hlen]; decide)) (wd_9 hw) (wd_8 hw) (by decide) (by decide)) (fun _ _ _ q => q) (Or.inr fun _ _ q => by rw [q.2]; exact Mv.refl) pd_20 rfl rfl rfl rfl (by decide) (by decide) fun v91 h92 q93 => ?_
          obtain ⟨rfl, hh⟩ := q93
          obtain rfl := hh.symm
          show Go C Z n0 (fun v _ => v = some (.int 1)) [a67] h84 3 134 1124 #[.val (.int p0), .val (.int p1), .val (.int p2), .val (.int p3), .val (.int p4), .val (.int x5), .val (.int x6), .val (.int x7), .val (.int 6), .val (.ref c), .val (.int 65), .val (.int (Int32.ofNat i)), .val (.int (Int32.ofNat j)), .val (.int 0), .val (.int 0)] [(.int (accF ((bs.set i x5).set j x6)))]
          refine g_iload o (pc := 1124) at_1124 rfl ?_
          refine g_icmpN o (pc := 1126) at_1126 (t := 1133) (by decide) rfl c_ne (fun hy94 => absurd (acc_sb hlen) hy94) (fun _ => ?_)
          refine g_iconst o (pc := 1129) at_1129 (v := 1) rfl ?_
          refine g_goto o (pc := 1130) at_1130 (t := 1134) (by decide) rfl ?_
          refine g_nreturn o (pc := 1134) (by simp) at_1134 (y := 1) rfl ?_ (by decide) (by decide)
          exact rfl
        · have q95 := (V10.ext E70)
          have q96 := (q13.ext E70)
          refine g_special o (pc := 1118) a67 [(.ref c)] [(.ref a67)] at_1118 rfl (wd_14 hw) (wd_15 hw) (wd_16 hw) (by decide) (Met.back o (W := 1) (rm_new1U C.l Z a0 hw n0 h68 q96 a67 zc c kc ((bs.set i x5).set j x6) 65 j76 Sc nzc A71 F74 F73 (ge_new ha69 ((X0.wr W4 gc).wr W8 gc)) Sa Sh Sl q95 (set2_len.trans hlen) (by omega) (by omega) (by rw [set2_len, hlen] at hj77; exact hj77) hl78 hb79 hu2) (wd_16 hw) (wd_13 hw) (by decide) (by decide)) (fun _ _ _ q => q) (Or.inr fun _ _ q => Mv.keep q.2.1 (allS (Or.inr (Or.inl (by simp))) all0)) pd_19 rfl rfl rfl rfl (by decide) (by decide) fun v97 h98 q99 => ?_
          obtain ⟨rfl, K100, St101⟩ := q99
          show Go C Z n0 (fun v _ => v = some (.int 1)) [a67] h98 4 264 1121 #[.val (.int p0), .val (.int p1), .val (.int p2), .val (.int p3), .val (.int p4), .val (.int x5), .val (.int x6), .val (.int x7), .val (.int 6), .val (.ref c), .val (.int 65), .val (.int (Int32.ofNat i)), .val (.int (Int32.ofNat j)), .val (.int 0), .val (.int 0)] [(.ref a67)]
          have q102 := (StrA.utf St101)
          have q103 := (q96.keep K100 (allS (ge_new ha69 ((X0.wr W4 gc).wr W8 gc)) all0))
          refine g_static o (pc := 1121) [(.ref a67)] [] at_1121 (wd_6 hw) (wd_7 hw) (wd_8 hw) (wd_9 hw) (by decide) (Met.back o (W := 0) (rm_isa C.l Z a0 hw n0 h98 q103 a67 ((bs.set i x5).set j x6) zc fm Sc nzc Sf rf Sa Sh Sl q102 (by rw [set2_len, hlen]; decide)) (wd_9 hw) (wd_8 hw) (by decide) (by decide)) (fun _ _ _ q => q) (Or.inr fun _ _ q => by rw [q.2]; exact Mv.refl) pd_20 rfl rfl rfl rfl (by decide) (by decide) fun v104 h105 q106 => ?_
          obtain ⟨rfl, hh⟩ := q106
          obtain rfl := hh.symm
          show Go C Z n0 (fun v _ => v = some (.int 1)) [a67] h98 4 264 1124 #[.val (.int p0), .val (.int p1), .val (.int p2), .val (.int p3), .val (.int p4), .val (.int x5), .val (.int x6), .val (.int x7), .val (.int 6), .val (.ref c), .val (.int 65), .val (.int (Int32.ofNat i)), .val (.int (Int32.ofNat j)), .val (.int 0), .val (.int 0)] [(.int (accF ((bs.set i x5).set j x6)))]
          refine g_iload o (pc := 1124) at_1124 rfl ?_
          refine g_icmpN o (pc := 1126) at_1126 (t := 1133) (by decide) rfl c_ne (fun hy107 => absurd (acc_sb hlen) hy107) (fun _ => ?_)
          refine g_iconst o (pc := 1129) at_1129 (v := 1) rfl ?_
          refine g_goto o (pc := 1130) at_1130 (t := 1134) (by decide) rfl ?_
          refine g_nreturn o (pc := 1134) (by simp) at_1134 (y := 1) rfl ?_ (by decide) (by decide)
          exact rfl
      · refine g_iconst o (pc := 1087) at_1087 (v := 1) rfl ?_
        refine g_goto o (pc := 1088) at_1088 (t := 1092) (by decide) rfl ?_
        refine g_istore o (pc := 1092) at_1092 (L' := #[.val (.int p0), .val (.int p1), .val (.int p2), .val (.int p3), .val (.int p4), .val (.int x5), .val (.int x6), .val (.int x7), .val (.int 6), .val (.ref c), .val (.int 65), .val (.int (Int32.ofNat i)), .val (.int (Int32.ofNat j)), .val (.int 1), .unset]) rfl ?_
        refine g_iload o (pc := 1094) at_1094 rfl ?_
        refine g_iconst o (pc := 1096) at_1096 (v := 5) rfl ?_
        refine g_icmpN o (pc := 1097) at_1097 (t := 1109) (by decide) rfl c_ne (fun _ => ?_) (fun hn108 => absurd hn108 (by decide))
        refine g_iconst o (pc := 1109) at_1109 (v := 0) rfl ?_
        refine g_istore o (pc := 1110) at_1110 (L' := #[.val (.int p0), .val (.int p1), .val (.int p2), .val (.int p3), .val (.int p4), .val (.int x5), .val (.int x6), .val (.int x7), .val (.int 6), .val (.ref c), .val (.int 65), .val (.int (Int32.ofNat i)), .val (.int (Int32.ofNat j)), .val (.int 1), .val (.int 0)]) rfl ?_
        have hu2 : ∀ ch_ ∈ ((bs.set i x5).set j x6), U16 ch_ := set2_all hub hx5 hx6
        refine g_new o (pc := 1112) at_1112 (wd_11 hw) (wd_12 hw) (wd_13 hw) (by decide) (by decide) (M' := fun a => a :: []) (fun _ _ q => (List.mem_cons.mp q).elim Or.inr Or.inl) fun a109 h110 ha111 E112 A113 D114 => ?_
        have F115 : Fld Z h110 a109 "java/lang/String" "coder" "B" (.int 0) := D114 (Or.inr (wd_37 hw)) (ty := .byte) (by decide)
        have F116 : Fld Z h110 a109 "java/lang/String" "value" "[B" .null := D114 (Or.inr (wd_39 hw)) (ty := (.array .byte)) (by decide)
        refine g_dup o (pc := 1115) at_1115 rfl ?_
        refine g_aload o (pc := 1116) at_1116 rfl rfl ?_
        rcases lat_or ((bs.set i x5).set j x6) hu2 with hp117 | ⟨j118, hj119, hl120, hb121⟩
        · have q122 := (q13.ext E112)
          have q123 := (V10.ext E112)
          refine g_special o (pc := 1118) a109 [(.ref c)] [(.ref a109)] at_1118 rfl (wd_14 hw) (wd_15 hw) (wd_16 hw) (by decide) (kc := 1) (ks := 65) (fun vm0 hZ => StrChars.Road.backV (W := 1) (s := C.s.setVm vm0) hZ (hwS hw) (kI := 4) (wd_12 hw) (cs := ((bs.set i x5).set j x6)) (bs := ((bs.set i x5).set j x6).map fun ch_ => ch_.toInt8.toInt32) (n := 65) (n0 := n0) (ge_new ha111 ((X0.wr W4 gc).wr W8 gc)) (Old.sz q122) A113 F116 F115 q123 (Sc.ext q122.2) nzc (set2_len.trans hlen) rfl (by decide) (by decide) hp117 rfl (o.rf (by decide)) (o.rl (by decide))) (Q' := fun v h' => StrOf Z n0 h110 65 h' a109 ((bs.set i x5).set j x6) v) (fun v h' L q => strOf_of (n := 65) (set2_len.trans hlen) hp117 q) (Or.inr fun _ _ q => Mv.keep q.2.1 (allS (Or.inr (Or.inl (by simp))) all0)) pd_19 rfl rfl rfl rfl (by decide) (by decide) fun v125 h126 q127 => ?_
          obtain ⟨rfl, K128, St130⟩ := q127
          show Go C Z n0 (fun v _ => v = some (.int 1)) [a109] h126 3 134 1121 #[.val (.int p0), .val (.int p1), .val (.int p2), .val (.int p3), .val (.int p4), .val (.int x5), .val (.int x6), .val (.int x7), .val (.int 6), .val (.ref c), .val (.int 65), .val (.int (Int32.ofNat i)), .val (.int (Int32.ofNat j)), .val (.int 1), .val (.int 0)] [(.ref a109)]
          have q131 := (StrA.lat St130)
          have q132 := (q122.keep K128 (allS (ge_new ha111 ((X0.wr W4 gc).wr W8 gc)) all0))
          refine g_static o (pc := 1121) [(.ref a109)] [] at_1121 (wd_6 hw) (wd_7 hw) (wd_8 hw) (wd_9 hw) (by decide) (Met.back o (W := 0) (rm_isa C.l Z a0 hw n0 h126 q132 a109 ((bs.set i x5).set j x6) zc fm Sc nzc Sf rf Sa Sh Sl q131 (by rw [set2_len, hlen]; decide)) (wd_9 hw) (wd_8 hw) (by decide) (by decide)) (fun _ _ _ q => q) (Or.inr fun _ _ q => by rw [q.2]; exact Mv.refl) pd_20 rfl rfl rfl rfl (by decide) (by decide) fun v133 h134 q135 => ?_
          obtain ⟨rfl, hh⟩ := q135
          obtain rfl := hh.symm
          show Go C Z n0 (fun v _ => v = some (.int 1)) [a109] h126 3 134 1124 #[.val (.int p0), .val (.int p1), .val (.int p2), .val (.int p3), .val (.int p4), .val (.int x5), .val (.int x6), .val (.int x7), .val (.int 6), .val (.ref c), .val (.int 65), .val (.int (Int32.ofNat i)), .val (.int (Int32.ofNat j)), .val (.int 1), .val (.int 0)] [(.int (accF ((bs.set i x5).set j x6)))]
          refine g_iload o (pc := 1124) at_1124 rfl ?_
          refine g_icmpN o (pc := 1126) at_1126 (t := 1133) (by decide) rfl c_ne (fun hy136 => absurd (acc_sb hlen) hy136) (fun _ => ?_)
          refine g_iconst o (pc := 1129) at_1129 (v := 1) rfl ?_
          refine g_goto o (pc := 1130) at_1130 (t := 1134) (by decide) rfl ?_
          refine g_nreturn o (pc := 1134) (by simp) at_1134 (y := 1) rfl ?_ (by decide) (by decide)
          exact rfl
        · have q137 := (V10.ext E112)
          have q138 := (q13.ext E112)
          refine g_special o (pc := 1118) a109 [(.ref c)] [(.ref a109)] at_1118 rfl (wd_14 hw) (wd_15 hw) (wd_16 hw) (by decide) (Met.back o (W := 1) (rm_new1U C.l Z a0 hw n0 h110 q138 a109 zc c kc ((bs.set i x5).set j x6) 65 j118 Sc nzc A113 F116 F115 (ge_new ha111 ((X0.wr W4 gc).wr W8 gc)) Sa Sh Sl q137 (set2_len.trans hlen) (by omega) (by omega) (by rw [set2_len, hlen] at hj119; exact hj119) hl120 hb121 hu2) (wd_16 hw) (wd_13 hw) (by decide) (by decide)) (fun _ _ _ q => q) (Or.inr fun _ _ q => Mv.keep q.2.1 (allS (Or.inr (Or.inl (by simp))) all0)) pd_19 rfl rfl rfl rfl (by decide) (by decide) fun v139 h140 q141 => ?_
          obtain ⟨rfl, K142, St143⟩ := q141
          show Go C Z n0 (fun v _ => v = some (.int 1)) [a109] h140 4 264 1121 #[.val (.int p0), .val (.int p1), .val (.int p2), .val (.int p3), .val (.int p4), .val (.int x5), .val (.int x6), .val (.int x7), .val (.int 6), .val (.ref c), .val (.int 65), .val (.int (Int32.ofNat i)), .val (.int (Int32.ofNat j)), .val (.int 1), .val (.int 0)] [(.ref a109)]
          have q144 := (StrA.utf St143)
          have q145 := (q138.keep K142 (allS (ge_new ha111 ((X0.wr W4 gc).wr W8 gc)) all0))
          refine g_static o (pc := 1121) [(.ref a109)] [] at_1121 (wd_6 hw) (wd_7 hw) (wd_8 hw) (wd_9 hw) (by decide) (Met.back o (W := 0) (rm_isa C.l Z a0 hw n0 h140 q145 a109 ((bs.set i x5).set j x6) zc fm Sc nzc Sf rf Sa Sh Sl q144 (by rw [set2_len, hlen]; decide)) (wd_9 hw) (wd_8 hw) (by decide) (by decide)) (fun _ _ _ q => q) (Or.inr fun _ _ q => by rw [q.2]; exact Mv.refl) pd_20 rfl rfl rfl rfl (by decide) (by decide) fun v146 h147 q148 => ?_
          obtain ⟨rfl, hh⟩ := q148
          obtain rfl := hh.symm
          show Go C Z n0 (fun v _ => v = some (.int 1)) [a109] h140 4 264 1124 #[.val (.int p0), .val (.int p1), .val (.int p2), .val (.int p3), .val (.int p4), .val (.int x5), .val (.int x6), .val (.int x7), .val (.int 6), .val (.ref c), .val (.int 65), .val (.int (Int32.ofNat i)), .val (.int (Int32.ofNat j)), .val (.int 1), .val (.int 0)] [(.int (accF ((bs.set i x5).set j x6)))]
          refine g_iload o (pc := 1124) at_1124 rfl ?_
          refine g_icmpN o (pc := 1126) at_1126 (t := 1133) (by decide) rfl c_ne (fun hy149 => absurd (acc_sb hlen) hy149) (fun _ => ?_)
          refine g_iconst o (pc := 1129) at_1129 (v := 1) rfl ?_
          refine g_goto o (pc := 1130) at_1130 (t := 1134) (by decide) rfl ?_
          refine g_nreturn o (pc := 1134) (by simp) at_1134 (y := 1) rfl ?_ (by decide) (by decide)
          exact rfl
  · refine g_iload o (pc := 1061) at_1061 rfl ?_
    have q150 := ((X0.wr W4 gc).wr W8 gc)
    refine g_static o (pc := 1063) [(.int x6)] [] at_1063 (wd_80 hw) (wd_81 hw) (wd_2 hw) (wd_82 hw) (by decide) (Met.back o (W := 0) (rm_lok C.l Z a0 hw n0 h7 q150 x6 ) (wd_82 hw) (wd_2 hw) (by decide) (by decide)) (fun _ _ _ q => q) (Or.inr fun _ _ q => by rw [q.2]; exact Mv.refl) pd_14 rfl rfl rfl rfl (by decide) (by decide) fun v151 h152 q153 => ?_
    obtain ⟨rfl, hh⟩ := q153
    obtain rfl := hh.symm
    show Go C Z n0 (fun v _ => v = some (.int 1)) [] h7 1 65 1066 #[.val (.int p0), .val (.int p1), .val (.int p2), .val (.int p3), .val (.int p4), .val (.int x5), .val (.int x6), .val (.int x7), .val (.int 6), .val (.ref c), .val (.int 65), .val (.int (Int32.ofNat i)), .val (.int (Int32.ofNat j)), .unset, .unset] [(.int (okA x6))]
    refine g_istore o (pc := 1066) at_1066 (L' := #[.val (.int p0), .val (.int p1), .val (.int p2), .val (.int p3), .val (.int p4), .val (.int x5), .val (.int x6), .val (.int x7), .val (.int 6), .val (.ref c), .val (.int 65), .val (.int (Int32.ofNat i)), .val (.int (Int32.ofNat j)), .val (.int (okA x6)), .unset]) rfl ?_
    refine g_goto o (pc := 1068) at_1068 (t := 1094) (by decide) rfl ?_
    refine g_iload o (pc := 1094) at_1094 rfl ?_
    refine g_iconst o (pc := 1096) at_1096 (v := 5) rfl ?_
    refine g_icmpN o (pc := 1097) at_1097 (t := 1109) (by decide) rfl c_ne (fun _ => ?_) (fun hn154 => absurd hn154 (by decide))
    refine g_iconst o (pc := 1109) at_1109 (v := 0) rfl ?_
    refine g_istore o (pc := 1110) at_1110 (L' := #[.val (.int p0), .val (.int p1), .val (.int p2), .val (.int p3), .val (.int p4), .val (.int x5), .val (.int x6), .val (.int x7), .val (.int 6), .val (.ref c), .val (.int 65), .val (.int (Int32.ofNat i)), .val (.int (Int32.ofNat j)), .val (.int (okA x6)), .val (.int 0)]) rfl ?_
    have hu2 : ∀ ch_ ∈ ((bs.set i x5).set j x6), U16 ch_ := set2_all hub hx5 hx6
    refine g_new o (pc := 1112) at_1112 (wd_11 hw) (wd_12 hw) (wd_13 hw) (by decide) (by decide) (M' := fun a => a :: []) (fun _ _ q => (List.mem_cons.mp q).elim Or.inr Or.inl) fun a155 h156 ha157 E158 A159 D160 => ?_
    have F161 : Fld Z h156 a155 "java/lang/String" "coder" "B" (.int 0) := D160 (Or.inr (wd_37 hw)) (ty := .byte) (by decide)
    have F162 : Fld Z h156 a155 "java/lang/String" "value" "[B" .null := D160 (Or.inr (wd_39 hw)) (ty := (.array .byte)) (by decide)
    refine g_dup o (pc := 1115) at_1115 rfl ?_
    refine g_aload o (pc := 1116) at_1116 rfl rfl ?_
    rcases lat_or ((bs.set i x5).set j x6) hu2 with hp163 | ⟨j164, hj165, hl166, hb167⟩
    · have q168 := (q150.ext E158)
      have q169 := (V10.ext E158)
      refine g_special o (pc := 1118) a155 [(.ref c)] [(.ref a155)] at_1118 rfl (wd_14 hw) (wd_15 hw) (wd_16 hw) (by decide) (kc := 1) (ks := 65) (fun vm0 hZ => StrChars.Road.backV (W := 1) (s := C.s.setVm vm0) hZ (hwS hw) (kI := 4) (wd_12 hw) (cs := ((bs.set i x5).set j x6)) (bs := ((bs.set i x5).set j x6).map fun ch_ => ch_.toInt8.toInt32) (n := 65) (n0 := n0) (ge_new ha157 ((X0.wr W4 gc).wr W8 gc)) (Old.sz q168) A159 F162 F161 q169 (Sc.ext q168.2) nzc (set2_len.trans hlen) rfl (by decide) (by decide) hp163 rfl (o.rf (by decide)) (o.rl (by decide))) (Q' := fun v h' => StrOf Z n0 h156 65 h' a155 ((bs.set i x5).set j x6) v) (fun v h' L q => strOf_of (n := 65) (set2_len.trans hlen) hp163 q) (Or.inr fun _ _ q => Mv.keep q.2.1 (allS (Or.inr (Or.inl (by simp))) all0)) pd_19 rfl rfl rfl rfl (by decide) (by decide) fun v171 h172 q173 => ?_
      obtain ⟨rfl, K174, St176⟩ := q173
      show Go C Z n0 (fun v _ => v = some (.int 1)) [a155] h172 3 134 1121 #[.val (.int p0), .val (.int p1), .val (.int p2), .val (.int p3), .val (.int p4), .val (.int x5), .val (.int x6), .val (.int x7), .val (.int 6), .val (.ref c), .val (.int 65), .val (.int (Int32.ofNat i)), .val (.int (Int32.ofNat j)), .val (.int (okA x6)), .val (.int 0)] [(.ref a155)]
      have q177 := (StrA.lat St176)
      have q178 := (q168.keep K174 (allS (ge_new ha157 ((X0.wr W4 gc).wr W8 gc)) all0))
      refine g_static o (pc := 1121) [(.ref a155)] [] at_1121 (wd_6 hw) (wd_7 hw) (wd_8 hw) (wd_9 hw) (by decide) (Met.back o (W := 0) (rm_isa C.l Z a0 hw n0 h172 q178 a155 ((bs.set i x5).set j x6) zc fm Sc nzc Sf rf Sa Sh Sl q177 (by rw [set2_len, hlen]; decide)) (wd_9 hw) (wd_8 hw) (by decide) (by decide)) (fun _ _ _ q => q) (Or.inr fun _ _ q => by rw [q.2]; exact Mv.refl) pd_20 rfl rfl rfl rfl (by decide) (by decide) fun v179 h180 q181 => ?_
      obtain ⟨rfl, hh⟩ := q181
      obtain rfl := hh.symm
      show Go C Z n0 (fun v _ => v = some (.int 1)) [a155] h172 3 134 1124 #[.val (.int p0), .val (.int p1), .val (.int p2), .val (.int p3), .val (.int p4), .val (.int x5), .val (.int x6), .val (.int x7), .val (.int 6), .val (.ref c), .val (.int 65), .val (.int (Int32.ofNat i)), .val (.int (Int32.ofNat j)), .val (.int (okA x6)), .val (.int 0)] [(.int (accF ((bs.set i x5).set j x6)))]
      refine g_iload o (pc := 1124) at_1124 rfl ?_
      refine g_icmpN o (pc := 1126) at_1126 (t := 1133) (by decide) rfl c_ne (fun hy182 => absurd (acc_sb hlen) hy182) (fun _ => ?_)
      refine g_iconst o (pc := 1129) at_1129 (v := 1) rfl ?_
      refine g_goto o (pc := 1130) at_1130 (t := 1134) (by decide) rfl ?_
      refine g_nreturn o (pc := 1134) (by simp) at_1134 (y := 1) rfl ?_ (by decide) (by decide)
      exact rfl
    · have q183 := (V10.ext E158)
      have q184 := (q150.ext E158)
      refine g_special o (pc := 1118) a155 [(.ref c)] [(.ref a155)] at_1118 rfl (wd_14 hw) (wd_15 hw) (wd_16 hw) (by decide) (Met.back o (W := 1) (rm_new1U C.l Z a0 hw n0 h156 q184 a155 zc c kc ((bs.set i x5).set j x6) 65 j164 Sc nzc A159 F162 F161 (ge_new ha157 ((X0.wr W4 gc).wr W8 gc)) Sa Sh Sl q183 (set2_len.trans hlen) (by omega) (by omega) (by rw [set2_len, hlen] at hj165; exact hj165) hl166 hb167 hu2) (wd_16 hw) (wd_13 hw) (by decide) (by decide)) (fun _ _ _ q => q) (Or.inr fun _ _ q => Mv.keep q.2.1 (allS (Or.inr (Or.inl (by simp))) all0)) pd_19 rfl rfl rfl rfl (by decide) (by decide) fun v185 h186 q187 => ?_
      obtain ⟨rfl, K188, St189⟩ := q187
      show Go C Z n0 (fun v _ => v = some (.int 1)) [a155] h186 4 264 1121 #[.val (.int p0), .val (.int p1), .val (.int p2), .val (.int p3), .val (.int p4), .val (.int x5), .val (.int x6), .val (.int x7), .val (.int 6), .val (.ref c), .val (.int 65), .val (.int (Int32.ofNat i)), .val (.int (Int32.ofNat j)), .val (.int (okA x6)), .val (.int 0)] [(.ref a155)]
      have q190 := (StrA.utf St189)
      have q191 := (q184.keep K188 (allS (ge_new ha157 ((X0.wr W4 gc).wr W8 gc)) all0))
      refine g_static o (pc := 1121) [(.ref a155)] [] at_1121 (wd_6 hw) (wd_7 hw) (wd_8 hw) (wd_9 hw) (by decide) (Met.back o (W := 0) (rm_isa C.l Z a0 hw n0 h186 q191 a155 ((bs.set i x5).set j x6) zc fm Sc nzc Sf rf Sa Sh Sl q190 (by rw [set2_len, hlen]; decide)) (wd_9 hw) (wd_8 hw) (by decide) (by decide)) (fun _ _ _ q => q) (Or.inr fun _ _ q => by rw [q.2]; exact Mv.refl) pd_20 rfl rfl rfl rfl (by decide) (by decide) fun v192 h193 q194 => ?_
      obtain ⟨rfl, hh⟩ := q194
      obtain rfl := hh.symm
      show Go C Z n0 (fun v _ => v = some (.int 1)) [a155] h186 4 264 1124 #[.val (.int p0), .val (.int p1), .val (.int p2), .val (.int p3), .val (.int p4), .val (.int x5), .val (.int x6), .val (.int x7), .val (.int 6), .val (.ref c), .val (.int 65), .val (.int (Int32.ofNat i)), .val (.int (Int32.ofNat j)), .val (.int (okA x6)), .val (.int 0)] [(.int (accF ((bs.set i x5).set j x6)))]
      refine g_iload o (pc := 1124) at_1124 rfl ?_
      refine g_icmpN o (pc := 1126) at_1126 (t := 1133) (by decide) rfl c_ne (fun hy195 => absurd (acc_sb hlen) hy195) (fun _ => ?_)
      refine g_iconst o (pc := 1129) at_1129 (v := 1) rfl ?_
      refine g_goto o (pc := 1130) at_1130 (t := 1134) (by decide) rfl ?_
      refine g_nreturn o (pc := 1134) (by simp) at_1134 (y := 1) rfl ?_ (by decide) (by decide)
      exact rfl
theorem base5_ok : ∀ ch_ ∈ ([97, 98, 99, 100, 101, 102, 103, 104, 105, 106, 107, 108, 109, 110, 111, 112, 113, 114, 115, 116, 117, 118, 119, 120, 121, 122, 65, 66, 67, 68, 69, 70, 71, 72, 73, 74, 75, 76, 77, 78, 79, 80, 81, 82, 83, 84, 85, 86, 87, 88, 89, 90, 48, 49, 50, 51, 52, 53, 54, 55, 56, 57, 45, 95] : List Int32), ¬ okA ch_ = 0 := by decide +kernel
theorem base5_u : ∀ ch_ ∈ ([97, 98, 99, 100, 101, 102, 103, 104, 105, 106, 107, 108, 109, 110, 111, 112, 113, 114, 115, 116, 117, 118, 119, 120, 121, 122, 65, 66, 67, 68, 69, 70, 71, 72, 73, 74, 75, 76, 77, 78, 79, 80, 81, 82, 83, 84, 85, 86, 87, 88, 89, 90, 48, 49, 50, 51, 52, 53, 54, 55, 56, 57, 45, 95] : List Int32), U16 ch_ := by decide +kernel
theorem base6_ok : ∀ ch_ ∈ ([97, 98, 99, 100, 101, 102, 103, 104, 105, 106, 107, 108, 109, 110, 111, 112, 113, 114, 115, 116, 117, 118, 119, 120, 121, 122, 65, 66, 67, 68, 69, 70, 71, 72, 73, 74, 75, 76, 77, 78, 79, 80, 81, 82, 83, 84, 85, 86, 87, 88, 89, 90, 48, 49, 50, 51, 52, 53, 54, 55, 56, 57, 45, 95, 46] : List Int32), ¬ okA ch_ = 0 := by decide +kernel
theorem base6_u : ∀ ch_ ∈ ([97, 98, 99, 100, 101, 102, 103, 104, 105, 106, 107, 108, 109, 110, 111, 112, 113, 114, 115, 116, 117, 118, 119, 120, 121, 122, 65, 66, 67, 68, 69, 70, 71, 72, 73, 74, 75, 76, 77, 78, 79, 80, 81, 82, 83, 84, 85, 86, 87, 88, 89, 90, 48, 49, 50, 51, 52, 53, 54, 55, 56, 57, 45, 95, 46] : List Int32), U16 ch_ := by decide +kernel
set_option maxRecDepth 65536 in
set_option maxHeartbeats 40000000 in
theorem rm_law (l : Launch) (Z : State) (a0 : Array Value) (hw : ∀ d ∈ tables_1, d.before a0 Z = true) (ws : List Jvm.Cond) (n0 : Nat) (h0 : Heap) (X0 : Old Z n0 h0) (p0 : Int32) (p1 : Int32) (p2 : Int32) (p3 : Int32) (p4 : Int32) (zc : Int32) (fm : Value) (Sc : Sta Z Z.heap "java/lang/String" "COMPACT_STRINGS" "Z" (.int zc)) (nzc : ¬ zc = 0) (Sf : Sta Z Z.heap "jdk/internal/util/Preconditions" "SIOOBE_FORMATTER" "Ljava/util/function/BiFunction;" fm) (rf : fm.isRef = true) (Sa : Sta Z Z.heap "java/lang/StringUTF16" "$assertionsDisabled" "Z" (.int 1)) (Sh : Sta Z Z.heap "java/lang/StringUTF16" "HI_BYTE_SHIFT" "I" (.int 0)) (Sl : Sta Z Z.heap "java/lang/StringUTF16" "LO_BYTE_SHIFT" "I" (.int 8)) (hCH : CHv Z consts_1 Z.vm h0) :
    MetFree l x (head1 (Jvm.Cond.code x code maxLocals ret :: ws) room_1) (fun a U => a = #[(.int p0), (.int p1), (.int p2), (.int p3), (.int p4)] ∧ Z.Warmed39 U.vm ∧ U.vm = Z.vm ∧ U.heap = h0) (fun _ _ _ _ _ => True) (fun _ U o U' => ∃ v L, o = .returned v ∧ (v = some (.int 1) ∧ Fr n0 L) ∧ (true = true → ∃ k n, ReturnedEndW U o U' L k n ∧ k ≤ room_1.cells ∧ n ≤ room_1.slots) ∧ (true = false → FrameEnd U o U' L room_1.cells room_1.slots)) := by
  refine law_of (Q := fun v _ => v = some (.int 1)) pn_4 hw (L := #[.val (.int p0), .val (.int p1), .val (.int p2), .val (.int p3), .val (.int p4), .unset, .unset, .unset, .unset, .unset, .unset, .unset, .unset, .unset, .unset]) (fun m => by first | (simp [entryFrame, mkF, argsToLocals, Value.category, maxLocals]; done) | rfl) true consts_1 (ew_ hw) hCH consts_1 4 1 (by decide) (rm := { frames := 9, cells := 22, slots := 1660, locals := 208 }) rfl fun C hl hwd hE hPL hcs hr o => ?_
  subst hl
  have o : Ok C Z a0 code 15 (some .boolean) "law" "com/example/traceloom/traceloom/TraceIdsIsAcceptedPinLaw" ({ frames := 9, cells := 22, slots := 1660, locals := 208 } : Room) := o
  refine g_iload_n o (pc := 0) at_0 rfl ?_
  refine g_static o (pc := 1) [(.int p1)] [] at_1 (wd_0 hw) (wd_1 hw) (wd_2 hw) (wd_3 hw) (by decide) (Met.back o (W := 0) (rm_draw C.l Z a0 hw n0 h0 X0 p1 ) (wd_3 hw) (wd_2 hw) (by decide) (by decide)) (fun _ _ _ q => q) (Or.inr fun _ _ q => by obtain ⟨_, _, _, q⟩ := q; rw [q]; exact Mv.refl) pd_18 rfl rfl rfl rfl (by decide) (by decide) fun v1 h2 q3 => ?_
  obtain ⟨c4, rfl, l5, hh⟩ := q3
  obtain rfl := hh.symm
  show Go C Z n0 (fun v _ => v = some (.int 1)) [] h0 0 0 4 #[.val (.int p0), .val (.int p1), .val (.int p2), .val (.int p3), .val (.int p4), .unset, .unset, .unset, .unset, .unset, .unset, .unset, .unset, .unset, .unset] [(.int c4)]
  refine g_istore o (pc := 4) at_4 (L' := #[.val (.int p0), .val (.int p1), .val (.int p2), .val (.int p3), .val (.int p4), .val (.int c4), .unset, .unset, .unset, .unset, .unset, .unset, .unset, .unset, .unset]) rfl ?_
  refine g_iload_n o (pc := 6) at_6 rfl ?_
  refine g_static o (pc := 7) [(.int p2)] [] at_7 (wd_0 hw) (wd_1 hw) (wd_2 hw) (wd_3 hw) (by decide) (Met.back o (W := 0) (rm_draw C.l Z a0 hw n0 h0 X0 p2 ) (wd_3 hw) (wd_2 hw) (by decide) (by decide)) (fun _ _ _ q => q) (Or.inr fun _ _ q => by obtain ⟨_, _, _, q⟩ := q; rw [q]; exact Mv.refl) pd_18 rfl rfl rfl rfl (by decide) (by decide) fun v6 h7 q8 => ?_
  obtain ⟨c9, rfl, l10, hh⟩ := q8
  obtain rfl := hh.symm
  show Go C Z n0 (fun v _ => v = some (.int 1)) [] h0 0 0 10 #[.val (.int p0), .val (.int p1), .val (.int p2), .val (.int p3), .val (.int p4), .val (.int c4), .unset, .unset, .unset, .unset, .unset, .unset, .unset, .unset, .unset] [(.int c9)]
  refine g_istore o (pc := 10) at_10 (L' := #[.val (.int p0), .val (.int p1), .val (.int p2), .val (.int p3), .val (.int p4), .val (.int c4), .val (.int c9), .unset, .unset, .unset, .unset, .unset, .unset, .unset, .unset]) rfl ?_
  refine g_iload_n o (pc := 12) at_12 rfl ?_
  refine g_static o (pc := 13) [(.int p3)] [] at_13 (wd_0 hw) (wd_1 hw) (wd_2 hw) (wd_3 hw) (by decide) (Met.back o (W := 0) (rm_draw C.l Z a0 hw n0 h0 X0 p3 ) (wd_3 hw) (wd_2 hw) (by decide) (by decide)) (fun _ _ _ q => q) (Or.inr fun _ _ q => by obtain ⟨_, _, _, q⟩ := q; rw [q]; exact Mv.refl) pd_18 rfl rfl rfl rfl (by decide) (by decide) fun v11 h12 q13 => ?_
  obtain ⟨c14, rfl, l15, hh⟩ := q13
  obtain rfl := hh.symm
  show Go C Z n0 (fun v _ => v = some (.int 1)) [] h0 0 0 16 #[.val (.int p0), .val (.int p1), .val (.int p2), .val (.int p3), .val (.int p4), .val (.int c4), .val (.int c9), .unset, .unset, .unset, .unset, .unset, .unset, .unset, .unset] [(.int c14)]
  refine g_istore o (pc := 16) at_16 (L' := #[.val (.int p0), .val (.int p1), .val (.int p2), .val (.int p3), .val (.int p4), .val (.int c4), .val (.int c9), .val (.int c14), .unset, .unset, .unset, .unset, .unset, .unset, .unset]) rfl ?_
  refine g_iload_n o (pc := 18) at_18 rfl ?_
  refine g_ldcI o (pc := 19) at_19 (wd_5 hw) ?_
  refine g_iand o (pc := 21) at_21 (v := (p0 &&& 2147483647)) rfl ?_
  refine g_bipush o (pc := 22) at_22 (v := 7) rfl ?_
  refine g_irem o (pc := 24) at_24 (by decide) (v := ((p0 &&& 2147483647) % 7)) rfl ?_
  refine g_istore o (pc := 25) at_25 (L' := #[.val (.int p0), .val (.int p1), .val (.int p2), .val (.int p3), .val (.int p4), .val (.int c4), .val (.int c9), .val (.int c14), .val (.int ((p0 &&& 2147483647) % 7)), .unset, .unset, .unset, .unset, .unset, .unset]) rfl ?_
  have hs_ := rem7 p0
  generalize ((p0 &&& 2147483647) % 7) = sv at hs_ ⊢
  rcases hs_ with rfl | rfl | rfl | rfl | rfl | rfl | rfl
  · refine g_iload o (pc := 27) at_27 rfl ?_
    refine g_ifCN o (pc := 29) at_29 (t := 45) (by decide) rfl c_ne (fun hy16 => absurd (by decide) hy16) (fun _ => ?_)
    refine g_aconst_null o (pc := 32) at_32 ?_
    refine g_static o (pc := 33) [.null] [] at_33 (wd_6 hw) (wd_7 hw) (wd_8 hw) (wd_9 hw) (by decide) (Met.back o (W := 0) (rm_isn C.l Z a0 hw n0 h0 X0  ) (wd_9 hw) (wd_8 hw) (by decide) (by decide)) (fun _ _ _ q => q) (Or.inr fun _ _ q => by rw [q.2]; exact Mv.refl) pd_20 rfl rfl rfl rfl (by decide) (by decide) fun v17 h18 q19 => ?_
    obtain ⟨rfl, hh⟩ := q19
    obtain rfl := hh.symm
    show Go C Z n0 (fun v _ => v = some (.int 1)) [] h0 0 0 36 #[.val (.int p0), .val (.int p1), .val (.int p2), .val (.int p3), .val (.int p4), .val (.int c4), .val (.int c9), .val (.int c14), .val (.int 0), .unset, .unset, .unset, .unset, .unset, .unset] [(.int 0)]
    refine g_ifCN o (pc := 36) at_36 (t := 43) (by decide) rfl c_ne (fun hy20 => absurd (by decide) hy20) (fun _ => ?_)
    refine g_iconst o (pc := 39) at_39 (v := 1) rfl ?_
    refine g_goto o (pc := 40) at_40 (t := 44) (by decide) rfl ?_
    refine g_nreturn o (pc := 44) (by simp) at_44 (y := 1) rfl ?_ (by decide) (by decide)
    exact rfl
  · refine g_iload o (pc := 27) at_27 rfl ?_
    refine g_ifCN o (pc := 29) at_29 (t := 45) (by decide) rfl c_ne (fun _ => ?_) (fun hn21 => absurd hn21 (by decide))
    refine g_iload o (pc := 45) at_45 rfl ?_
    refine g_iconst o (pc := 47) at_47 (v := 1) rfl ?_
    refine g_icmpN o (pc := 48) at_48 (t := 65) (by decide) rfl c_ne (fun hy22 => absurd (by decide) hy22) (fun _ => ?_)
    refine g_ldcP o hwd (pc := 51) at_51 (wd_113 hw) (wS_ hw) (m := 0) (cs := []) (by rw [hE]; exact List.mem_of_getElem? (i := 0) rfl) (by rw [hPL]; exact List.mem_of_getElem? (i := 0) rfl) (by decide +kernel) (by decide +kernel) (by decide) (by decide) (by decide) (by decide) (by decide) hcs.symm (by decide) (by decide) fun a23 h24 E25 St26 => ?_
    have q27 := (X0.ext E25)
    refine g_static o (pc := 53) [(.ref a23)] [] at_53 (wd_6 hw) (wd_7 hw) (wd_8 hw) (wd_9 hw) (by decide) (Met.back o (W := 0) (rm_isa C.l Z a0 hw n0 h24 q27 a23 ([]) zc fm Sc nzc Sf rf Sa Sh Sl (StrA.lat St26) (show 0 < 1000 by decide)) (wd_9 hw) (wd_8 hw) (by decide) (by decide)) (fun _ _ _ q => q) (Or.inr fun _ _ q => by rw [q.2]; exact Mv.refl) pd_20 rfl rfl rfl rfl (by decide) (by decide) fun v28 h29 q30 => ?_
    obtain ⟨rfl, hh⟩ := q30
    obtain rfl := hh.symm
    show Go C Z n0 (fun v _ => v = some (.int 1)) [] h24 0 0 56 #[.val (.int p0), .val (.int p1), .val (.int p2), .val (.int p3), .val (.int p4), .val (.int c4), .val (.int c9), .val (.int c14), .val (.int 1), .unset, .unset, .unset, .unset, .unset, .unset] [(.int (accF []))]
    refine g_ifCN o (pc := 56) at_56 (t := 63) (by decide) rfl c_ne (fun hy31 => absurd rfl hy31) (fun _ => ?_)
    refine g_iconst o (pc := 59) at_59 (v := 1) rfl ?_
    refine g_goto o (pc := 60) at_60 (t := 64) (by decide) rfl ?_
    refine g_nreturn o (pc := 64) (by simp) at_64 (y := 1) rfl ?_ (by decide) (by decide)
    exact rfl
  · refine g_iload o (pc := 27) at_27 rfl ?_
    refine g_ifCN o (pc := 29) at_29 (t := 45) (by decide) rfl c_ne (fun _ => ?_) (fun hn32 => absurd hn32 (by decide))
    refine g_iload o (pc := 45) at_45 rfl ?_
    refine g_iconst o (pc := 47) at_47 (v := 1) rfl ?_
    refine g_icmpN o (pc := 48) at_48 (t := 65) (by decide) rfl c_ne (fun _ => ?_) (fun hn33 => absurd hn33 (by decide))
    refine g_iload o (pc := 65) at_65 rfl ?_
    refine g_iconst o (pc := 67) at_67 (v := 2) rfl ?_
    refine g_icmpN o (pc := 68) at_68 (t := 93) (by decide) rfl c_ne (fun hy34 => absurd (by decide) hy34) (fun _ => ?_)
    refine g_iload o (pc := 71) at_71 rfl ?_
    refine g_static o (pc := 73) [(.int c4)] [] at_73 (wd_116 hw) (wd_117 hw) (wd_13 hw) (wd_118 hw) (by decide) (Met.back o (W := 0) (rm_vof C.l Z a0 hw n0 h0 X0 c4 zc Sc nzc Sa Sh Sl l5) (wd_118 hw) (wd_13 hw) (by decide) (by decide)) (fun _ _ _ q => q) (Or.inr fun _ _ q => by obtain ⟨_, _, q, _⟩ := q; exact Mv.keep q (fun _ z => nomatch z)) pd_21 rfl rfl rfl rfl (by decide) (by decide) fun v35 h36 q37 => ?_
    obtain ⟨x38, rfl, K39, St40⟩ := q37
    show Go C Z n0 (fun v _ => v = some (.int 1)) [] h36 2 6 76 #[.val (.int p0), .val (.int p1), .val (.int p2), .val (.int p3), .val (.int p4), .val (.int c4), .val (.int c9), .val (.int c14), .val (.int 2), .unset, .unset, .unset, .unset, .unset, .unset] [(.ref x38)]
    have q41 := (X0.keep K39 all0)
    refine g_static o (pc := 76) [(.ref x38)] [] at_76 (wd_6 hw) (wd_7 hw) (wd_8 hw) (wd_9 hw) (by decide) (Met.back o (W := 0) (rm_isa C.l Z a0 hw n0 h36 q41 x38 ([c4]) zc fm Sc nzc Sf rf Sa Sh Sl St40 (show 1 < 1000 by decide)) (wd_9 hw) (wd_8 hw) (by decide) (by decide)) (fun _ _ _ q => q) (Or.inr fun _ _ q => by rw [q.2]; exact Mv.refl) pd_20 rfl rfl rfl rfl (by decide) (by decide) fun v42 h43 q44 => ?_
    obtain ⟨rfl, hh⟩ := q44
    obtain rfl := hh.symm
    show Go C Z n0 (fun v _ => v = some (.int 1)) [] h36 2 6 79 #[.val (.int p0), .val (.int p1), .val (.int p2), .val (.int p3), .val (.int p4), .val (.int c4), .val (.int c9), .val (.int c14), .val (.int 2), .unset, .unset, .unset, .unset, .unset, .unset] [(.int (accF [c4]))]
    refine g_iload o (pc := 79) at_79 rfl ?_
    refine g_static o (pc := 81) [(.int c4)] [(.int (accF [c4]))] at_81 (wd_80 hw) (wd_81 hw) (wd_2 hw) (wd_82 hw) (by decide) (Met.back o (W := 1) (rm_lok C.l Z a0 hw n0 h36 q41 c4 ) (wd_82 hw) (wd_2 hw) (by decide) (by decide)) (fun _ _ _ q => q) (Or.inr fun _ _ q => by rw [q.2]; exact Mv.refl) pd_14 rfl rfl rfl rfl (by decide) (by decide) fun v45 h46 q47 => ?_
    obtain ⟨rfl, hh⟩ := q47
    obtain rfl := hh.symm
    show Go C Z n0 (fun v _ => v = some (.int 1)) [] h36 2 6 84 #[.val (.int p0), .val (.int p1), .val (.int p2), .val (.int p3), .val (.int p4), .val (.int c4), .val (.int c9), .val (.int c14), .val (.int 2), .unset, .unset, .unset, .unset, .unset, .unset] [(.int (okA c4)), (.int (accF [c4]))]
    refine g_icmpN o (pc := 84) at_84 (t := 91) (by decide) rfl c_ne (fun hy48 => absurd (acc_1 _) hy48) (fun _ => ?_)
    refine g_iconst o (pc := 87) at_87 (v := 1) rfl ?_
    refine g_goto o (pc := 88) at_88 (t := 92) (by decide) rfl ?_
    refine g_nreturn o (pc := 92) (by simp) at_92 (y := 1) rfl ?_ (by decide) (by decide)
    exact rfl
  · refine g_iload o (pc := 27) at_27 rfl ?_
    refine g_ifCN o (pc := 29) at_29 (t := 45) (by decide) rfl c_ne (fun _ => ?_) (fun hn49 => absurd hn49 (by decide))
    refine g_iload o (pc := 45) at_45 rfl ?_
    refine g_iconst o (pc := 47) at_47 (v := 1) rfl ?_
    refine g_icmpN o (pc := 48) at_48 (t := 65) (by decide) rfl c_ne (fun _ => ?_) (fun hn50 => absurd hn50 (by decide))
    refine g_iload o (pc := 65) at_65 rfl ?_
    refine g_iconst o (pc := 67) at_67 (v := 2) rfl ?_
    refine g_icmpN o (pc := 68) at_68 (t := 93) (by decide) rfl c_ne (fun _ => ?_) (fun hn51 => absurd hn51 (by decide))
    refine g_iload o (pc := 93) at_93 rfl ?_
    refine g_iconst o (pc := 95) at_95 (v := 3) rfl ?_
    refine g_icmpN o (pc := 96) at_96 (t := 156) (by decide) rfl c_ne (fun hy52 => absurd (by decide) hy52) (fun _ => ?_)
    refine g_iconst o (pc := 99) at_99 (v := 2) rfl ?_
    refine g_newarr o (pc := 100) at_100 (dv := .int 0) rfl rfl (wd_10 hw) (by decide) (m := 2) (by decide) (by decide) (by decide) (by decide) (M' := fun a => a :: []) (fun _ _ q => (List.mem_cons.mp q).elim Or.inr Or.inl) fun a53 h54 kc55 ha56 E57 V58 => ?_
    have V59 : Arv Z h54 a53 kc55 .char 2 [.int 0, .int 0] (.int 0) := V58
    refine g_dup o (pc := 102) at_102 rfl ?_
    refine g_iconst o (pc := 103) at_103 (v := 0) rfl ?_
    refine g_iload o (pc := 104) at_104 rfl ?_
    refine g_castore o (pc := 106) at_106 V59 rfl (by decide) (i := 0) rfl (Nat.le_of_ble_eq_true rfl) (y := c4) (nar16 l5) (ge_new ha56 X0) (Or.inr (Or.inl (by simp))) fun h60 W61 V62 => ?_
    have V63 : Arv Z h60 a53 kc55 .char 2 [.int c4, .int 0] (.int 0) := V62
    refine g_dup o (pc := 107) at_107 rfl ?_
    refine g_iconst o (pc := 108) at_108 (v := 1) rfl ?_
    refine g_iload o (pc := 109) at_109 rfl ?_
    refine g_castore o (pc := 111) at_111 V63 rfl (by decide) (i := 1) rfl (Nat.le_of_ble_eq_true rfl) (y := c9) (nar16 l10) (ge_new ha56 X0) (Or.inr (Or.inl (by simp))) fun h64 W65 V66 => ?_
    have V67 : Arv Z h64 a53 kc55 .char 2 [.int c4, .int c9] (.int 0) := V66
    refine g_astore o (pc := 112) at_112 rfl (L' := #[.val (.int p0), .val (.int p1), .val (.int p2), .val (.int p3), .val (.int p4), .val (.int c4), .val (.int c9), .val (.int c14), .val (.int 3), .val (.ref a53), .unset, .unset, .unset, .unset, .unset]) rfl ?_
    refine g_new o (pc := 114) at_114 (wd_11 hw) (wd_12 hw) (wd_13 hw) (by decide) (by decide) (M' := fun a => a :: [a53]) (fun _ _ q => (List.mem_cons.mp q).elim Or.inr Or.inl) fun a68 h69 ha70 E71 A72 D73 => ?_
    have F74 : Fld Z h69 a68 "java/lang/String" "coder" "B" (.int 0) := D73 (Or.inr (wd_37 hw)) (ty := .byte) (by decide)
    have F75 : Fld Z h69 a68 "java/lang/String" "value" "[B" .null := D73 (Or.inr (wd_39 hw)) (ty := (.array .byte)) (by decide)
    refine g_dup o (pc := 117) at_117 rfl ?_
    refine g_aload o (pc := 118) at_118 rfl rfl ?_
    have hu76 : ∀ ch_ ∈ [(c4 : Int32), (c9 : Int32)], U16 ch_ := by
      intro ch_ hc_; simp only [List.mem_cons, List.not_mem_nil, or_false] at hc_
      rcases hc_ with rfl | rfl
      · exact l5
      · exact l10
    rcases lat_or [c4, c9] hu76 with hp77 | ⟨j78, hj79, hl80, hb81⟩
    · have q82 := ((((X0.ext E57).wr W61 (ge_new ha56 X0)).wr W65 (ge_new ha56 X0)).ext E71)
      have q83 := (V67.ext E71)
      refine g_special o (pc := 120) a68 [(.ref a53)] [(.ref a68)] at_120 rfl (wd_14 hw) (wd_15 hw) (wd_16 hw) (by decide) (kc := 1) (ks := 2) (fun vm0 hZ => StrChars.Road.backV (W := 1) (s := C.s.setVm vm0) hZ (hwS hw) (kI := 4) (wd_12 hw) (cs := [c4, c9]) (bs := [c4, c9].map fun ch_ => ch_.toInt8.toInt32) (n := 2) (n0 := n0) (ge_new ha70 (((X0.ext E57).wr W61 (ge_new ha56 X0)).wr W65 (ge_new ha56 X0))) (Old.sz q82) A72 F75 F74 q83 (Sc.ext q82.2) nzc rfl rfl (by decide) (by decide) hp77 rfl (o.rf (by decide)) (o.rl (by decide))) (Q' := fun v h' => StrOf Z n0 h69 2 h' a68 [c4, c9] v) (fun v h' L q => strOf_of (n := 2) rfl hp77 q) (Or.inr fun _ _ q => Mv.keep q.2.1 (allS (Or.inr (Or.inl (by simp))) all0)) pd_19 rfl rfl rfl rfl (by decide) (by decide) fun v85 h86 q87 => ?_
      obtain ⟨rfl, K88, St90⟩ := q87
      show Go C Z n0 (fun v _ => v = some (.int 1)) [a68, a53] h86 3 8 123 #[.val (.int p0), .val (.int p1), .val (.int p2), .val (.int p3), .val (.int p4), .val (.int c4), .val (.int c9), .val (.int c14), .val (.int 3), .val (.ref a53), .unset, .unset, .unset, .unset, .unset] [(.ref a68)]
      have q91 := (StrA.lat St90)
      have q92 := (q82.keep K88 (allS (ge_new ha70 (((X0.ext E57).wr W61 (ge_new ha56 X0)).wr W65 (ge_new ha56 X0))) all0))
      refine g_static o (pc := 123) [(.ref a68)] [] at_123 (wd_6 hw) (wd_7 hw) (wd_8 hw) (wd_9 hw) (by decide) (Met.back o (W := 0) (rm_isa C.l Z a0 hw n0 h86 q92 a68 ([c4, c9]) zc fm Sc nzc Sf rf Sa Sh Sl q91 (show 2 < 1000 by decide)) (wd_9 hw) (wd_8 hw) (by decide) (by decide)) (fun _ _ _ q => q) (Or.inr fun _ _ q => by rw [q.2]; exact Mv.refl) pd_20 rfl rfl rfl rfl (by decide) (by decide) fun v93 h94 q95 => ?_
      obtain ⟨rfl, hh⟩ := q95
      obtain rfl := hh.symm
      show Go C Z n0 (fun v _ => v = some (.int 1)) [a68, a53] h86 3 8 126 #[.val (.int p0), .val (.int p1), .val (.int p2), .val (.int p3), .val (.int p4), .val (.int c4), .val (.int c9), .val (.int c14), .val (.int 3), .val (.ref a53), .unset, .unset, .unset, .unset, .unset] [(.int (accF [c4, c9]))]
      refine g_iload o (pc := 126) at_126 rfl ?_
      refine g_static o (pc := 128) [(.int c4)] [(.int (accF [c4, c9]))] at_128 (wd_80 hw) (wd_81 hw) (wd_2 hw) (wd_82 hw) (by decide) (Met.back o (W := 1) (rm_lok C.l Z a0 hw n0 h86 q92 c4 ) (wd_82 hw) (wd_2 hw) (by decide) (by decide)) (fun _ _ _ q => q) (Or.inr fun _ _ q => by rw [q.2]; exact Mv.refl) pd_14 rfl rfl rfl rfl (by decide) (by decide) fun v96 h97 q98 => ?_
      obtain ⟨rfl, hh⟩ := q98
      obtain rfl := hh.symm
      show Go C Z n0 (fun v _ => v = some (.int 1)) [a68, a53] h86 3 8 131 #[.val (.int p0), .val (.int p1), .val (.int p2), .val (.int p3), .val (.int p4), .val (.int c4), .val (.int c9), .val (.int c14), .val (.int 3), .val (.ref a53), .unset, .unset, .unset, .unset, .unset] [(.int (okA c4)), (.int (accF [c4, c9]))]
      refine g_ifC o (pc := 131) at_131 (t := 146) (by decide) rfl c_eq (fun hy99 => ?_) (fun hn100 => ?_)
      · refine g_iconst o (pc := 146) at_146 (v := 0) rfl ?_
        refine g_icmpN o (pc := 147) at_147 (t := 154) (by decide) rfl c_ne (fun hy101 => absurd (acc_2a hy99) hy101) (fun _ => ?_)
        refine g_iconst o (pc := 150) at_150 (v := 1) rfl ?_
        refine g_goto o (pc := 151) at_151 (t := 155) (by decide) rfl ?_
        refine g_nreturn o (pc := 155) (by simp) at_155 (y := 1) rfl ?_ (by decide) (by decide)
        exact rfl
      · refine g_iload o (pc := 134) at_134 rfl ?_
        refine g_static o (pc := 136) [(.int c9)] [(.int (accF [c4, c9]))] at_136 (wd_80 hw) (wd_81 hw) (wd_2 hw) (wd_82 hw) (by decide) (Met.back o (W := 1) (rm_lok C.l Z a0 hw n0 h86 q92 c9 ) (wd_82 hw) (wd_2 hw) (by decide) (by decide)) (fun _ _ _ q => q) (Or.inr fun _ _ q => by rw [q.2]; exact Mv.refl) pd_14 rfl rfl rfl rfl (by decide) (by decide) fun v102 h103 q104 => ?_
        obtain ⟨rfl, hh⟩ := q104
        obtain rfl := hh.symm
        show Go C Z n0 (fun v _ => v = some (.int 1)) [a68, a53] h86 3 8 139 #[.val (.int p0), .val (.int p1), .val (.int p2), .val (.int p3), .val (.int p4), .val (.int c4), .val (.int c9), .val (.int c14), .val (.int 3), .val (.ref a53), .unset, .unset, .unset, .unset, .unset] [(.int (okA c9)), (.int (accF [c4, c9]))]
        refine g_ifC o (pc := 139) at_139 (t := 146) (by decide) rfl c_eq (fun hy105 => ?_) (fun hn106 => ?_)
        · refine g_iconst o (pc := 146) at_146 (v := 0) rfl ?_
          refine g_icmpN o (pc := 147) at_147 (t := 154) (by decide) rfl c_ne (fun hy107 => absurd (acc_2b hy105) hy107) (fun _ => ?_)
          refine g_iconst o (pc := 150) at_150 (v := 1) rfl ?_
          refine g_goto o (pc := 151) at_151 (t := 155) (by decide) rfl ?_
          refine g_nreturn o (pc := 155) (by simp) at_155 (y := 1) rfl ?_ (by decide) (by decide)
          exact rfl
        · refine g_iconst o (pc := 142) at_142 (v := 1) rfl ?_
          refine g_goto o (pc := 143) at_143 (t := 147) (by decide) rfl ?_
          refine g_icmpN o (pc := 147) at_147 (t := 154) (by decide) rfl c_ne (fun hy108 => absurd (acc_2 hn100 hn106) hy108) (fun _ => ?_)
          refine g_iconst o (pc := 150) at_150 (v := 1) rfl ?_
          refine g_goto o (pc := 151) at_151 (t := 155) (by decide) rfl ?_
          refine g_nreturn o (pc := 155) (by simp) at_155 (y := 1) rfl ?_ (by decide) (by decide)
          exact rfl
    · have q109 := (V67.ext E71)
      have q110 := ((((X0.ext E57).wr W61 (ge_new ha56 X0)).wr W65 (ge_new ha56 X0)).ext E71)
      refine g_special o (pc := 120) a68 [(.ref a53)] [(.ref a68)] at_120 rfl (wd_14 hw) (wd_15 hw) (wd_16 hw) (by decide) (Met.back o (W := 1) (rm_new1U C.l Z a0 hw n0 h69 q110 a68 zc a53 kc55 ([c4, c9]) 2 j78 Sc nzc A72 F75 F74 (ge_new ha70 (((X0.ext E57).wr W61 (ge_new ha56 X0)).wr W65 (ge_new ha56 X0))) Sa Sh Sl q109 rfl (by omega) (by omega) hj79 hl80 hb81 hu76) (wd_16 hw) (wd_13 hw) (by decide) (by decide)) (fun _ _ _ q => q) (Or.inr fun _ _ q => Mv.keep q.2.1 (allS (Or.inr (Or.inl (by simp))) all0)) pd_19 rfl rfl rfl rfl (by decide) (by decide) fun v111 h112 q113 => ?_
      obtain ⟨rfl, K114, St115⟩ := q113
      show Go C Z n0 (fun v _ => v = some (.int 1)) [a68, a53] h112 4 201 123 #[.val (.int p0), .val (.int p1), .val (.int p2), .val (.int p3), .val (.int p4), .val (.int c4), .val (.int c9), .val (.int c14), .val (.int 3), .val (.ref a53), .unset, .unset, .unset, .unset, .unset] [(.ref a68)]
      have q116 := (StrA.utf St115)
      have q117 := (q110.keep K114 (allS (ge_new ha70 (((X0.ext E57).wr W61 (ge_new ha56 X0)).wr W65 (ge_new ha56 X0))) all0))
      refine g_static o (pc := 123) [(.ref a68)] [] at_123 (wd_6 hw) (wd_7 hw) (wd_8 hw) (wd_9 hw) (by decide) (Met.back o (W := 0) (rm_isa C.l Z a0 hw n0 h112 q117 a68 ([c4, c9]) zc fm Sc nzc Sf rf Sa Sh Sl q116 (show 2 < 1000 by decide)) (wd_9 hw) (wd_8 hw) (by decide) (by decide)) (fun _ _ _ q => q) (Or.inr fun _ _ q => by rw [q.2]; exact Mv.refl) pd_20 rfl rfl rfl rfl (by decide) (by decide) fun v118 h119 q120 => ?_
      obtain ⟨rfl, hh⟩ := q120
      obtain rfl := hh.symm
      show Go C Z n0 (fun v _ => v = some (.int 1)) [a68, a53] h112 4 201 126 #[.val (.int p0), .val (.int p1), .val (.int p2), .val (.int p3), .val (.int p4), .val (.int c4), .val (.int c9), .val (.int c14), .val (.int 3), .val (.ref a53), .unset, .unset, .unset, .unset, .unset] [(.int (accF [c4, c9]))]
      refine g_iload o (pc := 126) at_126 rfl ?_
      refine g_static o (pc := 128) [(.int c4)] [(.int (accF [c4, c9]))] at_128 (wd_80 hw) (wd_81 hw) (wd_2 hw) (wd_82 hw) (by decide) (Met.back o (W := 1) (rm_lok C.l Z a0 hw n0 h112 q117 c4 ) (wd_82 hw) (wd_2 hw) (by decide) (by decide)) (fun _ _ _ q => q) (Or.inr fun _ _ q => by rw [q.2]; exact Mv.refl) pd_14 rfl rfl rfl rfl (by decide) (by decide) fun v121 h122 q123 => ?_
      obtain ⟨rfl, hh⟩ := q123
      obtain rfl := hh.symm
      show Go C Z n0 (fun v _ => v = some (.int 1)) [a68, a53] h112 4 201 131 #[.val (.int p0), .val (.int p1), .val (.int p2), .val (.int p3), .val (.int p4), .val (.int c4), .val (.int c9), .val (.int c14), .val (.int 3), .val (.ref a53), .unset, .unset, .unset, .unset, .unset] [(.int (okA c4)), (.int (accF [c4, c9]))]
      refine g_ifC o (pc := 131) at_131 (t := 146) (by decide) rfl c_eq (fun hy124 => ?_) (fun hn125 => ?_)
      · refine g_iconst o (pc := 146) at_146 (v := 0) rfl ?_
        refine g_icmpN o (pc := 147) at_147 (t := 154) (by decide) rfl c_ne (fun hy126 => absurd (acc_2a hy124) hy126) (fun _ => ?_)
        refine g_iconst o (pc := 150) at_150 (v := 1) rfl ?_
        refine g_goto o (pc := 151) at_151 (t := 155) (by decide) rfl ?_
        refine g_nreturn o (pc := 155) (by simp) at_155 (y := 1) rfl ?_ (by decide) (by decide)
        exact rfl
      · refine g_iload o (pc := 134) at_134 rfl ?_
        refine g_static o (pc := 136) [(.int c9)] [(.int (accF [c4, c9]))] at_136 (wd_80 hw) (wd_81 hw) (wd_2 hw) (wd_82 hw) (by decide) (Met.back o (W := 1) (rm_lok C.l Z a0 hw n0 h112 q117 c9 ) (wd_82 hw) (wd_2 hw) (by decide) (by decide)) (fun _ _ _ q => q) (Or.inr fun _ _ q => by rw [q.2]; exact Mv.refl) pd_14 rfl rfl rfl rfl (by decide) (by decide) fun v127 h128 q129 => ?_
        obtain ⟨rfl, hh⟩ := q129
        obtain rfl := hh.symm
        show Go C Z n0 (fun v _ => v = some (.int 1)) [a68, a53] h112 4 201 139 #[.val (.int p0), .val (.int p1), .val (.int p2), .val (.int p3), .val (.int p4), .val (.int c4), .val (.int c9), .val (.int c14), .val (.int 3), .val (.ref a53), .unset, .unset, .unset, .unset, .unset] [(.int (okA c9)), (.int (accF [c4, c9]))]
        refine g_ifC o (pc := 139) at_139 (t := 146) (by decide) rfl c_eq (fun hy130 => ?_) (fun hn131 => ?_)
        · refine g_iconst o (pc := 146) at_146 (v := 0) rfl ?_
          refine g_icmpN o (pc := 147) at_147 (t := 154) (by decide) rfl c_ne (fun hy132 => absurd (acc_2b hy130) hy132) (fun _ => ?_)
          refine g_iconst o (pc := 150) at_150 (v := 1) rfl ?_
          refine g_goto o (pc := 151) at_151 (t := 155) (by decide) rfl ?_
          refine g_nreturn o (pc := 155) (by simp) at_155 (y := 1) rfl ?_ (by decide) (by decide)
          exact rfl
        · refine g_iconst o (pc := 142) at_142 (v := 1) rfl ?_
          refine g_goto o (pc := 143) at_143 (t := 147) (by decide) rfl ?_
          refine g_icmpN o (pc := 147) at_147 (t := 154) (by decide) rfl c_ne (fun hy133 => absurd (acc_2 hn125 hn131) hy133) (fun _ => ?_)
          refine g_iconst o (pc := 150) at_150 (v := 1) rfl ?_
          refine g_goto o (pc := 151) at_151 (t := 155) (by decide) rfl ?_
          refine g_nreturn o (pc := 155) (by simp) at_155 (y := 1) rfl ?_ (by decide) (by decide)
          exact rfl
  · refine g_iload o (pc := 27) at_27 rfl ?_
    refine g_ifCN o (pc := 29) at_29 (t := 45) (by decide) rfl c_ne (fun _ => ?_) (fun hn134 => absurd hn134 (by decide))
    refine g_iload o (pc := 45) at_45 rfl ?_
    refine g_iconst o (pc := 47) at_47 (v := 1) rfl ?_
    refine g_icmpN o (pc := 48) at_48 (t := 65) (by decide) rfl c_ne (fun _ => ?_) (fun hn135 => absurd hn135 (by decide))
    refine g_iload o (pc := 65) at_65 rfl ?_
    refine g_iconst o (pc := 67) at_67 (v := 2) rfl ?_
    refine g_icmpN o (pc := 68) at_68 (t := 93) (by decide) rfl c_ne (fun _ => ?_) (fun hn136 => absurd hn136 (by decide))
    refine g_iload o (pc := 93) at_93 rfl ?_
    refine g_iconst o (pc := 95) at_95 (v := 3) rfl ?_
    refine g_icmpN o (pc := 96) at_96 (t := 156) (by decide) rfl c_ne (fun _ => ?_) (fun hn137 => absurd hn137 (by decide))
    refine g_iload o (pc := 156) at_156 rfl ?_
    refine g_iconst o (pc := 158) at_158 (v := 4) rfl ?_
    refine g_icmpN o (pc := 159) at_159 (t := 232) (by decide) rfl c_ne (fun hy138 => absurd (by decide) hy138) (fun _ => ?_)
    refine g_iconst o (pc := 162) at_162 (v := 3) rfl ?_
    refine g_newarr o (pc := 163) at_163 (dv := .int 0) rfl rfl (wd_10 hw) (by decide) (m := 3) (by decide) (by decide) (by decide) (by decide) (M' := fun a => a :: []) (fun _ _ q => (List.mem_cons.mp q).elim Or.inr Or.inl) fun a139 h140 kc141 ha142 E143 V144 => ?_
    have V145 : Arv Z h140 a139 kc141 .char 3 [.int 0, .int 0, .int 0] (.int 0) := V144
    refine g_dup o (pc := 165) at_165 rfl ?_
    refine g_iconst o (pc := 166) at_166 (v := 0) rfl ?_
    refine g_iload o (pc := 167) at_167 rfl ?_
    refine g_castore o (pc := 169) at_169 V145 rfl (by decide) (i := 0) rfl (Nat.le_of_ble_eq_true rfl) (y := c4) (nar16 l5) (ge_new ha142 X0) (Or.inr (Or.inl (by simp))) fun h146 W147 V148 => ?_
    have V149 : Arv Z h146 a139 kc141 .char 3 [.int c4, .int 0, .int 0] (.int 0) := V148
    refine g_dup o (pc := 170) at_170 rfl ?_
    refine g_iconst o (pc := 171) at_171 (v := 1) rfl ?_
    refine g_iload o (pc := 172) at_172 rfl ?_
    refine g_castore o (pc := 174) at_174 V149 rfl (by decide) (i := 1) rfl (Nat.le_of_ble_eq_true rfl) (y := c9) (nar16 l10) (ge_new ha142 X0) (Or.inr (Or.inl (by simp))) fun h150 W151 V152 => ?_
    have V153 : Arv Z h150 a139 kc141 .char 3 [.int c4, .int c9, .int 0] (.int 0) := V152
    refine g_dup o (pc := 175) at_175 rfl ?_
    refine g_iconst o (pc := 176) at_176 (v := 2) rfl ?_
    refine g_iload o (pc := 177) at_177 rfl ?_
    refine g_castore o (pc := 179) at_179 V153 rfl (by decide) (i := 2) rfl (Nat.le_of_ble_eq_true rfl) (y := c14) (nar16 l15) (ge_new ha142 X0) (Or.inr (Or.inl (by simp))) fun h154 W155 V156 => ?_
    have V157 : Arv Z h154 a139 kc141 .char 3 [.int c4, .int c9, .int c14] (.int 0) := V156
    refine g_astore o (pc := 180) at_180 rfl (L' := #[.val (.int p0), .val (.int p1), .val (.int p2), .val (.int p3), .val (.int p4), .val (.int c4), .val (.int c9), .val (.int c14), .val (.int 4), .val (.ref a139), .unset, .unset, .unset, .unset, .unset]) rfl ?_
    refine g_new o (pc := 182) at_182 (wd_11 hw) (wd_12 hw) (wd_13 hw) (by decide) (by decide) (M' := fun a => a :: [a139]) (fun _ _ q => (List.mem_cons.mp q).elim Or.inr Or.inl) fun a158 h159 ha160 E161 A162 D163 => ?_
    have F164 : Fld Z h159 a158 "java/lang/String" "coder" "B" (.int 0) := D163 (Or.inr (wd_37 hw)) (ty := .byte) (by decide)
    have F165 : Fld Z h159 a158 "java/lang/String" "value" "[B" .null := D163 (Or.inr (wd_39 hw)) (ty := (.array .byte)) (by decide)
    refine g_dup o (pc := 185) at_185 rfl ?_
    refine g_aload o (pc := 186) at_186 rfl rfl ?_
    have hu166 : ∀ ch_ ∈ [(c4 : Int32), (c9 : Int32), (c14 : Int32)], U16 ch_ := by
      intro ch_ hc_; simp only [List.mem_cons, List.not_mem_nil, or_false] at hc_
      rcases hc_ with rfl | rfl | rfl
      · exact l5
      · exact l10
      · exact l15
    rcases lat_or [c4, c9, c14] hu166 with hp167 | ⟨j168, hj169, hl170, hb171⟩
    · have q172 := (((((X0.ext E143).wr W147 (ge_new ha142 X0)).wr W151 (ge_new ha142 X0)).wr W155 (ge_new ha142 X0)).ext E161)
      have q173 := (V157.ext E161)
      refine g_special o (pc := 188) a158 [(.ref a139)] [(.ref a158)] at_188 rfl (wd_14 hw) (wd_15 hw) (wd_16 hw) (by decide) (kc := 1) (ks := 3) (fun vm0 hZ => StrChars.Road.backV (W := 1) (s := C.s.setVm vm0) hZ (hwS hw) (kI := 4) (wd_12 hw) (cs := [c4, c9, c14]) (bs := [c4, c9, c14].map fun ch_ => ch_.toInt8.toInt32) (n := 3) (n0 := n0) (ge_new ha160 ((((X0.ext E143).wr W147 (ge_new ha142 X0)).wr W151 (ge_new ha142 X0)).wr W155 (ge_new ha142 X0))) (Old.sz q172) A162 F165 F164 q173 (Sc.ext q172.2) nzc rfl rfl (by decide) (by decide) hp167 rfl (o.rf (by decide)) (o.rl (by decide))) (Q' := fun v h' => StrOf Z n0 h159 3 h' a158 [c4, c9, c14] v) (fun v h' L q => strOf_of (n := 3) rfl hp167 q) (Or.inr fun _ _ q => Mv.keep q.2.1 (allS (Or.inr (Or.inl (by simp))) all0)) pd_19 rfl rfl rfl rfl (by decide) (by decide) fun v175 h176 q177 => ?_
      obtain ⟨rfl, K178, St180⟩ := q177
      show Go C Z n0 (fun v _ => v = some (.int 1)) [a158, a139] h176 3 10 191 #[.val (.int p0), .val (.int p1), .val (.int p2), .val (.int p3), .val (.int p4), .val (.int c4), .val (.int c9), .val (.int c14), .val (.int 4), .val (.ref a139), .unset, .unset, .unset, .unset, .unset] [(.ref a158)]
      have q181 := (StrA.lat St180)
      have q182 := (q172.keep K178 (allS (ge_new ha160 ((((X0.ext E143).wr W147 (ge_new ha142 X0)).wr W151 (ge_new ha142 X0)).wr W155 (ge_new ha142 X0))) all0))
      refine g_static o (pc := 191) [(.ref a158)] [] at_191 (wd_6 hw) (wd_7 hw) (wd_8 hw) (wd_9 hw) (by decide) (Met.back o (W := 0) (rm_isa C.l Z a0 hw n0 h176 q182 a158 ([c4, c9, c14]) zc fm Sc nzc Sf rf Sa Sh Sl q181 (show 3 < 1000 by decide)) (wd_9 hw) (wd_8 hw) (by decide) (by decide)) (fun _ _ _ q => q) (Or.inr fun _ _ q => by rw [q.2]; exact Mv.refl) pd_20 rfl rfl rfl rfl (by decide) (by decide) fun v183 h184 q185 => ?_
      obtain ⟨rfl, hh⟩ := q185
      obtain rfl := hh.symm
      show Go C Z n0 (fun v _ => v = some (.int 1)) [a158, a139] h176 3 10 194 #[.val (.int p0), .val (.int p1), .val (.int p2), .val (.int p3), .val (.int p4), .val (.int c4), .val (.int c9), .val (.int c14), .val (.int 4), .val (.ref a139), .unset, .unset, .unset, .unset, .unset] [(.int (accF [c4, c9, c14]))]
      refine g_iload o (pc := 194) at_194 rfl ?_
      refine g_static o (pc := 196) [(.int c4)] [(.int (accF [c4, c9, c14]))] at_196 (wd_80 hw) (wd_81 hw) (wd_2 hw) (wd_82 hw) (by decide) (Met.back o (W := 1) (rm_lok C.l Z a0 hw n0 h176 q182 c4 ) (wd_82 hw) (wd_2 hw) (by decide) (by decide)) (fun _ _ _ q => q) (Or.inr fun _ _ q => by rw [q.2]; exact Mv.refl) pd_14 rfl rfl rfl rfl (by decide) (by decide) fun v186 h187 q188 => ?_
      obtain ⟨rfl, hh⟩ := q188
      obtain rfl := hh.symm
      show Go C Z n0 (fun v _ => v = some (.int 1)) [a158, a139] h176 3 10 199 #[.val (.int p0), .val (.int p1), .val (.int p2), .val (.int p3), .val (.int p4), .val (.int c4), .val (.int c9), .val (.int c14), .val (.int 4), .val (.ref a139), .unset, .unset, .unset, .unset, .unset] [(.int (okA c4)), (.int (accF [c4, c9, c14]))]
      refine g_ifC o (pc := 199) at_199 (t := 222) (by decide) rfl c_eq (fun hy189 => ?_) (fun hn190 => ?_)
      · refine g_iconst o (pc := 222) at_222 (v := 0) rfl ?_
        refine g_icmpN o (pc := 223) at_223 (t := 230) (by decide) rfl c_ne (fun hy191 => absurd (acc_3a hy189) hy191) (fun _ => ?_)
        refine g_iconst o (pc := 226) at_226 (v := 1) rfl ?_
        refine g_goto o (pc := 227) at_227 (t := 231) (by decide) rfl ?_
        refine g_nreturn o (pc := 231) (by simp) at_231 (y := 1) rfl ?_ (by decide) (by decide)
        exact rfl
      · refine g_iload o (pc := 202) at_202 rfl ?_
        refine g_static o (pc := 204) [(.int c9)] [(.int (accF [c4, c9, c14]))] at_204 (wd_80 hw) (wd_81 hw) (wd_2 hw) (wd_82 hw) (by decide) (Met.back o (W := 1) (rm_lok C.l Z a0 hw n0 h176 q182 c9 ) (wd_82 hw) (wd_2 hw) (by decide) (by decide)) (fun _ _ _ q => q) (Or.inr fun _ _ q => by rw [q.2]; exact Mv.refl) pd_14 rfl rfl rfl rfl (by decide) (by decide) fun v192 h193 q194 => ?_
        obtain ⟨rfl, hh⟩ := q194
        obtain rfl := hh.symm
        show Go C Z n0 (fun v _ => v = some (.int 1)) [a158, a139] h176 3 10 207 #[.val (.int p0), .val (.int p1), .val (.int p2), .val (.int p3), .val (.int p4), .val (.int c4), .val (.int c9), .val (.int c14), .val (.int 4), .val (.ref a139), .unset, .unset, .unset, .unset, .unset] [(.int (okA c9)), (.int (accF [c4, c9, c14]))]
        refine g_ifC o (pc := 207) at_207 (t := 222) (by decide) rfl c_eq (fun hy195 => ?_) (fun hn196 => ?_)
        · refine g_iconst o (pc := 222) at_222 (v := 0) rfl ?_
          refine g_icmpN o (pc := 223) at_223 (t := 230) (by decide) rfl c_ne (fun hy197 => absurd (acc_3b hy195) hy197) (fun _ => ?_)
          refine g_iconst o (pc := 226) at_226 (v := 1) rfl ?_
          refine g_goto o (pc := 227) at_227 (t := 231) (by decide) rfl ?_
          refine g_nreturn o (pc := 231) (by simp) at_231 (y := 1) rfl ?_ (by decide) (by decide)
          exact rfl
        · refine g_iload o (pc := 210) at_210 rfl ?_
          refine g_static o (pc := 212) [(.int c14)] [(.int (accF [c4, c9, c14]))] at_212 (wd_80 hw) (wd_81 hw) (wd_2 hw) (wd_82 hw) (by decide) (Met.back o (W := 1) (rm_lok C.l Z a0 hw n0 h176 q182 c14 ) (wd_82 hw) (wd_2 hw) (by decide) (by decide)) (fun _ _ _ q => q) (Or.inr fun _ _ q => by rw [q.2]; exact Mv.refl) pd_14 rfl rfl rfl rfl (by decide) (by decide) fun v198 h199 q200 => ?_
          obtain ⟨rfl, hh⟩ := q200
          obtain rfl := hh.symm
          show Go C Z n0 (fun v _ => v = some (.int 1)) [a158, a139] h176 3 10 215 #[.val (.int p0), .val (.int p1), .val (.int p2), .val (.int p3), .val (.int p4), .val (.int c4), .val (.int c9), .val (.int c14), .val (.int 4), .val (.ref a139), .unset, .unset, .unset, .unset, .unset] [(.int (okA c14)), (.int (accF [c4, c9, c14]))]
          refine g_ifC o (pc := 215) at_215 (t := 222) (by decide) rfl c_eq (fun hy201 => ?_) (fun hn202 => ?_)
          · refine g_iconst o (pc := 222) at_222 (v := 0) rfl ?_
            refine g_icmpN o (pc := 223) at_223 (t := 230) (by decide) rfl c_ne (fun hy203 => absurd (acc_3c hy201) hy203) (fun _ => ?_)
            refine g_iconst o (pc := 226) at_226 (v := 1) rfl ?_
            refine g_goto o (pc := 227) at_227 (t := 231) (by decide) rfl ?_
            refine g_nreturn o (pc := 231) (by simp) at_231 (y := 1) rfl ?_ (by decide) (by decide)
            exact rfl
          · refine g_iconst o (pc := 218) at_218 (v := 1) rfl ?_
            refine g_goto o (pc := 219) at_219 (t := 223) (by decide) rfl ?_
            refine g_icmpN o (pc := 223) at_223 (t := 230) (by decide) rfl c_ne (fun hy204 => absurd (acc_3 hn190 hn196 hn202) hy204) (fun _ => ?_)
            refine g_iconst o (pc := 226) at_226 (v := 1) rfl ?_
            refine g_goto o (pc := 227) at_227 (t := 231) (by decide) rfl ?_
            refine g_nreturn o (pc := 231) (by simp) at_231 (y := 1) rfl ?_ (by decide) (by decide)
            exact rfl
    · have q205 := (V157.ext E161)
      have q206 := (((((X0.ext E143).wr W147 (ge_new ha142 X0)).wr W151 (ge_new ha142 X0)).wr W155 (ge_new ha142 X0)).ext E161)
      refine g_special o (pc := 188) a158 [(.ref a139)] [(.ref a158)] at_188 rfl (wd_14 hw) (wd_15 hw) (wd_16 hw) (by decide) (Met.back o (W := 1) (rm_new1U C.l Z a0 hw n0 h159 q206 a158 zc a139 kc141 ([c4, c9, c14]) 3 j168 Sc nzc A162 F165 F164 (ge_new ha160 ((((X0.ext E143).wr W147 (ge_new ha142 X0)).wr W151 (ge_new ha142 X0)).wr W155 (ge_new ha142 X0))) Sa Sh Sl q205 rfl (by omega) (by omega) hj169 hl170 hb171 hu166) (wd_16 hw) (wd_13 hw) (by decide) (by decide)) (fun _ _ _ q => q) (Or.inr fun _ _ q => Mv.keep q.2.1 (allS (Or.inr (Or.inl (by simp))) all0)) pd_19 rfl rfl rfl rfl (by decide) (by decide) fun v207 h208 q209 => ?_
      obtain ⟨rfl, K210, St211⟩ := q209
      show Go C Z n0 (fun v _ => v = some (.int 1)) [a158, a139] h208 4 202 191 #[.val (.int p0), .val (.int p1), .val (.int p2), .val (.int p3), .val (.int p4), .val (.int c4), .val (.int c9), .val (.int c14), .val (.int 4), .val (.ref a139), .unset, .unset, .unset, .unset, .unset] [(.ref a158)]
      have q212 := (StrA.utf St211)
      have q213 := (q206.keep K210 (allS (ge_new ha160 ((((X0.ext E143).wr W147 (ge_new ha142 X0)).wr W151 (ge_new ha142 X0)).wr W155 (ge_new ha142 X0))) all0))
      refine g_static o (pc := 191) [(.ref a158)] [] at_191 (wd_6 hw) (wd_7 hw) (wd_8 hw) (wd_9 hw) (by decide) (Met.back o (W := 0) (rm_isa C.l Z a0 hw n0 h208 q213 a158 ([c4, c9, c14]) zc fm Sc nzc Sf rf Sa Sh Sl q212 (show 3 < 1000 by decide)) (wd_9 hw) (wd_8 hw) (by decide) (by decide)) (fun _ _ _ q => q) (Or.inr fun _ _ q => by rw [q.2]; exact Mv.refl) pd_20 rfl rfl rfl rfl (by decide) (by decide) fun v214 h215 q216 => ?_
      obtain ⟨rfl, hh⟩ := q216
      obtain rfl := hh.symm
      show Go C Z n0 (fun v _ => v = some (.int 1)) [a158, a139] h208 4 202 194 #[.val (.int p0), .val (.int p1), .val (.int p2), .val (.int p3), .val (.int p4), .val (.int c4), .val (.int c9), .val (.int c14), .val (.int 4), .val (.ref a139), .unset, .unset, .unset, .unset, .unset] [(.int (accF [c4, c9, c14]))]
      refine g_iload o (pc := 194) at_194 rfl ?_
      refine g_static o (pc := 196) [(.int c4)] [(.int (accF [c4, c9, c14]))] at_196 (wd_80 hw) (wd_81 hw) (wd_2 hw) (wd_82 hw) (by decide) (Met.back o (W := 1) (rm_lok C.l Z a0 hw n0 h208 q213 c4 ) (wd_82 hw) (wd_2 hw) (by decide) (by decide)) (fun _ _ _ q => q) (Or.inr fun _ _ q => by rw [q.2]; exact Mv.refl) pd_14 rfl rfl rfl rfl (by decide) (by decide) fun v217 h218 q219 => ?_
      obtain ⟨rfl, hh⟩ := q219
      obtain rfl := hh.symm
      show Go C Z n0 (fun v _ => v = some (.int 1)) [a158, a139] h208 4 202 199 #[.val (.int p0), .val (.int p1), .val (.int p2), .val (.int p3), .val (.int p4), .val (.int c4), .val (.int c9), .val (.int c14), .val (.int 4), .val (.ref a139), .unset, .unset, .unset, .unset, .unset] [(.int (okA c4)), (.int (accF [c4, c9, c14]))]
      refine g_ifC o (pc := 199) at_199 (t := 222) (by decide) rfl c_eq (fun hy220 => ?_) (fun hn221 => ?_)
      · refine g_iconst o (pc := 222) at_222 (v := 0) rfl ?_
        refine g_icmpN o (pc := 223) at_223 (t := 230) (by decide) rfl c_ne (fun hy222 => absurd (acc_3a hy220) hy222) (fun _ => ?_)
        refine g_iconst o (pc := 226) at_226 (v := 1) rfl ?_
        refine g_goto o (pc := 227) at_227 (t := 231) (by decide) rfl ?_
        refine g_nreturn o (pc := 231) (by simp) at_231 (y := 1) rfl ?_ (by decide) (by decide)
        exact rfl
      · refine g_iload o (pc := 202) at_202 rfl ?_
        refine g_static o (pc := 204) [(.int c9)] [(.int (accF [c4, c9, c14]))] at_204 (wd_80 hw) (wd_81 hw) (wd_2 hw) (wd_82 hw) (by decide) (Met.back o (W := 1) (rm_lok C.l Z a0 hw n0 h208 q213 c9 ) (wd_82 hw) (wd_2 hw) (by decide) (by decide)) (fun _ _ _ q => q) (Or.inr fun _ _ q => by rw [q.2]; exact Mv.refl) pd_14 rfl rfl rfl rfl (by decide) (by decide) fun v223 h224 q225 => ?_
        obtain ⟨rfl, hh⟩ := q225
        obtain rfl := hh.symm
        show Go C Z n0 (fun v _ => v = some (.int 1)) [a158, a139] h208 4 202 207 #[.val (.int p0), .val (.int p1), .val (.int p2), .val (.int p3), .val (.int p4), .val (.int c4), .val (.int c9), .val (.int c14), .val (.int 4), .val (.ref a139), .unset, .unset, .unset, .unset, .unset] [(.int (okA c9)), (.int (accF [c4, c9, c14]))]
        refine g_ifC o (pc := 207) at_207 (t := 222) (by decide) rfl c_eq (fun hy226 => ?_) (fun hn227 => ?_)
        · refine g_iconst o (pc := 222) at_222 (v := 0) rfl ?_
          refine g_icmpN o (pc := 223) at_223 (t := 230) (by decide) rfl c_ne (fun hy228 => absurd (acc_3b hy226) hy228) (fun _ => ?_)
          refine g_iconst o (pc := 226) at_226 (v := 1) rfl ?_
          refine g_goto o (pc := 227) at_227 (t := 231) (by decide) rfl ?_
          refine g_nreturn o (pc := 231) (by simp) at_231 (y := 1) rfl ?_ (by decide) (by decide)
          exact rfl
        · refine g_iload o (pc := 210) at_210 rfl ?_
          refine g_static o (pc := 212) [(.int c14)] [(.int (accF [c4, c9, c14]))] at_212 (wd_80 hw) (wd_81 hw) (wd_2 hw) (wd_82 hw) (by decide) (Met.back o (W := 1) (rm_lok C.l Z a0 hw n0 h208 q213 c14 ) (wd_82 hw) (wd_2 hw) (by decide) (by decide)) (fun _ _ _ q => q) (Or.inr fun _ _ q => by rw [q.2]; exact Mv.refl) pd_14 rfl rfl rfl rfl (by decide) (by decide) fun v229 h230 q231 => ?_
          obtain ⟨rfl, hh⟩ := q231
          obtain rfl := hh.symm
          show Go C Z n0 (fun v _ => v = some (.int 1)) [a158, a139] h208 4 202 215 #[.val (.int p0), .val (.int p1), .val (.int p2), .val (.int p3), .val (.int p4), .val (.int c4), .val (.int c9), .val (.int c14), .val (.int 4), .val (.ref a139), .unset, .unset, .unset, .unset, .unset] [(.int (okA c14)), (.int (accF [c4, c9, c14]))]
          refine g_ifC o (pc := 215) at_215 (t := 222) (by decide) rfl c_eq (fun hy232 => ?_) (fun hn233 => ?_)
          · refine g_iconst o (pc := 222) at_222 (v := 0) rfl ?_
            refine g_icmpN o (pc := 223) at_223 (t := 230) (by decide) rfl c_ne (fun hy234 => absurd (acc_3c hy232) hy234) (fun _ => ?_)
            refine g_iconst o (pc := 226) at_226 (v := 1) rfl ?_
            refine g_goto o (pc := 227) at_227 (t := 231) (by decide) rfl ?_
            refine g_nreturn o (pc := 231) (by simp) at_231 (y := 1) rfl ?_ (by decide) (by decide)
            exact rfl
          · refine g_iconst o (pc := 218) at_218 (v := 1) rfl ?_
            refine g_goto o (pc := 219) at_219 (t := 223) (by decide) rfl ?_
            refine g_icmpN o (pc := 223) at_223 (t := 230) (by decide) rfl c_ne (fun hy235 => absurd (acc_3 hn221 hn227 hn233) hy235) (fun _ => ?_)
            refine g_iconst o (pc := 226) at_226 (v := 1) rfl ?_
            refine g_goto o (pc := 227) at_227 (t := 231) (by decide) rfl ?_
            refine g_nreturn o (pc := 231) (by simp) at_231 (y := 1) rfl ?_ (by decide) (by decide)
            exact rfl
  · refine g_iload o (pc := 27) at_27 rfl ?_
    refine g_ifCN o (pc := 29) at_29 (t := 45) (by decide) rfl c_ne (fun _ => ?_) (fun hn236 => absurd hn236 (by decide))
    refine g_iload o (pc := 45) at_45 rfl ?_
    refine g_iconst o (pc := 47) at_47 (v := 1) rfl ?_
    refine g_icmpN o (pc := 48) at_48 (t := 65) (by decide) rfl c_ne (fun _ => ?_) (fun hn237 => absurd hn237 (by decide))
    refine g_iload o (pc := 65) at_65 rfl ?_
    refine g_iconst o (pc := 67) at_67 (v := 2) rfl ?_
    refine g_icmpN o (pc := 68) at_68 (t := 93) (by decide) rfl c_ne (fun _ => ?_) (fun hn238 => absurd hn238 (by decide))
    refine g_iload o (pc := 93) at_93 rfl ?_
    refine g_iconst o (pc := 95) at_95 (v := 3) rfl ?_
    refine g_icmpN o (pc := 96) at_96 (t := 156) (by decide) rfl c_ne (fun _ => ?_) (fun hn239 => absurd hn239 (by decide))
    refine g_iload o (pc := 156) at_156 rfl ?_
    refine g_iconst o (pc := 158) at_158 (v := 4) rfl ?_
    refine g_icmpN o (pc := 159) at_159 (t := 232) (by decide) rfl c_ne (fun _ => ?_) (fun hn240 => absurd hn240 (by decide))
    refine g_iload o (pc := 232) at_232 rfl ?_
    refine g_iconst o (pc := 234) at_234 (v := 5) rfl ?_
    refine g_icmpN o (pc := 235) at_235 (t := 625) (by decide) rfl c_ne (fun hy241 => absurd (by decide) hy241) (fun _ => ?_)
    refine g_bipush o (pc := 238) at_238 (v := 64) rfl ?_
    refine g_newarr o (pc := 240) at_240 (dv := .int 0) rfl rfl (wd_10 hw) (by decide) (m := 64) (by decide) (by decide) (by decide) (by decide) (M' := fun a => a :: []) (fun _ _ q => (List.mem_cons.mp q).elim Or.inr Or.inl) fun a242 h243 kc244 ha245 E246 V247 => ?_
    have V248 : Arv Z h243 a242 kc244 .char 64 [.int 0, .int 0, .int 0, .int 0, .int 0, .int 0, .int 0, .int 0, .int 0, .int 0, .int 0, .int 0, .int 0, .int 0, .int 0, .int 0, .int 0, .int 0, .int 0, .int 0, .int 0, .int 0, .int 0, .int 0, .int 0, .int 0, .int 0, .int 0, .int 0, .int 0, .int 0, .int 0, .int 0, .int 0, .int 0, .int 0, .int 0, .int 0, .int 0, .int 0, .int 0, .int 0, .int 0, .int 0, .int 0, .int 0, .int 0, .int 0, .int 0, .int 0, .int 0, .int 0, .int 0, .int 0, .int 0, .int 0, .int 0, .int 0, .int 0, .int 0, .int 0, .int 0, .int 0, .int 0] (.int 0) := V247
    refine g_dup o (pc := 242) at_242 rfl ?_
    refine g_iconst o (pc := 243) at_243 (v := 0) rfl ?_
    refine g_bipush o (pc := 244) at_244 (v := 97) rfl ?_
    refine g_castore o (pc := 246) at_246 V248 rfl (by decide) (i := 0) rfl (Nat.le_of_ble_eq_true rfl) (y := 97) rfl (ge_new ha245 X0) (Or.inr (Or.inl (by simp))) fun h249 W250 V251 => ?_
    have V252 : Arv Z h249 a242 kc244 .char 64 [.int 97, .int 0, .int 0, .int 0, .int 0, .int 0, .int 0, .int 0, .int 0, .int 0, .int 0, .int 0, .int 0, .int 0, .int 0, .int 0, .int 0, .int 0, .int 0, .int 0, .int 0, .int 0, .int 0, .int 0, .int 0, .int 0, .int 0, .int 0, .int 0, .int 0, .int 0, .int 0, .int 0, .int 0, .int 0, .int 0, .int 0, .int 0, .int 0, .int 0, .int 0, .int 0, .int 0, .int 0, .int 0, .int 0, .int 0, .int 0, .int 0, .int 0, .int 0, .int 0, .int 0, .int 0, .int 0, .int 0, .int 0, .int 0, .int 0, .int 0, .int 0, .int 0, .int 0, .int 0] (.int 0) := V251
    refine g_dup o (pc := 247) at_247 rfl ?_
    refine g_iconst o (pc := 248) at_248 (v := 1) rfl ?_
    refine g_bipush o (pc := 249) at_249 (v := 98) rfl ?_
    refine g_castore o (pc := 251) at_251 V252 rfl (by decide) (i := 1) rfl (Nat.le_of_ble_eq_true rfl) (y := 98) rfl (ge_new ha245 X0) (Or.inr (Or.inl (by simp))) fun h253 W254 V255 => ?_
    have V256 : Arv Z h253 a242 kc244 .char 64 [.int 97, .int 98, .int 0, .int 0, .int 0, .int 0, .int 0, .int 0, .int 0, .int 0, .int 0, .int 0, .int 0, .int 0, .int 0, .int 0, .int 0, .int 0, .int 0, .int 0, .int 0, .int 0, .int 0, .int 0, .int 0, .int 0, .int 0, .int 0, .int 0, .int 0, .int 0, .int 0, .int 0, .int 0, .int 0, .int 0, .int 0, .int 0, .int 0, .int 0, .int 0, .int 0, .int 0, .int 0, .int 0, .int 0, .int 0, .int 0, .int 0, .int 0, .int 0, .int 0, .int 0, .int 0, .int 0, .int 0, .int 0, .int 0, .int 0, .int 0, .int 0, .int 0, .int 0, .int 0] (.int 0) := V255
    refine g_dup o (pc := 252) at_252 rfl ?_
    refine g_iconst o (pc := 253) at_253 (v := 2) rfl ?_
    refine g_bipush o (pc := 254) at_254 (v := 99) rfl ?_
    refine g_castore o (pc := 256) at_256 V256 rfl (by decide) (i := 2) rfl (Nat.le_of_ble_eq_true rfl) (y := 99) rfl (ge_new ha245 X0) (Or.inr (Or.inl (by simp))) fun h257 W258 V259 => ?_
    have V260 : Arv Z h257 a242 kc244 .char 64 [.int 97, .int 98, .int 99, .int 0, .int 0, .int 0, .int 0, .int 0, .int 0, .int 0, .int 0, .int 0, .int 0, .int 0, .int 0, .int 0, .int 0, .int 0, .int 0, .int 0, .int 0, .int 0, .int 0, .int 0, .int 0, .int 0, .int 0, .int 0, .int 0, .int 0, .int 0, .int 0, .int 0, .int 0, .int 0, .int 0, .int 0, .int 0, .int 0, .int 0, .int 0, .int 0, .int 0, .int 0, .int 0, .int 0, .int 0, .int 0, .int 0, .int 0, .int 0, .int 0, .int 0, .int 0, .int 0, .int 0, .int 0, .int 0, .int 0, .int 0, .int 0, .int 0, .int 0, .int 0] (.int 0) := V259
    refine g_dup o (pc := 257) at_257 rfl ?_
    refine g_iconst o (pc := 258) at_258 (v := 3) rfl ?_
    refine g_bipush o (pc := 259) at_259 (v := 100) rfl ?_
    refine g_castore o (pc := 261) at_261 V260 rfl (by decide) (i := 3) rfl (Nat.le_of_ble_eq_true rfl) (y := 100) rfl (ge_new ha245 X0) (Or.inr (Or.inl (by simp))) fun h261 W262 V263 => ?_
    have V264 : Arv Z h261 a242 kc244 .char 64 [.int 97, .int 98, .int 99, .int 100, .int 0, .int 0, .int 0, .int 0, .int 0, .int 0, .int 0, .int 0, .int 0, .int 0, .int 0, .int 0, .int 0, .int 0, .int 0, .int 0, .int 0, .int 0, .int 0, .int 0, .int 0, .int 0, .int 0, .int 0, .int 0, .int 0, .int 0, .int 0, .int 0, .int 0, .int 0, .int 0, .int 0, .int 0, .int 0, .int 0, .int 0, .int 0, .int 0, .int 0, .int 0, .int 0, .int 0, .int 0, .int 0, .int 0, .int 0, .int 0, .int 0, .int 0, .int 0, .int 0, .int 0, .int 0, .int 0, .int 0, .int 0, .int 0, .int 0, .int 0] (.int 0) := V263
    refine g_dup o (pc := 262) at_262 rfl ?_
    refine g_iconst o (pc := 263) at_263 (v := 4) rfl ?_
    refine g_bipush o (pc := 264) at_264 (v := 101) rfl ?_
    refine g_castore o (pc := 266) at_266 V264 rfl (by decide) (i := 4) rfl (Nat.le_of_ble_eq_true rfl) (y := 101) rfl (ge_new ha245 X0) (Or.inr (Or.inl (by simp))) fun h265 W266 V267 => ?_
    have V268 : Arv Z h265 a242 kc244 .char 64 [.int 97, .int 98, .int 99, .int 100, .int 101, .int 0, .int 0, .int 0, .int 0, .int 0, .int 0, .int 0, .int 0, .int 0, .int 0, .int 0, .int 0, .int 0, .int 0, .int 0, .int 0, .int 0, .int 0, .int 0, .int 0, .int 0, .int 0, .int 0, .int 0, .int 0, .int 0, .int 0, .int 0, .int 0, .int 0, .int 0, .int 0, .int 0, .int 0, .int 0, .int 0, .int 0, .int 0, .int 0, .int 0, .int 0, .int 0, .int 0, .int 0, .int 0, .int 0, .int 0, .int 0, .int 0, .int 0, .int 0, .int 0, .int 0, .int 0, .int 0, .int 0, .int 0, .int 0, .int 0] (.int 0) := V267
    refine g_dup o (pc := 267) at_267 rfl ?_
    refine g_iconst o (pc := 268) at_268 (v := 5) rfl ?_
    refine g_bipush o (pc := 269) at_269 (v := 102) rfl ?_
    refine g_castore o (pc := 271) at_271 V268 rfl (by decide) (i := 5) rfl (Nat.le_of_ble_eq_true rfl) (y := 102) rfl (ge_new ha245 X0) (Or.inr (Or.inl (by simp))) fun h269 W270 V271 => ?_
    have V272 : Arv Z h269 a242 kc244 .char 64 [.int 97, .int 98, .int 99, .int 100, .int 101, .int 102, .int 0, .int 0, .int 0, .int 0, .int 0, .int 0, .int 0, .int 0, .int 0, .int 0, .int 0, .int 0, .int 0, .int 0, .int 0, .int 0, .int 0, .int 0, .int 0, .int 0, .int 0, .int 0, .int 0, .int 0, .int 0, .int 0, .int 0, .int 0, .int 0, .int 0, .int 0, .int 0, .int 0, .int 0, .int 0, .int 0, .int 0, .int 0, .int 0, .int 0, .int 0, .int 0, .int 0, .int 0, .int 0, .int 0, .int 0, .int 0, .int 0, .int 0, .int 0, .int 0, .int 0, .int 0, .int 0, .int 0, .int 0, .int 0] (.int 0) := V271
    refine g_dup o (pc := 272) at_272 rfl ?_
    refine g_bipush o (pc := 273) at_273 (v := 6) rfl ?_
    refine g_bipush o (pc := 275) at_275 (v := 103) rfl ?_
    refine g_castore o (pc := 277) at_277 V272 rfl (by decide) (i := 6) rfl (Nat.le_of_ble_eq_true rfl) (y := 103) rfl (ge_new ha245 X0) (Or.inr (Or.inl (by simp))) fun h273 W274 V275 => ?_
    have V276 : Arv Z h273 a242 kc244 .char 64 [.int 97, .int 98, .int 99, .int 100, .int 101, .int 102, .int 103, .int 0, .int 0, .int 0, .int 0, .int 0, .int 0, .int 0, .int 0, .int 0, .int 0, .int 0, .int 0, .int 0, .int 0, .int 0, .int 0, .int 0, .int 0, .int 0, .int 0, .int 0, .int 0, .int 0, .int 0, .int 0, .int 0, .int 0, .int 0, .int 0, .int 0, .int 0, .int 0, .int 0, .int 0, .int 0, .int 0, .int 0, .int 0, .int 0, .int 0, .int 0, .int 0, .int 0, .int 0, .int 0, .int 0, .int 0, .int 0, .int 0, .int 0, .int 0, .int 0, .int 0, .int 0, .int 0, .int 0, .int 0] (.int 0) := V275
    refine g_dup o (pc := 278) at_278 rfl ?_
    refine g_bipush o (pc := 279) at_279 (v := 7) rfl ?_
    refine g_bipush o (pc := 281) at_281 (v := 104) rfl ?_
    refine g_castore o (pc := 283) at_283 V276 rfl (by decide) (i := 7) rfl (Nat.le_of_ble_eq_true rfl) (y := 104) rfl (ge_new ha245 X0) (Or.inr (Or.inl (by simp))) fun h277 W278 V279 => ?_
    have V280 : Arv Z h277 a242 kc244 .char 64 [.int 97, .int 98, .int 99, .int 100, .int 101, .int 102, .int 103, .int 104, .int 0, .int 0, .int 0, .int 0, .int 0, .int 0, .int 0, .int 0, .int 0, .int 0, .int 0, .int 0, .int 0, .int 0, .int 0, .int 0, .int 0, .int 0, .int 0, .int 0, .int 0, .int 0, .int 0, .int 0, .int 0, .int 0, .int 0, .int 0, .int 0, .int 0, .int 0, .int 0, .int 0, .int 0, .int 0, .int 0, .int 0, .int 0, .int 0, .int 0, .int 0, .int 0, .int 0, .int 0, .int 0, .int 0, .int 0, .int 0, .int 0, .int 0, .int 0, .int 0, .int 0, .int 0, .int 0, .int 0] (.int 0) := V279
    refine g_dup o (pc := 284) at_284 rfl ?_
    refine g_bipush o (pc := 285) at_285 (v := 8) rfl ?_
    refine g_bipush o (pc := 287) at_287 (v := 105) rfl ?_
    refine g_castore o (pc := 289) at_289 V280 rfl (by decide) (i := 8) rfl (Nat.le_of_ble_eq_true rfl) (y := 105) rfl (ge_new ha245 X0) (Or.inr (Or.inl (by simp))) fun h281 W282 V283 => ?_
    have V284 : Arv Z h281 a242 kc244 .char 64 [.int 97, .int 98, .int 99, .int 100, .int 101, .int 102, .int 103, .int 104, .int 105, .int 0, .int 0, .int 0, .int 0, .int 0, .int 0, .int 0, .int 0, .int 0, .int 0, .int 0, .int 0, .int 0, .int 0, .int 0, .int 0, .int 0, .int 0, .int 0, .int 0, .int 0, .int 0, .int 0, .int 0, .int 0, .int 0, .int 0, .int 0, .int 0, .int 0, .int 0, .int 0, .int 0, .int 0, .int 0, .int 0, .int 0, .int 0, .int 0, .int 0, .int 0, .int 0, .int 0, .int 0, .int 0, .int 0, .int 0, .int 0, .int 0, .int 0, .int 0, .int 0, .int 0, .int 0, .int 0] (.int 0) := V283
    refine g_dup o (pc := 290) at_290 rfl ?_
    refine g_bipush o (pc := 291) at_291 (v := 9) rfl ?_
    refine g_bipush o (pc := 293) at_293 (v := 106) rfl ?_
    refine g_castore o (pc := 295) at_295 V284 rfl (by decide) (i := 9) rfl (Nat.le_of_ble_eq_true rfl) (y := 106) rfl (ge_new ha245 X0) (Or.inr (Or.inl (by simp))) fun h285 W286 V287 => ?_
    have V288 : Arv Z h285 a242 kc244 .char 64 [.int 97, .int 98, .int 99, .int 100, .int 101, .int 102, .int 103, .int 104, .int 105, .int 106, .int 0, .int 0, .int 0, .int 0, .int 0, .int 0, .int 0, .int 0, .int 0, .int 0, .int 0, .int 0, .int 0, .int 0, .int 0, .int 0, .int 0, .int 0, .int 0, .int 0, .int 0, .int 0, .int 0, .int 0, .int 0, .int 0, .int 0, .int 0, .int 0, .int 0, .int 0, .int 0, .int 0, .int 0, .int 0, .int 0, .int 0, .int 0, .int 0, .int 0, .int 0, .int 0, .int 0, .int 0, .int 0, .int 0, .int 0, .int 0, .int 0, .int 0, .int 0, .int 0, .int 0, .int 0] (.int 0) := V287
    refine g_dup o (pc := 296) at_296 rfl ?_
    refine g_bipush o (pc := 297) at_297 (v := 10) rfl ?_
    refine g_bipush o (pc := 299) at_299 (v := 107) rfl ?_
    refine g_castore o (pc := 301) at_301 V288 rfl (by decide) (i := 10) rfl (Nat.le_of_ble_eq_true rfl) (y := 107) rfl (ge_new ha245 X0) (Or.inr (Or.inl (by simp))) fun h289 W290 V291 => ?_
    have V292 : Arv Z h289 a242 kc244 .char 64 [.int 97, .int 98, .int 99, .int 100, .int 101, .int 102, .int 103, .int 104, .int 105, .int 106, .int 107, .int 0, .int 0, .int 0, .int 0, .int 0, .int 0, .int 0, .int 0, .int 0, .int 0, .int 0, .int 0, .int 0, .int 0, .int 0, .int 0, .int 0, .int 0, .int 0, .int 0, .int 0, .int 0, .int 0, .int 0, .int 0, .int 0, .int 0, .int 0, .int 0, .int 0, .int 0, .int 0, .int 0, .int 0, .int 0, .int 0, .int 0, .int 0, .int 0, .int 0, .int 0, .int 0, .int 0, .int 0, .int 0, .int 0, .int 0, .int 0, .int 0, .int 0, .int 0, .int 0, .int 0] (.int 0) := V291
    refine g_dup o (pc := 302) at_302 rfl ?_
    refine g_bipush o (pc := 303) at_303 (v := 11) rfl ?_
    refine g_bipush o (pc := 305) at_305 (v := 108) rfl ?_
    refine g_castore o (pc := 307) at_307 V292 rfl (by decide) (i := 11) rfl (Nat.le_of_ble_eq_true rfl) (y := 108) rfl (ge_new ha245 X0) (Or.inr (Or.inl (by simp))) fun h293 W294 V295 => ?_
    have V296 : Arv Z h293 a242 kc244 .char 64 [.int 97, .int 98, .int 99, .int 100, .int 101, .int 102, .int 103, .int 104, .int 105, .int 106, .int 107, .int 108, .int 0, .int 0, .int 0, .int 0, .int 0, .int 0, .int 0, .int 0, .int 0, .int 0, .int 0, .int 0, .int 0, .int 0, .int 0, .int 0, .int 0, .int 0, .int 0, .int 0, .int 0, .int 0, .int 0, .int 0, .int 0, .int 0, .int 0, .int 0, .int 0, .int 0, .int 0, .int 0, .int 0, .int 0, .int 0, .int 0, .int 0, .int 0, .int 0, .int 0, .int 0, .int 0, .int 0, .int 0, .int 0, .int 0, .int 0, .int 0, .int 0, .int 0, .int 0, .int 0] (.int 0) := V295
    refine g_dup o (pc := 308) at_308 rfl ?_
    refine g_bipush o (pc := 309) at_309 (v := 12) rfl ?_
    refine g_bipush o (pc := 311) at_311 (v := 109) rfl ?_
    refine g_castore o (pc := 313) at_313 V296 rfl (by decide) (i := 12) rfl (Nat.le_of_ble_eq_true rfl) (y := 109) rfl (ge_new ha245 X0) (Or.inr (Or.inl (by simp))) fun h297 W298 V299 => ?_
    have V300 : Arv Z h297 a242 kc244 .char 64 [.int 97, .int 98, .int 99, .int 100, .int 101, .int 102, .int 103, .int 104, .int 105, .int 106, .int 107, .int 108, .int 109, .int 0, .int 0, .int 0, .int 0, .int 0, .int 0, .int 0, .int 0, .int 0, .int 0, .int 0, .int 0, .int 0, .int 0, .int 0, .int 0, .int 0, .int 0, .int 0, .int 0, .int 0, .int 0, .int 0, .int 0, .int 0, .int 0, .int 0, .int 0, .int 0, .int 0, .int 0, .int 0, .int 0, .int 0, .int 0, .int 0, .int 0, .int 0, .int 0, .int 0, .int 0, .int 0, .int 0, .int 0, .int 0, .int 0, .int 0, .int 0, .int 0, .int 0, .int 0] (.int 0) := V299
    refine g_dup o (pc := 314) at_314 rfl ?_
    refine g_bipush o (pc := 315) at_315 (v := 13) rfl ?_
    refine g_bipush o (pc := 317) at_317 (v := 110) rfl ?_
    refine g_castore o (pc := 319) at_319 V300 rfl (by decide) (i := 13) rfl (Nat.le_of_ble_eq_true rfl) (y := 110) rfl (ge_new ha245 X0) (Or.inr (Or.inl (by simp))) fun h301 W302 V303 => ?_
    have V304 : Arv Z h301 a242 kc244 .char 64 [.int 97, .int 98, .int 99, .int 100, .int 101, .int 102, .int 103, .int 104, .int 105, .int 106, .int 107, .int 108, .int 109, .int 110, .int 0, .int 0, .int 0, .int 0, .int 0, .int 0, .int 0, .int 0, .int 0, .int 0, .int 0, .int 0, .int 0, .int 0, .int 0, .int 0, .int 0, .int 0, .int 0, .int 0, .int 0, .int 0, .int 0, .int 0, .int 0, .int 0, .int 0, .int 0, .int 0, .int 0, .int 0, .int 0, .int 0, .int 0, .int 0, .int 0, .int 0, .int 0, .int 0, .int 0, .int 0, .int 0, .int 0, .int 0, .int 0, .int 0, .int 0, .int 0, .int 0, .int 0] (.int 0) := V303
    refine g_dup o (pc := 320) at_320 rfl ?_
    refine g_bipush o (pc := 321) at_321 (v := 14) rfl ?_
    refine g_bipush o (pc := 323) at_323 (v := 111) rfl ?_
    refine g_castore o (pc := 325) at_325 V304 rfl (by decide) (i := 14) rfl (Nat.le_of_ble_eq_true rfl) (y := 111) rfl (ge_new ha245 X0) (Or.inr (Or.inl (by simp))) fun h305 W306 V307 => ?_
    have V308 : Arv Z h305 a242 kc244 .char 64 [.int 97, .int 98, .int 99, .int 100, .int 101, .int 102, .int 103, .int 104, .int 105, .int 106, .int 107, .int 108, .int 109, .int 110, .int 111, .int 0, .int 0, .int 0, .int 0, .int 0, .int 0, .int 0, .int 0, .int 0, .int 0, .int 0, .int 0, .int 0, .int 0, .int 0, .int 0, .int 0, .int 0, .int 0, .int 0, .int 0, .int 0, .int 0, .int 0, .int 0, .int 0, .int 0, .int 0, .int 0, .int 0, .int 0, .int 0, .int 0, .int 0, .int 0, .int 0, .int 0, .int 0, .int 0, .int 0, .int 0, .int 0, .int 0, .int 0, .int 0, .int 0, .int 0, .int 0, .int 0] (.int 0) := V307
    refine g_dup o (pc := 326) at_326 rfl ?_
    refine g_bipush o (pc := 327) at_327 (v := 15) rfl ?_
    refine g_bipush o (pc := 329) at_329 (v := 112) rfl ?_
    refine g_castore o (pc := 331) at_331 V308 rfl (by decide) (i := 15) rfl (Nat.le_of_ble_eq_true rfl) (y := 112) rfl (ge_new ha245 X0) (Or.inr (Or.inl (by simp))) fun h309 W310 V311 => ?_
    have V312 : Arv Z h309 a242 kc244 .char 64 [.int 97, .int 98, .int 99, .int 100, .int 101, .int 102, .int 103, .int 104, .int 105, .int 106, .int 107, .int 108, .int 109, .int 110, .int 111, .int 112, .int 0, .int 0, .int 0, .int 0, .int 0, .int 0, .int 0, .int 0, .int 0, .int 0, .int 0, .int 0, .int 0, .int 0, .int 0, .int 0, .int 0, .int 0, .int 0, .int 0, .int 0, .int 0, .int 0, .int 0, .int 0, .int 0, .int 0, .int 0, .int 0, .int 0, .int 0, .int 0, .int 0, .int 0, .int 0, .int 0, .int 0, .int 0, .int 0, .int 0, .int 0, .int 0, .int 0, .int 0, .int 0, .int 0, .int 0, .int 0] (.int 0) := V311
    refine g_dup o (pc := 332) at_332 rfl ?_
    refine g_bipush o (pc := 333) at_333 (v := 16) rfl ?_
    refine g_bipush o (pc := 335) at_335 (v := 113) rfl ?_
    refine g_castore o (pc := 337) at_337 V312 rfl (by decide) (i := 16) rfl (Nat.le_of_ble_eq_true rfl) (y := 113) rfl (ge_new ha245 X0) (Or.inr (Or.inl (by simp))) fun h313 W314 V315 => ?_
    have V316 : Arv Z h313 a242 kc244 .char 64 [.int 97, .int 98, .int 99, .int 100, .int 101, .int 102, .int 103, .int 104, .int 105, .int 106, .int 107, .int 108, .int 109, .int 110, .int 111, .int 112, .int 113, .int 0, .int 0, .int 0, .int 0, .int 0, .int 0, .int 0, .int 0, .int 0, .int 0, .int 0, .int 0, .int 0, .int 0, .int 0, .int 0, .int 0, .int 0, .int 0, .int 0, .int 0, .int 0, .int 0, .int 0, .int 0, .int 0, .int 0, .int 0, .int 0, .int 0, .int 0, .int 0, .int 0, .int 0, .int 0, .int 0, .int 0, .int 0, .int 0, .int 0, .int 0, .int 0, .int 0, .int 0, .int 0, .int 0, .int 0] (.int 0) := V315
    refine g_dup o (pc := 338) at_338 rfl ?_
    refine g_bipush o (pc := 339) at_339 (v := 17) rfl ?_
    refine g_bipush o (pc := 341) at_341 (v := 114) rfl ?_
    refine g_castore o (pc := 343) at_343 V316 rfl (by decide) (i := 17) rfl (Nat.le_of_ble_eq_true rfl) (y := 114) rfl (ge_new ha245 X0) (Or.inr (Or.inl (by simp))) fun h317 W318 V319 => ?_
    have V320 : Arv Z h317 a242 kc244 .char 64 [.int 97, .int 98, .int 99, .int 100, .int 101, .int 102, .int 103, .int 104, .int 105, .int 106, .int 107, .int 108, .int 109, .int 110, .int 111, .int 112, .int 113, .int 114, .int 0, .int 0, .int 0, .int 0, .int 0, .int 0, .int 0, .int 0, .int 0, .int 0, .int 0, .int 0, .int 0, .int 0, .int 0, .int 0, .int 0, .int 0, .int 0, .int 0, .int 0, .int 0, .int 0, .int 0, .int 0, .int 0, .int 0, .int 0, .int 0, .int 0, .int 0, .int 0, .int 0, .int 0, .int 0, .int 0, .int 0, .int 0, .int 0, .int 0, .int 0, .int 0, .int 0, .int 0, .int 0, .int 0] (.int 0) := V319
    refine g_dup o (pc := 344) at_344 rfl ?_
    refine g_bipush o (pc := 345) at_345 (v := 18) rfl ?_
    refine g_bipush o (pc := 347) at_347 (v := 115) rfl ?_
    refine g_castore o (pc := 349) at_349 V320 rfl (by decide) (i := 18) rfl (Nat.le_of_ble_eq_true rfl) (y := 115) rfl (ge_new ha245 X0) (Or.inr (Or.inl (by simp))) fun h321 W322 V323 => ?_
    have V324 : Arv Z h321 a242 kc244 .char 64 [.int 97, .int 98, .int 99, .int 100, .int 101, .int 102, .int 103, .int 104, .int 105, .int 106, .int 107, .int 108, .int 109, .int 110, .int 111, .int 112, .int 113, .int 114, .int 115, .int 0, .int 0, .int 0, .int 0, .int 0, .int 0, .int 0, .int 0, .int 0, .int 0, .int 0, .int 0, .int 0, .int 0, .int 0, .int 0, .int 0, .int 0, .int 0, .int 0, .int 0, .int 0, .int 0, .int 0, .int 0, .int 0, .int 0, .int 0, .int 0, .int 0, .int 0, .int 0, .int 0, .int 0, .int 0, .int 0, .int 0, .int 0, .int 0, .int 0, .int 0, .int 0, .int 0, .int 0, .int 0] (.int 0) := V323
    refine g_dup o (pc := 350) at_350 rfl ?_
    refine g_bipush o (pc := 351) at_351 (v := 19) rfl ?_
    refine g_bipush o (pc := 353) at_353 (v := 116) rfl ?_
    refine g_castore o (pc := 355) at_355 V324 rfl (by decide) (i := 19) rfl (Nat.le_of_ble_eq_true rfl) (y := 116) rfl (ge_new ha245 X0) (Or.inr (Or.inl (by simp))) fun h325 W326 V327 => ?_
    have V328 : Arv Z h325 a242 kc244 .char 64 [.int 97, .int 98, .int 99, .int 100, .int 101, .int 102, .int 103, .int 104, .int 105, .int 106, .int 107, .int 108, .int 109, .int 110, .int 111, .int 112, .int 113, .int 114, .int 115, .int 116, .int 0, .int 0, .int 0, .int 0, .int 0, .int 0, .int 0, .int 0, .int 0, .int 0, .int 0, .int 0, .int 0, .int 0, .int 0, .int 0, .int 0, .int 0, .int 0, .int 0, .int 0, .int 0, .int 0, .int 0, .int 0, .int 0, .int 0, .int 0, .int 0, .int 0, .int 0, .int 0, .int 0, .int 0, .int 0, .int 0, .int 0, .int 0, .int 0, .int 0, .int 0, .int 0, .int 0, .int 0] (.int 0) := V327
    refine g_dup o (pc := 356) at_356 rfl ?_
    refine g_bipush o (pc := 357) at_357 (v := 20) rfl ?_
    refine g_bipush o (pc := 359) at_359 (v := 117) rfl ?_
    refine g_castore o (pc := 361) at_361 V328 rfl (by decide) (i := 20) rfl (Nat.le_of_ble_eq_true rfl) (y := 117) rfl (ge_new ha245 X0) (Or.inr (Or.inl (by simp))) fun h329 W330 V331 => ?_
    have V332 : Arv Z h329 a242 kc244 .char 64 [.int 97, .int 98, .int 99, .int 100, .int 101, .int 102, .int 103, .int 104, .int 105, .int 106, .int 107, .int 108, .int 109, .int 110, .int 111, .int 112, .int 113, .int 114, .int 115, .int 116, .int 117, .int 0, .int 0, .int 0, .int 0, .int 0, .int 0, .int 0, .int 0, .int 0, .int 0, .int 0, .int 0, .int 0, .int 0, .int 0, .int 0, .int 0, .int 0, .int 0, .int 0, .int 0, .int 0, .int 0, .int 0, .int 0, .int 0, .int 0, .int 0, .int 0, .int 0, .int 0, .int 0, .int 0, .int 0, .int 0, .int 0, .int 0, .int 0, .int 0, .int 0, .int 0, .int 0, .int 0] (.int 0) := V331
    refine g_dup o (pc := 362) at_362 rfl ?_
    refine g_bipush o (pc := 363) at_363 (v := 21) rfl ?_
    refine g_bipush o (pc := 365) at_365 (v := 118) rfl ?_
    refine g_castore o (pc := 367) at_367 V332 rfl (by decide) (i := 21) rfl (Nat.le_of_ble_eq_true rfl) (y := 118) rfl (ge_new ha245 X0) (Or.inr (Or.inl (by simp))) fun h333 W334 V335 => ?_
    have V336 : Arv Z h333 a242 kc244 .char 64 [.int 97, .int 98, .int 99, .int 100, .int 101, .int 102, .int 103, .int 104, .int 105, .int 106, .int 107, .int 108, .int 109, .int 110, .int 111, .int 112, .int 113, .int 114, .int 115, .int 116, .int 117, .int 118, .int 0, .int 0, .int 0, .int 0, .int 0, .int 0, .int 0, .int 0, .int 0, .int 0, .int 0, .int 0, .int 0, .int 0, .int 0, .int 0, .int 0, .int 0, .int 0, .int 0, .int 0, .int 0, .int 0, .int 0, .int 0, .int 0, .int 0, .int 0, .int 0, .int 0, .int 0, .int 0, .int 0, .int 0, .int 0, .int 0, .int 0, .int 0, .int 0, .int 0, .int 0, .int 0] (.int 0) := V335
    refine g_dup o (pc := 368) at_368 rfl ?_
    refine g_bipush o (pc := 369) at_369 (v := 22) rfl ?_
    refine g_bipush o (pc := 371) at_371 (v := 119) rfl ?_
    refine g_castore o (pc := 373) at_373 V336 rfl (by decide) (i := 22) rfl (Nat.le_of_ble_eq_true rfl) (y := 119) rfl (ge_new ha245 X0) (Or.inr (Or.inl (by simp))) fun h337 W338 V339 => ?_
    have V340 : Arv Z h337 a242 kc244 .char 64 [.int 97, .int 98, .int 99, .int 100, .int 101, .int 102, .int 103, .int 104, .int 105, .int 106, .int 107, .int 108, .int 109, .int 110, .int 111, .int 112, .int 113, .int 114, .int 115, .int 116, .int 117, .int 118, .int 119, .int 0, .int 0, .int 0, .int 0, .int 0, .int 0, .int 0, .int 0, .int 0, .int 0, .int 0, .int 0, .int 0, .int 0, .int 0, .int 0, .int 0, .int 0, .int 0, .int 0, .int 0, .int 0, .int 0, .int 0, .int 0, .int 0, .int 0, .int 0, .int 0, .int 0, .int 0, .int 0, .int 0, .int 0, .int 0, .int 0, .int 0, .int 0, .int 0, .int 0, .int 0] (.int 0) := V339
    refine g_dup o (pc := 374) at_374 rfl ?_
    refine g_bipush o (pc := 375) at_375 (v := 23) rfl ?_
    refine g_bipush o (pc := 377) at_377 (v := 120) rfl ?_
    refine g_castore o (pc := 379) at_379 V340 rfl (by decide) (i := 23) rfl (Nat.le_of_ble_eq_true rfl) (y := 120) rfl (ge_new ha245 X0) (Or.inr (Or.inl (by simp))) fun h341 W342 V343 => ?_
    have V344 : Arv Z h341 a242 kc244 .char 64 [.int 97, .int 98, .int 99, .int 100, .int 101, .int 102, .int 103, .int 104, .int 105, .int 106, .int 107, .int 108, .int 109, .int 110, .int 111, .int 112, .int 113, .int 114, .int 115, .int 116, .int 117, .int 118, .int 119, .int 120, .int 0, .int 0, .int 0, .int 0, .int 0, .int 0, .int 0, .int 0, .int 0, .int 0, .int 0, .int 0, .int 0, .int 0, .int 0, .int 0, .int 0, .int 0, .int 0, .int 0, .int 0, .int 0, .int 0, .int 0, .int 0, .int 0, .int 0, .int 0, .int 0, .int 0, .int 0, .int 0, .int 0, .int 0, .int 0, .int 0, .int 0, .int 0, .int 0, .int 0] (.int 0) := V343
    refine g_dup o (pc := 380) at_380 rfl ?_
    refine g_bipush o (pc := 381) at_381 (v := 24) rfl ?_
    refine g_bipush o (pc := 383) at_383 (v := 121) rfl ?_
    refine g_castore o (pc := 385) at_385 V344 rfl (by decide) (i := 24) rfl (Nat.le_of_ble_eq_true rfl) (y := 121) rfl (ge_new ha245 X0) (Or.inr (Or.inl (by simp))) fun h345 W346 V347 => ?_
    have V348 : Arv Z h345 a242 kc244 .char 64 [.int 97, .int 98, .int 99, .int 100, .int 101, .int 102, .int 103, .int 104, .int 105, .int 106, .int 107, .int 108, .int 109, .int 110, .int 111, .int 112, .int 113, .int 114, .int 115, .int 116, .int 117, .int 118, .int 119, .int 120, .int 121, .int 0, .int 0, .int 0, .int 0, .int 0, .int 0, .int 0, .int 0, .int 0, .int 0, .int 0, .int 0, .int 0, .int 0, .int 0, .int 0, .int 0, .int 0, .int 0, .int 0, .int 0, .int 0, .int 0, .int 0, .int 0, .int 0, .int 0, .int 0, .int 0, .int 0, .int 0, .int 0, .int 0, .int 0, .int 0, .int 0, .int 0, .int 0, .int 0] (.int 0) := V347
    refine g_dup o (pc := 386) at_386 rfl ?_
    refine g_bipush o (pc := 387) at_387 (v := 25) rfl ?_
    refine g_bipush o (pc := 389) at_389 (v := 122) rfl ?_
    refine g_castore o (pc := 391) at_391 V348 rfl (by decide) (i := 25) rfl (Nat.le_of_ble_eq_true rfl) (y := 122) rfl (ge_new ha245 X0) (Or.inr (Or.inl (by simp))) fun h349 W350 V351 => ?_
    have V352 : Arv Z h349 a242 kc244 .char 64 [.int 97, .int 98, .int 99, .int 100, .int 101, .int 102, .int 103, .int 104, .int 105, .int 106, .int 107, .int 108, .int 109, .int 110, .int 111, .int 112, .int 113, .int 114, .int 115, .int 116, .int 117, .int 118, .int 119, .int 120, .int 121, .int 122, .int 0, .int 0, .int 0, .int 0, .int 0, .int 0, .int 0, .int 0, .int 0, .int 0, .int 0, .int 0, .int 0, .int 0, .int 0, .int 0, .int 0, .int 0, .int 0, .int 0, .int 0, .int 0, .int 0, .int 0, .int 0, .int 0, .int 0, .int 0, .int 0, .int 0, .int 0, .int 0, .int 0, .int 0, .int 0, .int 0, .int 0, .int 0] (.int 0) := V351
    refine g_dup o (pc := 392) at_392 rfl ?_
    refine g_bipush o (pc := 393) at_393 (v := 26) rfl ?_
    refine g_bipush o (pc := 395) at_395 (v := 65) rfl ?_
    refine g_castore o (pc := 397) at_397 V352 rfl (by decide) (i := 26) rfl (Nat.le_of_ble_eq_true rfl) (y := 65) rfl (ge_new ha245 X0) (Or.inr (Or.inl (by simp))) fun h353 W354 V355 => ?_
    have V356 : Arv Z h353 a242 kc244 .char 64 [.int 97, .int 98, .int 99, .int 100, .int 101, .int 102, .int 103, .int 104, .int 105, .int 106, .int 107, .int 108, .int 109, .int 110, .int 111, .int 112, .int 113, .int 114, .int 115, .int 116, .int 117, .int 118, .int 119, .int 120, .int 121, .int 122, .int 65, .int 0, .int 0, .int 0, .int 0, .int 0, .int 0, .int 0, .int 0, .int 0, .int 0, .int 0, .int 0, .int 0, .int 0, .int 0, .int 0, .int 0, .int 0, .int 0, .int 0, .int 0, .int 0, .int 0, .int 0, .int 0, .int 0, .int 0, .int 0, .int 0, .int 0, .int 0, .int 0, .int 0, .int 0, .int 0, .int 0, .int 0] (.int 0) := V355
    refine g_dup o (pc := 398) at_398 rfl ?_
    refine g_bipush o (pc := 399) at_399 (v := 27) rfl ?_
    refine g_bipush o (pc := 401) at_401 (v := 66) rfl ?_
    refine g_castore o (pc := 403) at_403 V356 rfl (by decide) (i := 27) rfl (Nat.le_of_ble_eq_true rfl) (y := 66) rfl (ge_new ha245 X0) (Or.inr (Or.inl (by simp))) fun h357 W358 V359 => ?_
    have V360 : Arv Z h357 a242 kc244 .char 64 [.int 97, .int 98, .int 99, .int 100, .int 101, .int 102, .int 103, .int 104, .int 105, .int 106, .int 107, .int 108, .int 109, .int 110, .int 111, .int 112, .int 113, .int 114, .int 115, .int 116, .int 117, .int 118, .int 119, .int 120, .int 121, .int 122, .int 65, .int 66, .int 0, .int 0, .int 0, .int 0, .int 0, .int 0, .int 0, .int 0, .int 0, .int 0, .int 0, .int 0, .int 0, .int 0, .int 0, .int 0, .int 0, .int 0, .int 0, .int 0, .int 0, .int 0, .int 0, .int 0, .int 0, .int 0, .int 0, .int 0, .int 0, .int 0, .int 0, .int 0, .int 0, .int 0, .int 0, .int 0] (.int 0) := V359
    refine g_dup o (pc := 404) at_404 rfl ?_
    refine g_bipush o (pc := 405) at_405 (v := 28) rfl ?_
    refine g_bipush o (pc := 407) at_407 (v := 67) rfl ?_
    refine g_castore o (pc := 409) at_409 V360 rfl (by decide) (i := 28) rfl (Nat.le_of_ble_eq_true rfl) (y := 67) rfl (ge_new ha245 X0) (Or.inr (Or.inl (by simp))) fun h361 W362 V363 => ?_
    have V364 : Arv Z h361 a242 kc244 .char 64 [.int 97, .int 98, .int 99, .int 100, .int 101, .int 102, .int 103, .int 104, .int 105, .int 106, .int 107, .int 108, .int 109, .int 110, .int 111, .int 112, .int 113, .int 114, .int 115, .int 116, .int 117, .int 118, .int 119, .int 120, .int 121, .int 122, .int 65, .int 66, .int 67, .int 0, .int 0, .int 0, .int 0, .int 0, .int 0, .int 0, .int 0, .int 0, .int 0, .int 0, .int 0, .int 0, .int 0, .int 0, .int 0, .int 0, .int 0, .int 0, .int 0, .int 0, .int 0, .int 0, .int 0, .int 0, .int 0, .int 0, .int 0, .int 0, .int 0, .int 0, .int 0, .int 0, .int 0, .int 0] (.int 0) := V363
    refine g_dup o (pc := 410) at_410 rfl ?_
    refine g_bipush o (pc := 411) at_411 (v := 29) rfl ?_
    refine g_bipush o (pc := 413) at_413 (v := 68) rfl ?_
    refine g_castore o (pc := 415) at_415 V364 rfl (by decide) (i := 29) rfl (Nat.le_of_ble_eq_true rfl) (y := 68) rfl (ge_new ha245 X0) (Or.inr (Or.inl (by simp))) fun h365 W366 V367 => ?_
    have V368 : Arv Z h365 a242 kc244 .char 64 [.int 97, .int 98, .int 99, .int 100, .int 101, .int 102, .int 103, .int 104, .int 105, .int 106, .int 107, .int 108, .int 109, .int 110, .int 111, .int 112, .int 113, .int 114, .int 115, .int 116, .int 117, .int 118, .int 119, .int 120, .int 121, .int 122, .int 65, .int 66, .int 67, .int 68, .int 0, .int 0, .int 0, .int 0, .int 0, .int 0, .int 0, .int 0, .int 0, .int 0, .int 0, .int 0, .int 0, .int 0, .int 0, .int 0, .int 0, .int 0, .int 0, .int 0, .int 0, .int 0, .int 0, .int 0, .int 0, .int 0, .int 0, .int 0, .int 0, .int 0, .int 0, .int 0, .int 0, .int 0] (.int 0) := V367
    refine g_dup o (pc := 416) at_416 rfl ?_
    refine g_bipush o (pc := 417) at_417 (v := 30) rfl ?_
    refine g_bipush o (pc := 419) at_419 (v := 69) rfl ?_
    refine g_castore o (pc := 421) at_421 V368 rfl (by decide) (i := 30) rfl (Nat.le_of_ble_eq_true rfl) (y := 69) rfl (ge_new ha245 X0) (Or.inr (Or.inl (by simp))) fun h369 W370 V371 => ?_
    have V372 : Arv Z h369 a242 kc244 .char 64 [.int 97, .int 98, .int 99, .int 100, .int 101, .int 102, .int 103, .int 104, .int 105, .int 106, .int 107, .int 108, .int 109, .int 110, .int 111, .int 112, .int 113, .int 114, .int 115, .int 116, .int 117, .int 118, .int 119, .int 120, .int 121, .int 122, .int 65, .int 66, .int 67, .int 68, .int 69, .int 0, .int 0, .int 0, .int 0, .int 0, .int 0, .int 0, .int 0, .int 0, .int 0, .int 0, .int 0, .int 0, .int 0, .int 0, .int 0, .int 0, .int 0, .int 0, .int 0, .int 0, .int 0, .int 0, .int 0, .int 0, .int 0, .int 0, .int 0, .int 0, .int 0, .int 0, .int 0, .int 0] (.int 0) := V371
    refine g_dup o (pc := 422) at_422 rfl ?_
    refine g_bipush o (pc := 423) at_423 (v := 31) rfl ?_
    refine g_bipush o (pc := 425) at_425 (v := 70) rfl ?_
    refine g_castore o (pc := 427) at_427 V372 rfl (by decide) (i := 31) rfl (Nat.le_of_ble_eq_true rfl) (y := 70) rfl (ge_new ha245 X0) (Or.inr (Or.inl (by simp))) fun h373 W374 V375 => ?_
    have V376 : Arv Z h373 a242 kc244 .char 64 [.int 97, .int 98, .int 99, .int 100, .int 101, .int 102, .int 103, .int 104, .int 105, .int 106, .int 107, .int 108, .int 109, .int 110, .int 111, .int 112, .int 113, .int 114, .int 115, .int 116, .int 117, .int 118, .int 119, .int 120, .int 121, .int 122, .int 65, .int 66, .int 67, .int 68, .int 69, .int 70, .int 0, .int 0, .int 0, .int 0, .int 0, .int 0, .int 0, .int 0, .int 0, .int 0, .int 0, .int 0, .int 0, .int 0, .int 0, .int 0, .int 0, .int 0, .int 0, .int 0, .int 0, .int 0, .int 0, .int 0, .int 0, .int 0, .int 0, .int 0, .int 0, .int 0, .int 0, .int 0] (.int 0) := V375
    refine g_dup o (pc := 428) at_428 rfl ?_
    refine g_bipush o (pc := 429) at_429 (v := 32) rfl ?_
    refine g_bipush o (pc := 431) at_431 (v := 71) rfl ?_
    refine g_castore o (pc := 433) at_433 V376 rfl (by decide) (i := 32) rfl (Nat.le_of_ble_eq_true rfl) (y := 71) rfl (ge_new ha245 X0) (Or.inr (Or.inl (by simp))) fun h377 W378 V379 => ?_
    have V380 : Arv Z h377 a242 kc244 .char 64 [.int 97, .int 98, .int 99, .int 100, .int 101, .int 102, .int 103, .int 104, .int 105, .int 106, .int 107, .int 108, .int 109, .int 110, .int 111, .int 112, .int 113, .int 114, .int 115, .int 116, .int 117, .int 118, .int 119, .int 120, .int 121, .int 122, .int 65, .int 66, .int 67, .int 68, .int 69, .int 70, .int 71, .int 0, .int 0, .int 0, .int 0, .int 0, .int 0, .int 0, .int 0, .int 0, .int 0, .int 0, .int 0, .int 0, .int 0, .int 0, .int 0, .int 0, .int 0, .int 0, .int 0, .int 0, .int 0, .int 0, .int 0, .int 0, .int 0, .int 0, .int 0, .int 0, .int 0, .int 0] (.int 0) := V379
    refine g_dup o (pc := 434) at_434 rfl ?_
    refine g_bipush o (pc := 435) at_435 (v := 33) rfl ?_
    refine g_bipush o (pc := 437) at_437 (v := 72) rfl ?_
    refine g_castore o (pc := 439) at_439 V380 rfl (by decide) (i := 33) rfl (Nat.le_of_ble_eq_true rfl) (y := 72) rfl (ge_new ha245 X0) (Or.inr (Or.inl (by simp))) fun h381 W382 V383 => ?_
    have V384 : Arv Z h381 a242 kc244 .char 64 [.int 97, .int 98, .int 99, .int 100, .int 101, .int 102, .int 103, .int 104, .int 105, .int 106, .int 107, .int 108, .int 109, .int 110, .int 111, .int 112, .int 113, .int 114, .int 115, .int 116, .int 117, .int 118, .int 119, .int 120, .int 121, .int 122, .int 65, .int 66, .int 67, .int 68, .int 69, .int 70, .int 71, .int 72, .int 0, .int 0, .int 0, .int 0, .int 0, .int 0, .int 0, .int 0, .int 0, .int 0, .int 0, .int 0, .int 0, .int 0, .int 0, .int 0, .int 0, .int 0, .int 0, .int 0, .int 0, .int 0, .int 0, .int 0, .int 0, .int 0, .int 0, .int 0, .int 0, .int 0] (.int 0) := V383
    refine g_dup o (pc := 440) at_440 rfl ?_
    refine g_bipush o (pc := 441) at_441 (v := 34) rfl ?_
    refine g_bipush o (pc := 443) at_443 (v := 73) rfl ?_
    refine g_castore o (pc := 445) at_445 V384 rfl (by decide) (i := 34) rfl (Nat.le_of_ble_eq_true rfl) (y := 73) rfl (ge_new ha245 X0) (Or.inr (Or.inl (by simp))) fun h385 W386 V387 => ?_
    have V388 : Arv Z h385 a242 kc244 .char 64 [.int 97, .int 98, .int 99, .int 100, .int 101, .int 102, .int 103, .int 104, .int 105, .int 106, .int 107, .int 108, .int 109, .int 110, .int 111, .int 112, .int 113, .int 114, .int 115, .int 116, .int 117, .int 118, .int 119, .int 120, .int 121, .int 122, .int 65, .int 66, .int 67, .int 68, .int 69, .int 70, .int 71, .int 72, .int 73, .int 0, .int 0, .int 0, .int 0, .int 0, .int 0, .int 0, .int 0, .int 0, .int 0, .int 0, .int 0, .int 0, .int 0, .int 0, .int 0, .int 0, .int 0, .int 0, .int 0, .int 0, .int 0, .int 0, .int 0, .int 0, .int 0, .int 0, .int 0, .int 0] (.int 0) := V387
    refine g_dup o (pc := 446) at_446 rfl ?_
    refine g_bipush o (pc := 447) at_447 (v := 35) rfl ?_
    refine g_bipush o (pc := 449) at_449 (v := 74) rfl ?_
    refine g_castore o (pc := 451) at_451 V388 rfl (by decide) (i := 35) rfl (Nat.le_of_ble_eq_true rfl) (y := 74) rfl (ge_new ha245 X0) (Or.inr (Or.inl (by simp))) fun h389 W390 V391 => ?_
    have V392 : Arv Z h389 a242 kc244 .char 64 [.int 97, .int 98, .int 99, .int 100, .int 101, .int 102, .int 103, .int 104, .int 105, .int 106, .int 107, .int 108, .int 109, .int 110, .int 111, .int 112, .int 113, .int 114, .int 115, .int 116, .int 117, .int 118, .int 119, .int 120, .int 121, .int 122, .int 65, .int 66, .int 67, .int 68, .int 69, .int 70, .int 71, .int 72, .int 73, .int 74, .int 0, .int 0, .int 0, .int 0, .int 0, .int 0, .int 0, .int 0, .int 0, .int 0, .int 0, .int 0, .int 0, .int 0, .int 0, .int 0, .int 0, .int 0, .int 0, .int 0, .int 0, .int 0, .int 0, .int 0, .int 0, .int 0, .int 0, .int 0] (.int 0) := V391
    refine g_dup o (pc := 452) at_452 rfl ?_
    refine g_bipush o (pc := 453) at_453 (v := 36) rfl ?_
    refine g_bipush o (pc := 455) at_455 (v := 75) rfl ?_
    refine g_castore o (pc := 457) at_457 V392 rfl (by decide) (i := 36) rfl (Nat.le_of_ble_eq_true rfl) (y := 75) rfl (ge_new ha245 X0) (Or.inr (Or.inl (by simp))) fun h393 W394 V395 => ?_
    have V396 : Arv Z h393 a242 kc244 .char 64 [.int 97, .int 98, .int 99, .int 100, .int 101, .int 102, .int 103, .int 104, .int 105, .int 106, .int 107, .int 108, .int 109, .int 110, .int 111, .int 112, .int 113, .int 114, .int 115, .int 116, .int 117, .int 118, .int 119, .int 120, .int 121, .int 122, .int 65, .int 66, .int 67, .int 68, .int 69, .int 70, .int 71, .int 72, .int 73, .int 74, .int 75, .int 0, .int 0, .int 0, .int 0, .int 0, .int 0, .int 0, .int 0, .int 0, .int 0, .int 0, .int 0, .int 0, .int 0, .int 0, .int 0, .int 0, .int 0, .int 0, .int 0, .int 0, .int 0, .int 0, .int 0, .int 0, .int 0, .int 0] (.int 0) := V395
    refine g_dup o (pc := 458) at_458 rfl ?_
    refine g_bipush o (pc := 459) at_459 (v := 37) rfl ?_
    refine g_bipush o (pc := 461) at_461 (v := 76) rfl ?_
    refine g_castore o (pc := 463) at_463 V396 rfl (by decide) (i := 37) rfl (Nat.le_of_ble_eq_true rfl) (y := 76) rfl (ge_new ha245 X0) (Or.inr (Or.inl (by simp))) fun h397 W398 V399 => ?_
    have V400 : Arv Z h397 a242 kc244 .char 64 [.int 97, .int 98, .int 99, .int 100, .int 101, .int 102, .int 103, .int 104, .int 105, .int 106, .int 107, .int 108, .int 109, .int 110, .int 111, .int 112, .int 113, .int 114, .int 115, .int 116, .int 117, .int 118, .int 119, .int 120, .int 121, .int 122, .int 65, .int 66, .int 67, .int 68, .int 69, .int 70, .int 71, .int 72, .int 73, .int 74, .int 75, .int 76, .int 0, .int 0, .int 0, .int 0, .int 0, .int 0, .int 0, .int 0, .int 0, .int 0, .int 0, .int 0, .int 0, .int 0, .int 0, .int 0, .int 0, .int 0, .int 0, .int 0, .int 0, .int 0, .int 0, .int 0, .int 0, .int 0] (.int 0) := V399
    refine g_dup o (pc := 464) at_464 rfl ?_
    refine g_bipush o (pc := 465) at_465 (v := 38) rfl ?_
    refine g_bipush o (pc := 467) at_467 (v := 77) rfl ?_
    refine g_castore o (pc := 469) at_469 V400 rfl (by decide) (i := 38) rfl (Nat.le_of_ble_eq_true rfl) (y := 77) rfl (ge_new ha245 X0) (Or.inr (Or.inl (by simp))) fun h401 W402 V403 => ?_
    have V404 : Arv Z h401 a242 kc244 .char 64 [.int 97, .int 98, .int 99, .int 100, .int 101, .int 102, .int 103, .int 104, .int 105, .int 106, .int 107, .int 108, .int 109, .int 110, .int 111, .int 112, .int 113, .int 114, .int 115, .int 116, .int 117, .int 118, .int 119, .int 120, .int 121, .int 122, .int 65, .int 66, .int 67, .int 68, .int 69, .int 70, .int 71, .int 72, .int 73, .int 74, .int 75, .int 76, .int 77, .int 0, .int 0, .int 0, .int 0, .int 0, .int 0, .int 0, .int 0, .int 0, .int 0, .int 0, .int 0, .int 0, .int 0, .int 0, .int 0, .int 0, .int 0, .int 0, .int 0, .int 0, .int 0, .int 0, .int 0, .int 0] (.int 0) := V403
    refine g_dup o (pc := 470) at_470 rfl ?_
    refine g_bipush o (pc := 471) at_471 (v := 39) rfl ?_
    refine g_bipush o (pc := 473) at_473 (v := 78) rfl ?_
    refine g_castore o (pc := 475) at_475 V404 rfl (by decide) (i := 39) rfl (Nat.le_of_ble_eq_true rfl) (y := 78) rfl (ge_new ha245 X0) (Or.inr (Or.inl (by simp))) fun h405 W406 V407 => ?_
    have V408 : Arv Z h405 a242 kc244 .char 64 [.int 97, .int 98, .int 99, .int 100, .int 101, .int 102, .int 103, .int 104, .int 105, .int 106, .int 107, .int 108, .int 109, .int 110, .int 111, .int 112, .int 113, .int 114, .int 115, .int 116, .int 117, .int 118, .int 119, .int 120, .int 121, .int 122, .int 65, .int 66, .int 67, .int 68, .int 69, .int 70, .int 71, .int 72, .int 73, .int 74, .int 75, .int 76, .int 77, .int 78, .int 0, .int 0, .int 0, .int 0, .int 0, .int 0, .int 0, .int 0, .int 0, .int 0, .int 0, .int 0, .int 0, .int 0, .int 0, .int 0, .int 0, .int 0, .int 0, .int 0, .int 0, .int 0, .int 0, .int 0] (.int 0) := V407
    refine g_dup o (pc := 476) at_476 rfl ?_
    refine g_bipush o (pc := 477) at_477 (v := 40) rfl ?_
    refine g_bipush o (pc := 479) at_479 (v := 79) rfl ?_
    refine g_castore o (pc := 481) at_481 V408 rfl (by decide) (i := 40) rfl (Nat.le_of_ble_eq_true rfl) (y := 79) rfl (ge_new ha245 X0) (Or.inr (Or.inl (by simp))) fun h409 W410 V411 => ?_
    have V412 : Arv Z h409 a242 kc244 .char 64 [.int 97, .int 98, .int 99, .int 100, .int 101, .int 102, .int 103, .int 104, .int 105, .int 106, .int 107, .int 108, .int 109, .int 110, .int 111, .int 112, .int 113, .int 114, .int 115, .int 116, .int 117, .int 118, .int 119, .int 120, .int 121, .int 122, .int 65, .int 66, .int 67, .int 68, .int 69, .int 70, .int 71, .int 72, .int 73, .int 74, .int 75, .int 76, .int 77, .int 78, .int 79, .int 0, .int 0, .int 0, .int 0, .int 0, .int 0, .int 0, .int 0, .int 0, .int 0, .int 0, .int 0, .int 0, .int 0, .int 0, .int 0, .int 0, .int 0, .int 0, .int 0, .int 0, .int 0, .int 0] (.int 0) := V411
    refine g_dup o (pc := 482) at_482 rfl ?_
    refine g_bipush o (pc := 483) at_483 (v := 41) rfl ?_
    refine g_bipush o (pc := 485) at_485 (v := 80) rfl ?_
    refine g_castore o (pc := 487) at_487 V412 rfl (by decide) (i := 41) rfl (Nat.le_of_ble_eq_true rfl) (y := 80) rfl (ge_new ha245 X0) (Or.inr (Or.inl (by simp))) fun h413 W414 V415 => ?_
    have V416 : Arv Z h413 a242 kc244 .char 64 [.int 97, .int 98, .int 99, .int 100, .int 101, .int 102, .int 103, .int 104, .int 105, .int 106, .int 107, .int 108, .int 109, .int 110, .int 111, .int 112, .int 113, .int 114, .int 115, .int 116, .int 117, .int 118, .int 119, .int 120, .int 121, .int 122, .int 65, .int 66, .int 67, .int 68, .int 69, .int 70, .int 71, .int 72, .int 73, .int 74, .int 75, .int 76, .int 77, .int 78, .int 79, .int 80, .int 0, .int 0, .int 0, .int 0, .int 0, .int 0, .int 0, .int 0, .int 0, .int 0, .int 0, .int 0, .int 0, .int 0, .int 0, .int 0, .int 0, .int 0, .int 0, .int 0, .int 0, .int 0] (.int 0) := V415
    refine g_dup o (pc := 488) at_488 rfl ?_
    refine g_bipush o (pc := 489) at_489 (v := 42) rfl ?_
    refine g_bipush o (pc := 491) at_491 (v := 81) rfl ?_
    refine g_castore o (pc := 493) at_493 V416 rfl (by decide) (i := 42) rfl (Nat.le_of_ble_eq_true rfl) (y := 81) rfl (ge_new ha245 X0) (Or.inr (Or.inl (by simp))) fun h417 W418 V419 => ?_
    have V420 : Arv Z h417 a242 kc244 .char 64 [.int 97, .int 98, .int 99, .int 100, .int 101, .int 102, .int 103, .int 104, .int 105, .int 106, .int 107, .int 108, .int 109, .int 110, .int 111, .int 112, .int 113, .int 114, .int 115, .int 116, .int 117, .int 118, .int 119, .int 120, .int 121, .int 122, .int 65, .int 66, .int 67, .int 68, .int 69, .int 70, .int 71, .int 72, .int 73, .int 74, .int 75, .int 76, .int 77, .int 78, .int 79, .int 80, .int 81, .int 0, .int 0, .int 0, .int 0, .int 0, .int 0, .int 0, .int 0, .int 0, .int 0, .int 0, .int 0, .int 0, .int 0, .int 0, .int 0, .int 0, .int 0, .int 0, .int 0, .int 0] (.int 0) := V419
    refine g_dup o (pc := 494) at_494 rfl ?_
    refine g_bipush o (pc := 495) at_495 (v := 43) rfl ?_
    refine g_bipush o (pc := 497) at_497 (v := 82) rfl ?_
    refine g_castore o (pc := 499) at_499 V420 rfl (by decide) (i := 43) rfl (Nat.le_of_ble_eq_true rfl) (y := 82) rfl (ge_new ha245 X0) (Or.inr (Or.inl (by simp))) fun h421 W422 V423 => ?_
    have V424 : Arv Z h421 a242 kc244 .char 64 [.int 97, .int 98, .int 99, .int 100, .int 101, .int 102, .int 103, .int 104, .int 105, .int 106, .int 107, .int 108, .int 109, .int 110, .int 111, .int 112, .int 113, .int 114, .int 115, .int 116, .int 117, .int 118, .int 119, .int 120, .int 121, .int 122, .int 65, .int 66, .int 67, .int 68, .int 69, .int 70, .int 71, .int 72, .int 73, .int 74, .int 75, .int 76, .int 77, .int 78, .int 79, .int 80, .int 81, .int 82, .int 0, .int 0, .int 0, .int 0, .int 0, .int 0, .int 0, .int 0, .int 0, .int 0, .int 0, .int 0, .int 0, .int 0, .int 0, .int 0, .int 0, .int 0, .int 0, .int 0] (.int 0) := V423
    refine g_dup o (pc := 500) at_500 rfl ?_
    refine g_bipush o (pc := 501) at_501 (v := 44) rfl ?_
    refine g_bipush o (pc := 503) at_503 (v := 83) rfl ?_
    refine g_castore o (pc := 505) at_505 V424 rfl (by decide) (i := 44) rfl (Nat.le_of_ble_eq_true rfl) (y := 83) rfl (ge_new ha245 X0) (Or.inr (Or.inl (by simp))) fun h425 W426 V427 => ?_
    have V428 : Arv Z h425 a242 kc244 .char 64 [.int 97, .int 98, .int 99, .int 100, .int 101, .int 102, .int 103, .int 104, .int 105, .int 106, .int 107, .int 108, .int 109, .int 110, .int 111, .int 112, .int 113, .int 114, .int 115, .int 116, .int 117, .int 118, .int 119, .int 120, .int 121, .int 122, .int 65, .int 66, .int 67, .int 68, .int 69, .int 70, .int 71, .int 72, .int 73, .int 74, .int 75, .int 76, .int 77, .int 78, .int 79, .int 80, .int 81, .int 82, .int 83, .int 0, .int 0, .int 0, .int 0, .int 0, .int 0, .int 0, .int 0, .int 0, .int 0, .int 0, .int 0, .int 0, .int 0, .int 0, .int 0, .int 0, .int 0, .int 0] (.int 0) := V427
    refine g_dup o (pc := 506) at_506 rfl ?_
    refine g_bipush o (pc := 507) at_507 (v := 45) rfl ?_
    refine g_bipush o (pc := 509) at_509 (v := 84) rfl ?_
    refine g_castore o (pc := 511) at_511 V428 rfl (by decide) (i := 45) rfl (Nat.le_of_ble_eq_true rfl) (y := 84) rfl (ge_new ha245 X0) (Or.inr (Or.inl (by simp))) fun h429 W430 V431 => ?_
    have V432 : Arv Z h429 a242 kc244 .char 64 [.int 97, .int 98, .int 99, .int 100, .int 101, .int 102, .int 103, .int 104, .int 105, .int 106, .int 107, .int 108, .int 109, .int 110, .int 111, .int 112, .int 113, .int 114, .int 115, .int 116, .int 117, .int 118, .int 119, .int 120, .int 121, .int 122, .int 65, .int 66, .int 67, .int 68, .int 69, .int 70, .int 71, .int 72, .int 73, .int 74, .int 75, .int 76, .int 77, .int 78, .int 79, .int 80, .int 81, .int 82, .int 83, .int 84, .int 0, .int 0, .int 0, .int 0, .int 0, .int 0, .int 0, .int 0, .int 0, .int 0, .int 0, .int 0, .int 0, .int 0, .int 0, .int 0, .int 0, .int 0] (.int 0) := V431
    refine g_dup o (pc := 512) at_512 rfl ?_
    refine g_bipush o (pc := 513) at_513 (v := 46) rfl ?_
    refine g_bipush o (pc := 515) at_515 (v := 85) rfl ?_
    refine g_castore o (pc := 517) at_517 V432 rfl (by decide) (i := 46) rfl (Nat.le_of_ble_eq_true rfl) (y := 85) rfl (ge_new ha245 X0) (Or.inr (Or.inl (by simp))) fun h433 W434 V435 => ?_
    have V436 : Arv Z h433 a242 kc244 .char 64 [.int 97, .int 98, .int 99, .int 100, .int 101, .int 102, .int 103, .int 104, .int 105, .int 106, .int 107, .int 108, .int 109, .int 110, .int 111, .int 112, .int 113, .int 114, .int 115, .int 116, .int 117, .int 118, .int 119, .int 120, .int 121, .int 122, .int 65, .int 66, .int 67, .int 68, .int 69, .int 70, .int 71, .int 72, .int 73, .int 74, .int 75, .int 76, .int 77, .int 78, .int 79, .int 80, .int 81, .int 82, .int 83, .int 84, .int 85, .int 0, .int 0, .int 0, .int 0, .int 0, .int 0, .int 0, .int 0, .int 0, .int 0, .int 0, .int 0, .int 0, .int 0, .int 0, .int 0, .int 0] (.int 0) := V435
    refine g_dup o (pc := 518) at_518 rfl ?_
    refine g_bipush o (pc := 519) at_519 (v := 47) rfl ?_
    refine g_bipush o (pc := 521) at_521 (v := 86) rfl ?_
    refine g_castore o (pc := 523) at_523 V436 rfl (by decide) (i := 47) rfl (Nat.le_of_ble_eq_true rfl) (y := 86) rfl (ge_new ha245 X0) (Or.inr (Or.inl (by simp))) fun h437 W438 V439 => ?_
    have V440 : Arv Z h437 a242 kc244 .char 64 [.int 97, .int 98, .int 99, .int 100, .int 101, .int 102, .int 103, .int 104, .int 105, .int 106, .int 107, .int 108, .int 109, .int 110, .int 111, .int 112, .int 113, .int 114, .int 115, .int 116, .int 117, .int 118, .int 119, .int 120, .int 121, .int 122, .int 65, .int 66, .int 67, .int 68, .int 69, .int 70, .int 71, .int 72, .int 73, .int 74, .int 75, .int 76, .int 77, .int 78, .int 79, .int 80, .int 81, .int 82, .int 83, .int 84, .int 85, .int 86, .int 0, .int 0, .int 0, .int 0, .int 0, .int 0, .int 0, .int 0, .int 0, .int 0, .int 0, .int 0, .int 0, .int 0, .int 0, .int 0] (.int 0) := V439
    refine g_dup o (pc := 524) at_524 rfl ?_
    refine g_bipush o (pc := 525) at_525 (v := 48) rfl ?_
    refine g_bipush o (pc := 527) at_527 (v := 87) rfl ?_
    refine g_castore o (pc := 529) at_529 V440 rfl (by decide) (i := 48) rfl (Nat.le_of_ble_eq_true rfl) (y := 87) rfl (ge_new ha245 X0) (Or.inr (Or.inl (by simp))) fun h441 W442 V443 => ?_
    have V444 : Arv Z h441 a242 kc244 .char 64 [.int 97, .int 98, .int 99, .int 100, .int 101, .int 102, .int 103, .int 104, .int 105, .int 106, .int 107, .int 108, .int 109, .int 110, .int 111, .int 112, .int 113, .int 114, .int 115, .int 116, .int 117, .int 118, .int 119, .int 120, .int 121, .int 122, .int 65, .int 66, .int 67, .int 68, .int 69, .int 70, .int 71, .int 72, .int 73, .int 74, .int 75, .int 76, .int 77, .int 78, .int 79, .int 80, .int 81, .int 82, .int 83, .int 84, .int 85, .int 86, .int 87, .int 0, .int 0, .int 0, .int 0, .int 0, .int 0, .int 0, .int 0, .int 0, .int 0, .int 0, .int 0, .int 0, .int 0, .int 0] (.int 0) := V443
    refine g_dup o (pc := 530) at_530 rfl ?_
    refine g_bipush o (pc := 531) at_531 (v := 49) rfl ?_
    refine g_bipush o (pc := 533) at_533 (v := 88) rfl ?_
    refine g_castore o (pc := 535) at_535 V444 rfl (by decide) (i := 49) rfl (Nat.le_of_ble_eq_true rfl) (y := 88) rfl (ge_new ha245 X0) (Or.inr (Or.inl (by simp))) fun h445 W446 V447 => ?_
    have V448 : Arv Z h445 a242 kc244 .char 64 [.int 97, .int 98, .int 99, .int 100, .int 101, .int 102, .int 103, .int 104, .int 105, .int 106, .int 107, .int 108, .int 109, .int 110, .int 111, .int 112, .int 113, .int 114, .int 115, .int 116, .int 117, .int 118, .int 119, .int 120, .int 121, .int 122, .int 65, .int 66, .int 67, .int 68, .int 69, .int 70, .int 71, .int 72, .int 73, .int 74, .int 75, .int 76, .int 77, .int 78, .int 79, .int 80, .int 81, .int 82, .int 83, .int 84, .int 85, .int 86, .int 87, .int 88, .int 0, .int 0, .int 0, .int 0, .int 0, .int 0, .int 0, .int 0, .int 0, .int 0, .int 0, .int 0, .int 0, .int 0] (.int 0) := V447
    refine g_dup o (pc := 536) at_536 rfl ?_
    refine g_bipush o (pc := 537) at_537 (v := 50) rfl ?_
    refine g_bipush o (pc := 539) at_539 (v := 89) rfl ?_
    refine g_castore o (pc := 541) at_541 V448 rfl (by decide) (i := 50) rfl (Nat.le_of_ble_eq_true rfl) (y := 89) rfl (ge_new ha245 X0) (Or.inr (Or.inl (by simp))) fun h449 W450 V451 => ?_
    have V452 : Arv Z h449 a242 kc244 .char 64 [.int 97, .int 98, .int 99, .int 100, .int 101, .int 102, .int 103, .int 104, .int 105, .int 106, .int 107, .int 108, .int 109, .int 110, .int 111, .int 112, .int 113, .int 114, .int 115, .int 116, .int 117, .int 118, .int 119, .int 120, .int 121, .int 122, .int 65, .int 66, .int 67, .int 68, .int 69, .int 70, .int 71, .int 72, .int 73, .int 74, .int 75, .int 76, .int 77, .int 78, .int 79, .int 80, .int 81, .int 82, .int 83, .int 84, .int 85, .int 86, .int 87, .int 88, .int 89, .int 0, .int 0, .int 0, .int 0, .int 0, .int 0, .int 0, .int 0, .int 0, .int 0, .int 0, .int 0, .int 0] (.int 0) := V451
    refine g_dup o (pc := 542) at_542 rfl ?_
    refine g_bipush o (pc := 543) at_543 (v := 51) rfl ?_
    refine g_bipush o (pc := 545) at_545 (v := 90) rfl ?_
    refine g_castore o (pc := 547) at_547 V452 rfl (by decide) (i := 51) rfl (Nat.le_of_ble_eq_true rfl) (y := 90) rfl (ge_new ha245 X0) (Or.inr (Or.inl (by simp))) fun h453 W454 V455 => ?_
    have V456 : Arv Z h453 a242 kc244 .char 64 [.int 97, .int 98, .int 99, .int 100, .int 101, .int 102, .int 103, .int 104, .int 105, .int 106, .int 107, .int 108, .int 109, .int 110, .int 111, .int 112, .int 113, .int 114, .int 115, .int 116, .int 117, .int 118, .int 119, .int 120, .int 121, .int 122, .int 65, .int 66, .int 67, .int 68, .int 69, .int 70, .int 71, .int 72, .int 73, .int 74, .int 75, .int 76, .int 77, .int 78, .int 79, .int 80, .int 81, .int 82, .int 83, .int 84, .int 85, .int 86, .int 87, .int 88, .int 89, .int 90, .int 0, .int 0, .int 0, .int 0, .int 0, .int 0, .int 0, .int 0, .int 0, .int 0, .int 0, .int 0] (.int 0) := V455
    refine g_dup o (pc := 548) at_548 rfl ?_
    refine g_bipush o (pc := 549) at_549 (v := 52) rfl ?_
    refine g_bipush o (pc := 551) at_551 (v := 48) rfl ?_
    refine g_castore o (pc := 553) at_553 V456 rfl (by decide) (i := 52) rfl (Nat.le_of_ble_eq_true rfl) (y := 48) rfl (ge_new ha245 X0) (Or.inr (Or.inl (by simp))) fun h457 W458 V459 => ?_
    have V460 : Arv Z h457 a242 kc244 .char 64 [.int 97, .int 98, .int 99, .int 100, .int 101, .int 102, .int 103, .int 104, .int 105, .int 106, .int 107, .int 108, .int 109, .int 110, .int 111, .int 112, .int 113, .int 114, .int 115, .int 116, .int 117, .int 118, .int 119, .int 120, .int 121, .int 122, .int 65, .int 66, .int 67, .int 68, .int 69, .int 70, .int 71, .int 72, .int 73, .int 74, .int 75, .int 76, .int 77, .int 78, .int 79, .int 80, .int 81, .int 82, .int 83, .int 84, .int 85, .int 86, .int 87, .int 88, .int 89, .int 90, .int 48, .int 0, .int 0, .int 0, .int 0, .int 0, .int 0, .int 0, .int 0, .int 0, .int 0, .int 0] (.int 0) := V459
    refine g_dup o (pc := 554) at_554 rfl ?_
    refine g_bipush o (pc := 555) at_555 (v := 53) rfl ?_
    refine g_bipush o (pc := 557) at_557 (v := 49) rfl ?_
    refine g_castore o (pc := 559) at_559 V460 rfl (by decide) (i := 53) rfl (Nat.le_of_ble_eq_true rfl) (y := 49) rfl (ge_new ha245 X0) (Or.inr (Or.inl (by simp))) fun h461 W462 V463 => ?_
    have V464 : Arv Z h461 a242 kc244 .char 64 [.int 97, .int 98, .int 99, .int 100, .int 101, .int 102, .int 103, .int 104, .int 105, .int 106, .int 107, .int 108, .int 109, .int 110, .int 111, .int 112, .int 113, .int 114, .int 115, .int 116, .int 117, .int 118, .int 119, .int 120, .int 121, .int 122, .int 65, .int 66, .int 67, .int 68, .int 69, .int 70, .int 71, .int 72, .int 73, .int 74, .int 75, .int 76, .int 77, .int 78, .int 79, .int 80, .int 81, .int 82, .int 83, .int 84, .int 85, .int 86, .int 87, .int 88, .int 89, .int 90, .int 48, .int 49, .int 0, .int 0, .int 0, .int 0, .int 0, .int 0, .int 0, .int 0, .int 0, .int 0] (.int 0) := V463
    refine g_dup o (pc := 560) at_560 rfl ?_
    refine g_bipush o (pc := 561) at_561 (v := 54) rfl ?_
    refine g_bipush o (pc := 563) at_563 (v := 50) rfl ?_
    refine g_castore o (pc := 565) at_565 V464 rfl (by decide) (i := 54) rfl (Nat.le_of_ble_eq_true rfl) (y := 50) rfl (ge_new ha245 X0) (Or.inr (Or.inl (by simp))) fun h465 W466 V467 => ?_
    have V468 : Arv Z h465 a242 kc244 .char 64 [.int 97, .int 98, .int 99, .int 100, .int 101, .int 102, .int 103, .int 104, .int 105, .int 106, .int 107, .int 108, .int 109, .int 110, .int 111, .int 112, .int 113, .int 114, .int 115, .int 116, .int 117, .int 118, .int 119, .int 120, .int 121, .int 122, .int 65, .int 66, .int 67, .int 68, .int 69, .int 70, .int 71, .int 72, .int 73, .int 74, .int 75, .int 76, .int 77, .int 78, .int 79, .int 80, .int 81, .int 82, .int 83, .int 84, .int 85, .int 86, .int 87, .int 88, .int 89, .int 90, .int 48, .int 49, .int 50, .int 0, .int 0, .int 0, .int 0, .int 0, .int 0, .int 0, .int 0, .int 0] (.int 0) := V467
    refine g_dup o (pc := 566) at_566 rfl ?_
    refine g_bipush o (pc := 567) at_567 (v := 55) rfl ?_
    refine g_bipush o (pc := 569) at_569 (v := 51) rfl ?_
    refine g_castore o (pc := 571) at_571 V468 rfl (by decide) (i := 55) rfl (Nat.le_of_ble_eq_true rfl) (y := 51) rfl (ge_new ha245 X0) (Or.inr (Or.inl (by simp))) fun h469 W470 V471 => ?_
    have V472 : Arv Z h469 a242 kc244 .char 64 [.int 97, .int 98, .int 99, .int 100, .int 101, .int 102, .int 103, .int 104, .int 105, .int 106, .int 107, .int 108, .int 109, .int 110, .int 111, .int 112, .int 113, .int 114, .int 115, .int 116, .int 117, .int 118, .int 119, .int 120, .int 121, .int 122, .int 65, .int 66, .int 67, .int 68, .int 69, .int 70, .int 71, .int 72, .int 73, .int 74, .int 75, .int 76, .int 77, .int 78, .int 79, .int 80, .int 81, .int 82, .int 83, .int 84, .int 85, .int 86, .int 87, .int 88, .int 89, .int 90, .int 48, .int 49, .int 50, .int 51, .int 0, .int 0, .int 0, .int 0, .int 0, .int 0, .int 0, .int 0] (.int 0) := V471
    refine g_dup o (pc := 572) at_572 rfl ?_
    refine g_bipush o (pc := 573) at_573 (v := 56) rfl ?_
    refine g_bipush o (pc := 575) at_575 (v := 52) rfl ?_
    refine g_castore o (pc := 577) at_577 V472 rfl (by decide) (i := 56) rfl (Nat.le_of_ble_eq_true rfl) (y := 52) rfl (ge_new ha245 X0) (Or.inr (Or.inl (by simp))) fun h473 W474 V475 => ?_
    have V476 : Arv Z h473 a242 kc244 .char 64 [.int 97, .int 98, .int 99, .int 100, .int 101, .int 102, .int 103, .int 104, .int 105, .int 106, .int 107, .int 108, .int 109, .int 110, .int 111, .int 112, .int 113, .int 114, .int 115, .int 116, .int 117, .int 118, .int 119, .int 120, .int 121, .int 122, .int 65, .int 66, .int 67, .int 68, .int 69, .int 70, .int 71, .int 72, .int 73, .int 74, .int 75, .int 76, .int 77, .int 78, .int 79, .int 80, .int 81, .int 82, .int 83, .int 84, .int 85, .int 86, .int 87, .int 88, .int 89, .int 90, .int 48, .int 49, .int 50, .int 51, .int 52, .int 0, .int 0, .int 0, .int 0, .int 0, .int 0, .int 0] (.int 0) := V475
    refine g_dup o (pc := 578) at_578 rfl ?_
    refine g_bipush o (pc := 579) at_579 (v := 57) rfl ?_
    refine g_bipush o (pc := 581) at_581 (v := 53) rfl ?_
    refine g_castore o (pc := 583) at_583 V476 rfl (by decide) (i := 57) rfl (Nat.le_of_ble_eq_true rfl) (y := 53) rfl (ge_new ha245 X0) (Or.inr (Or.inl (by simp))) fun h477 W478 V479 => ?_
    have V480 : Arv Z h477 a242 kc244 .char 64 [.int 97, .int 98, .int 99, .int 100, .int 101, .int 102, .int 103, .int 104, .int 105, .int 106, .int 107, .int 108, .int 109, .int 110, .int 111, .int 112, .int 113, .int 114, .int 115, .int 116, .int 117, .int 118, .int 119, .int 120, .int 121, .int 122, .int 65, .int 66, .int 67, .int 68, .int 69, .int 70, .int 71, .int 72, .int 73, .int 74, .int 75, .int 76, .int 77, .int 78, .int 79, .int 80, .int 81, .int 82, .int 83, .int 84, .int 85, .int 86, .int 87, .int 88, .int 89, .int 90, .int 48, .int 49, .int 50, .int 51, .int 52, .int 53, .int 0, .int 0, .int 0, .int 0, .int 0, .int 0] (.int 0) := V479
    refine g_dup o (pc := 584) at_584 rfl ?_
    refine g_bipush o (pc := 585) at_585 (v := 58) rfl ?_
    refine g_bipush o (pc := 587) at_587 (v := 54) rfl ?_
    refine g_castore o (pc := 589) at_589 V480 rfl (by decide) (i := 58) rfl (Nat.le_of_ble_eq_true rfl) (y := 54) rfl (ge_new ha245 X0) (Or.inr (Or.inl (by simp))) fun h481 W482 V483 => ?_
    have V484 : Arv Z h481 a242 kc244 .char 64 [.int 97, .int 98, .int 99, .int 100, .int 101, .int 102, .int 103, .int 104, .int 105, .int 106, .int 107, .int 108, .int 109, .int 110, .int 111, .int 112, .int 113, .int 114, .int 115, .int 116, .int 117, .int 118, .int 119, .int 120, .int 121, .int 122, .int 65, .int 66, .int 67, .int 68, .int 69, .int 70, .int 71, .int 72, .int 73, .int 74, .int 75, .int 76, .int 77, .int 78, .int 79, .int 80, .int 81, .int 82, .int 83, .int 84, .int 85, .int 86, .int 87, .int 88, .int 89, .int 90, .int 48, .int 49, .int 50, .int 51, .int 52, .int 53, .int 54, .int 0, .int 0, .int 0, .int 0, .int 0] (.int 0) := V483
    refine g_dup o (pc := 590) at_590 rfl ?_
    refine g_bipush o (pc := 591) at_591 (v := 59) rfl ?_
    refine g_bipush o (pc := 593) at_593 (v := 55) rfl ?_
    refine g_castore o (pc := 595) at_595 V484 rfl (by decide) (i := 59) rfl (Nat.le_of_ble_eq_true rfl) (y := 55) rfl (ge_new ha245 X0) (Or.inr (Or.inl (by simp))) fun h485 W486 V487 => ?_
    have V488 : Arv Z h485 a242 kc244 .char 64 [.int 97, .int 98, .int 99, .int 100, .int 101, .int 102, .int 103, .int 104, .int 105, .int 106, .int 107, .int 108, .int 109, .int 110, .int 111, .int 112, .int 113, .int 114, .int 115, .int 116, .int 117, .int 118, .int 119, .int 120, .int 121, .int 122, .int 65, .int 66, .int 67, .int 68, .int 69, .int 70, .int 71, .int 72, .int 73, .int 74, .int 75, .int 76, .int 77, .int 78, .int 79, .int 80, .int 81, .int 82, .int 83, .int 84, .int 85, .int 86, .int 87, .int 88, .int 89, .int 90, .int 48, .int 49, .int 50, .int 51, .int 52, .int 53, .int 54, .int 55, .int 0, .int 0, .int 0, .int 0] (.int 0) := V487
    refine g_dup o (pc := 596) at_596 rfl ?_
    refine g_bipush o (pc := 597) at_597 (v := 60) rfl ?_
    refine g_bipush o (pc := 599) at_599 (v := 56) rfl ?_
    refine g_castore o (pc := 601) at_601 V488 rfl (by decide) (i := 60) rfl (Nat.le_of_ble_eq_true rfl) (y := 56) rfl (ge_new ha245 X0) (Or.inr (Or.inl (by simp))) fun h489 W490 V491 => ?_
    have V492 : Arv Z h489 a242 kc244 .char 64 [.int 97, .int 98, .int 99, .int 100, .int 101, .int 102, .int 103, .int 104, .int 105, .int 106, .int 107, .int 108, .int 109, .int 110, .int 111, .int 112, .int 113, .int 114, .int 115, .int 116, .int 117, .int 118, .int 119, .int 120, .int 121, .int 122, .int 65, .int 66, .int 67, .int 68, .int 69, .int 70, .int 71, .int 72, .int 73, .int 74, .int 75, .int 76, .int 77, .int 78, .int 79, .int 80, .int 81, .int 82, .int 83, .int 84, .int 85, .int 86, .int 87, .int 88, .int 89, .int 90, .int 48, .int 49, .int 50, .int 51, .int 52, .int 53, .int 54, .int 55, .int 56, .int 0, .int 0, .int 0] (.int 0) := V491
    refine g_dup o (pc := 602) at_602 rfl ?_
    refine g_bipush o (pc := 603) at_603 (v := 61) rfl ?_
    refine g_bipush o (pc := 605) at_605 (v := 57) rfl ?_
    refine g_castore o (pc := 607) at_607 V492 rfl (by decide) (i := 61) rfl (Nat.le_of_ble_eq_true rfl) (y := 57) rfl (ge_new ha245 X0) (Or.inr (Or.inl (by simp))) fun h493 W494 V495 => ?_
    have V496 : Arv Z h493 a242 kc244 .char 64 [.int 97, .int 98, .int 99, .int 100, .int 101, .int 102, .int 103, .int 104, .int 105, .int 106, .int 107, .int 108, .int 109, .int 110, .int 111, .int 112, .int 113, .int 114, .int 115, .int 116, .int 117, .int 118, .int 119, .int 120, .int 121, .int 122, .int 65, .int 66, .int 67, .int 68, .int 69, .int 70, .int 71, .int 72, .int 73, .int 74, .int 75, .int 76, .int 77, .int 78, .int 79, .int 80, .int 81, .int 82, .int 83, .int 84, .int 85, .int 86, .int 87, .int 88, .int 89, .int 90, .int 48, .int 49, .int 50, .int 51, .int 52, .int 53, .int 54, .int 55, .int 56, .int 57, .int 0, .int 0] (.int 0) := V495
    refine g_dup o (pc := 608) at_608 rfl ?_
    refine g_bipush o (pc := 609) at_609 (v := 62) rfl ?_
    refine g_bipush o (pc := 611) at_611 (v := 45) rfl ?_
    refine g_castore o (pc := 613) at_613 V496 rfl (by decide) (i := 62) rfl (Nat.le_of_ble_eq_true rfl) (y := 45) rfl (ge_new ha245 X0) (Or.inr (Or.inl (by simp))) fun h497 W498 V499 => ?_
    have V500 : Arv Z h497 a242 kc244 .char 64 [.int 97, .int 98, .int 99, .int 100, .int 101, .int 102, .int 103, .int 104, .int 105, .int 106, .int 107, .int 108, .int 109, .int 110, .int 111, .int 112, .int 113, .int 114, .int 115, .int 116, .int 117, .int 118, .int 119, .int 120, .int 121, .int 122, .int 65, .int 66, .int 67, .int 68, .int 69, .int 70, .int 71, .int 72, .int 73, .int 74, .int 75, .int 76, .int 77, .int 78, .int 79, .int 80, .int 81, .int 82, .int 83, .int 84, .int 85, .int 86, .int 87, .int 88, .int 89, .int 90, .int 48, .int 49, .int 50, .int 51, .int 52, .int 53, .int 54, .int 55, .int 56, .int 57, .int 45, .int 0] (.int 0) := V499
    refine g_dup o (pc := 614) at_614 rfl ?_
    refine g_bipush o (pc := 615) at_615 (v := 63) rfl ?_
    refine g_bipush o (pc := 617) at_617 (v := 95) rfl ?_
    refine g_castore o (pc := 619) at_619 V500 rfl (by decide) (i := 63) rfl (Nat.le_of_ble_eq_true rfl) (y := 95) rfl (ge_new ha245 X0) (Or.inr (Or.inl (by simp))) fun h501 W502 V503 => ?_
    have V504 : Arv Z h501 a242 kc244 .char 64 [.int 97, .int 98, .int 99, .int 100, .int 101, .int 102, .int 103, .int 104, .int 105, .int 106, .int 107, .int 108, .int 109, .int 110, .int 111, .int 112, .int 113, .int 114, .int 115, .int 116, .int 117, .int 118, .int 119, .int 120, .int 121, .int 122, .int 65, .int 66, .int 67, .int 68, .int 69, .int 70, .int 71, .int 72, .int 73, .int 74, .int 75, .int 76, .int 77, .int 78, .int 79, .int 80, .int 81, .int 82, .int 83, .int 84, .int 85, .int 86, .int 87, .int 88, .int 89, .int 90, .int 48, .int 49, .int 50, .int 51, .int 52, .int 53, .int 54, .int 55, .int 56, .int 57, .int 45, .int 95] (.int 0) := V503
    refine g_astore o (pc := 620) at_620 rfl (L' := #[.val (.int p0), .val (.int p1), .val (.int p2), .val (.int p3), .val (.int p4), .val (.int c4), .val (.int c9), .val (.int c14), .val (.int 5), .val (.ref a242), .unset, .unset, .unset, .unset, .unset]) rfl ?_
    refine g_goto o (pc := 622) at_622 (t := 1015) (by decide) rfl ?_
    refine Go.less (M' := []) (fun _ q => nomatch q) ?_
    have q505 := (((((((((((((((((((((((((((((((((((((((((((((((((((((((((((((((((X0.ext E246).wr W250 (ge_new ha245 X0)).wr W254 (ge_new ha245 X0)).wr W258 (ge_new ha245 X0)).wr W262 (ge_new ha245 X0)).wr W266 (ge_new ha245 X0)).wr W270 (ge_new ha245 X0)).wr W274 (ge_new ha245 X0)).wr W278 (ge_new ha245 X0)).wr W282 (ge_new ha245 X0)).wr W286 (ge_new ha245 X0)).wr W290 (ge_new ha245 X0)).wr W294 (ge_new ha245 X0)).wr W298 (ge_new ha245 X0)).wr W302 (ge_new ha245 X0)).wr W306 (ge_new ha245 X0)).wr W310 (ge_new ha245 X0)).wr W314 (ge_new ha245 X0)).wr W318 (ge_new ha245 X0)).wr W322 (ge_new ha245 X0)).wr W326 (ge_new ha245 X0)).wr W330 (ge_new ha245 X0)).wr W334 (ge_new ha245 X0)).wr W338 (ge_new ha245 X0)).wr W342 (ge_new ha245 X0)).wr W346 (ge_new ha245 X0)).wr W350 (ge_new ha245 X0)).wr W354 (ge_new ha245 X0)).wr W358 (ge_new ha245 X0)).wr W362 (ge_new ha245 X0)).wr W366 (ge_new ha245 X0)).wr W370 (ge_new ha245 X0)).wr W374 (ge_new ha245 X0)).wr W378 (ge_new ha245 X0)).wr W382 (ge_new ha245 X0)).wr W386 (ge_new ha245 X0)).wr W390 (ge_new ha245 X0)).wr W394 (ge_new ha245 X0)).wr W398 (ge_new ha245 X0)).wr W402 (ge_new ha245 X0)).wr W406 (ge_new ha245 X0)).wr W410 (ge_new ha245 X0)).wr W414 (ge_new ha245 X0)).wr W418 (ge_new ha245 X0)).wr W422 (ge_new ha245 X0)).wr W426 (ge_new ha245 X0)).wr W430 (ge_new ha245 X0)).wr W434 (ge_new ha245 X0)).wr W438 (ge_new ha245 X0)).wr W442 (ge_new ha245 X0)).wr W446 (ge_new ha245 X0)).wr W450 (ge_new ha245 X0)).wr W454 (ge_new ha245 X0)).wr W458 (ge_new ha245 X0)).wr W462 (ge_new ha245 X0)).wr W466 (ge_new ha245 X0)).wr W470 (ge_new ha245 X0)).wr W474 (ge_new ha245 X0)).wr W478 (ge_new ha245 X0)).wr W482 (ge_new ha245 X0)).wr W486 (ge_new ha245 X0)).wr W490 (ge_new ha245 X0)).wr W494 (ge_new ha245 X0)).wr W498 (ge_new ha245 X0)).wr W502 (ge_new ha245 X0))
    exact bl_5 hw hE hPL hcs hwd n0 o h501 q505 p0 p1 p2 p3 p4 c4 c9 c14 a242 kc244 ([97, 98, 99, 100, 101, 102, 103, 104, 105, 106, 107, 108, 109, 110, 111, 112, 113, 114, 115, 116, 117, 118, 119, 120, 121, 122, 65, 66, 67, 68, 69, 70, 71, 72, 73, 74, 75, 76, 77, 78, 79, 80, 81, 82, 83, 84, 85, 86, 87, 88, 89, 90, 48, 49, 50, 51, 52, 53, 54, 55, 56, 57, 45, 95]) zc fm Sc nzc Sf rf Sa Sh Sl V504 rfl base5_ok base5_u l5 l10 (ge_new ha245 X0)
  · refine g_iload o (pc := 27) at_27 rfl ?_
    refine g_ifCN o (pc := 29) at_29 (t := 45) (by decide) rfl c_ne (fun _ => ?_) (fun hn506 => absurd hn506 (by decide))
    refine g_iload o (pc := 45) at_45 rfl ?_
    refine g_iconst o (pc := 47) at_47 (v := 1) rfl ?_
    refine g_icmpN o (pc := 48) at_48 (t := 65) (by decide) rfl c_ne (fun _ => ?_) (fun hn507 => absurd hn507 (by decide))
    refine g_iload o (pc := 65) at_65 rfl ?_
    refine g_iconst o (pc := 67) at_67 (v := 2) rfl ?_
    refine g_icmpN o (pc := 68) at_68 (t := 93) (by decide) rfl c_ne (fun _ => ?_) (fun hn508 => absurd hn508 (by decide))
    refine g_iload o (pc := 93) at_93 rfl ?_
    refine g_iconst o (pc := 95) at_95 (v := 3) rfl ?_
    refine g_icmpN o (pc := 96) at_96 (t := 156) (by decide) rfl c_ne (fun _ => ?_) (fun hn509 => absurd hn509 (by decide))
    refine g_iload o (pc := 156) at_156 rfl ?_
    refine g_iconst o (pc := 158) at_158 (v := 4) rfl ?_
    refine g_icmpN o (pc := 159) at_159 (t := 232) (by decide) rfl c_ne (fun _ => ?_) (fun hn510 => absurd hn510 (by decide))
    refine g_iload o (pc := 232) at_232 rfl ?_
    refine g_iconst o (pc := 234) at_234 (v := 5) rfl ?_
    refine g_icmpN o (pc := 235) at_235 (t := 625) (by decide) rfl c_ne (fun _ => ?_) (fun hn511 => absurd hn511 (by decide))
    refine g_bipush o (pc := 625) at_625 (v := 65) rfl ?_
    refine g_newarr o (pc := 627) at_627 (dv := .int 0) rfl rfl (wd_10 hw) (by decide) (m := 65) (by decide) (by decide) (by decide) (by decide) (M' := fun a => a :: []) (fun _ _ q => (List.mem_cons.mp q).elim Or.inr Or.inl) fun a512 h513 kc514 ha515 E516 V517 => ?_
    have V518 : Arv Z h513 a512 kc514 .char 65 [.int 0, .int 0, .int 0, .int 0, .int 0, .int 0, .int 0, .int 0, .int 0, .int 0, .int 0, .int 0, .int 0, .int 0, .int 0, .int 0, .int 0, .int 0, .int 0, .int 0, .int 0, .int 0, .int 0, .int 0, .int 0, .int 0, .int 0, .int 0, .int 0, .int 0, .int 0, .int 0, .int 0, .int 0, .int 0, .int 0, .int 0, .int 0, .int 0, .int 0, .int 0, .int 0, .int 0, .int 0, .int 0, .int 0, .int 0, .int 0, .int 0, .int 0, .int 0, .int 0, .int 0, .int 0, .int 0, .int 0, .int 0, .int 0, .int 0, .int 0, .int 0, .int 0, .int 0, .int 0, .int 0] (.int 0) := V517
    refine g_dup o (pc := 629) at_629 rfl ?_
    refine g_iconst o (pc := 630) at_630 (v := 0) rfl ?_
    refine g_bipush o (pc := 631) at_631 (v := 97) rfl ?_
    refine g_castore o (pc := 633) at_633 V518 rfl (by decide) (i := 0) rfl (Nat.le_of_ble_eq_true rfl) (y := 97) rfl (ge_new ha515 X0) (Or.inr (Or.inl (by simp))) fun h519 W520 V521 => ?_
    have V522 : Arv Z h519 a512 kc514 .char 65 [.int 97, .int 0, .int 0, .int 0, .int 0, .int 0, .int 0, .int 0, .int 0, .int 0, .int 0, .int 0, .int 0, .int 0, .int 0, .int 0, .int 0, .int 0, .int 0, .int 0, .int 0, .int 0, .int 0, .int 0, .int 0, .int 0, .int 0, .int 0, .int 0, .int 0, .int 0, .int 0, .int 0, .int 0, .int 0, .int 0, .int 0, .int 0, .int 0, .int 0, .int 0, .int 0, .int 0, .int 0, .int 0, .int 0, .int 0, .int 0, .int 0, .int 0, .int 0, .int 0, .int 0, .int 0, .int 0, .int 0, .int 0, .int 0, .int 0, .int 0, .int 0, .int 0, .int 0, .int 0, .int 0] (.int 0) := V521
    refine g_dup o (pc := 634) at_634 rfl ?_
    refine g_iconst o (pc := 635) at_635 (v := 1) rfl ?_
    refine g_bipush o (pc := 636) at_636 (v := 98) rfl ?_
    refine g_castore o (pc := 638) at_638 V522 rfl (by decide) (i := 1) rfl (Nat.le_of_ble_eq_true rfl) (y := 98) rfl (ge_new ha515 X0) (Or.inr (Or.inl (by simp))) fun h523 W524 V525 => ?_
    have V526 : Arv Z h523 a512 kc514 .char 65 [.int 97, .int 98, .int 0, .int 0, .int 0, .int 0, .int 0, .int 0, .int 0, .int 0, .int 0, .int 0, .int 0, .int 0, .int 0, .int 0, .int 0, .int 0, .int 0, .int 0, .int 0, .int 0, .int 0, .int 0, .int 0, .int 0, .int 0, .int 0, .int 0, .int 0, .int 0, .int 0, .int 0, .int 0, .int 0, .int 0, .int 0, .int 0, .int 0, .int 0, .int 0, .int 0, .int 0, .int 0, .int 0, .int 0, .int 0, .int 0, .int 0, .int 0, .int 0, .int 0, .int 0, .int 0, .int 0, .int 0, .int 0, .int 0, .int 0, .int 0, .int 0, .int 0, .int 0, .int 0, .int 0] (.int 0) := V525
    refine g_dup o (pc := 639) at_639 rfl ?_
    refine g_iconst o (pc := 640) at_640 (v := 2) rfl ?_
    refine g_bipush o (pc := 641) at_641 (v := 99) rfl ?_
    refine g_castore o (pc := 643) at_643 V526 rfl (by decide) (i := 2) rfl (Nat.le_of_ble_eq_true rfl) (y := 99) rfl (ge_new ha515 X0) (Or.inr (Or.inl (by simp))) fun h527 W528 V529 => ?_
    have V530 : Arv Z h527 a512 kc514 .char 65 [.int 97, .int 98, .int 99, .int 0, .int 0, .int 0, .int 0, .int 0, .int 0, .int 0, .int 0, .int 0, .int 0, .int 0, .int 0, .int 0, .int 0, .int 0, .int 0, .int 0, .int 0, .int 0, .int 0, .int 0, .int 0, .int 0, .int 0, .int 0, .int 0, .int 0, .int 0, .int 0, .int 0, .int 0, .int 0, .int 0, .int 0, .int 0, .int 0, .int 0, .int 0, .int 0, .int 0, .int 0, .int 0, .int 0, .int 0, .int 0, .int 0, .int 0, .int 0, .int 0, .int 0, .int 0, .int 0, .int 0, .int 0, .int 0, .int 0, .int 0, .int 0, .int 0, .int 0, .int 0, .int 0] (.int 0) := V529
    refine g_dup o (pc := 644) at_644 rfl ?_
    refine g_iconst o (pc := 645) at_645 (v := 3) rfl ?_
    refine g_bipush o (pc := 646) at_646 (v := 100) rfl ?_
    refine g_castore o (pc := 648) at_648 V530 rfl (by decide) (i := 3) rfl (Nat.le_of_ble_eq_true rfl) (y := 100) rfl (ge_new ha515 X0) (Or.inr (Or.inl (by simp))) fun h531 W532 V533 => ?_
    have V534 : Arv Z h531 a512 kc514 .char 65 [.int 97, .int 98, .int 99, .int 100, .int 0, .int 0, .int 0, .int 0, .int 0, .int 0, .int 0, .int 0, .int 0, .int 0, .int 0, .int 0, .int 0, .int 0, .int 0, .int 0, .int 0, .int 0, .int 0, .int 0, .int 0, .int 0, .int 0, .int 0, .int 0, .int 0, .int 0, .int 0, .int 0, .int 0, .int 0, .int 0, .int 0, .int 0, .int 0, .int 0, .int 0, .int 0, .int 0, .int 0, .int 0, .int 0, .int 0, .int 0, .int 0, .int 0, .int 0, .int 0, .int 0, .int 0, .int 0, .int 0, .int 0, .int 0, .int 0, .int 0, .int 0, .int 0, .int 0, .int 0, .int 0] (.int 0) := V533
    refine g_dup o (pc := 649) at_649 rfl ?_
    refine g_iconst o (pc := 650) at_650 (v := 4) rfl ?_
    refine g_bipush o (pc := 651) at_651 (v := 101) rfl ?_
    refine g_castore o (pc := 653) at_653 V534 rfl (by decide) (i := 4) rfl (Nat.le_of_ble_eq_true rfl) (y := 101) rfl (ge_new ha515 X0) (Or.inr (Or.inl (by simp))) fun h535 W536 V537 => ?_
    have V538 : Arv Z h535 a512 kc514 .char 65 [.int 97, .int 98, .int 99, .int 100, .int 101, .int 0, .int 0, .int 0, .int 0, .int 0, .int 0, .int 0, .int 0, .int 0, .int 0, .int 0, .int 0, .int 0, .int 0, .int 0, .int 0, .int 0, .int 0, .int 0, .int 0, .int 0, .int 0, .int 0, .int 0, .int 0, .int 0, .int 0, .int 0, .int 0, .int 0, .int 0, .int 0, .int 0, .int 0, .int 0, .int 0, .int 0, .int 0, .int 0, .int 0, .int 0, .int 0, .int 0, .int 0, .int 0, .int 0, .int 0, .int 0, .int 0, .int 0, .int 0, .int 0, .int 0, .int 0, .int 0, .int 0, .int 0, .int 0, .int 0, .int 0] (.int 0) := V537
    refine g_dup o (pc := 654) at_654 rfl ?_
    refine g_iconst o (pc := 655) at_655 (v := 5) rfl ?_
    refine g_bipush o (pc := 656) at_656 (v := 102) rfl ?_
    refine g_castore o (pc := 658) at_658 V538 rfl (by decide) (i := 5) rfl (Nat.le_of_ble_eq_true rfl) (y := 102) rfl (ge_new ha515 X0) (Or.inr (Or.inl (by simp))) fun h539 W540 V541 => ?_
    have V542 : Arv Z h539 a512 kc514 .char 65 [.int 97, .int 98, .int 99, .int 100, .int 101, .int 102, .int 0, .int 0, .int 0, .int 0, .int 0, .int 0, .int 0, .int 0, .int 0, .int 0, .int 0, .int 0, .int 0, .int 0, .int 0, .int 0, .int 0, .int 0, .int 0, .int 0, .int 0, .int 0, .int 0, .int 0, .int 0, .int 0, .int 0, .int 0, .int 0, .int 0, .int 0, .int 0, .int 0, .int 0, .int 0, .int 0, .int 0, .int 0, .int 0, .int 0, .int 0, .int 0, .int 0, .int 0, .int 0, .int 0, .int 0, .int 0, .int 0, .int 0, .int 0, .int 0, .int 0, .int 0, .int 0, .int 0, .int 0, .int 0, .int 0] (.int 0) := V541
    refine g_dup o (pc := 659) at_659 rfl ?_
    refine g_bipush o (pc := 660) at_660 (v := 6) rfl ?_
    refine g_bipush o (pc := 662) at_662 (v := 103) rfl ?_
    refine g_castore o (pc := 664) at_664 V542 rfl (by decide) (i := 6) rfl (Nat.le_of_ble_eq_true rfl) (y := 103) rfl (ge_new ha515 X0) (Or.inr (Or.inl (by simp))) fun h543 W544 V545 => ?_
    have V546 : Arv Z h543 a512 kc514 .char 65 [.int 97, .int 98, .int 99, .int 100, .int 101, .int 102, .int 103, .int 0, .int 0, .int 0, .int 0, .int 0, .int 0, .int 0, .int 0, .int 0, .int 0, .int 0, .int 0, .int 0, .int 0, .int 0, .int 0, .int 0, .int 0, .int 0, .int 0, .int 0, .int 0, .int 0, .int 0, .int 0, .int 0, .int 0, .int 0, .int 0, .int 0, .int 0, .int 0, .int 0, .int 0, .int 0, .int 0, .int 0, .int 0, .int 0, .int 0, .int 0, .int 0, .int 0, .int 0, .int 0, .int 0, .int 0, .int 0, .int 0, .int 0, .int 0, .int 0, .int 0, .int 0, .int 0, .int 0, .int 0, .int 0] (.int 0) := V545
    refine g_dup o (pc := 665) at_665 rfl ?_
    refine g_bipush o (pc := 666) at_666 (v := 7) rfl ?_
    refine g_bipush o (pc := 668) at_668 (v := 104) rfl ?_
    refine g_castore o (pc := 670) at_670 V546 rfl (by decide) (i := 7) rfl (Nat.le_of_ble_eq_true rfl) (y := 104) rfl (ge_new ha515 X0) (Or.inr (Or.inl (by simp))) fun h547 W548 V549 => ?_
    have V550 : Arv Z h547 a512 kc514 .char 65 [.int 97, .int 98, .int 99, .int 100, .int 101, .int 102, .int 103, .int 104, .int 0, .int 0, .int 0, .int 0, .int 0, .int 0, .int 0, .int 0, .int 0, .int 0, .int 0, .int 0, .int 0, .int 0, .int 0, .int 0, .int 0, .int 0, .int 0, .int 0, .int 0, .int 0, .int 0, .int 0, .int 0, .int 0, .int 0, .int 0, .int 0, .int 0, .int 0, .int 0, .int 0, .int 0, .int 0, .int 0, .int 0, .int 0, .int 0, .int 0, .int 0, .int 0, .int 0, .int 0, .int 0, .int 0, .int 0, .int 0, .int 0, .int 0, .int 0, .int 0, .int 0, .int 0, .int 0, .int 0, .int 0] (.int 0) := V549
    refine g_dup o (pc := 671) at_671 rfl ?_
    refine g_bipush o (pc := 672) at_672 (v := 8) rfl ?_
    refine g_bipush o (pc := 674) at_674 (v := 105) rfl ?_
    refine g_castore o (pc := 676) at_676 V550 rfl (by decide) (i := 8) rfl (Nat.le_of_ble_eq_true rfl) (y := 105) rfl (ge_new ha515 X0) (Or.inr (Or.inl (by simp))) fun h551 W552 V553 => ?_
    have V554 : Arv Z h551 a512 kc514 .char 65 [.int 97, .int 98, .int 99, .int 100, .int 101, .int 102, .int 103, .int 104, .int 105, .int 0, .int 0, .int 0, .int 0, .int 0, .int 0, .int 0, .int 0, .int 0, .int 0, .int 0, .int 0, .int 0, .int 0, .int 0, .int 0, .int 0, .int 0, .int 0, .int 0, .int 0, .int 0, .int 0, .int 0, .int 0, .int 0, .int 0, .int 0, .int 0, .int 0, .int 0, .int 0, .int 0, .int 0, .int 0, .int 0, .int 0, .int 0, .int 0, .int 0, .int 0, .int 0, .int 0, .int 0, .int 0, .int 0, .int 0, .int 0, .int 0, .int 0, .int 0, .int 0, .int 0, .int 0, .int 0, .int 0] (.int 0) := V553
    refine g_dup o (pc := 677) at_677 rfl ?_
    refine g_bipush o (pc := 678) at_678 (v := 9) rfl ?_
    refine g_bipush o (pc := 680) at_680 (v := 106) rfl ?_
    refine g_castore o (pc := 682) at_682 V554 rfl (by decide) (i := 9) rfl (Nat.le_of_ble_eq_true rfl) (y := 106) rfl (ge_new ha515 X0) (Or.inr (Or.inl (by simp))) fun h555 W556 V557 => ?_
    have V558 : Arv Z h555 a512 kc514 .char 65 [.int 97, .int 98, .int 99, .int 100, .int 101, .int 102, .int 103, .int 104, .int 105, .int 106, .int 0, .int 0, .int 0, .int 0, .int 0, .int 0, .int 0, .int 0, .int 0, .int 0, .int 0, .int 0, .int 0, .int 0, .int 0, .int 0, .int 0, .int 0, .int 0, .int 0, .int 0, .int 0, .int 0, .int 0, .int 0, .int 0, .int 0, .int 0, .int 0, .int 0, .int 0, .int 0, .int 0, .int 0, .int 0, .int 0, .int 0, .int 0, .int 0, .int 0, .int 0, .int 0, .int 0, .int 0, .int 0, .int 0, .int 0, .int 0, .int 0, .int 0, .int 0, .int 0, .int 0, .int 0, .int 0] (.int 0) := V557
    refine g_dup o (pc := 683) at_683 rfl ?_
    refine g_bipush o (pc := 684) at_684 (v := 10) rfl ?_
    refine g_bipush o (pc := 686) at_686 (v := 107) rfl ?_
    refine g_castore o (pc := 688) at_688 V558 rfl (by decide) (i := 10) rfl (Nat.le_of_ble_eq_true rfl) (y := 107) rfl (ge_new ha515 X0) (Or.inr (Or.inl (by simp))) fun h559 W560 V561 => ?_
    have V562 : Arv Z h559 a512 kc514 .char 65 [.int 97, .int 98, .int 99, .int 100, .int 101, .int 102, .int 103, .int 104, .int 105, .int 106, .int 107, .int 0, .int 0, .int 0, .int 0, .int 0, .int 0, .int 0, .int 0, .int 0, .int 0, .int 0, .int 0, .int 0, .int 0, .int 0, .int 0, .int 0, .int 0, .int 0, .int 0, .int 0, .int 0, .int 0, .int 0, .int 0, .int 0, .int 0, .int 0, .int 0, .int 0, .int 0, .int 0, .int 0, .int 0, .int 0, .int 0, .int 0, .int 0, .int 0, .int 0, .int 0, .int 0, .int 0, .int 0, .int 0, .int 0, .int 0, .int 0, .int 0, .int 0, .int 0, .int 0, .int 0, .int 0] (.int 0) := V561
    refine g_dup o (pc := 689) at_689 rfl ?_
    refine g_bipush o (pc := 690) at_690 (v := 11) rfl ?_
    refine g_bipush o (pc := 692) at_692 (v := 108) rfl ?_
    refine g_castore o (pc := 694) at_694 V562 rfl (by decide) (i := 11) rfl (Nat.le_of_ble_eq_true rfl) (y := 108) rfl (ge_new ha515 X0) (Or.inr (Or.inl (by simp))) fun h563 W564 V565 => ?_
    have V566 : Arv Z h563 a512 kc514 .char 65 [.int 97, .int 98, .int 99, .int 100, .int 101, .int 102, .int 103, .int 104, .int 105, .int 106, .int 107, .int 108, .int 0, .int 0, .int 0, .int 0, .int 0, .int 0, .int 0, .int 0, .int 0, .int 0, .int 0, .int 0, .int 0, .int 0, .int 0, .int 0, .int 0, .int 0, .int 0, .int 0, .int 0, .int 0, .int 0, .int 0, .int 0, .int 0, .int 0, .int 0, .int 0, .int 0, .int 0, .int 0, .int 0, .int 0, .int 0, .int 0, .int 0, .int 0, .int 0, .int 0, .int 0, .int 0, .int 0, .int 0, .int 0, .int 0, .int 0, .int 0, .int 0, .int 0, .int 0, .int 0, .int 0] (.int 0) := V565
    refine g_dup o (pc := 695) at_695 rfl ?_
    refine g_bipush o (pc := 696) at_696 (v := 12) rfl ?_
    refine g_bipush o (pc := 698) at_698 (v := 109) rfl ?_
    refine g_castore o (pc := 700) at_700 V566 rfl (by decide) (i := 12) rfl (Nat.le_of_ble_eq_true rfl) (y := 109) rfl (ge_new ha515 X0) (Or.inr (Or.inl (by simp))) fun h567 W568 V569 => ?_
    have V570 : Arv Z h567 a512 kc514 .char 65 [.int 97, .int 98, .int 99, .int 100, .int 101, .int 102, .int 103, .int 104, .int 105, .int 106, .int 107, .int 108, .int 109, .int 0, .int 0, .int 0, .int 0, .int 0, .int 0, .int 0, .int 0, .int 0, .int 0, .int 0, .int 0, .int 0, .int 0, .int 0, .int 0, .int 0, .int 0, .int 0, .int 0, .int 0, .int 0, .int 0, .int 0, .int 0, .int 0, .int 0, .int 0, .int 0, .int 0, .int 0, .int 0, .int 0, .int 0, .int 0, .int 0, .int 0, .int 0, .int 0, .int 0, .int 0, .int 0, .int 0, .int 0, .int 0, .int 0, .int 0, .int 0, .int 0, .int 0, .int 0, .int 0] (.int 0) := V569
    refine g_dup o (pc := 701) at_701 rfl ?_
    refine g_bipush o (pc := 702) at_702 (v := 13) rfl ?_
    refine g_bipush o (pc := 704) at_704 (v := 110) rfl ?_
    refine g_castore o (pc := 706) at_706 V570 rfl (by decide) (i := 13) rfl (Nat.le_of_ble_eq_true rfl) (y := 110) rfl (ge_new ha515 X0) (Or.inr (Or.inl (by simp))) fun h571 W572 V573 => ?_
    have V574 : Arv Z h571 a512 kc514 .char 65 [.int 97, .int 98, .int 99, .int 100, .int 101, .int 102, .int 103, .int 104, .int 105, .int 106, .int 107, .int 108, .int 109, .int 110, .int 0, .int 0, .int 0, .int 0, .int 0, .int 0, .int 0, .int 0, .int 0, .int 0, .int 0, .int 0, .int 0, .int 0, .int 0, .int 0, .int 0, .int 0, .int 0, .int 0, .int 0, .int 0, .int 0, .int 0, .int 0, .int 0, .int 0, .int 0, .int 0, .int 0, .int 0, .int 0, .int 0, .int 0, .int 0, .int 0, .int 0, .int 0, .int 0, .int 0, .int 0, .int 0, .int 0, .int 0, .int 0, .int 0, .int 0, .int 0, .int 0, .int 0, .int 0] (.int 0) := V573
    refine g_dup o (pc := 707) at_707 rfl ?_
    refine g_bipush o (pc := 708) at_708 (v := 14) rfl ?_
    refine g_bipush o (pc := 710) at_710 (v := 111) rfl ?_
    refine g_castore o (pc := 712) at_712 V574 rfl (by decide) (i := 14) rfl (Nat.le_of_ble_eq_true rfl) (y := 111) rfl (ge_new ha515 X0) (Or.inr (Or.inl (by simp))) fun h575 W576 V577 => ?_
    have V578 : Arv Z h575 a512 kc514 .char 65 [.int 97, .int 98, .int 99, .int 100, .int 101, .int 102, .int 103, .int 104, .int 105, .int 106, .int 107, .int 108, .int 109, .int 110, .int 111, .int 0, .int 0, .int 0, .int 0, .int 0, .int 0, .int 0, .int 0, .int 0, .int 0, .int 0, .int 0, .int 0, .int 0, .int 0, .int 0, .int 0, .int 0, .int 0, .int 0, .int 0, .int 0, .int 0, .int 0, .int 0, .int 0, .int 0, .int 0, .int 0, .int 0, .int 0, .int 0, .int 0, .int 0, .int 0, .int 0, .int 0, .int 0, .int 0, .int 0, .int 0, .int 0, .int 0, .int 0, .int 0, .int 0, .int 0, .int 0, .int 0, .int 0] (.int 0) := V577
    refine g_dup o (pc := 713) at_713 rfl ?_
    refine g_bipush o (pc := 714) at_714 (v := 15) rfl ?_
    refine g_bipush o (pc := 716) at_716 (v := 112) rfl ?_
    refine g_castore o (pc := 718) at_718 V578 rfl (by decide) (i := 15) rfl (Nat.le_of_ble_eq_true rfl) (y := 112) rfl (ge_new ha515 X0) (Or.inr (Or.inl (by simp))) fun h579 W580 V581 => ?_
    have V582 : Arv Z h579 a512 kc514 .char 65 [.int 97, .int 98, .int 99, .int 100, .int 101, .int 102, .int 103, .int 104, .int 105, .int 106, .int 107, .int 108, .int 109, .int 110, .int 111, .int 112, .int 0, .int 0, .int 0, .int 0, .int 0, .int 0, .int 0, .int 0, .int 0, .int 0, .int 0, .int 0, .int 0, .int 0, .int 0, .int 0, .int 0, .int 0, .int 0, .int 0, .int 0, .int 0, .int 0, .int 0, .int 0, .int 0, .int 0, .int 0, .int 0, .int 0, .int 0, .int 0, .int 0, .int 0, .int 0, .int 0, .int 0, .int 0, .int 0, .int 0, .int 0, .int 0, .int 0, .int 0, .int 0, .int 0, .int 0, .int 0, .int 0] (.int 0) := V581
    refine g_dup o (pc := 719) at_719 rfl ?_
    refine g_bipush o (pc := 720) at_720 (v := 16) rfl ?_
    refine g_bipush o (pc := 722) at_722 (v := 113) rfl ?_
    refine g_castore o (pc := 724) at_724 V582 rfl (by decide) (i := 16) rfl (Nat.le_of_ble_eq_true rfl) (y := 113) rfl (ge_new ha515 X0) (Or.inr (Or.inl (by simp))) fun h583 W584 V585 => ?_
    have V586 : Arv Z h583 a512 kc514 .char 65 [.int 97, .int 98, .int 99, .int 100, .int 101, .int 102, .int 103, .int 104, .int 105, .int 106, .int 107, .int 108, .int 109, .int 110, .int 111, .int 112, .int 113, .int 0, .int 0, .int 0, .int 0, .int 0, .int 0, .int 0, .int 0, .int 0, .int 0, .int 0, .int 0, .int 0, .int 0, .int 0, .int 0, .int 0, .int 0, .int 0, .int 0, .int 0, .int 0, .int 0, .int 0, .int 0, .int 0, .int 0, .int 0, .int 0, .int 0, .int 0, .int 0, .int 0, .int 0, .int 0, .int 0, .int 0, .int 0, .int 0, .int 0, .int 0, .int 0, .int 0, .int 0, .int 0, .int 0, .int 0, .int 0] (.int 0) := V585
    refine g_dup o (pc := 725) at_725 rfl ?_
    refine g_bipush o (pc := 726) at_726 (v := 17) rfl ?_
    refine g_bipush o (pc := 728) at_728 (v := 114) rfl ?_
    refine g_castore o (pc := 730) at_730 V586 rfl (by decide) (i := 17) rfl (Nat.le_of_ble_eq_true rfl) (y := 114) rfl (ge_new ha515 X0) (Or.inr (Or.inl (by simp))) fun h587 W588 V589 => ?_
    have V590 : Arv Z h587 a512 kc514 .char 65 [.int 97, .int 98, .int 99, .int 100, .int 101, .int 102, .int 103, .int 104, .int 105, .int 106, .int 107, .int 108, .int 109, .int 110, .int 111, .int 112, .int 113, .int 114, .int 0, .int 0, .int 0, .int 0, .int 0, .int 0, .int 0, .int 0, .int 0, .int 0, .int 0, .int 0, .int 0, .int 0, .int 0, .int 0, .int 0, .int 0, .int 0, .int 0, .int 0, .int 0, .int 0, .int 0, .int 0, .int 0, .int 0, .int 0, .int 0, .int 0, .int 0, .int 0, .int 0, .int 0, .int 0, .int 0, .int 0, .int 0, .int 0, .int 0, .int 0, .int 0, .int 0, .int 0, .int 0, .int 0, .int 0] (.int 0) := V589
    refine g_dup o (pc := 731) at_731 rfl ?_
    refine g_bipush o (pc := 732) at_732 (v := 18) rfl ?_
    refine g_bipush o (pc := 734) at_734 (v := 115) rfl ?_
    refine g_castore o (pc := 736) at_736 V590 rfl (by decide) (i := 18) rfl (Nat.le_of_ble_eq_true rfl) (y := 115) rfl (ge_new ha515 X0) (Or.inr (Or.inl (by simp))) fun h591 W592 V593 => ?_
    have V594 : Arv Z h591 a512 kc514 .char 65 [.int 97, .int 98, .int 99, .int 100, .int 101, .int 102, .int 103, .int 104, .int 105, .int 106, .int 107, .int 108, .int 109, .int 110, .int 111, .int 112, .int 113, .int 114, .int 115, .int 0, .int 0, .int 0, .int 0, .int 0, .int 0, .int 0, .int 0, .int 0, .int 0, .int 0, .int 0, .int 0, .int 0, .int 0, .int 0, .int 0, .int 0, .int 0, .int 0, .int 0, .int 0, .int 0, .int 0, .int 0, .int 0, .int 0, .int 0, .int 0, .int 0, .int 0, .int 0, .int 0, .int 0, .int 0, .int 0, .int 0, .int 0, .int 0, .int 0, .int 0, .int 0, .int 0, .int 0, .int 0, .int 0] (.int 0) := V593
    refine g_dup o (pc := 737) at_737 rfl ?_
    refine g_bipush o (pc := 738) at_738 (v := 19) rfl ?_
    refine g_bipush o (pc := 740) at_740 (v := 116) rfl ?_
    refine g_castore o (pc := 742) at_742 V594 rfl (by decide) (i := 19) rfl (Nat.le_of_ble_eq_true rfl) (y := 116) rfl (ge_new ha515 X0) (Or.inr (Or.inl (by simp))) fun h595 W596 V597 => ?_
    have V598 : Arv Z h595 a512 kc514 .char 65 [.int 97, .int 98, .int 99, .int 100, .int 101, .int 102, .int 103, .int 104, .int 105, .int 106, .int 107, .int 108, .int 109, .int 110, .int 111, .int 112, .int 113, .int 114, .int 115, .int 116, .int 0, .int 0, .int 0, .int 0, .int 0, .int 0, .int 0, .int 0, .int 0, .int 0, .int 0, .int 0, .int 0, .int 0, .int 0, .int 0, .int 0, .int 0, .int 0, .int 0, .int 0, .int 0, .int 0, .int 0, .int 0, .int 0, .int 0, .int 0, .int 0, .int 0, .int 0, .int 0, .int 0, .int 0, .int 0, .int 0, .int 0, .int 0, .int 0, .int 0, .int 0, .int 0, .int 0, .int 0, .int 0] (.int 0) := V597
    refine g_dup o (pc := 743) at_743 rfl ?_
    refine g_bipush o (pc := 744) at_744 (v := 20) rfl ?_
    refine g_bipush o (pc := 746) at_746 (v := 117) rfl ?_
    refine g_castore o (pc := 748) at_748 V598 rfl (by decide) (i := 20) rfl (Nat.le_of_ble_eq_true rfl) (y := 117) rfl (ge_new ha515 X0) (Or.inr (Or.inl (by simp))) fun h599 W600 V601 => ?_
    have V602 : Arv Z h599 a512 kc514 .char 65 [.int 97, .int 98, .int 99, .int 100, .int 101, .int 102, .int 103, .int 104, .int 105, .int 106, .int 107, .int 108, .int 109, .int 110, .int 111, .int 112, .int 113, .int 114, .int 115, .int 116, .int 117, .int 0, .int 0, .int 0, .int 0, .int 0, .int 0, .int 0, .int 0, .int 0, .int 0, .int 0, .int 0, .int 0, .int 0, .int 0, .int 0, .int 0, .int 0, .int 0, .int 0, .int 0, .int 0, .int 0, .int 0, .int 0, .int 0, .int 0, .int 0, .int 0, .int 0, .int 0, .int 0, .int 0, .int 0, .int 0, .int 0, .int 0, .int 0, .int 0, .int 0, .int 0, .int 0, .int 0, .int 0] (.int 0) := V601
    refine g_dup o (pc := 749) at_749 rfl ?_
    refine g_bipush o (pc := 750) at_750 (v := 21) rfl ?_
    refine g_bipush o (pc := 752) at_752 (v := 118) rfl ?_
    refine g_castore o (pc := 754) at_754 V602 rfl (by decide) (i := 21) rfl (Nat.le_of_ble_eq_true rfl) (y := 118) rfl (ge_new ha515 X0) (Or.inr (Or.inl (by simp))) fun h603 W604 V605 => ?_
    have V606 : Arv Z h603 a512 kc514 .char 65 [.int 97, .int 98, .int 99, .int 100, .int 101, .int 102, .int 103, .int 104, .int 105, .int 106, .int 107, .int 108, .int 109, .int 110, .int 111, .int 112, .int 113, .int 114, .int 115, .int 116, .int 117, .int 118, .int 0, .int 0, .int 0, .int 0, .int 0, .int 0, .int 0, .int 0, .int 0, .int 0, .int 0, .int 0, .int 0, .int 0, .int 0, .int 0, .int 0, .int 0, .int 0, .int 0, .int 0, .int 0, .int 0, .int 0, .int 0, .int 0, .int 0, .int 0, .int 0, .int 0, .int 0, .int 0, .int 0, .int 0, .int 0, .int 0, .int 0, .int 0, .int 0, .int 0, .int 0, .int 0, .int 0] (.int 0) := V605
    refine g_dup o (pc := 755) at_755 rfl ?_
    refine g_bipush o (pc := 756) at_756 (v := 22) rfl ?_
    refine g_bipush o (pc := 758) at_758 (v := 119) rfl ?_
    refine g_castore o (pc := 760) at_760 V606 rfl (by decide) (i := 22) rfl (Nat.le_of_ble_eq_true rfl) (y := 119) rfl (ge_new ha515 X0) (Or.inr (Or.inl (by simp))) fun h607 W608 V609 => ?_
    have V610 : Arv Z h607 a512 kc514 .char 65 [.int 97, .int 98, .int 99, .int 100, .int 101, .int 102, .int 103, .int 104, .int 105, .int 106, .int 107, .int 108, .int 109, .int 110, .int 111, .int 112, .int 113, .int 114, .int 115, .int 116, .int 117, .int 118, .int 119, .int 0, .int 0, .int 0, .int 0, .int 0, .int 0, .int 0, .int 0, .int 0, .int 0, .int 0, .int 0, .int 0, .int 0, .int 0, .int 0, .int 0, .int 0, .int 0, .int 0, .int 0, .int 0, .int 0, .int 0, .int 0, .int 0, .int 0, .int 0, .int 0, .int 0, .int 0, .int 0, .int 0, .int 0, .int 0, .int 0, .int 0, .int 0, .int 0, .int 0, .int 0, .int 0] (.int 0) := V609
    refine g_dup o (pc := 761) at_761 rfl ?_
    refine g_bipush o (pc := 762) at_762 (v := 23) rfl ?_
    refine g_bipush o (pc := 764) at_764 (v := 120) rfl ?_
    refine g_castore o (pc := 766) at_766 V610 rfl (by decide) (i := 23) rfl (Nat.le_of_ble_eq_true rfl) (y := 120) rfl (ge_new ha515 X0) (Or.inr (Or.inl (by simp))) fun h611 W612 V613 => ?_
    have V614 : Arv Z h611 a512 kc514 .char 65 [.int 97, .int 98, .int 99, .int 100, .int 101, .int 102, .int 103, .int 104, .int 105, .int 106, .int 107, .int 108, .int 109, .int 110, .int 111, .int 112, .int 113, .int 114, .int 115, .int 116, .int 117, .int 118, .int 119, .int 120, .int 0, .int 0, .int 0, .int 0, .int 0, .int 0, .int 0, .int 0, .int 0, .int 0, .int 0, .int 0, .int 0, .int 0, .int 0, .int 0, .int 0, .int 0, .int 0, .int 0, .int 0, .int 0, .int 0, .int 0, .int 0, .int 0, .int 0, .int 0, .int 0, .int 0, .int 0, .int 0, .int 0, .int 0, .int 0, .int 0, .int 0, .int 0, .int 0, .int 0, .int 0] (.int 0) := V613
    refine g_dup o (pc := 767) at_767 rfl ?_
    refine g_bipush o (pc := 768) at_768 (v := 24) rfl ?_
    refine g_bipush o (pc := 770) at_770 (v := 121) rfl ?_
    refine g_castore o (pc := 772) at_772 V614 rfl (by decide) (i := 24) rfl (Nat.le_of_ble_eq_true rfl) (y := 121) rfl (ge_new ha515 X0) (Or.inr (Or.inl (by simp))) fun h615 W616 V617 => ?_
    have V618 : Arv Z h615 a512 kc514 .char 65 [.int 97, .int 98, .int 99, .int 100, .int 101, .int 102, .int 103, .int 104, .int 105, .int 106, .int 107, .int 108, .int 109, .int 110, .int 111, .int 112, .int 113, .int 114, .int 115, .int 116, .int 117, .int 118, .int 119, .int 120, .int 121, .int 0, .int 0, .int 0, .int 0, .int 0, .int 0, .int 0, .int 0, .int 0, .int 0, .int 0, .int 0, .int 0, .int 0, .int 0, .int 0, .int 0, .int 0, .int 0, .int 0, .int 0, .int 0, .int 0, .int 0, .int 0, .int 0, .int 0, .int 0, .int 0, .int 0, .int 0, .int 0, .int 0, .int 0, .int 0, .int 0, .int 0, .int 0, .int 0, .int 0] (.int 0) := V617
    refine g_dup o (pc := 773) at_773 rfl ?_
    refine g_bipush o (pc := 774) at_774 (v := 25) rfl ?_
    refine g_bipush o (pc := 776) at_776 (v := 122) rfl ?_
    refine g_castore o (pc := 778) at_778 V618 rfl (by decide) (i := 25) rfl (Nat.le_of_ble_eq_true rfl) (y := 122) rfl (ge_new ha515 X0) (Or.inr (Or.inl (by simp))) fun h619 W620 V621 => ?_
    have V622 : Arv Z h619 a512 kc514 .char 65 [.int 97, .int 98, .int 99, .int 100, .int 101, .int 102, .int 103, .int 104, .int 105, .int 106, .int 107, .int 108, .int 109, .int 110, .int 111, .int 112, .int 113, .int 114, .int 115, .int 116, .int 117, .int 118, .int 119, .int 120, .int 121, .int 122, .int 0, .int 0, .int 0, .int 0, .int 0, .int 0, .int 0, .int 0, .int 0, .int 0, .int 0, .int 0, .int 0, .int 0, .int 0, .int 0, .int 0, .int 0, .int 0, .int 0, .int 0, .int 0, .int 0, .int 0, .int 0, .int 0, .int 0, .int 0, .int 0, .int 0, .int 0, .int 0, .int 0, .int 0, .int 0, .int 0, .int 0, .int 0, .int 0] (.int 0) := V621
    refine g_dup o (pc := 779) at_779 rfl ?_
    refine g_bipush o (pc := 780) at_780 (v := 26) rfl ?_
    refine g_bipush o (pc := 782) at_782 (v := 65) rfl ?_
    refine g_castore o (pc := 784) at_784 V622 rfl (by decide) (i := 26) rfl (Nat.le_of_ble_eq_true rfl) (y := 65) rfl (ge_new ha515 X0) (Or.inr (Or.inl (by simp))) fun h623 W624 V625 => ?_
    have V626 : Arv Z h623 a512 kc514 .char 65 [.int 97, .int 98, .int 99, .int 100, .int 101, .int 102, .int 103, .int 104, .int 105, .int 106, .int 107, .int 108, .int 109, .int 110, .int 111, .int 112, .int 113, .int 114, .int 115, .int 116, .int 117, .int 118, .int 119, .int 120, .int 121, .int 122, .int 65, .int 0, .int 0, .int 0, .int 0, .int 0, .int 0, .int 0, .int 0, .int 0, .int 0, .int 0, .int 0, .int 0, .int 0, .int 0, .int 0, .int 0, .int 0, .int 0, .int 0, .int 0, .int 0, .int 0, .int 0, .int 0, .int 0, .int 0, .int 0, .int 0, .int 0, .int 0, .int 0, .int 0, .int 0, .int 0, .int 0, .int 0, .int 0] (.int 0) := V625
    refine g_dup o (pc := 785) at_785 rfl ?_
    refine g_bipush o (pc := 786) at_786 (v := 27) rfl ?_
    refine g_bipush o (pc := 788) at_788 (v := 66) rfl ?_
    refine g_castore o (pc := 790) at_790 V626 rfl (by decide) (i := 27) rfl (Nat.le_of_ble_eq_true rfl) (y := 66) rfl (ge_new ha515 X0) (Or.inr (Or.inl (by simp))) fun h627 W628 V629 => ?_
    have V630 : Arv Z h627 a512 kc514 .char 65 [.int 97, .int 98, .int 99, .int 100, .int 101, .int 102, .int 103, .int 104, .int 105, .int 106, .int 107, .int 108, .int 109, .int 110, .int 111, .int 112, .int 113, .int 114, .int 115, .int 116, .int 117, .int 118, .int 119, .int 120, .int 121, .int 122, .int 65, .int 66, .int 0, .int 0, .int 0, .int 0, .int 0, .int 0, .int 0, .int 0, .int 0, .int 0, .int 0, .int 0, .int 0, .int 0, .int 0, .int 0, .int 0, .int 0, .int 0, .int 0, .int 0, .int 0, .int 0, .int 0, .int 0, .int 0, .int 0, .int 0, .int 0, .int 0, .int 0, .int 0, .int 0, .int 0, .int 0, .int 0, .int 0] (.int 0) := V629
    refine g_dup o (pc := 791) at_791 rfl ?_
    refine g_bipush o (pc := 792) at_792 (v := 28) rfl ?_
    refine g_bipush o (pc := 794) at_794 (v := 67) rfl ?_
    refine g_castore o (pc := 796) at_796 V630 rfl (by decide) (i := 28) rfl (Nat.le_of_ble_eq_true rfl) (y := 67) rfl (ge_new ha515 X0) (Or.inr (Or.inl (by simp))) fun h631 W632 V633 => ?_
    have V634 : Arv Z h631 a512 kc514 .char 65 [.int 97, .int 98, .int 99, .int 100, .int 101, .int 102, .int 103, .int 104, .int 105, .int 106, .int 107, .int 108, .int 109, .int 110, .int 111, .int 112, .int 113, .int 114, .int 115, .int 116, .int 117, .int 118, .int 119, .int 120, .int 121, .int 122, .int 65, .int 66, .int 67, .int 0, .int 0, .int 0, .int 0, .int 0, .int 0, .int 0, .int 0, .int 0, .int 0, .int 0, .int 0, .int 0, .int 0, .int 0, .int 0, .int 0, .int 0, .int 0, .int 0, .int 0, .int 0, .int 0, .int 0, .int 0, .int 0, .int 0, .int 0, .int 0, .int 0, .int 0, .int 0, .int 0, .int 0, .int 0, .int 0] (.int 0) := V633
    refine g_dup o (pc := 797) at_797 rfl ?_
    refine g_bipush o (pc := 798) at_798 (v := 29) rfl ?_
    refine g_bipush o (pc := 800) at_800 (v := 68) rfl ?_
    refine g_castore o (pc := 802) at_802 V634 rfl (by decide) (i := 29) rfl (Nat.le_of_ble_eq_true rfl) (y := 68) rfl (ge_new ha515 X0) (Or.inr (Or.inl (by simp))) fun h635 W636 V637 => ?_
    have V638 : Arv Z h635 a512 kc514 .char 65 [.int 97, .int 98, .int 99, .int 100, .int 101, .int 102, .int 103, .int 104, .int 105, .int 106, .int 107, .int 108, .int 109, .int 110, .int 111, .int 112, .int 113, .int 114, .int 115, .int 116, .int 117, .int 118, .int 119, .int 120, .int 121, .int 122, .int 65, .int 66, .int 67, .int 68, .int 0, .int 0, .int 0, .int 0, .int 0, .int 0, .int 0, .int 0, .int 0, .int 0, .int 0, .int 0, .int 0, .int 0, .int 0, .int 0, .int 0, .int 0, .int 0, .int 0, .int 0, .int 0, .int 0, .int 0, .int 0, .int 0, .int 0, .int 0, .int 0, .int 0, .int 0, .int 0, .int 0, .int 0, .int 0] (.int 0) := V637
    refine g_dup o (pc := 803) at_803 rfl ?_
    refine g_bipush o (pc := 804) at_804 (v := 30) rfl ?_
    refine g_bipush o (pc := 806) at_806 (v := 69) rfl ?_
    refine g_castore o (pc := 808) at_808 V638 rfl (by decide) (i := 30) rfl (Nat.le_of_ble_eq_true rfl) (y := 69) rfl (ge_new ha515 X0) (Or.inr (Or.inl (by simp))) fun h639 W640 V641 => ?_
    have V642 : Arv Z h639 a512 kc514 .char 65 [.int 97, .int 98, .int 99, .int 100, .int 101, .int 102, .int 103, .int 104, .int 105, .int 106, .int 107, .int 108, .int 109, .int 110, .int 111, .int 112, .int 113, .int 114, .int 115, .int 116, .int 117, .int 118, .int 119, .int 120, .int 121, .int 122, .int 65, .int 66, .int 67, .int 68, .int 69, .int 0, .int 0, .int 0, .int 0, .int 0, .int 0, .int 0, .int 0, .int 0, .int 0, .int 0, .int 0, .int 0, .int 0, .int 0, .int 0, .int 0, .int 0, .int 0, .int 0, .int 0, .int 0, .int 0, .int 0, .int 0, .int 0, .int 0, .int 0, .int 0, .int 0, .int 0, .int 0, .int 0, .int 0] (.int 0) := V641
    refine g_dup o (pc := 809) at_809 rfl ?_
    refine g_bipush o (pc := 810) at_810 (v := 31) rfl ?_
    refine g_bipush o (pc := 812) at_812 (v := 70) rfl ?_
    refine g_castore o (pc := 814) at_814 V642 rfl (by decide) (i := 31) rfl (Nat.le_of_ble_eq_true rfl) (y := 70) rfl (ge_new ha515 X0) (Or.inr (Or.inl (by simp))) fun h643 W644 V645 => ?_
    have V646 : Arv Z h643 a512 kc514 .char 65 [.int 97, .int 98, .int 99, .int 100, .int 101, .int 102, .int 103, .int 104, .int 105, .int 106, .int 107, .int 108, .int 109, .int 110, .int 111, .int 112, .int 113, .int 114, .int 115, .int 116, .int 117, .int 118, .int 119, .int 120, .int 121, .int 122, .int 65, .int 66, .int 67, .int 68, .int 69, .int 70, .int 0, .int 0, .int 0, .int 0, .int 0, .int 0, .int 0, .int 0, .int 0, .int 0, .int 0, .int 0, .int 0, .int 0, .int 0, .int 0, .int 0, .int 0, .int 0, .int 0, .int 0, .int 0, .int 0, .int 0, .int 0, .int 0, .int 0, .int 0, .int 0, .int 0, .int 0, .int 0, .int 0] (.int 0) := V645
    refine g_dup o (pc := 815) at_815 rfl ?_
    refine g_bipush o (pc := 816) at_816 (v := 32) rfl ?_
    refine g_bipush o (pc := 818) at_818 (v := 71) rfl ?_
    refine g_castore o (pc := 820) at_820 V646 rfl (by decide) (i := 32) rfl (Nat.le_of_ble_eq_true rfl) (y := 71) rfl (ge_new ha515 X0) (Or.inr (Or.inl (by simp))) fun h647 W648 V649 => ?_
    have V650 : Arv Z h647 a512 kc514 .char 65 [.int 97, .int 98, .int 99, .int 100, .int 101, .int 102, .int 103, .int 104, .int 105, .int 106, .int 107, .int 108, .int 109, .int 110, .int 111, .int 112, .int 113, .int 114, .int 115, .int 116, .int 117, .int 118, .int 119, .int 120, .int 121, .int 122, .int 65, .int 66, .int 67, .int 68, .int 69, .int 70, .int 71, .int 0, .int 0, .int 0, .int 0, .int 0, .int 0, .int 0, .int 0, .int 0, .int 0, .int 0, .int 0, .int 0, .int 0, .int 0, .int 0, .int 0, .int 0, .int 0, .int 0, .int 0, .int 0, .int 0, .int 0, .int 0, .int 0, .int 0, .int 0, .int 0, .int 0, .int 0, .int 0] (.int 0) := V649
    refine g_dup o (pc := 821) at_821 rfl ?_
    refine g_bipush o (pc := 822) at_822 (v := 33) rfl ?_
    refine g_bipush o (pc := 824) at_824 (v := 72) rfl ?_
    refine g_castore o (pc := 826) at_826 V650 rfl (by decide) (i := 33) rfl (Nat.le_of_ble_eq_true rfl) (y := 72) rfl (ge_new ha515 X0) (Or.inr (Or.inl (by simp))) fun h651 W652 V653 => ?_
    have V654 : Arv Z h651 a512 kc514 .char 65 [.int 97, .int 98, .int 99, .int 100, .int 101, .int 102, .int 103, .int 104, .int 105, .int 106, .int 107, .int 108, .int 109, .int 110, .int 111, .int 112, .int 113, .int 114, .int 115, .int 116, .int 117, .int 118, .int 119, .int 120, .int 121, .int 122, .int 65, .int 66, .int 67, .int 68, .int 69, .int 70, .int 71, .int 72, .int 0, .int 0, .int 0, .int 0, .int 0, .int 0, .int 0, .int 0, .int 0, .int 0, .int 0, .int 0, .int 0, .int 0, .int 0, .int 0, .int 0, .int 0, .int 0, .int 0, .int 0, .int 0, .int 0, .int 0, .int 0, .int 0, .int 0, .int 0, .int 0, .int 0, .int 0] (.int 0) := V653
    refine g_dup o (pc := 827) at_827 rfl ?_
    refine g_bipush o (pc := 828) at_828 (v := 34) rfl ?_
    refine g_bipush o (pc := 830) at_830 (v := 73) rfl ?_
    refine g_castore o (pc := 832) at_832 V654 rfl (by decide) (i := 34) rfl (Nat.le_of_ble_eq_true rfl) (y := 73) rfl (ge_new ha515 X0) (Or.inr (Or.inl (by simp))) fun h655 W656 V657 => ?_
    have V658 : Arv Z h655 a512 kc514 .char 65 [.int 97, .int 98, .int 99, .int 100, .int 101, .int 102, .int 103, .int 104, .int 105, .int 106, .int 107, .int 108, .int 109, .int 110, .int 111, .int 112, .int 113, .int 114, .int 115, .int 116, .int 117, .int 118, .int 119, .int 120, .int 121, .int 122, .int 65, .int 66, .int 67, .int 68, .int 69, .int 70, .int 71, .int 72, .int 73, .int 0, .int 0, .int 0, .int 0, .int 0, .int 0, .int 0, .int 0, .int 0, .int 0, .int 0, .int 0, .int 0, .int 0, .int 0, .int 0, .int 0, .int 0, .int 0, .int 0, .int 0, .int 0, .int 0, .int 0, .int 0, .int 0, .int 0, .int 0, .int 0, .int 0] (.int 0) := V657
    refine g_dup o (pc := 833) at_833 rfl ?_
    refine g_bipush o (pc := 834) at_834 (v := 35) rfl ?_
    refine g_bipush o (pc := 836) at_836 (v := 74) rfl ?_
    refine g_castore o (pc := 838) at_838 V658 rfl (by decide) (i := 35) rfl (Nat.le_of_ble_eq_true rfl) (y := 74) rfl (ge_new ha515 X0) (Or.inr (Or.inl (by simp))) fun h659 W660 V661 => ?_
    have V662 : Arv Z h659 a512 kc514 .char 65 [.int 97, .int 98, .int 99, .int 100, .int 101, .int 102, .int 103, .int 104, .int 105, .int 106, .int 107, .int 108, .int 109, .int 110, .int 111, .int 112, .int 113, .int 114, .int 115, .int 116, .int 117, .int 118, .int 119, .int 120, .int 121, .int 122, .int 65, .int 66, .int 67, .int 68, .int 69, .int 70, .int 71, .int 72, .int 73, .int 74, .int 0, .int 0, .int 0, .int 0, .int 0, .int 0, .int 0, .int 0, .int 0, .int 0, .int 0, .int 0, .int 0, .int 0, .int 0, .int 0, .int 0, .int 0, .int 0, .int 0, .int 0, .int 0, .int 0, .int 0, .int 0, .int 0, .int 0, .int 0, .int 0] (.int 0) := V661
    refine g_dup o (pc := 839) at_839 rfl ?_
    refine g_bipush o (pc := 840) at_840 (v := 36) rfl ?_
    refine g_bipush o (pc := 842) at_842 (v := 75) rfl ?_
    refine g_castore o (pc := 844) at_844 V662 rfl (by decide) (i := 36) rfl (Nat.le_of_ble_eq_true rfl) (y := 75) rfl (ge_new ha515 X0) (Or.inr (Or.inl (by simp))) fun h663 W664 V665 => ?_
    have V666 : Arv Z h663 a512 kc514 .char 65 [.int 97, .int 98, .int 99, .int 100, .int 101, .int 102, .int 103, .int 104, .int 105, .int 106, .int 107, .int 108, .int 109, .int 110, .int 111, .int 112, .int 113, .int 114, .int 115, .int 116, .int 117, .int 118, .int 119, .int 120, .int 121, .int 122, .int 65, .int 66, .int 67, .int 68, .int 69, .int 70, .int 71, .int 72, .int 73, .int 74, .int 75, .int 0, .int 0, .int 0, .int 0, .int 0, .int 0, .int 0, .int 0, .int 0, .int 0, .int 0, .int 0, .int 0, .int 0, .int 0, .int 0, .int 0, .int 0, .int 0, .int 0, .int 0, .int 0, .int 0, .int 0, .int 0, .int 0, .int 0, .int 0] (.int 0) := V665
    refine g_dup o (pc := 845) at_845 rfl ?_
    refine g_bipush o (pc := 846) at_846 (v := 37) rfl ?_
    refine g_bipush o (pc := 848) at_848 (v := 76) rfl ?_
    refine g_castore o (pc := 850) at_850 V666 rfl (by decide) (i := 37) rfl (Nat.le_of_ble_eq_true rfl) (y := 76) rfl (ge_new ha515 X0) (Or.inr (Or.inl (by simp))) fun h667 W668 V669 => ?_
    have V670 : Arv Z h667 a512 kc514 .char 65 [.int 97, .int 98, .int 99, .int 100, .int 101, .int 102, .int 103, .int 104, .int 105, .int 106, .int 107, .int 108, .int 109, .int 110, .int 111, .int 112, .int 113, .int 114, .int 115, .int 116, .int 117, .int 118, .int 119, .int 120, .int 121, .int 122, .int 65, .int 66, .int 67, .int 68, .int 69, .int 70, .int 71, .int 72, .int 73, .int 74, .int 75, .int 76, .int 0, .int 0, .int 0, .int 0, .int 0, .int 0, .int 0, .int 0, .int 0, .int 0, .int 0, .int 0, .int 0, .int 0, .int 0, .int 0, .int 0, .int 0, .int 0, .int 0, .int 0, .int 0, .int 0, .int 0, .int 0, .int 0, .int 0] (.int 0) := V669
    refine g_dup o (pc := 851) at_851 rfl ?_
    refine g_bipush o (pc := 852) at_852 (v := 38) rfl ?_
    refine g_bipush o (pc := 854) at_854 (v := 77) rfl ?_
    refine g_castore o (pc := 856) at_856 V670 rfl (by decide) (i := 38) rfl (Nat.le_of_ble_eq_true rfl) (y := 77) rfl (ge_new ha515 X0) (Or.inr (Or.inl (by simp))) fun h671 W672 V673 => ?_
    have V674 : Arv Z h671 a512 kc514 .char 65 [.int 97, .int 98, .int 99, .int 100, .int 101, .int 102, .int 103, .int 104, .int 105, .int 106, .int 107, .int 108, .int 109, .int 110, .int 111, .int 112, .int 113, .int 114, .int 115, .int 116, .int 117, .int 118, .int 119, .int 120, .int 121, .int 122, .int 65, .int 66, .int 67, .int 68, .int 69, .int 70, .int 71, .int 72, .int 73, .int 74, .int 75, .int 76, .int 77, .int 0, .int 0, .int 0, .int 0, .int 0, .int 0, .int 0, .int 0, .int 0, .int 0, .int 0, .int 0, .int 0, .int 0, .int 0, .int 0, .int 0, .int 0, .int 0, .int 0, .int 0, .int 0, .int 0, .int 0, .int 0, .int 0] (.int 0) := V673
    refine g_dup o (pc := 857) at_857 rfl ?_
    refine g_bipush o (pc := 858) at_858 (v := 39) rfl ?_
    refine g_bipush o (pc := 860) at_860 (v := 78) rfl ?_
    refine g_castore o (pc := 862) at_862 V674 rfl (by decide) (i := 39) rfl (Nat.le_of_ble_eq_true rfl) (y := 78) rfl (ge_new ha515 X0) (Or.inr (Or.inl (by simp))) fun h675 W676 V677 => ?_
    have V678 : Arv Z h675 a512 kc514 .char 65 [.int 97, .int 98, .int 99, .int 100, .int 101, .int 102, .int 103, .int 104, .int 105, .int 106, .int 107, .int 108, .int 109, .int 110, .int 111, .int 112, .int 113, .int 114, .int 115, .int 116, .int 117, .int 118, .int 119, .int 120, .int 121, .int 122, .int 65, .int 66, .int 67, .int 68, .int 69, .int 70, .int 71, .int 72, .int 73, .int 74, .int 75, .int 76, .int 77, .int 78, .int 0, .int 0, .int 0, .int 0, .int 0, .int 0, .int 0, .int 0, .int 0, .int 0, .int 0, .int 0, .int 0, .int 0, .int 0, .int 0, .int 0, .int 0, .int 0, .int 0, .int 0, .int 0, .int 0, .int 0, .int 0] (.int 0) := V677
    refine g_dup o (pc := 863) at_863 rfl ?_
    refine g_bipush o (pc := 864) at_864 (v := 40) rfl ?_
    refine g_bipush o (pc := 866) at_866 (v := 79) rfl ?_
    refine g_castore o (pc := 868) at_868 V678 rfl (by decide) (i := 40) rfl (Nat.le_of_ble_eq_true rfl) (y := 79) rfl (ge_new ha515 X0) (Or.inr (Or.inl (by simp))) fun h679 W680 V681 => ?_
    have V682 : Arv Z h679 a512 kc514 .char 65 [.int 97, .int 98, .int 99, .int 100, .int 101, .int 102, .int 103, .int 104, .int 105, .int 106, .int 107, .int 108, .int 109, .int 110, .int 111, .int 112, .int 113, .int 114, .int 115, .int 116, .int 117, .int 118, .int 119, .int 120, .int 121, .int 122, .int 65, .int 66, .int 67, .int 68, .int 69, .int 70, .int 71, .int 72, .int 73, .int 74, .int 75, .int 76, .int 77, .int 78, .int 79, .int 0, .int 0, .int 0, .int 0, .int 0, .int 0, .int 0, .int 0, .int 0, .int 0, .int 0, .int 0, .int 0, .int 0, .int 0, .int 0, .int 0, .int 0, .int 0, .int 0, .int 0, .int 0, .int 0, .int 0] (.int 0) := V681
    refine g_dup o (pc := 869) at_869 rfl ?_
    refine g_bipush o (pc := 870) at_870 (v := 41) rfl ?_
    refine g_bipush o (pc := 872) at_872 (v := 80) rfl ?_
    refine g_castore o (pc := 874) at_874 V682 rfl (by decide) (i := 41) rfl (Nat.le_of_ble_eq_true rfl) (y := 80) rfl (ge_new ha515 X0) (Or.inr (Or.inl (by simp))) fun h683 W684 V685 => ?_
    have V686 : Arv Z h683 a512 kc514 .char 65 [.int 97, .int 98, .int 99, .int 100, .int 101, .int 102, .int 103, .int 104, .int 105, .int 106, .int 107, .int 108, .int 109, .int 110, .int 111, .int 112, .int 113, .int 114, .int 115, .int 116, .int 117, .int 118, .int 119, .int 120, .int 121, .int 122, .int 65, .int 66, .int 67, .int 68, .int 69, .int 70, .int 71, .int 72, .int 73, .int 74, .int 75, .int 76, .int 77, .int 78, .int 79, .int 80, .int 0, .int 0, .int 0, .int 0, .int 0, .int 0, .int 0, .int 0, .int 0, .int 0, .int 0, .int 0, .int 0, .int 0, .int 0, .int 0, .int 0, .int 0, .int 0, .int 0, .int 0, .int 0, .int 0] (.int 0) := V685
    refine g_dup o (pc := 875) at_875 rfl ?_
    refine g_bipush o (pc := 876) at_876 (v := 42) rfl ?_
    refine g_bipush o (pc := 878) at_878 (v := 81) rfl ?_
    refine g_castore o (pc := 880) at_880 V686 rfl (by decide) (i := 42) rfl (Nat.le_of_ble_eq_true rfl) (y := 81) rfl (ge_new ha515 X0) (Or.inr (Or.inl (by simp))) fun h687 W688 V689 => ?_
    have V690 : Arv Z h687 a512 kc514 .char 65 [.int 97, .int 98, .int 99, .int 100, .int 101, .int 102, .int 103, .int 104, .int 105, .int 106, .int 107, .int 108, .int 109, .int 110, .int 111, .int 112, .int 113, .int 114, .int 115, .int 116, .int 117, .int 118, .int 119, .int 120, .int 121, .int 122, .int 65, .int 66, .int 67, .int 68, .int 69, .int 70, .int 71, .int 72, .int 73, .int 74, .int 75, .int 76, .int 77, .int 78, .int 79, .int 80, .int 81, .int 0, .int 0, .int 0, .int 0, .int 0, .int 0, .int 0, .int 0, .int 0, .int 0, .int 0, .int 0, .int 0, .int 0, .int 0, .int 0, .int 0, .int 0, .int 0, .int 0, .int 0, .int 0] (.int 0) := V689
    refine g_dup o (pc := 881) at_881 rfl ?_
    refine g_bipush o (pc := 882) at_882 (v := 43) rfl ?_
    refine g_bipush o (pc := 884) at_884 (v := 82) rfl ?_
    refine g_castore o (pc := 886) at_886 V690 rfl (by decide) (i := 43) rfl (Nat.le_of_ble_eq_true rfl) (y := 82) rfl (ge_new ha515 X0) (Or.inr (Or.inl (by simp))) fun h691 W692 V693 => ?_
    have V694 : Arv Z h691 a512 kc514 .char 65 [.int 97, .int 98, .int 99, .int 100, .int 101, .int 102, .int 103, .int 104, .int 105, .int 106, .int 107, .int 108, .int 109, .int 110, .int 111, .int 112, .int 113, .int 114, .int 115, .int 116, .int 117, .int 118, .int 119, .int 120, .int 121, .int 122, .int 65, .int 66, .int 67, .int 68, .int 69, .int 70, .int 71, .int 72, .int 73, .int 74, .int 75, .int 76, .int 77, .int 78, .int 79, .int 80, .int 81, .int 82, .int 0, .int 0, .int 0, .int 0, .int 0, .int 0, .int 0, .int 0, .int 0, .int 0, .int 0, .int 0, .int 0, .int 0, .int 0, .int 0, .int 0, .int 0, .int 0, .int 0, .int 0] (.int 0) := V693
    refine g_dup o (pc := 887) at_887 rfl ?_
    refine g_bipush o (pc := 888) at_888 (v := 44) rfl ?_
    refine g_bipush o (pc := 890) at_890 (v := 83) rfl ?_
    refine g_castore o (pc := 892) at_892 V694 rfl (by decide) (i := 44) rfl (Nat.le_of_ble_eq_true rfl) (y := 83) rfl (ge_new ha515 X0) (Or.inr (Or.inl (by simp))) fun h695 W696 V697 => ?_
    have V698 : Arv Z h695 a512 kc514 .char 65 [.int 97, .int 98, .int 99, .int 100, .int 101, .int 102, .int 103, .int 104, .int 105, .int 106, .int 107, .int 108, .int 109, .int 110, .int 111, .int 112, .int 113, .int 114, .int 115, .int 116, .int 117, .int 118, .int 119, .int 120, .int 121, .int 122, .int 65, .int 66, .int 67, .int 68, .int 69, .int 70, .int 71, .int 72, .int 73, .int 74, .int 75, .int 76, .int 77, .int 78, .int 79, .int 80, .int 81, .int 82, .int 83, .int 0, .int 0, .int 0, .int 0, .int 0, .int 0, .int 0, .int 0, .int 0, .int 0, .int 0, .int 0, .int 0, .int 0, .int 0, .int 0, .int 0, .int 0, .int 0, .int 0] (.int 0) := V697
    refine g_dup o (pc := 893) at_893 rfl ?_
    refine g_bipush o (pc := 894) at_894 (v := 45) rfl ?_
    refine g_bipush o (pc := 896) at_896 (v := 84) rfl ?_
    refine g_castore o (pc := 898) at_898 V698 rfl (by decide) (i := 45) rfl (Nat.le_of_ble_eq_true rfl) (y := 84) rfl (ge_new ha515 X0) (Or.inr (Or.inl (by simp))) fun h699 W700 V701 => ?_
    have V702 : Arv Z h699 a512 kc514 .char 65 [.int 97, .int 98, .int 99, .int 100, .int 101, .int 102, .int 103, .int 104, .int 105, .int 106, .int 107, .int 108, .int 109, .int 110, .int 111, .int 112, .int 113, .int 114, .int 115, .int 116, .int 117, .int 118, .int 119, .int 120, .int 121, .int 122, .int 65, .int 66, .int 67, .int 68, .int 69, .int 70, .int 71, .int 72, .int 73, .int 74, .int 75, .int 76, .int 77, .int 78, .int 79, .int 80, .int 81, .int 82, .int 83, .int 84, .int 0, .int 0, .int 0, .int 0, .int 0, .int 0, .int 0, .int 0, .int 0, .int 0, .int 0, .int 0, .int 0, .int 0, .int 0, .int 0, .int 0, .int 0, .int 0] (.int 0) := V701
    refine g_dup o (pc := 899) at_899 rfl ?_
    refine g_bipush o (pc := 900) at_900 (v := 46) rfl ?_
    refine g_bipush o (pc := 902) at_902 (v := 85) rfl ?_
    refine g_castore o (pc := 904) at_904 V702 rfl (by decide) (i := 46) rfl (Nat.le_of_ble_eq_true rfl) (y := 85) rfl (ge_new ha515 X0) (Or.inr (Or.inl (by simp))) fun h703 W704 V705 => ?_
    have V706 : Arv Z h703 a512 kc514 .char 65 [.int 97, .int 98, .int 99, .int 100, .int 101, .int 102, .int 103, .int 104, .int 105, .int 106, .int 107, .int 108, .int 109, .int 110, .int 111, .int 112, .int 113, .int 114, .int 115, .int 116, .int 117, .int 118, .int 119, .int 120, .int 121, .int 122, .int 65, .int 66, .int 67, .int 68, .int 69, .int 70, .int 71, .int 72, .int 73, .int 74, .int 75, .int 76, .int 77, .int 78, .int 79, .int 80, .int 81, .int 82, .int 83, .int 84, .int 85, .int 0, .int 0, .int 0, .int 0, .int 0, .int 0, .int 0, .int 0, .int 0, .int 0, .int 0, .int 0, .int 0, .int 0, .int 0, .int 0, .int 0, .int 0] (.int 0) := V705
    refine g_dup o (pc := 905) at_905 rfl ?_
    refine g_bipush o (pc := 906) at_906 (v := 47) rfl ?_
    refine g_bipush o (pc := 908) at_908 (v := 86) rfl ?_
    refine g_castore o (pc := 910) at_910 V706 rfl (by decide) (i := 47) rfl (Nat.le_of_ble_eq_true rfl) (y := 86) rfl (ge_new ha515 X0) (Or.inr (Or.inl (by simp))) fun h707 W708 V709 => ?_
    have V710 : Arv Z h707 a512 kc514 .char 65 [.int 97, .int 98, .int 99, .int 100, .int 101, .int 102, .int 103, .int 104, .int 105, .int 106, .int 107, .int 108, .int 109, .int 110, .int 111, .int 112, .int 113, .int 114, .int 115, .int 116, .int 117, .int 118, .int 119, .int 120, .int 121, .int 122, .int 65, .int 66, .int 67, .int 68, .int 69, .int 70, .int 71, .int 72, .int 73, .int 74, .int 75, .int 76, .int 77, .int 78, .int 79, .int 80, .int 81, .int 82, .int 83, .int 84, .int 85, .int 86, .int 0, .int 0, .int 0, .int 0, .int 0, .int 0, .int 0, .int 0, .int 0, .int 0, .int 0, .int 0, .int 0, .int 0, .int 0, .int 0, .int 0] (.int 0) := V709
    refine g_dup o (pc := 911) at_911 rfl ?_
    refine g_bipush o (pc := 912) at_912 (v := 48) rfl ?_
    refine g_bipush o (pc := 914) at_914 (v := 87) rfl ?_
    refine g_castore o (pc := 916) at_916 V710 rfl (by decide) (i := 48) rfl (Nat.le_of_ble_eq_true rfl) (y := 87) rfl (ge_new ha515 X0) (Or.inr (Or.inl (by simp))) fun h711 W712 V713 => ?_
    have V714 : Arv Z h711 a512 kc514 .char 65 [.int 97, .int 98, .int 99, .int 100, .int 101, .int 102, .int 103, .int 104, .int 105, .int 106, .int 107, .int 108, .int 109, .int 110, .int 111, .int 112, .int 113, .int 114, .int 115, .int 116, .int 117, .int 118, .int 119, .int 120, .int 121, .int 122, .int 65, .int 66, .int 67, .int 68, .int 69, .int 70, .int 71, .int 72, .int 73, .int 74, .int 75, .int 76, .int 77, .int 78, .int 79, .int 80, .int 81, .int 82, .int 83, .int 84, .int 85, .int 86, .int 87, .int 0, .int 0, .int 0, .int 0, .int 0, .int 0, .int 0, .int 0, .int 0, .int 0, .int 0, .int 0, .int 0, .int 0, .int 0, .int 0] (.int 0) := V713
    refine g_dup o (pc := 917) at_917 rfl ?_
    refine g_bipush o (pc := 918) at_918 (v := 49) rfl ?_
    refine g_bipush o (pc := 920) at_920 (v := 88) rfl ?_
    refine g_castore o (pc := 922) at_922 V714 rfl (by decide) (i := 49) rfl (Nat.le_of_ble_eq_true rfl) (y := 88) rfl (ge_new ha515 X0) (Or.inr (Or.inl (by simp))) fun h715 W716 V717 => ?_
    have V718 : Arv Z h715 a512 kc514 .char 65 [.int 97, .int 98, .int 99, .int 100, .int 101, .int 102, .int 103, .int 104, .int 105, .int 106, .int 107, .int 108, .int 109, .int 110, .int 111, .int 112, .int 113, .int 114, .int 115, .int 116, .int 117, .int 118, .int 119, .int 120, .int 121, .int 122, .int 65, .int 66, .int 67, .int 68, .int 69, .int 70, .int 71, .int 72, .int 73, .int 74, .int 75, .int 76, .int 77, .int 78, .int 79, .int 80, .int 81, .int 82, .int 83, .int 84, .int 85, .int 86, .int 87, .int 88, .int 0, .int 0, .int 0, .int 0, .int 0, .int 0, .int 0, .int 0, .int 0, .int 0, .int 0, .int 0, .int 0, .int 0, .int 0] (.int 0) := V717
    refine g_dup o (pc := 923) at_923 rfl ?_
    refine g_bipush o (pc := 924) at_924 (v := 50) rfl ?_
    refine g_bipush o (pc := 926) at_926 (v := 89) rfl ?_
    refine g_castore o (pc := 928) at_928 V718 rfl (by decide) (i := 50) rfl (Nat.le_of_ble_eq_true rfl) (y := 89) rfl (ge_new ha515 X0) (Or.inr (Or.inl (by simp))) fun h719 W720 V721 => ?_
    have V722 : Arv Z h719 a512 kc514 .char 65 [.int 97, .int 98, .int 99, .int 100, .int 101, .int 102, .int 103, .int 104, .int 105, .int 106, .int 107, .int 108, .int 109, .int 110, .int 111, .int 112, .int 113, .int 114, .int 115, .int 116, .int 117, .int 118, .int 119, .int 120, .int 121, .int 122, .int 65, .int 66, .int 67, .int 68, .int 69, .int 70, .int 71, .int 72, .int 73, .int 74, .int 75, .int 76, .int 77, .int 78, .int 79, .int 80, .int 81, .int 82, .int 83, .int 84, .int 85, .int 86, .int 87, .int 88, .int 89, .int 0, .int 0, .int 0, .int 0, .int 0, .int 0, .int 0, .int 0, .int 0, .int 0, .int 0, .int 0, .int 0, .int 0] (.int 0) := V721
    refine g_dup o (pc := 929) at_929 rfl ?_
    refine g_bipush o (pc := 930) at_930 (v := 51) rfl ?_
    refine g_bipush o (pc := 932) at_932 (v := 90) rfl ?_
    refine g_castore o (pc := 934) at_934 V722 rfl (by decide) (i := 51) rfl (Nat.le_of_ble_eq_true rfl) (y := 90) rfl (ge_new ha515 X0) (Or.inr (Or.inl (by simp))) fun h723 W724 V725 => ?_
    have V726 : Arv Z h723 a512 kc514 .char 65 [.int 97, .int 98, .int 99, .int 100, .int 101, .int 102, .int 103, .int 104, .int 105, .int 106, .int 107, .int 108, .int 109, .int 110, .int 111, .int 112, .int 113, .int 114, .int 115, .int 116, .int 117, .int 118, .int 119, .int 120, .int 121, .int 122, .int 65, .int 66, .int 67, .int 68, .int 69, .int 70, .int 71, .int 72, .int 73, .int 74, .int 75, .int 76, .int 77, .int 78, .int 79, .int 80, .int 81, .int 82, .int 83, .int 84, .int 85, .int 86, .int 87, .int 88, .int 89, .int 90, .int 0, .int 0, .int 0, .int 0, .int 0, .int 0, .int 0, .int 0, .int 0, .int 0, .int 0, .int 0, .int 0] (.int 0) := V725
    refine g_dup o (pc := 935) at_935 rfl ?_
    refine g_bipush o (pc := 936) at_936 (v := 52) rfl ?_
    refine g_bipush o (pc := 938) at_938 (v := 48) rfl ?_
    refine g_castore o (pc := 940) at_940 V726 rfl (by decide) (i := 52) rfl (Nat.le_of_ble_eq_true rfl) (y := 48) rfl (ge_new ha515 X0) (Or.inr (Or.inl (by simp))) fun h727 W728 V729 => ?_
    have V730 : Arv Z h727 a512 kc514 .char 65 [.int 97, .int 98, .int 99, .int 100, .int 101, .int 102, .int 103, .int 104, .int 105, .int 106, .int 107, .int 108, .int 109, .int 110, .int 111, .int 112, .int 113, .int 114, .int 115, .int 116, .int 117, .int 118, .int 119, .int 120, .int 121, .int 122, .int 65, .int 66, .int 67, .int 68, .int 69, .int 70, .int 71, .int 72, .int 73, .int 74, .int 75, .int 76, .int 77, .int 78, .int 79, .int 80, .int 81, .int 82, .int 83, .int 84, .int 85, .int 86, .int 87, .int 88, .int 89, .int 90, .int 48, .int 0, .int 0, .int 0, .int 0, .int 0, .int 0, .int 0, .int 0, .int 0, .int 0, .int 0, .int 0] (.int 0) := V729
    refine g_dup o (pc := 941) at_941 rfl ?_
    refine g_bipush o (pc := 942) at_942 (v := 53) rfl ?_
    refine g_bipush o (pc := 944) at_944 (v := 49) rfl ?_
    refine g_castore o (pc := 946) at_946 V730 rfl (by decide) (i := 53) rfl (Nat.le_of_ble_eq_true rfl) (y := 49) rfl (ge_new ha515 X0) (Or.inr (Or.inl (by simp))) fun h731 W732 V733 => ?_
    have V734 : Arv Z h731 a512 kc514 .char 65 [.int 97, .int 98, .int 99, .int 100, .int 101, .int 102, .int 103, .int 104, .int 105, .int 106, .int 107, .int 108, .int 109, .int 110, .int 111, .int 112, .int 113, .int 114, .int 115, .int 116, .int 117, .int 118, .int 119, .int 120, .int 121, .int 122, .int 65, .int 66, .int 67, .int 68, .int 69, .int 70, .int 71, .int 72, .int 73, .int 74, .int 75, .int 76, .int 77, .int 78, .int 79, .int 80, .int 81, .int 82, .int 83, .int 84, .int 85, .int 86, .int 87, .int 88, .int 89, .int 90, .int 48, .int 49, .int 0, .int 0, .int 0, .int 0, .int 0, .int 0, .int 0, .int 0, .int 0, .int 0, .int 0] (.int 0) := V733
    refine g_dup o (pc := 947) at_947 rfl ?_
    refine g_bipush o (pc := 948) at_948 (v := 54) rfl ?_
    refine g_bipush o (pc := 950) at_950 (v := 50) rfl ?_
    refine g_castore o (pc := 952) at_952 V734 rfl (by decide) (i := 54) rfl (Nat.le_of_ble_eq_true rfl) (y := 50) rfl (ge_new ha515 X0) (Or.inr (Or.inl (by simp))) fun h735 W736 V737 => ?_
    have V738 : Arv Z h735 a512 kc514 .char 65 [.int 97, .int 98, .int 99, .int 100, .int 101, .int 102, .int 103, .int 104, .int 105, .int 106, .int 107, .int 108, .int 109, .int 110, .int 111, .int 112, .int 113, .int 114, .int 115, .int 116, .int 117, .int 118, .int 119, .int 120, .int 121, .int 122, .int 65, .int 66, .int 67, .int 68, .int 69, .int 70, .int 71, .int 72, .int 73, .int 74, .int 75, .int 76, .int 77, .int 78, .int 79, .int 80, .int 81, .int 82, .int 83, .int 84, .int 85, .int 86, .int 87, .int 88, .int 89, .int 90, .int 48, .int 49, .int 50, .int 0, .int 0, .int 0, .int 0, .int 0, .int 0, .int 0, .int 0, .int 0, .int 0] (.int 0) := V737
    refine g_dup o (pc := 953) at_953 rfl ?_
    refine g_bipush o (pc := 954) at_954 (v := 55) rfl ?_
    refine g_bipush o (pc := 956) at_956 (v := 51) rfl ?_
    refine g_castore o (pc := 958) at_958 V738 rfl (by decide) (i := 55) rfl (Nat.le_of_ble_eq_true rfl) (y := 51) rfl (ge_new ha515 X0) (Or.inr (Or.inl (by simp))) fun h739 W740 V741 => ?_
    have V742 : Arv Z h739 a512 kc514 .char 65 [.int 97, .int 98, .int 99, .int 100, .int 101, .int 102, .int 103, .int 104, .int 105, .int 106, .int 107, .int 108, .int 109, .int 110, .int 111, .int 112, .int 113, .int 114, .int 115, .int 116, .int 117, .int 118, .int 119, .int 120, .int 121, .int 122, .int 65, .int 66, .int 67, .int 68, .int 69, .int 70, .int 71, .int 72, .int 73, .int 74, .int 75, .int 76, .int 77, .int 78, .int 79, .int 80, .int 81, .int 82, .int 83, .int 84, .int 85, .int 86, .int 87, .int 88, .int 89, .int 90, .int 48, .int 49, .int 50, .int 51, .int 0, .int 0, .int 0, .int 0, .int 0, .int 0, .int 0, .int 0, .int 0] (.int 0) := V741
    refine g_dup o (pc := 959) at_959 rfl ?_
    refine g_bipush o (pc := 960) at_960 (v := 56) rfl ?_
    refine g_bipush o (pc := 962) at_962 (v := 52) rfl ?_
    refine g_castore o (pc := 964) at_964 V742 rfl (by decide) (i := 56) rfl (Nat.le_of_ble_eq_true rfl) (y := 52) rfl (ge_new ha515 X0) (Or.inr (Or.inl (by simp))) fun h743 W744 V745 => ?_
    have V746 : Arv Z h743 a512 kc514 .char 65 [.int 97, .int 98, .int 99, .int 100, .int 101, .int 102, .int 103, .int 104, .int 105, .int 106, .int 107, .int 108, .int 109, .int 110, .int 111, .int 112, .int 113, .int 114, .int 115, .int 116, .int 117, .int 118, .int 119, .int 120, .int 121, .int 122, .int 65, .int 66, .int 67, .int 68, .int 69, .int 70, .int 71, .int 72, .int 73, .int 74, .int 75, .int 76, .int 77, .int 78, .int 79, .int 80, .int 81, .int 82, .int 83, .int 84, .int 85, .int 86, .int 87, .int 88, .int 89, .int 90, .int 48, .int 49, .int 50, .int 51, .int 52, .int 0, .int 0, .int 0, .int 0, .int 0, .int 0, .int 0, .int 0] (.int 0) := V745
    refine g_dup o (pc := 965) at_965 rfl ?_
    refine g_bipush o (pc := 966) at_966 (v := 57) rfl ?_
    refine g_bipush o (pc := 968) at_968 (v := 53) rfl ?_
    refine g_castore o (pc := 970) at_970 V746 rfl (by decide) (i := 57) rfl (Nat.le_of_ble_eq_true rfl) (y := 53) rfl (ge_new ha515 X0) (Or.inr (Or.inl (by simp))) fun h747 W748 V749 => ?_
    have V750 : Arv Z h747 a512 kc514 .char 65 [.int 97, .int 98, .int 99, .int 100, .int 101, .int 102, .int 103, .int 104, .int 105, .int 106, .int 107, .int 108, .int 109, .int 110, .int 111, .int 112, .int 113, .int 114, .int 115, .int 116, .int 117, .int 118, .int 119, .int 120, .int 121, .int 122, .int 65, .int 66, .int 67, .int 68, .int 69, .int 70, .int 71, .int 72, .int 73, .int 74, .int 75, .int 76, .int 77, .int 78, .int 79, .int 80, .int 81, .int 82, .int 83, .int 84, .int 85, .int 86, .int 87, .int 88, .int 89, .int 90, .int 48, .int 49, .int 50, .int 51, .int 52, .int 53, .int 0, .int 0, .int 0, .int 0, .int 0, .int 0, .int 0] (.int 0) := V749
    refine g_dup o (pc := 971) at_971 rfl ?_
    refine g_bipush o (pc := 972) at_972 (v := 58) rfl ?_
    refine g_bipush o (pc := 974) at_974 (v := 54) rfl ?_
    refine g_castore o (pc := 976) at_976 V750 rfl (by decide) (i := 58) rfl (Nat.le_of_ble_eq_true rfl) (y := 54) rfl (ge_new ha515 X0) (Or.inr (Or.inl (by simp))) fun h751 W752 V753 => ?_
    have V754 : Arv Z h751 a512 kc514 .char 65 [.int 97, .int 98, .int 99, .int 100, .int 101, .int 102, .int 103, .int 104, .int 105, .int 106, .int 107, .int 108, .int 109, .int 110, .int 111, .int 112, .int 113, .int 114, .int 115, .int 116, .int 117, .int 118, .int 119, .int 120, .int 121, .int 122, .int 65, .int 66, .int 67, .int 68, .int 69, .int 70, .int 71, .int 72, .int 73, .int 74, .int 75, .int 76, .int 77, .int 78, .int 79, .int 80, .int 81, .int 82, .int 83, .int 84, .int 85, .int 86, .int 87, .int 88, .int 89, .int 90, .int 48, .int 49, .int 50, .int 51, .int 52, .int 53, .int 54, .int 0, .int 0, .int 0, .int 0, .int 0, .int 0] (.int 0) := V753
    refine g_dup o (pc := 977) at_977 rfl ?_
    refine g_bipush o (pc := 978) at_978 (v := 59) rfl ?_
    refine g_bipush o (pc := 980) at_980 (v := 55) rfl ?_
    refine g_castore o (pc := 982) at_982 V754 rfl (by decide) (i := 59) rfl (Nat.le_of_ble_eq_true rfl) (y := 55) rfl (ge_new ha515 X0) (Or.inr (Or.inl (by simp))) fun h755 W756 V757 => ?_
    have V758 : Arv Z h755 a512 kc514 .char 65 [.int 97, .int 98, .int 99, .int 100, .int 101, .int 102, .int 103, .int 104, .int 105, .int 106, .int 107, .int 108, .int 109, .int 110, .int 111, .int 112, .int 113, .int 114, .int 115, .int 116, .int 117, .int 118, .int 119, .int 120, .int 121, .int 122, .int 65, .int 66, .int 67, .int 68, .int 69, .int 70, .int 71, .int 72, .int 73, .int 74, .int 75, .int 76, .int 77, .int 78, .int 79, .int 80, .int 81, .int 82, .int 83, .int 84, .int 85, .int 86, .int 87, .int 88, .int 89, .int 90, .int 48, .int 49, .int 50, .int 51, .int 52, .int 53, .int 54, .int 55, .int 0, .int 0, .int 0, .int 0, .int 0] (.int 0) := V757
    refine g_dup o (pc := 983) at_983 rfl ?_
    refine g_bipush o (pc := 984) at_984 (v := 60) rfl ?_
    refine g_bipush o (pc := 986) at_986 (v := 56) rfl ?_
    refine g_castore o (pc := 988) at_988 V758 rfl (by decide) (i := 60) rfl (Nat.le_of_ble_eq_true rfl) (y := 56) rfl (ge_new ha515 X0) (Or.inr (Or.inl (by simp))) fun h759 W760 V761 => ?_
    have V762 : Arv Z h759 a512 kc514 .char 65 [.int 97, .int 98, .int 99, .int 100, .int 101, .int 102, .int 103, .int 104, .int 105, .int 106, .int 107, .int 108, .int 109, .int 110, .int 111, .int 112, .int 113, .int 114, .int 115, .int 116, .int 117, .int 118, .int 119, .int 120, .int 121, .int 122, .int 65, .int 66, .int 67, .int 68, .int 69, .int 70, .int 71, .int 72, .int 73, .int 74, .int 75, .int 76, .int 77, .int 78, .int 79, .int 80, .int 81, .int 82, .int 83, .int 84, .int 85, .int 86, .int 87, .int 88, .int 89, .int 90, .int 48, .int 49, .int 50, .int 51, .int 52, .int 53, .int 54, .int 55, .int 56, .int 0, .int 0, .int 0, .int 0] (.int 0) := V761
    refine g_dup o (pc := 989) at_989 rfl ?_
    refine g_bipush o (pc := 990) at_990 (v := 61) rfl ?_
    refine g_bipush o (pc := 992) at_992 (v := 57) rfl ?_
    refine g_castore o (pc := 994) at_994 V762 rfl (by decide) (i := 61) rfl (Nat.le_of_ble_eq_true rfl) (y := 57) rfl (ge_new ha515 X0) (Or.inr (Or.inl (by simp))) fun h763 W764 V765 => ?_
    have V766 : Arv Z h763 a512 kc514 .char 65 [.int 97, .int 98, .int 99, .int 100, .int 101, .int 102, .int 103, .int 104, .int 105, .int 106, .int 107, .int 108, .int 109, .int 110, .int 111, .int 112, .int 113, .int 114, .int 115, .int 116, .int 117, .int 118, .int 119, .int 120, .int 121, .int 122, .int 65, .int 66, .int 67, .int 68, .int 69, .int 70, .int 71, .int 72, .int 73, .int 74, .int 75, .int 76, .int 77, .int 78, .int 79, .int 80, .int 81, .int 82, .int 83, .int 84, .int 85, .int 86, .int 87, .int 88, .int 89, .int 90, .int 48, .int 49, .int 50, .int 51, .int 52, .int 53, .int 54, .int 55, .int 56, .int 57, .int 0, .int 0, .int 0] (.int 0) := V765
    refine g_dup o (pc := 995) at_995 rfl ?_
    refine g_bipush o (pc := 996) at_996 (v := 62) rfl ?_
    refine g_bipush o (pc := 998) at_998 (v := 45) rfl ?_
    refine g_castore o (pc := 1000) at_1000 V766 rfl (by decide) (i := 62) rfl (Nat.le_of_ble_eq_true rfl) (y := 45) rfl (ge_new ha515 X0) (Or.inr (Or.inl (by simp))) fun h767 W768 V769 => ?_
    have V770 : Arv Z h767 a512 kc514 .char 65 [.int 97, .int 98, .int 99, .int 100, .int 101, .int 102, .int 103, .int 104, .int 105, .int 106, .int 107, .int 108, .int 109, .int 110, .int 111, .int 112, .int 113, .int 114, .int 115, .int 116, .int 117, .int 118, .int 119, .int 120, .int 121, .int 122, .int 65, .int 66, .int 67, .int 68, .int 69, .int 70, .int 71, .int 72, .int 73, .int 74, .int 75, .int 76, .int 77, .int 78, .int 79, .int 80, .int 81, .int 82, .int 83, .int 84, .int 85, .int 86, .int 87, .int 88, .int 89, .int 90, .int 48, .int 49, .int 50, .int 51, .int 52, .int 53, .int 54, .int 55, .int 56, .int 57, .int 45, .int 0, .int 0] (.int 0) := V769
    refine g_dup o (pc := 1001) at_1001 rfl ?_
    refine g_bipush o (pc := 1002) at_1002 (v := 63) rfl ?_
    refine g_bipush o (pc := 1004) at_1004 (v := 95) rfl ?_
    refine g_castore o (pc := 1006) at_1006 V770 rfl (by decide) (i := 63) rfl (Nat.le_of_ble_eq_true rfl) (y := 95) rfl (ge_new ha515 X0) (Or.inr (Or.inl (by simp))) fun h771 W772 V773 => ?_
    have V774 : Arv Z h771 a512 kc514 .char 65 [.int 97, .int 98, .int 99, .int 100, .int 101, .int 102, .int 103, .int 104, .int 105, .int 106, .int 107, .int 108, .int 109, .int 110, .int 111, .int 112, .int 113, .int 114, .int 115, .int 116, .int 117, .int 118, .int 119, .int 120, .int 121, .int 122, .int 65, .int 66, .int 67, .int 68, .int 69, .int 70, .int 71, .int 72, .int 73, .int 74, .int 75, .int 76, .int 77, .int 78, .int 79, .int 80, .int 81, .int 82, .int 83, .int 84, .int 85, .int 86, .int 87, .int 88, .int 89, .int 90, .int 48, .int 49, .int 50, .int 51, .int 52, .int 53, .int 54, .int 55, .int 56, .int 57, .int 45, .int 95, .int 0] (.int 0) := V773
    refine g_dup o (pc := 1007) at_1007 rfl ?_
    refine g_bipush o (pc := 1008) at_1008 (v := 64) rfl ?_
    refine g_bipush o (pc := 1010) at_1010 (v := 46) rfl ?_
    refine g_castore o (pc := 1012) at_1012 V774 rfl (by decide) (i := 64) rfl (Nat.le_of_ble_eq_true rfl) (y := 46) rfl (ge_new ha515 X0) (Or.inr (Or.inl (by simp))) fun h775 W776 V777 => ?_
    have V778 : Arv Z h775 a512 kc514 .char 65 [.int 97, .int 98, .int 99, .int 100, .int 101, .int 102, .int 103, .int 104, .int 105, .int 106, .int 107, .int 108, .int 109, .int 110, .int 111, .int 112, .int 113, .int 114, .int 115, .int 116, .int 117, .int 118, .int 119, .int 120, .int 121, .int 122, .int 65, .int 66, .int 67, .int 68, .int 69, .int 70, .int 71, .int 72, .int 73, .int 74, .int 75, .int 76, .int 77, .int 78, .int 79, .int 80, .int 81, .int 82, .int 83, .int 84, .int 85, .int 86, .int 87, .int 88, .int 89, .int 90, .int 48, .int 49, .int 50, .int 51, .int 52, .int 53, .int 54, .int 55, .int 56, .int 57, .int 45, .int 95, .int 46] (.int 0) := V777
    refine g_astore o (pc := 1013) at_1013 rfl (L' := #[.val (.int p0), .val (.int p1), .val (.int p2), .val (.int p3), .val (.int p4), .val (.int c4), .val (.int c9), .val (.int c14), .val (.int 6), .val (.ref a512), .unset, .unset, .unset, .unset, .unset]) rfl ?_
    refine Go.less (M' := []) (fun _ q => nomatch q) ?_
    have q779 := ((((((((((((((((((((((((((((((((((((((((((((((((((((((((((((((((((X0.ext E516).wr W520 (ge_new ha515 X0)).wr W524 (ge_new ha515 X0)).wr W528 (ge_new ha515 X0)).wr W532 (ge_new ha515 X0)).wr W536 (ge_new ha515 X0)).wr W540 (ge_new ha515 X0)).wr W544 (ge_new ha515 X0)).wr W548 (ge_new ha515 X0)).wr W552 (ge_new ha515 X0)).wr W556 (ge_new ha515 X0)).wr W560 (ge_new ha515 X0)).wr W564 (ge_new ha515 X0)).wr W568 (ge_new ha515 X0)).wr W572 (ge_new ha515 X0)).wr W576 (ge_new ha515 X0)).wr W580 (ge_new ha515 X0)).wr W584 (ge_new ha515 X0)).wr W588 (ge_new ha515 X0)).wr W592 (ge_new ha515 X0)).wr W596 (ge_new ha515 X0)).wr W600 (ge_new ha515 X0)).wr W604 (ge_new ha515 X0)).wr W608 (ge_new ha515 X0)).wr W612 (ge_new ha515 X0)).wr W616 (ge_new ha515 X0)).wr W620 (ge_new ha515 X0)).wr W624 (ge_new ha515 X0)).wr W628 (ge_new ha515 X0)).wr W632 (ge_new ha515 X0)).wr W636 (ge_new ha515 X0)).wr W640 (ge_new ha515 X0)).wr W644 (ge_new ha515 X0)).wr W648 (ge_new ha515 X0)).wr W652 (ge_new ha515 X0)).wr W656 (ge_new ha515 X0)).wr W660 (ge_new ha515 X0)).wr W664 (ge_new ha515 X0)).wr W668 (ge_new ha515 X0)).wr W672 (ge_new ha515 X0)).wr W676 (ge_new ha515 X0)).wr W680 (ge_new ha515 X0)).wr W684 (ge_new ha515 X0)).wr W688 (ge_new ha515 X0)).wr W692 (ge_new ha515 X0)).wr W696 (ge_new ha515 X0)).wr W700 (ge_new ha515 X0)).wr W704 (ge_new ha515 X0)).wr W708 (ge_new ha515 X0)).wr W712 (ge_new ha515 X0)).wr W716 (ge_new ha515 X0)).wr W720 (ge_new ha515 X0)).wr W724 (ge_new ha515 X0)).wr W728 (ge_new ha515 X0)).wr W732 (ge_new ha515 X0)).wr W736 (ge_new ha515 X0)).wr W740 (ge_new ha515 X0)).wr W744 (ge_new ha515 X0)).wr W748 (ge_new ha515 X0)).wr W752 (ge_new ha515 X0)).wr W756 (ge_new ha515 X0)).wr W760 (ge_new ha515 X0)).wr W764 (ge_new ha515 X0)).wr W768 (ge_new ha515 X0)).wr W772 (ge_new ha515 X0)).wr W776 (ge_new ha515 X0))
    exact bl_6 hw hE hPL hcs hwd n0 o h775 q779 p0 p1 p2 p3 p4 c4 c9 c14 a512 kc514 ([97, 98, 99, 100, 101, 102, 103, 104, 105, 106, 107, 108, 109, 110, 111, 112, 113, 114, 115, 116, 117, 118, 119, 120, 121, 122, 65, 66, 67, 68, 69, 70, 71, 72, 73, 74, 75, 76, 77, 78, 79, 80, 81, 82, 83, 84, 85, 86, 87, 88, 89, 90, 48, 49, 50, 51, 52, 53, 54, 55, 56, 57, 45, 95, 46]) zc fm Sc nzc Sf rf Sa Sh Sl V778 rfl base6_ok base6_u l5 l10 (ge_new ha515 X0)
set_option maxRecDepth 65536 in
set_option maxHeartbeats 40000000 in
theorem comes_1 {Post : Tables → Env → Array Value → State → Outcome → State → Prop} (hpost : ∀ tb e args s v u, (limb_1_1.after args s (.returned v) u = true ∧ limb_1_2.after args s (.returned v) u = true ∧ True) → ReturnedEndW s (.returned v) u (Jvm.fieldLocs frame_1_writes args s ++ Jvm.arrayLocs frame_1_arrays args s ++ Jvm.staticLocs frame_1_statics s) 24 1664 → Post tb e args s (.returned v) u) :
    ArmFor flags0 classFile x code maxLocals ret World_1 tables_1 room_1 Calls_1 rest_1 Pre_1 Post := by
  intro l hfl _ _ p e ha hc hk s m args below hf hA hF happ hP
  obtain ⟨hcalls, hrest, hpre⟩ := hP
  obtain ⟨-, -, -, hnamed, -, -, -, hat⟩ := (Spec.applies_iff hf).mp happ
  obtain ⟨hg, hn⟩ := and_e (Cond.before_iff.mp (show (Jvm.Cond.and given_1 narrow_1).before args s = true from hpre))
  obtain ⟨h1, g0⟩ := and_e hg
  obtain ⟨f0, g1⟩ := and_e g0
  obtain ⟨f1, g2⟩ := and_e g1
  obtain ⟨f2, g3⟩ := and_e g2
  obtain ⟨f3, g4⟩ := and_e g3
  have f4 := g4
  obtain ⟨w0, w1, w2, w3, w4, rfl⟩ : ∃ w0 w1 w2 w3 w4 : Value, args = #[w0, w1, w2, w3, w4] := by
    have hs : args.size = 5 := by simpa [Cond.value, given_1] using h1
    obtain ⟨L⟩ := args
    match L, hs with
    | [w0, w1, w2, w3, w4], _ => exact ⟨w0, w1, w2, w3, w4, rfl⟩
  have hw := fun d (hd : d ∈ tables_1) => atoms_spec (ws := Jvm.Cond.code x code maxLocals ret :: tables_1) hat d (List.mem_cons_of_mem _ hd)
  obtain ⟨hsets, hown0⟩ := atoms_of _ (rest_1_c_eq ▸ (show rest_1_c.before _ s = true from hrest))
  have hfit : Fit s := fun {y c} hc i hi => by
    obtain ⟨ha, rfl⟩ := Array.getElem?_eq_some_iff.mp hc
    have q := List.all_eq_true.mp ((Array.all_eq_true_iff_forall_mem.mp hF) _ (Array.getElem_mem ha)) i (List.mem_range.mpr hi)
    simpa [Array.getElem?_eq_getElem hi] using q
  obtain ⟨i0, e0⟩ := is_v f0
  obtain rfl : w0 = (.int i0) := Option.some.inj e0
  obtain ⟨i1, e1⟩ := is_v f1
  obtain rfl : w1 = (.int i1) := Option.some.inj e1
  obtain ⟨i2, e2⟩ := is_v f2
  obtain rfl : w2 = (.int i2) := Option.some.inj e2
  obtain ⟨i3, e3⟩ := is_v f3
  obtain rfl : w3 = (.int i3) := Option.some.inj e3
  obtain ⟨i4, e4⟩ := is_v f4
  obtain rfl : w4 = (.int i4) := Option.some.inj e4
  have n5 := not_v (Cond.before_iff.mp (hsets _ (List.mem_of_getElem? (i := 2) rfl)))
  obtain ⟨zc, ezc⟩ := is_v (Cond.before_iff.mp (hsets _ (List.mem_of_getElem? (i := 1) rfl)))
  have Sc : Sta s s.heap "java/lang/String" "COMPACT_STRINGS" "Z" (.int zc) := Sta.start ezc (Or.inl (hsets _ (List.mem_of_getElem? (i := 0) rfl)))
  have nzc : ¬ (zc = (0 : Int32)) := gotF (Cond.eq_ints ezc (Term.int_eval (0))) n5
  obtain ⟨fm, efm, rf⟩ := isR_v (Cond.before_iff.mp (hsets _ (List.mem_of_getElem? (i := 8) rfl)))
  have Sf : Sta s s.heap "jdk/internal/util/Preconditions" "SIOOBE_FORMATTER" "Ljava/util/function/BiFunction;" fm := Sta.start efm (Or.inl (hsets _ (List.mem_of_getElem? (i := 7) rfl)))
  have Sa : Sta s s.heap "java/lang/StringUTF16" "$assertionsDisabled" "Z" (.int 1) := Sta.start (eq_sta (Cond.before_iff.mp (hsets _ (List.mem_of_getElem? (i := 12) rfl)))) (Or.inl (hsets _ (List.mem_of_getElem? (i := 11) rfl)))
  have Sh : Sta s s.heap "java/lang/StringUTF16" "HI_BYTE_SHIFT" "I" (.int 0) := Sta.start (eq_sta (Cond.before_iff.mp (hsets _ (List.mem_of_getElem? (i := 15) rfl)))) (Or.inl (hsets _ (List.mem_of_getElem? (i := 14) rfl)))
  have Sl : Sta s s.heap "java/lang/StringUTF16" "LO_BYTE_SHIFT" "I" (.int 8) := Sta.start (eq_sta (Cond.before_iff.mp (hsets _ (List.mem_of_getElem? (i := 18) rfl)))) (Or.inl (hsets _ (List.mem_of_getElem? (i := 17) rfl)))
  have hCH : CHv s consts_1 s.vm s.heap := CHv.start (ew_ hw) (fun p hp => hcalls.1 p hp) (hsets _ (List.mem_of_getElem? (i := 2) rfl)) (wd_29 hw) (wd_12 hw)
  obtain ⟨n, o, h1, h2, h3, _, L, rfl, ⟨rfl, N⟩, hqw, hqn⟩ := rm_law l s _ hw tables_1 s.heap.size s.heap (Old.start s) i0 i1 i2 i3 i4 zc fm Sc nzc Sf rf Sa Sh Sl hCH p e ha hc hk s m _ below hf ((Spec.applies_iff_loose hf).mp happ).1 ⟨rfl, State.Warmed39.refl s, rfl, rfl⟩ trivial
  obtain ⟨kk, nn, hq, hkk, hnn⟩ := hqw rfl
  refine ⟨n, _, h1, h2, h3, hpost _ _ _ _ _ _ ⟨Cond.after_iff.mpr rfl, Cond.after_iff.mpr (eq_i res_at (Term.int_eval (1)) rfl), trivial⟩ ⟨hq.1, hq.2.1, hq.2.2.1, (hq.2.2.2.sift fun y hy => Or.inr (N y hy)).mono (Nat.le_trans hkk (by decide)) (Nat.le_trans hnn (by decide))⟩⟩
theorem main_1_1 : Claimed_1_1 := comes_1 fun _ _ _ _ _ _ h hF => ⟨h.1, hF⟩
theorem main_1_2 : Claimed_1_2 := comes_1 fun _ _ _ _ _ _ h hF => ⟨h.2.1, hF⟩
end Jvm.Pilot.@@N@@
namespace Jvm.Pilot.@@N@@
open Jvm Jvm.ClassFile Sem Op Lib Jvm.Free Jvm.Stand Jvm.Pilot.@@N@@.Jvm.D
/-! MADE BY PROGRAM (witnessworld.py) out of the Statement's table words and the real class files: 20 classes; the members and pool entries that the words name. The judged class is class 1, her method 3. -/
namespace start1
open Jvm.ClassFile
def u (s : String) : CpInfo := .utf8 (stringToUtf16 s)
/-- a pool by its gaps: so many unusable entries, then the entry; so many at the end -/
def gap : Nat → List CpInfo → List CpInfo
  | 0, r => r
  | n + 1, r => .unusable :: gap n r
def poolList (es : List (Nat × CpInfo)) (last : Nat) : List CpInfo := es.foldr (fun e r => gap e.1 (e.2 :: r)) (gap last [])
def pool (es : List (Nat × CpInfo)) (last : Nat) : Array CpInfo := ⟨poolList es last⟩
def fileOf (pool : Array CpInfo) (this : Nat) (attrs : Array Attribute := #[]) (ms : Array MethodInfo := #[]) (fl : Nat := 33) (sup : Nat := 0) (ifs : Array Nat := #[]) (fds : Array FieldInfo := #[]) : ClassFile where
  minorVersion := 0
  majorVersion := 65
  constantPool := pool
  accessFlags := fl
  thisClass := this
  superClass := sup
  interfaces := ifs
  fields := fds
  methods := ms
  attributes := attrs
def plain (name : String) (sup : Option ClassId) : Class where
  name := name
  kind := .ordinary
  loader := none
  accessFlags := 33
  super := sup
  interfaces := #[]
  cf := none
  fields := #[]
  methods := #[]
  instanceTypes := #[]
  staticTypes := #[]
  resolved := #[]
  callSites := []
  init := .initialized
  statics := none
  mirror := none

def pool0 : Array CpInfo := pool [(5, u "<init>"), (0, u "()V"), (1, .class_ 10), (1, u "java/lang/Object")] 113

def k0c0 : Code := { maxStack := 0, maxLocals := 1, code := object_method_1_code, exceptionTable := #[], attributes := #[] }
def k0m0 : Method := { name := "<init>", desc := "()V", sig := { parameters := [], returnType := none }, accessFlags := 1, code := some k0c0 }
/-- java/lang/Object -/
def k0 : Class := { plain "java/lang/Object" none with
  accessFlags := 33
  interfaces := #[]
  cf := some (fileOf pool0 8 #[] #[{ accessFlags := 1, nameIndex := 5, descriptorIndex := 6, attributes := #[] }] 33 0 #[] #[])
  fields := #[]
  methods := #[k0m0]
  instanceTypes := #[]
  staticTypes := #[]
  resolved := Array.replicate 124 none
  statics := none }

def pool1 : Array CpInfo := pool [(2, .class_ 4), (1, u "java/lang/Object"), (0, u "<init>"), (0, u "()V"), (0, .integer 65536), (0, .integer 65535), (0, .methodref 10 11), (0, .class_ 12), (0, .nameAndType 13 14), (0, u "com/example/traceloom/traceloom/TraceIdsIsAcceptedPinLaw"), (0, u "draw"), (0, u "(I)C"), (0, .integer 2147483647), (0, .methodref 17 18), (0, .class_ 19), (0, .nameAndType 20 21), (0, u "com/example/traceloom/traceloom/TraceIds"), (0, u "isAccepted"), (0, u "(Ljava/lang/String;)Z"), (0, .string 23), (0, u ""), (0, .methodref 25 26), (0, .class_ 27), (0, .nameAndType 28 29), (0, u "java/lang/String"), (0, u "valueOf"), (0, u "(C)Ljava/lang/String;"), (0, .methodref 10 31), (0, .nameAndType 32 33), (0, u "ok"), (0, u "(C)Z"), (0, .methodref 25 35), (0, .nameAndType 5 36), (0, u "([C)V"), (3, u "law"), (0, u "(IIIII)Z")] 4

def k1m0 : Method := { name := "<init>", desc := "()V", sig := { parameters := [], returnType := none }, accessFlags := 1, code := none }
def k1c1 : Code := { maxStack := 2, maxLocals := 1, code := method_2_code, exceptionTable := #[], attributes := #[] }
def k1m1 : Method := { name := "draw", desc := "(I)C", sig := { parameters := [.int], returnType := some .char }, accessFlags := 10, code := some k1c1 }
def k1c2 : Code := { maxStack := 2, maxLocals := 2, code := method_3_code, exceptionTable := #[], attributes := #[] }
def k1m2 : Method := { name := "ok", desc := "(C)Z", sig := { parameters := [.char], returnType := some .boolean }, accessFlags := 10, code := some k1c2 }
def k1c3 : Code := { maxStack := 4, maxLocals := 15, code := code, exceptionTable := #[], attributes := #[] }
def k1m3 : Method := { name := "law", desc := "(IIIII)Z", sig := { parameters := [.int, .int, .int, .int, .int], returnType := some .boolean }, accessFlags := 9, code := some k1c3 }
/-- com/example/traceloom/traceloom/TraceIdsIsAcceptedPinLaw -/
def k1 : Class := { plain "com/example/traceloom/traceloom/TraceIdsIsAcceptedPinLaw" (some 0) with
  accessFlags := 49
  interfaces := #[]
  cf := some (fileOf pool1 10 #[] #[{ accessFlags := 1, nameIndex := 5, descriptorIndex := 6, attributes := #[] }, { accessFlags := 10, nameIndex := 13, descriptorIndex := 14, attributes := #[] }, { accessFlags := 10, nameIndex := 32, descriptorIndex := 33, attributes := #[] }, { accessFlags := 9, nameIndex := 40, descriptorIndex := 41, attributes := #[] }] 49 2 #[] #[])
  fields := #[]
  methods := #[k1m0, k1m1, k1m2, k1m3]
  instanceTypes := #[]
  staticTypes := #[]
  resolved := Array.replicate 46 none
  statics := none }

def pool2 : Array CpInfo := pool [(2, .class_ 4), (1, u "java/lang/Object"), (0, u "<init>"), (0, u "()V"), (0, .methodref 8 9), (0, .class_ 10), (0, .nameAndType 11 12), (0, u "java/lang/String"), (0, u "isEmpty"), (0, u "()Z"), (0, .methodref 8 14), (0, .nameAndType 15 16), (0, u "length"), (0, u "()I"), (0, .class_ 18), (0, u "com/example/traceloom/traceloom/TraceIds"), (0, .methodref 8 20), (0, .nameAndType 21 22), (0, u "charAt"), (0, u "(I)C"), (0, .methodref 17 24), (0, .nameAndType 25 26), (0, u "isAcceptedCharacter"), (0, u "(C)Z"), (36, u "MAX_ACCEPTED_LENGTH"), (0, u "I"), (4, u "isAccepted"), (0, u "(Ljava/lang/String;)Z")] 31

def k2m0 : Method := { name := "<init>", desc := "()V", sig := { parameters := [], returnType := none }, accessFlags := 2, code := none }
def k2c1 : Code := { maxStack := 2, maxLocals := 2, code := prog_18_method_2_code, exceptionTable := #[], attributes := #[] }
def k2m1 : Method := { name := "isAccepted", desc := "(Ljava/lang/String;)Z", sig := { parameters := [(.object "java/lang/String")], returnType := some .boolean }, accessFlags := 8, code := some k2c1 }
def k2c2 : Code := { maxStack := 2, maxLocals := 1, code := prog_18_method_3_code, exceptionTable := #[], attributes := #[] }
def k2m2 : Method := { name := "isAcceptedCharacter", desc := "(C)Z", sig := { parameters := [.char], returnType := some .boolean }, accessFlags := 10, code := some k2c2 }
/-- com/example/traceloom/traceloom/TraceIds -/
def k2 : Class := { plain "com/example/traceloom/traceloom/TraceIds" (some 0) with
  accessFlags := 48
  interfaces := #[]
  cf := some (fileOf pool2 17 #[] #[{ accessFlags := 2, nameIndex := 5, descriptorIndex := 6, attributes := #[] }, { accessFlags := 8, nameIndex := 69, descriptorIndex := 70, attributes := #[] }, { accessFlags := 10, nameIndex := 25, descriptorIndex := 26, attributes := #[] }] 48 2 #[] #[{ accessFlags := 26, nameIndex := 63, descriptorIndex := 64, attributes := #[] }])
  fields := #[{ name := "MAX_ACCEPTED_LENGTH", type := .int, accessFlags := 26, slot := 0, constantValue := 0 }]
  methods := #[k2m0, k2m1, k2m2]
  instanceTypes := #[]
  staticTypes := #[.int]
  resolved := Array.replicate 102 none
  statics := none }

def pool3 : Array CpInfo := pool [(1, .class_ 2), (0, u "java/io/Serializable"), (0, .class_ 4), (0, u "java/lang/Object")] 2

/-- java/io/Serializable -/
def k3 : Class := { plain "java/io/Serializable" (some 0) with
  accessFlags := 1537
  interfaces := #[]
  cf := some (fileOf pool3 1 #[] #[] 1537 3 #[] #[])
  fields := #[]
  methods := #[]
  instanceTypes := #[]
  staticTypes := #[]
  resolved := Array.replicate 7 none
  statics := none }

def pool4 : Array CpInfo := pool [(1, .class_ 2), (0, u "java/lang/Comparable"), (0, .class_ 4), (0, u "java/lang/Object")] 7

/-- java/lang/Comparable -/
def k4 : Class := { plain "java/lang/Comparable" (some 0) with
  accessFlags := 1537
  interfaces := #[]
  cf := some (fileOf pool4 1 #[] #[] 1537 3 #[] #[])
  fields := #[]
  methods := #[]
  instanceTypes := #[]
  staticTypes := #[]
  resolved := Array.replicate 12 none
  statics := none }

def pool5 : Array CpInfo := pool [(2, .class_ 4), (1, u "java/lang/CharSequence"), (42, .class_ 48), (0, u "java/lang/CharSequence$1CodePointIterator"), (10, .class_ 60), (0, u "java/lang/CharSequence$1CharIterator"), (5, .class_ 67), (0, u "java/lang/Object")] 63

/-- java/lang/CharSequence -/
def k5 : Class := { plain "java/lang/CharSequence" (some 0) with
  accessFlags := 1537
  interfaces := #[]
  cf := some (fileOf pool5 2 #[.nestMembers #[47, 59]] #[] 1537 66 #[] #[])
  fields := #[]
  methods := #[]
  instanceTypes := #[]
  staticTypes := #[]
  resolved := Array.replicate 131 none
  statics := none }

def pool6 : Array CpInfo := pool [(1, .class_ 2), (0, u "java/lang/constant/Constable"), (0, .class_ 4), (0, u "java/lang/Object")] 6

/-- java/lang/constant/Constable -/
def k6 : Class := { plain "java/lang/constant/Constable" (some 0) with
  accessFlags := 1537
  interfaces := #[]
  cf := some (fileOf pool6 1 #[] #[] 1537 3 #[] #[])
  fields := #[]
  methods := #[]
  instanceTypes := #[]
  staticTypes := #[]
  resolved := Array.replicate 11 none
  statics := none }

def pool7 : Array CpInfo := pool [(1, .class_ 2), (0, u "java/lang/constant/ConstantDesc"), (0, .class_ 4), (0, u "java/lang/Object")] 32

/-- java/lang/constant/ConstantDesc -/
def k7 : Class := { plain "java/lang/constant/ConstantDesc" (some 0) with
  accessFlags := 1537
  interfaces := #[]
  cf := some (fileOf pool7 1 #[] #[] 1537 3 #[] #[])
  fields := #[]
  methods := #[]
  instanceTypes := #[]
  staticTypes := #[]
  resolved := Array.replicate 37 none
  statics := none }

def pool8 : Array CpInfo := pool [(1, .methodref 2 3), (0, .class_ 4), (0, .nameAndType 5 6), (0, u "java/lang/Object"), (0, u "<init>"), (0, u "()V"), (2, .fieldref 10 11), (0, .class_ 12), (0, .nameAndType 13 14), (0, u "java/lang/String"), (0, u "value"), (0, u "[B"), (0, .fieldref 10 16), (0, .nameAndType 17 18), (0, u "coder"), (0, u "B"), (2, u "hash"), (0, u "I"), (2, u "hashIsZero"), (0, u "Z"), (0, .methodref 10 28), (0, .nameAndType 5 29), (0, u "([CIILjava/lang/Void;)V"), (8, .fieldref 10 39), (0, .nameAndType 40 26), (0, u "COMPACT_STRINGS"), (1, .class_ 44), (1, u "java/lang/StringUTF16"), (0, u "compress"), (1, .methodref 42 48), (0, .nameAndType 49 50), (0, u "coderFromArrayLen"), (0, u "([BI)B"), (2, u "toBytes"), (53, .class_ 109), (1, u "java/lang/StringLatin1"), (32, u "()Z"), (34, .methodref 42 178), (0, .nameAndType 45 179), (0, u "([CII)[B"), (29, .methodref 10 210), (0, .nameAndType 5 211), (0, u "([BB)V"), (122, u "()I"), (0, .methodref 10 336), (0, .nameAndType 17 337), (0, u "()B"), (25, u "([BI)C"), (5, u "(C)Z"), (21, u "(II)V"), (35, u "(I)C"), (64, .methodref 10 493), (0, .nameAndType 494 142), (0, u "isLatin1"), (0, .methodref 107 496), (0, .nameAndType 497 363), (0, u "charAt"), (0, .methodref 42 496), (2, u "checkIndex"), (5, u "length"), (67, .class_ 576), (0, u "java/lang/CharSequence"), (22, u "CASE_INSENSITIVE_ORDER"), (0, u "Ljava/util/Comparator;"), (91, u "isEmpty"), (89, u "valueOf"), (0, u "(C)Ljava/lang/String;"), (226, u "([C)V"), (4, .methodref 107 1016), (0, .nameAndType 1017 369), (0, u "canEncode"), (0, .methodref 107 1019), (0, .nameAndType 53 1020), (0, u "(C)[B"), (0, .methodref 42 1019), (31, .fieldref 1054 1055), (0, .class_ 1056), (0, .nameAndType 1057 1058), (0, u "jdk/internal/util/Preconditions"), (0, u "SIOOBE_FORMATTER"), (0, u "Ljava/util/function/BiFunction;"), (0, .methodref 1054 1060), (0, .nameAndType 501 1061), (0, u "(IILjava/util/function/BiFunction;)I"), (39, u "serialPersistentFields"), (0, u "[Ljava/io/ObjectStreamField;"), (0, .class_ 1104), (0, u "java/lang/String$CaseInsensitiveComparator"), (1, .class_ 1107), (0, u "java/io/Serializable"), (0, .class_ 1109), (0, u "java/lang/Comparable"), (0, .class_ 1111), (0, u "java/lang/constant/Constable"), (0, .class_ 1113), (0, u "java/lang/constant/ConstantDesc"), (2, u "serialVersionUID"), (0, u "J"), (3, u "REPL"), (0, u "C"), (2, u "LATIN1"), (1, u "UTF16")] 323

def k8m0 : Method := { name := "<init>", desc := "()V", sig := { parameters := [], returnType := none }, accessFlags := 1, code := none }
def k8c1 : Code := { maxStack := 5, maxLocals := 2, code := jdk_42_method_3_code, exceptionTable := #[], attributes := #[] }
def k8m1 : Method := { name := "<init>", desc := "([C)V", sig := { parameters := [(.array .char)], returnType := none }, accessFlags := 1, code := some k8c1 }
def k8c2 : Code := { maxStack := 2, maxLocals := 1, code := jdk_42_method_54_code, exceptionTable := #[], attributes := #[] }
def k8m2 : Method := { name := "length", desc := "()I", sig := { parameters := [], returnType := some .int }, accessFlags := 1, code := some k8c2 }
def k8c3 : Code := { maxStack := 1, maxLocals := 1, code := jdk_42_method_55_code, exceptionTable := #[], attributes := #[] }
def k8m3 : Method := { name := "isEmpty", desc := "()Z", sig := { parameters := [], returnType := some .boolean }, accessFlags := 1, code := some k8c3 }
def k8c4 : Code := { maxStack := 2, maxLocals := 2, code := jdk_42_method_56_code, exceptionTable := #[], attributes := #[] }
def k8m4 : Method := { name := "charAt", desc := "(I)C", sig := { parameters := [.int], returnType := some .char }, accessFlags := 1, code := some k8c4 }
def k8c5 : Code := { maxStack := 4, maxLocals := 1, code := jdk_42_method_139_code, exceptionTable := #[], attributes := #[] }
def k8m5 : Method := { name := "valueOf", desc := "(C)Ljava/lang/String;", sig := { parameters := [.char], returnType := some (.object "java/lang/String") }, accessFlags := 9, code := some k8c5 }
def k8c6 : Code := { maxStack := 4, maxLocals := 6, code := jdk_42_method_149_code, exceptionTable := #[], attributes := #[] }
def k8m6 : Method := { name := "<init>", desc := "([CIILjava/lang/Void;)V", sig := { parameters := [(.array .char), .int, .int, (.object "java/lang/Void")], returnType := none }, accessFlags := 2, code := some k8c6 }
def k8c7 : Code := { maxStack := 2, maxLocals := 3, code := jdk_42_method_151_code, exceptionTable := #[], attributes := #[] }
def k8m7 : Method := { name := "<init>", desc := "([BB)V", sig := { parameters := [(.array .byte), .byte], returnType := none }, accessFlags := 0, code := some k8c7 }
def k8c8 : Code := { maxStack := 1, maxLocals := 1, code := jdk_42_method_152_code, exceptionTable := #[], attributes := #[] }
def k8m8 : Method := { name := "coder", desc := "()B", sig := { parameters := [], returnType := some .byte }, accessFlags := 0, code := some k8c8 }
def k8c9 : Code := { maxStack := 1, maxLocals := 1, code := jdk_42_method_154_code, exceptionTable := #[], attributes := #[] }
def k8m9 : Method := { name := "isLatin1", desc := "()Z", sig := { parameters := [], returnType := some .boolean }, accessFlags := 0, code := some k8c9 }
def k8c10 : Code := { maxStack := 3, maxLocals := 2, code := jdk_42_method_155_code, exceptionTable := #[], attributes := #[] }
def k8m10 : Method := { name := "checkIndex", desc := "(II)V", sig := { parameters := [.int, .int], returnType := none }, accessFlags := 8, code := some k8c10 }
/-- java/lang/String -/
def k8 : Class := { plain "java/lang/String" (some 0) with
  accessFlags := 49
  interfaces := #[3, 4, 5, 6, 7]
  cf := some (fileOf pool8 10 #[.nestMembers #[1103]] #[{ accessFlags := 1, nameIndex := 5, descriptorIndex := 6, attributes := #[] }, { accessFlags := 1, nameIndex := 5, descriptorIndex := 1010, attributes := #[] }, { accessFlags := 1, nameIndex := 507, descriptorIndex := 334, attributes := #[] }, { accessFlags := 1, nameIndex := 692, descriptorIndex := 142, attributes := #[] }, { accessFlags := 1, nameIndex := 497, descriptorIndex := 427, attributes := #[] }, { accessFlags := 9, nameIndex := 782, descriptorIndex := 783, attributes := #[] }, { accessFlags := 2, nameIndex := 5, descriptorIndex := 29, attributes := #[] }, { accessFlags := 0, nameIndex := 5, descriptorIndex := 211, attributes := #[] }, { accessFlags := 0, nameIndex := 17, descriptorIndex := 337, attributes := #[] }, { accessFlags := 0, nameIndex := 494, descriptorIndex := 142, attributes := #[] }, { accessFlags := 8, nameIndex := 501, descriptorIndex := 391, attributes := #[] }] 49 2 #[1106, 1108, 575, 1110, 1112] #[{ accessFlags := 18, nameIndex := 13, descriptorIndex := 14, attributes := #[] }, { accessFlags := 18, nameIndex := 17, descriptorIndex := 18, attributes := #[] }, { accessFlags := 2, nameIndex := 21, descriptorIndex := 22, attributes := #[] }, { accessFlags := 2, nameIndex := 25, descriptorIndex := 26, attributes := #[] }, { accessFlags := 26, nameIndex := 1116, descriptorIndex := 1117, attributes := #[] }, { accessFlags := 24, nameIndex := 40, descriptorIndex := 26, attributes := #[] }, { accessFlags := 26, nameIndex := 1101, descriptorIndex := 1102, attributes := #[] }, { accessFlags := 26, nameIndex := 1121, descriptorIndex := 1122, attributes := #[] }, { accessFlags := 25, nameIndex := 599, descriptorIndex := 600, attributes := #[] }, { accessFlags := 24, nameIndex := 1125, descriptorIndex := 18, attributes := #[] }, { accessFlags := 24, nameIndex := 1127, descriptorIndex := 18, attributes := #[] }])
  fields := #[{ name := "value", type := (.array .byte), accessFlags := 18, slot := 0, constantValue := 0 }, { name := "coder", type := .byte, accessFlags := 18, slot := 1, constantValue := 0 }, { name := "hash", type := .int, accessFlags := 2, slot := 2, constantValue := 0 }, { name := "hashIsZero", type := .boolean, accessFlags := 2, slot := 3, constantValue := 0 }, { name := "serialVersionUID", type := .long, accessFlags := 26, slot := 0, constantValue := 0 }, { name := "COMPACT_STRINGS", type := .boolean, accessFlags := 24, slot := 1, constantValue := 0 }, { name := "serialPersistentFields", type := (.array (.object "java/io/ObjectStreamField")), accessFlags := 26, slot := 2, constantValue := 0 }, { name := "REPL", type := .char, accessFlags := 26, slot := 3, constantValue := 0 }, { name := "CASE_INSENSITIVE_ORDER", type := (.object "java/util/Comparator"), accessFlags := 25, slot := 4, constantValue := 0 }, { name := "LATIN1", type := .byte, accessFlags := 24, slot := 5, constantValue := 0 }, { name := "UTF16", type := .byte, accessFlags := 24, slot := 6, constantValue := 0 }]
  methods := #[k8m0, k8m1, k8m2, k8m3, k8m4, k8m5, k8m6, k8m7, k8m8, k8m9, k8m10]
  instanceTypes := #[(.array .byte), .byte, .int, .boolean]
  staticTypes := #[.long, .boolean, (.array (.object "java/io/ObjectStreamField")), .char, (.object "java/util/Comparator"), .byte, .byte]
  resolved := Array.replicate 1451 none
  statics := some 0 }

def pool9 : Array CpInfo := pool [(3, .class_ 4), (0, u "java/lang/String"), (1, .class_ 8), (1, u "java/lang/Object"), (0, u "<init>"), (0, u "()V"), (0, .methodref 12 13), (0, .class_ 14), (0, .nameAndType 15 16), (0, u "java/lang/StringUTF16"), (0, u "newBytesLength"), (0, u "(I)I"), (3, .integer 1073741823), (23, .fieldref 12 45), (0, .nameAndType 46 47), (0, u "$assertionsDisabled"), (0, u "Z"), (0, .methodref 12 49), (0, .nameAndType 50 51), (0, u "length"), (0, u "([B)I"), (7, .fieldref 12 60), (0, .nameAndType 61 62), (0, u "HI_BYTE_SHIFT"), (0, u "I"), (0, .fieldref 12 64), (0, .nameAndType 65 62), (0, u "LO_BYTE_SHIFT"), (1, .methodref 12 68), (0, .nameAndType 69 70), (0, u "checkIndex"), (0, u "(I[B)V"), (0, .methodref 12 72), (0, .nameAndType 73 74), (0, u "getChar"), (0, u "([BI)C"), (32, .methodref 12 108), (0, .nameAndType 109 110), (0, u "newBytesFor"), (0, u "(I)[B"), (0, .methodref 12 112), (0, .nameAndType 113 114), (0, u "putChar"), (0, u "([BII)V"), (0, .methodref 12 116), (0, .nameAndType 117 118), (0, u "compress"), (0, u "([CI[BII)I"), (0, .methodref 12 120), (0, .nameAndType 121 122), (0, u "toBytes"), (0, u "([CII)[B"), (138, u "coderFromArrayLen"), (0, u "([BI)B"), (106, .class_ 371), (1, u "java/lang/StringUTF16$LinesSpliterator"), (20, u "charAt"), (21, .methodref 3 415), (0, .nameAndType 69 416), (0, u "(II)V"), (13, u "MAX_LENGTH"), (44, u "(C)[B"), (151, .class_ 628), (0, u "java/lang/StringUTF16$CodePointsSpliterator"), (0, .class_ 630), (0, u "java/lang/StringUTF16$CharsSpliterator")] 4

def k9m0 : Method := { name := "<init>", desc := "()V", sig := { parameters := [], returnType := none }, accessFlags := 0, code := none }
def k9c1 : Code := { maxStack := 1, maxLocals := 1, code := jdk_52_method_2_code, exceptionTable := #[], attributes := #[] }
def k9m1 : Method := { name := "newBytesFor", desc := "(I)[B", sig := { parameters := [.int], returnType := some (.array .byte) }, accessFlags := 9, code := some k9c1 }
def k9c2 : Code := { maxStack := 4, maxLocals := 1, code := jdk_52_method_3_code, exceptionTable := #[], attributes := #[] }
def k9m2 : Method := { name := "newBytesLength", desc := "(I)I", sig := { parameters := [.int], returnType := some .int }, accessFlags := 9, code := some k9c2 }
def k9c3 : Code := { maxStack := 4, maxLocals := 3, code := jdk_52_method_4_code, exceptionTable := #[], attributes := #[] }
def k9m3 : Method := { name := "putChar", desc := "([BII)V", sig := { parameters := [(.array .byte), .int, .int], returnType := none }, accessFlags := 8, code := some k9c3 }
def k9c4 : Code := { maxStack := 3, maxLocals := 2, code := jdk_52_method_5_code, exceptionTable := #[], attributes := #[] }
def k9m4 : Method := { name := "getChar", desc := "([BI)C", sig := { parameters := [(.array .byte), .int], returnType := some .char }, accessFlags := 8, code := some k9c4 }
def k9c5 : Code := { maxStack := 2, maxLocals := 1, code := jdk_52_method_6_code, exceptionTable := #[], attributes := #[] }
def k9m5 : Method := { name := "length", desc := "([B)I", sig := { parameters := [(.array .byte)], returnType := some .int }, accessFlags := 9, code := some k9c5 }
def k9c6 : Code := { maxStack := 4, maxLocals := 5, code := jdk_52_method_14_code, exceptionTable := #[], attributes := #[] }
def k9m6 : Method := { name := "toBytes", desc := "([CII)[B", sig := { parameters := [(.array .char), .int, .int], returnType := some (.array .byte) }, accessFlags := 9, code := some k9c6 }
def k9c7 : Code := { maxStack := 2, maxLocals := 2, code := jdk_52_method_15_code, exceptionTable := #[], attributes := #[] }
def k9m7 : Method := { name := "coderFromArrayLen", desc := "([BI)B", sig := { parameters := [(.array .byte), .int], returnType := some .byte }, accessFlags := 8, code := some k9c7 }
def k9c8 : Code := { maxStack := 5, maxLocals := 6, code := jdk_52_method_16_code, exceptionTable := #[], attributes := #[] }
def k9m8 : Method := { name := "compress", desc := "([CII)[B", sig := { parameters := [(.array .char), .int, .int], returnType := some (.array .byte) }, accessFlags := 9, code := some k9c8 }
def k9c9 : Code := { maxStack := 3, maxLocals := 7, code := jdk_52_method_21_code, exceptionTable := #[], attributes := #[] }
def k9m9 : Method := { name := "compress", desc := "([CI[BII)I", sig := { parameters := [(.array .char), .int, (.array .byte), .int, .int], returnType := some .int }, accessFlags := 9, code := some k9c9 }
def k9c10 : Code := { maxStack := 3, maxLocals := 2, code := jdk_52_method_24_code, exceptionTable := #[], attributes := #[] }
def k9m10 : Method := { name := "toBytes", desc := "(C)[B", sig := { parameters := [.char], returnType := some (.array .byte) }, accessFlags := 9, code := some k9c10 }
def k9c11 : Code := { maxStack := 2, maxLocals := 2, code := jdk_52_method_83_code, exceptionTable := #[], attributes := #[] }
def k9m11 : Method := { name := "charAt", desc := "([BI)C", sig := { parameters := [(.array .byte), .int], returnType := some .char }, accessFlags := 9, code := some k9c11 }
def k9c12 : Code := { maxStack := 2, maxLocals := 2, code := jdk_52_method_91_code, exceptionTable := #[], attributes := #[] }
def k9m12 : Method := { name := "checkIndex", desc := "(I[B)V", sig := { parameters := [.int, (.array .byte)], returnType := none }, accessFlags := 9, code := some k9c12 }
/-- java/lang/StringUTF16 -/
def k9 : Class := { plain "java/lang/StringUTF16" (some 0) with
  accessFlags := 48
  interfaces := #[]
  cf := some (fileOf pool9 12 #[.nestMembers #[627, 629, 369]] #[{ accessFlags := 0, nameIndex := 9, descriptorIndex := 10, attributes := #[] }, { accessFlags := 9, nameIndex := 109, descriptorIndex := 110, attributes := #[] }, { accessFlags := 9, nameIndex := 15, descriptorIndex := 16, attributes := #[] }, { accessFlags := 8, nameIndex := 113, descriptorIndex := 114, attributes := #[] }, { accessFlags := 8, nameIndex := 73, descriptorIndex := 74, attributes := #[] }, { accessFlags := 9, nameIndex := 50, descriptorIndex := 51, attributes := #[] }, { accessFlags := 9, nameIndex := 121, descriptorIndex := 122, attributes := #[] }, { accessFlags := 8, nameIndex := 261, descriptorIndex := 262, attributes := #[] }, { accessFlags := 9, nameIndex := 117, descriptorIndex := 122, attributes := #[] }, { accessFlags := 9, nameIndex := 117, descriptorIndex := 118, attributes := #[] }, { accessFlags := 9, nameIndex := 121, descriptorIndex := 475, attributes := #[] }, { accessFlags := 9, nameIndex := 392, descriptorIndex := 74, attributes := #[] }, { accessFlags := 9, nameIndex := 69, descriptorIndex := 70, attributes := #[] }] 48 6 #[] #[{ accessFlags := 26, nameIndex := 61, descriptorIndex := 62, attributes := #[] }, { accessFlags := 26, nameIndex := 65, descriptorIndex := 62, attributes := #[] }, { accessFlags := 24, nameIndex := 430, descriptorIndex := 62, attributes := #[] }, { accessFlags := 4120, nameIndex := 46, descriptorIndex := 47, attributes := #[] }])
  fields := #[{ name := "HI_BYTE_SHIFT", type := .int, accessFlags := 26, slot := 0, constantValue := 0 }, { name := "LO_BYTE_SHIFT", type := .int, accessFlags := 26, slot := 1, constantValue := 0 }, { name := "MAX_LENGTH", type := .int, accessFlags := 24, slot := 2, constantValue := 0 }, { name := "$assertionsDisabled", type := .boolean, accessFlags := 4120, slot := 3, constantValue := 0 }]
  methods := #[k9m0, k9m1, k9m2, k9m3, k9m4, k9m5, k9m6, k9m7, k9m8, k9m9, k9m10, k9m11, k9m12]
  instanceTypes := #[]
  staticTypes := #[.int, .int, .int, .boolean]
  resolved := Array.replicate 635 none
  statics := some 1 }

def pool10 : Array CpInfo := pool [(1, .class_ 2), (0, u "java/lang/String"), (1, .class_ 6), (1, u "java/lang/Object"), (0, u "<init>"), (0, u "()V"), (0, .methodref 1 10), (0, .nameAndType 11 12), (0, u "checkIndex"), (0, u "(II)V"), (1, .class_ 16), (1, u "java/lang/StringLatin1"), (36, u "([BI)C"), (36, u "canEncode"), (14, u "(C)Z"), (15, u "$assertionsDisabled"), (0, u "Z"), (98, .class_ 223), (1, u "java/lang/StringLatin1$LinesSpliterator"), (28, u "charAt"), (127, u "toBytes"), (1, u "(C)[B"), (7, .class_ 391), (0, u "java/lang/StringLatin1$CharsSpliterator")] 3

def k10m0 : Method := { name := "<init>", desc := "()V", sig := { parameters := [], returnType := none }, accessFlags := 0, code := none }
def k10c1 : Code := { maxStack := 2, maxLocals := 2, code := jdk_43_method_2_code, exceptionTable := #[], attributes := #[] }
def k10m1 : Method := { name := "charAt", desc := "([BI)C", sig := { parameters := [(.array .byte), .int], returnType := some .char }, accessFlags := 9, code := some k10c1 }
def k10c2 : Code := { maxStack := 2, maxLocals := 1, code := jdk_43_method_3_code, exceptionTable := #[], attributes := #[] }
def k10m2 : Method := { name := "canEncode", desc := "(C)Z", sig := { parameters := [.char], returnType := some .boolean }, accessFlags := 9, code := some k10c2 }
def k10c3 : Code := { maxStack := 4, maxLocals := 1, code := jdk_43_method_46_code, exceptionTable := #[], attributes := #[] }
def k10m3 : Method := { name := "toBytes", desc := "(C)[B", sig := { parameters := [.char], returnType := some (.array .byte) }, accessFlags := 9, code := some k10c3 }
/-- java/lang/StringLatin1 -/
def k10 : Class := { plain "java/lang/StringLatin1" (some 0) with
  accessFlags := 48
  interfaces := #[]
  cf := some (fileOf pool10 14 #[.nestMembers #[390, 221]] #[{ accessFlags := 0, nameIndex := 7, descriptorIndex := 8, attributes := #[] }, { accessFlags := 9, nameIndex := 252, descriptorIndex := 53, attributes := #[] }, { accessFlags := 9, nameIndex := 90, descriptorIndex := 105, attributes := #[] }, { accessFlags := 9, nameIndex := 380, descriptorIndex := 382, attributes := #[] }] 48 4 #[] #[{ accessFlags := 4120, nameIndex := 121, descriptorIndex := 122, attributes := #[] }])
  fields := #[{ name := "$assertionsDisabled", type := .boolean, accessFlags := 4120, slot := 0, constantValue := 0 }]
  methods := #[k10m0, k10m1, k10m2, k10m3]
  instanceTypes := #[]
  staticTypes := #[.boolean]
  resolved := Array.replicate 395 none
  statics := none }

def pool11 : Array CpInfo := pool [(2, .class_ 4), (1, u "java/lang/Object"), (0, u "<init>"), (0, u "()V"), (17, .class_ 26), (1, u "jdk/internal/util/Preconditions"), (6, u "checkIndex"), (21, .class_ 56), (0, u "jdk/internal/util/Preconditions$4"), (57, .class_ 115), (0, u "jdk/internal/util/Preconditions$1"), (7, u "SIOOBE_FORMATTER"), (0, u "Ljava/util/function/BiFunction;"), (0, .class_ 126), (0, u "jdk/internal/util/Preconditions$2"), (3, u "AIOOBE_FORMATTER"), (0, .class_ 132), (0, u "jdk/internal/util/Preconditions$3"), (3, u "IOOBE_FORMATTER"), (41, u "(IILjava/util/function/BiFunction;)I")] 15

def k11m0 : Method := { name := "<init>", desc := "()V", sig := { parameters := [], returnType := none }, accessFlags := 1, code := none }
def k11c1 : Code := { maxStack := 3, maxLocals := 3, code := jdk_41_method_11_code, exceptionTable := #[], attributes := #[] }
def k11m1 : Method := { name := "checkIndex", desc := "(IILjava/util/function/BiFunction;)I", sig := { parameters := [.int, .int, (.object "java/util/function/BiFunction")], returnType := some .int }, accessFlags := 9, code := some k11c1 }
/-- jdk/internal/util/Preconditions -/
def k11 : Class := { plain "jdk/internal/util/Preconditions" (some 0) with
  accessFlags := 33
  interfaces := #[]
  cf := some (fileOf pool11 24 #[.nestMembers #[55, 131, 125, 114]] #[{ accessFlags := 1, nameIndex := 5, descriptorIndex := 6, attributes := #[] }, { accessFlags := 9, nameIndex := 33, descriptorIndex := 178, attributes := #[] }] 33 2 #[] #[{ accessFlags := 25, nameIndex := 123, descriptorIndex := 124, attributes := #[] }, { accessFlags := 25, nameIndex := 130, descriptorIndex := 124, attributes := #[] }, { accessFlags := 25, nameIndex := 136, descriptorIndex := 124, attributes := #[] }])
  fields := #[{ name := "SIOOBE_FORMATTER", type := (.object "java/util/function/BiFunction"), accessFlags := 25, slot := 0, constantValue := 0 }, { name := "AIOOBE_FORMATTER", type := (.object "java/util/function/BiFunction"), accessFlags := 25, slot := 1, constantValue := 0 }, { name := "IOOBE_FORMATTER", type := (.object "java/util/function/BiFunction"), accessFlags := 25, slot := 2, constantValue := 0 }]
  methods := #[k11m0, k11m1]
  instanceTypes := #[]
  staticTypes := #[(.object "java/util/function/BiFunction"), (.object "java/util/function/BiFunction"), (.object "java/util/function/BiFunction")]
  resolved := Array.replicate 194 none
  statics := some 2 }

def pool12 : Array CpInfo := pool [(9, u "<init>"), (6, .class_ 18), (1, u "java/lang/Object"), (0, u "()V"), (1, .class_ 23), (1, u "jdk/internal/util/ArraysSupport"), (0, u "LOG2_ARRAY_LONG_INDEX_SCALE"), (0, u "I"), (2, u "U"), (0, u "Ljdk/internal/misc/Unsafe;"), (8, u "BIG_ENDIAN"), (0, u "Z"), (8, u "LOG2_BYTE_BIT_SIZE"), (4, u "LOG2_ARRAY_INT_INDEX_SCALE"), (54, u "JLA"), (0, u "Ljdk/internal/access/JavaLangAccess;"), (11, u "LOG2_ARRAY_BOOLEAN_INDEX_SCALE"), (9, u "LOG2_ARRAY_BYTE_INDEX_SCALE"), (5, u "LOG2_ARRAY_CHAR_INDEX_SCALE"), (5, u "LOG2_ARRAY_SHORT_INDEX_SCALE"), (18, u "LOG2_ARRAY_FLOAT_INDEX_SCALE"), (24, u "LOG2_ARRAY_DOUBLE_INDEX_SCALE"), (89, u "T_BOOLEAN"), (2, u "T_CHAR"), (1, u "T_FLOAT"), (1, u "T_DOUBLE"), (1, u "T_BYTE"), (1, u "T_SHORT"), (1, u "T_INT"), (1, u "T_LONG"), (1, u "SOFT_MAX_ARRAY_LENGTH")] 83

def k12m0 : Method := { name := "<init>", desc := "()V", sig := { parameters := [], returnType := none }, accessFlags := 2, code := none }
/-- jdk/internal/util/ArraysSupport -/
def k12 : Class := { plain "jdk/internal/util/ArraysSupport" (some 0) with
  accessFlags := 33
  interfaces := #[]
  cf := some (fileOf pool12 21 #[] #[{ accessFlags := 2, nameIndex := 9, descriptorIndex := 19, attributes := #[] }] 33 16 #[] #[{ accessFlags := 24, nameIndex := 28, descriptorIndex := 29, attributes := #[] }, { accessFlags := 26, nameIndex := 38, descriptorIndex := 39, attributes := #[] }, { accessFlags := 25, nameIndex := 121, descriptorIndex := 25, attributes := #[] }, { accessFlags := 25, nameIndex := 131, descriptorIndex := 25, attributes := #[] }, { accessFlags := 25, nameIndex := 137, descriptorIndex := 25, attributes := #[] }, { accessFlags := 25, nameIndex := 143, descriptorIndex := 25, attributes := #[] }, { accessFlags := 25, nameIndex := 53, descriptorIndex := 25, attributes := #[] }, { accessFlags := 25, nameIndex := 24, descriptorIndex := 25, attributes := #[] }, { accessFlags := 25, nameIndex := 162, descriptorIndex := 25, attributes := #[] }, { accessFlags := 25, nameIndex := 187, descriptorIndex := 25, attributes := #[] }, { accessFlags := 26, nameIndex := 48, descriptorIndex := 25, attributes := #[] }, { accessFlags := 25, nameIndex := 277, descriptorIndex := 25, attributes := #[] }, { accessFlags := 25, nameIndex := 280, descriptorIndex := 25, attributes := #[] }, { accessFlags := 25, nameIndex := 282, descriptorIndex := 25, attributes := #[] }, { accessFlags := 25, nameIndex := 284, descriptorIndex := 25, attributes := #[] }, { accessFlags := 25, nameIndex := 286, descriptorIndex := 25, attributes := #[] }, { accessFlags := 25, nameIndex := 288, descriptorIndex := 25, attributes := #[] }, { accessFlags := 25, nameIndex := 290, descriptorIndex := 25, attributes := #[] }, { accessFlags := 25, nameIndex := 292, descriptorIndex := 25, attributes := #[] }, { accessFlags := 26, nameIndex := 108, descriptorIndex := 109, attributes := #[] }, { accessFlags := 25, nameIndex := 294, descriptorIndex := 25, attributes := #[] }])
  fields := #[{ name := "U", type := (.object "jdk/internal/misc/Unsafe"), accessFlags := 24, slot := 0, constantValue := 0 }, { name := "BIG_ENDIAN", type := .boolean, accessFlags := 26, slot := 1, constantValue := 0 }, { name := "LOG2_ARRAY_BOOLEAN_INDEX_SCALE", type := .int, accessFlags := 25, slot := 2, constantValue := 0 }, { name := "LOG2_ARRAY_BYTE_INDEX_SCALE", type := .int, accessFlags := 25, slot := 3, constantValue := 0 }, { name := "LOG2_ARRAY_CHAR_INDEX_SCALE", type := .int, accessFlags := 25, slot := 4, constantValue := 0 }, { name := "LOG2_ARRAY_SHORT_INDEX_SCALE", type := .int, accessFlags := 25, slot := 5, constantValue := 0 }, { name := "LOG2_ARRAY_INT_INDEX_SCALE", type := .int, accessFlags := 25, slot := 6, constantValue := 0 }, { name := "LOG2_ARRAY_LONG_INDEX_SCALE", type := .int, accessFlags := 25, slot := 7, constantValue := 0 }, { name := "LOG2_ARRAY_FLOAT_INDEX_SCALE", type := .int, accessFlags := 25, slot := 8, constantValue := 0 }, { name := "LOG2_ARRAY_DOUBLE_INDEX_SCALE", type := .int, accessFlags := 25, slot := 9, constantValue := 0 }, { name := "LOG2_BYTE_BIT_SIZE", type := .int, accessFlags := 26, slot := 10, constantValue := 0 }, { name := "T_BOOLEAN", type := .int, accessFlags := 25, slot := 11, constantValue := 0 }, { name := "T_CHAR", type := .int, accessFlags := 25, slot := 12, constantValue := 0 }, { name := "T_FLOAT", type := .int, accessFlags := 25, slot := 13, constantValue := 0 }, { name := "T_DOUBLE", type := .int, accessFlags := 25, slot := 14, constantValue := 0 }, { name := "T_BYTE", type := .int, accessFlags := 25, slot := 15, constantValue := 0 }, { name := "T_SHORT", type := .int, accessFlags := 25, slot := 16, constantValue := 0 }, { name := "T_INT", type := .int, accessFlags := 25, slot := 17, constantValue := 0 }, { name := "T_LONG", type := .int, accessFlags := 25, slot := 18, constantValue := 0 }, { name := "JLA", type := (.object "jdk/internal/access/JavaLangAccess"), accessFlags := 26, slot := 19, constantValue := 0 }, { name := "SOFT_MAX_ARRAY_LENGTH", type := .int, accessFlags := 25, slot := 20, constantValue := 0 }]
  methods := #[k12m0]
  instanceTypes := #[]
  staticTypes := #[(.object "jdk/internal/misc/Unsafe"), .boolean, .int, .int, .int, .int, .int, .int, .int, .int, .int, .int, .int, .int, .int, .int, .int, .int, .int, (.object "jdk/internal/access/JavaLangAccess"), .int]
  resolved := Array.replicate 378 none
  statics := none }

def pool13 : Array CpInfo := pool [(1, u "java/lang/Cloneable"), (0, .class_ 1), (0, u "java/lang/Object"), (0, .class_ 3)] 3

/-- java/lang/Cloneable -/
def k13 : Class := { plain "java/lang/Cloneable" (some 0) with
  accessFlags := 1537
  interfaces := #[]
  cf := some (fileOf pool13 2 #[] #[] 1537 4 #[] #[])
  fields := #[]
  methods := #[]
  instanceTypes := #[]
  staticTypes := #[]
  resolved := Array.replicate 8 none
  statics := none }

/-- the primitive byte -/
def k14 : Class := { plain "byte" none with kind := .primitive 'B', accessFlags := 0x411 }
/-- [B -/
def k15 : Class := { plain "[B" (some 0) with kind := .array 14 .byte, interfaces := #[13, 3], accessFlags := 1041 }

/-- the primitive char -/
def k16 : Class := { plain "char" none with kind := .primitive 'C', accessFlags := 0x411 }
/-- [C -/
def k17 : Class := { plain "[C" (some 0) with kind := .array 16 .char, interfaces := #[13, 3], accessFlags := 1041 }

/-- the primitive int -/
def k18 : Class := { plain "int" none with kind := .primitive 'I', accessFlags := 0x411 }
/-- [I -/
def k19 : Class := { plain "[I" (some 0) with kind := .array 18 .int, interfaces := #[13, 3], accessFlags := 1041 }

def heap : Heap := #[{ cls := 8, slots := #[.long 0, .int 1, .null, .int 0, .null, .int 0, .int 0], vm := .statics 8 },
  { cls := 9, slots := #[.int 0, .int 8, .int 0, .int 1], vm := .statics 9 },
  { cls := 11, slots := #[.null, .null, .null], vm := .statics 11 }]
def classes : Array Class := #[k0, k1, k2, k3, k4, k5, k6, k7, k8, k9, k10, k11, k12, k13, k14, k15, k16, k17, k18, k19]
def interned : List (Array UInt16 × Addr) := []
def slotsUsed : Nat := 14
def theMethod : MethodId := ⟨1, 3⟩
def args0 : Array Value := #[.int 5, .int 6, .int 7, .int 8, .int 9]
def aboutOver (below : List Frame) : State where
  vm := { classes := classes, interned := interned.toArray }
  heap := heap
  slotsUsed := slotsUsed
  threads := #[{ frames := .invoking theMethod args0 :: below }]
def below0 : List Frame := [.native { method := ⟨0, 0⟩, args := #[] }]
def about1 : State := aboutOver below0
def p0 : Program := .bare "" "" ""
def e0 : Env := launch0.env 0 0 0
theorem w_frames : about1.frames = Frame.invoking theMethod args0 :: below0 := rfl
set_option maxRecDepth 65536 in
theorem w_args : argsFit about1.vm theMethod args0 = true := by decide +kernel
set_option maxRecDepth 65536 in
theorem w_heap : heapFits about1 = true := by decide +kernel
set_option maxRecDepth 65536 in
theorem w_runnable : about1.curStatus? = some .runnable := by decide +kernel
set_option maxRecDepth 65536 in
theorem w_alone : about1.alone = true := by decide +kernel
set_option maxRecDepth 65536 in
theorem w_named : about1.methodNamed? x = some theMethod := by decide +kernel
set_option maxRecDepth 65536 in
theorem w_hears : about1.hears theMethod below0 = true := by decide +kernel
set_option maxRecDepth 65536 in
theorem w_ripe : about1.ripe theMethod args0 below0 = true := by decide +kernel
theorem w_running : about1.status = .running := rfl
set_option maxRecDepth 65536 in
theorem w_room : about1.hasRoom e0.platform room_1 = true :=
  launch0.hasRoom_least _ room_1 (by decide +kernel) (by decide +kernel) (by decide +kernel) (by decide +kernel) (by decide +kernel) (by decide +kernel)
theorem allAtoms_all (ts : List Jvm.Cond) (a : Array Jvm.Value) (st : Jvm.State) : (allAtoms ts).before a st = ts.all (fun c => c.before a st) := by
  induction ts with
  | nil => rfl
  | cons c t ih =>
    show (Jvm.Cond.and c (allAtoms t)).before a st = _
    rw [Jvm.Cond.before_and, ih, List.all_cons]
def words1 : List Jvm.Cond := Jvm.Cond.code x code maxLocals ret :: tables_1
/-- a 'code' word, met by the world's own term for the bytes: nothing is compared byte by byte -/
theorem code_word {y : MethodName} {bytes : ByteArray} {mx : Nat} {rt : Option FieldType} {a : Array Value} {s : State} {m : MethodId} {meth : Method} {c : Code} (h1 : s.methodNamed? y = some m) (h2 : s.vm.method? m = some meth) (h3 : meth.code = some c) (h4 : c.code = bytes)
    (h5 : (c.maxLocals == mx && c.exceptionTable.isEmpty && decide (c.maxStack ≤ mostOperands) && decide (meth.sig.returnType = rt) && !meth.locks && decide (parseMethodDescriptor y.desc = some meth.sig)) = true) : (Jvm.Cond.code y bytes mx rt).before a s = true := by
  simp only [Bool.and_eq_true, beq_iff_eq, Bool.not_eq_true', decide_eq_true_eq] at h5
  obtain ⟨⟨⟨⟨⟨g1, g2⟩, g3⟩, g4⟩, g5⟩, g6⟩ := h5
  simp [Cond.before, Cond.holds, Cond.value, h1, h2, h3, h4, g1, g2, g3, g4, g5, g6]
def isCode : Jvm.Cond → Bool
  | .code _ _ _ _ => true
  | _ => false
theorem all_split {L : List Jvm.Cond} {P : Jvm.Cond → Bool} (h1 : L.all (fun c => isCode c || P c) = true) (h2 : ∀ c ∈ L.filter isCode, P c = true) : L.all P = true := by
  refine List.all_eq_true.mpr fun c hc => ?_
  have h := List.all_eq_true.mp h1 c hc
  rcases Bool.eq_false_or_eq_true (isCode c) with hi | hi
  · exact h2 c (List.mem_filter.mpr ⟨hc, hi⟩)
  · simpa [hi] using h
set_option maxRecDepth 65536 in
theorem w_c0 : (Jvm.Cond.code x code maxLocals ret).before args0 about1 = true := code_word (m := ⟨1, 3⟩) (meth := k1m3) (c := k1c3) (by decide +kernel) rfl rfl rfl (by decide +kernel)
set_option maxRecDepth 65536 in
theorem w_c1 : (Jvm.Cond.code ({ cls := "com/example/traceloom/traceloom/TraceIdsIsAcceptedPinLaw", name := "draw", desc := "(I)C" } : Jvm.MethodName) method_2_code (1 : Nat) (Option.some Jvm.ClassFile.FieldType.char)).before args0 about1 = true := code_word (m := ⟨1, 1⟩) (meth := k1m1) (c := k1c1) (by decide +kernel) rfl rfl rfl (by decide +kernel)
set_option maxRecDepth 65536 in
theorem w_c2 : (Jvm.Cond.code ({ cls := "com/example/traceloom/traceloom/TraceIds", name := "isAccepted", desc := "(Ljava/lang/String;)Z" } : Jvm.MethodName) prog_18_method_2_code (2 : Nat) (Option.some Jvm.ClassFile.FieldType.boolean)).before args0 about1 = true := code_word (m := ⟨2, 1⟩) (meth := k2m1) (c := k2c1) (by decide +kernel) rfl rfl rfl (by decide +kernel)
set_option maxRecDepth 65536 in
theorem w_c3 : (Jvm.Cond.code ({ cls := "java/lang/String", name := "<init>", desc := "([C)V" } : Jvm.MethodName) jdk_42_method_3_code (2 : Nat) (Option.none : Option Jvm.ClassFile.FieldType)).before args0 about1 = true := code_word (m := ⟨8, 1⟩) (meth := k8m1) (c := k8c1) (by decide +kernel) rfl rfl rfl (by decide +kernel)
set_option maxRecDepth 65536 in
theorem w_c4 : (Jvm.Cond.code ({ cls := "java/lang/String", name := "<init>", desc := "([CIILjava/lang/Void;)V" } : Jvm.MethodName) jdk_42_method_149_code (6 : Nat) (Option.none : Option Jvm.ClassFile.FieldType)).before args0 about1 = true := code_word (m := ⟨8, 6⟩) (meth := k8m6) (c := k8c6) (by decide +kernel) rfl rfl rfl (by decide +kernel)
set_option maxRecDepth 65536 in
theorem w_c5 : (Jvm.Cond.code ({ cls := "java/lang/Object", name := "<init>", desc := "()V" } : Jvm.MethodName) object_method_1_code (1 : Nat) (Option.none : Option Jvm.ClassFile.FieldType)).before args0 about1 = true := code_word (m := ⟨0, 0⟩) (meth := k0m0) (c := k0c0) (by decide +kernel) rfl rfl rfl (by decide +kernel)
set_option maxRecDepth 65536 in
theorem w_c6 : (Jvm.Cond.code ({ cls := "java/lang/StringUTF16", name := "compress", desc := "([CII)[B" } : Jvm.MethodName) jdk_52_method_16_code (6 : Nat) (Option.some (Jvm.ClassFile.FieldType.array Jvm.ClassFile.FieldType.byte))).before args0 about1 = true := code_word (m := ⟨9, 8⟩) (meth := k9m8) (c := k9c8) (by decide +kernel) rfl rfl rfl (by decide +kernel)
set_option maxRecDepth 65536 in
theorem w_c7 : (Jvm.Cond.code ({ cls := "java/lang/StringUTF16", name := "compress", desc := "([CI[BII)I" } : Jvm.MethodName) jdk_52_method_21_code (7 : Nat) (Option.some Jvm.ClassFile.FieldType.int)).before args0 about1 = true := code_word (m := ⟨9, 9⟩) (meth := k9m9) (c := k9c9) (by decide +kernel) rfl rfl rfl (by decide +kernel)
set_option maxRecDepth 65536 in
theorem w_c8 : (Jvm.Cond.code ({ cls := "java/lang/StringUTF16", name := "coderFromArrayLen", desc := "([BI)B" } : Jvm.MethodName) jdk_52_method_15_code (2 : Nat) (Option.some Jvm.ClassFile.FieldType.byte)).before args0 about1 = true := code_word (m := ⟨9, 7⟩) (meth := k9m7) (c := k9c7) (by decide +kernel) rfl rfl rfl (by decide +kernel)
set_option maxRecDepth 65536 in
theorem w_c9 : (Jvm.Cond.code ({ cls := "java/lang/String", name := "isEmpty", desc := "()Z" } : Jvm.MethodName) jdk_42_method_55_code (1 : Nat) (Option.some Jvm.ClassFile.FieldType.boolean)).before args0 about1 = true := code_word (m := ⟨8, 3⟩) (meth := k8m3) (c := k8c3) (by decide +kernel) rfl rfl rfl (by decide +kernel)
set_option maxRecDepth 65536 in
theorem w_c10 : (Jvm.Cond.code ({ cls := "java/lang/String", name := "length", desc := "()I" } : Jvm.MethodName) jdk_42_method_54_code (1 : Nat) (Option.some Jvm.ClassFile.FieldType.int)).before args0 about1 = true := code_word (m := ⟨8, 2⟩) (meth := k8m2) (c := k8c2) (by decide +kernel) rfl rfl rfl (by decide +kernel)
set_option maxRecDepth 65536 in
theorem w_c11 : (Jvm.Cond.code ({ cls := "java/lang/String", name := "coder", desc := "()B" } : Jvm.MethodName) jdk_42_method_152_code (1 : Nat) (Option.some Jvm.ClassFile.FieldType.byte)).before args0 about1 = true := code_word (m := ⟨8, 8⟩) (meth := k8m8) (c := k8c8) (by decide +kernel) rfl rfl rfl (by decide +kernel)
set_option maxRecDepth 65536 in
theorem w_c12 : (Jvm.Cond.code ({ cls := "java/lang/String", name := "charAt", desc := "(I)C" } : Jvm.MethodName) jdk_42_method_56_code (2 : Nat) (Option.some Jvm.ClassFile.FieldType.char)).before args0 about1 = true := code_word (m := ⟨8, 4⟩) (meth := k8m4) (c := k8c4) (by decide +kernel) rfl rfl rfl (by decide +kernel)
set_option maxRecDepth 65536 in
theorem w_c13 : (Jvm.Cond.code ({ cls := "java/lang/String", name := "isLatin1", desc := "()Z" } : Jvm.MethodName) jdk_42_method_154_code (1 : Nat) (Option.some Jvm.ClassFile.FieldType.boolean)).before args0 about1 = true := code_word (m := ⟨8, 9⟩) (meth := k8m9) (c := k8c9) (by decide +kernel) rfl rfl rfl (by decide +kernel)
set_option maxRecDepth 65536 in
theorem w_c14 : (Jvm.Cond.code ({ cls := "java/lang/StringLatin1", name := "charAt", desc := "([BI)C" } : Jvm.MethodName) jdk_43_method_2_code (2 : Nat) (Option.some Jvm.ClassFile.FieldType.char)).before args0 about1 = true := code_word (m := ⟨10, 1⟩) (meth := k10m1) (c := k10c1) (by decide +kernel) rfl rfl rfl (by decide +kernel)
set_option maxRecDepth 65536 in
theorem w_c15 : (Jvm.Cond.code ({ cls := "java/lang/String", name := "checkIndex", desc := "(II)V" } : Jvm.MethodName) jdk_42_method_155_code (2 : Nat) (Option.none : Option Jvm.ClassFile.FieldType)).before args0 about1 = true := code_word (m := ⟨8, 10⟩) (meth := k8m10) (c := k8c10) (by decide +kernel) rfl rfl rfl (by decide +kernel)
set_option maxRecDepth 65536 in
theorem w_c16 : (Jvm.Cond.code ({ cls := "jdk/internal/util/Preconditions", name := "checkIndex", desc := "(IILjava/util/function/BiFunction;)I" } : Jvm.MethodName) jdk_41_method_11_code (3 : Nat) (Option.some Jvm.ClassFile.FieldType.int)).before args0 about1 = true := code_word (m := ⟨11, 1⟩) (meth := k11m1) (c := k11c1) (by decide +kernel) rfl rfl rfl (by decide +kernel)
set_option maxRecDepth 65536 in
theorem w_c17 : (Jvm.Cond.code ({ cls := "com/example/traceloom/traceloom/TraceIds", name := "isAcceptedCharacter", desc := "(C)Z" } : Jvm.MethodName) prog_18_method_3_code (1 : Nat) (Option.some Jvm.ClassFile.FieldType.boolean)).before args0 about1 = true := code_word (m := ⟨2, 2⟩) (meth := k2m2) (c := k2c2) (by decide +kernel) rfl rfl rfl (by decide +kernel)
set_option maxRecDepth 65536 in
theorem w_c18 : (Jvm.Cond.code ({ cls := "com/example/traceloom/traceloom/TraceIdsIsAcceptedPinLaw", name := "ok", desc := "(C)Z" } : Jvm.MethodName) method_3_code (2 : Nat) (Option.some Jvm.ClassFile.FieldType.boolean)).before args0 about1 = true := code_word (m := ⟨1, 2⟩) (meth := k1m2) (c := k1c2) (by decide +kernel) rfl rfl rfl (by decide +kernel)
set_option maxRecDepth 65536 in
theorem w_c19 : (Jvm.Cond.code ({ cls := "java/lang/StringUTF16", name := "toBytes", desc := "([CII)[B" } : Jvm.MethodName) jdk_52_method_14_code (5 : Nat) (Option.some (Jvm.ClassFile.FieldType.array Jvm.ClassFile.FieldType.byte))).before args0 about1 = true := code_word (m := ⟨9, 6⟩) (meth := k9m6) (c := k9c6) (by decide +kernel) rfl rfl rfl (by decide +kernel)
set_option maxRecDepth 65536 in
theorem w_c20 : (Jvm.Cond.code ({ cls := "java/lang/StringUTF16", name := "newBytesFor", desc := "(I)[B" } : Jvm.MethodName) jdk_52_method_2_code (1 : Nat) (Option.some (Jvm.ClassFile.FieldType.array Jvm.ClassFile.FieldType.byte))).before args0 about1 = true := code_word (m := ⟨9, 1⟩) (meth := k9m1) (c := k9c1) (by decide +kernel) rfl rfl rfl (by decide +kernel)
set_option maxRecDepth 65536 in
theorem w_c21 : (Jvm.Cond.code ({ cls := "java/lang/StringUTF16", name := "newBytesLength", desc := "(I)I" } : Jvm.MethodName) jdk_52_method_3_code (1 : Nat) (Option.some Jvm.ClassFile.FieldType.int)).before args0 about1 = true := code_word (m := ⟨9, 2⟩) (meth := k9m2) (c := k9c2) (by decide +kernel) rfl rfl rfl (by decide +kernel)
set_option maxRecDepth 65536 in
theorem w_c22 : (Jvm.Cond.code ({ cls := "java/lang/StringUTF16", name := "putChar", desc := "([BII)V" } : Jvm.MethodName) jdk_52_method_4_code (3 : Nat) (Option.none : Option Jvm.ClassFile.FieldType)).before args0 about1 = true := code_word (m := ⟨9, 3⟩) (meth := k9m3) (c := k9c3) (by decide +kernel) rfl rfl rfl (by decide +kernel)
set_option maxRecDepth 65536 in
theorem w_c23 : (Jvm.Cond.code ({ cls := "java/lang/StringUTF16", name := "getChar", desc := "([BI)C" } : Jvm.MethodName) jdk_52_method_5_code (2 : Nat) (Option.some Jvm.ClassFile.FieldType.char)).before args0 about1 = true := code_word (m := ⟨9, 4⟩) (meth := k9m4) (c := k9c4) (by decide +kernel) rfl rfl rfl (by decide +kernel)
set_option maxRecDepth 65536 in
theorem w_c24 : (Jvm.Cond.code ({ cls := "java/lang/StringUTF16", name := "charAt", desc := "([BI)C" } : Jvm.MethodName) jdk_52_method_83_code (2 : Nat) (Option.some Jvm.ClassFile.FieldType.char)).before args0 about1 = true := code_word (m := ⟨9, 11⟩) (meth := k9m11) (c := k9c11) (by decide +kernel) rfl rfl rfl (by decide +kernel)
set_option maxRecDepth 65536 in
theorem w_c25 : (Jvm.Cond.code ({ cls := "java/lang/StringUTF16", name := "checkIndex", desc := "(I[B)V" } : Jvm.MethodName) jdk_52_method_91_code (2 : Nat) (Option.none : Option Jvm.ClassFile.FieldType)).before args0 about1 = true := code_word (m := ⟨9, 12⟩) (meth := k9m12) (c := k9c12) (by decide +kernel) rfl rfl rfl (by decide +kernel)
set_option maxRecDepth 65536 in
theorem w_c26 : (Jvm.Cond.code ({ cls := "java/lang/StringUTF16", name := "length", desc := "([B)I" } : Jvm.MethodName) jdk_52_method_6_code (1 : Nat) (Option.some Jvm.ClassFile.FieldType.int)).before args0 about1 = true := code_word (m := ⟨9, 5⟩) (meth := k9m5) (c := k9c5) (by decide +kernel) rfl rfl rfl (by decide +kernel)
set_option maxRecDepth 65536 in
theorem w_c27 : (Jvm.Cond.code ({ cls := "java/lang/String", name := "valueOf", desc := "(C)Ljava/lang/String;" } : Jvm.MethodName) jdk_42_method_139_code (1 : Nat) (Option.some (Jvm.ClassFile.FieldType.object "java/lang/String"))).before args0 about1 = true := code_word (m := ⟨8, 5⟩) (meth := k8m5) (c := k8c5) (by decide +kernel) rfl rfl rfl (by decide +kernel)
set_option maxRecDepth 65536 in
theorem w_c28 : (Jvm.Cond.code ({ cls := "java/lang/StringLatin1", name := "canEncode", desc := "(C)Z" } : Jvm.MethodName) jdk_43_method_3_code (1 : Nat) (Option.some Jvm.ClassFile.FieldType.boolean)).before args0 about1 = true := code_word (m := ⟨10, 2⟩) (meth := k10m2) (c := k10c2) (by decide +kernel) rfl rfl rfl (by decide +kernel)
set_option maxRecDepth 65536 in
theorem w_c29 : (Jvm.Cond.code ({ cls := "java/lang/StringUTF16", name := "toBytes", desc := "(C)[B" } : Jvm.MethodName) jdk_52_method_24_code (2 : Nat) (Option.some (Jvm.ClassFile.FieldType.array Jvm.ClassFile.FieldType.byte))).before args0 about1 = true := code_word (m := ⟨9, 10⟩) (meth := k9m10) (c := k9c10) (by decide +kernel) rfl rfl rfl (by decide +kernel)
set_option maxRecDepth 65536 in
theorem w_c30 : (Jvm.Cond.code ({ cls := "java/lang/String", name := "<init>", desc := "([BB)V" } : Jvm.MethodName) jdk_42_method_151_code (3 : Nat) (Option.none : Option Jvm.ClassFile.FieldType)).before args0 about1 = true := code_word (m := ⟨8, 7⟩) (meth := k8m7) (c := k8c7) (by decide +kernel) rfl rfl rfl (by decide +kernel)
set_option maxRecDepth 65536 in
theorem w_c31 : (Jvm.Cond.code ({ cls := "java/lang/StringLatin1", name := "toBytes", desc := "(C)[B" } : Jvm.MethodName) jdk_43_method_46_code (1 : Nat) (Option.some (Jvm.ClassFile.FieldType.array Jvm.ClassFile.FieldType.byte))).before args0 about1 = true := code_word (m := ⟨10, 3⟩) (meth := k10m3) (c := k10c3) (by decide +kernel) rfl rfl rfl (by decide +kernel)
def codes1 : List Jvm.Cond := [Jvm.Cond.code x code maxLocals ret, Jvm.Cond.code ({ cls := "com/example/traceloom/traceloom/TraceIdsIsAcceptedPinLaw", name := "draw", desc := "(I)C" } : Jvm.MethodName) method_2_code (1 : Nat) (Option.some Jvm.ClassFile.FieldType.char), Jvm.Cond.code ({ cls := "com/example/traceloom/traceloom/TraceIds", name := "isAccepted", desc := "(Ljava/lang/String;)Z" } : Jvm.MethodName) prog_18_method_2_code (2 : Nat) (Option.some Jvm.ClassFile.FieldType.boolean), Jvm.Cond.code ({ cls := "java/lang/String", name := "<init>", desc := "([C)V" } : Jvm.MethodName) jdk_42_method_3_code (2 : Nat) (Option.none : Option Jvm.ClassFile.FieldType), Jvm.Cond.code ({ cls := "java/lang/String", name := "<init>", desc := "([CIILjava/lang/Void;)V" } : Jvm.MethodName) jdk_42_method_149_code (6 : Nat) (Option.none : Option Jvm.ClassFile.FieldType), Jvm.Cond.code ({ cls := "java/lang/Object", name := "<init>", desc := "()V" } : Jvm.MethodName) object_method_1_code (1 : Nat) (Option.none : Option Jvm.ClassFile.FieldType), Jvm.Cond.code ({ cls := "java/lang/StringUTF16", name := "compress", desc := "([CII)[B" } : Jvm.MethodName) jdk_52_method_16_code (6 : Nat) (Option.some (Jvm.ClassFile.FieldType.array Jvm.ClassFile.FieldType.byte)), Jvm.Cond.code ({ cls := "java/lang/StringUTF16", name := "compress", desc := "([CI[BII)I" } : Jvm.MethodName) jdk_52_method_21_code (7 : Nat) (Option.some Jvm.ClassFile.FieldType.int), Jvm.Cond.code ({ cls := "java/lang/StringUTF16", name := "coderFromArrayLen", desc := "([BI)B" } : Jvm.MethodName) jdk_52_method_15_code (2 : Nat) (Option.some Jvm.ClassFile.FieldType.byte), Jvm.Cond.code ({ cls := "java/lang/String", name := "isEmpty", desc := "()Z" } : Jvm.MethodName) jdk_42_method_55_code (1 : Nat) (Option.some Jvm.ClassFile.FieldType.boolean), Jvm.Cond.code ({ cls := "java/lang/String", name := "length", desc := "()I" } : Jvm.MethodName) jdk_42_method_54_code (1 : Nat) (Option.some Jvm.ClassFile.FieldType.int), Jvm.Cond.code ({ cls := "java/lang/String", name := "coder", desc := "()B" } : Jvm.MethodName) jdk_42_method_152_code (1 : Nat) (Option.some Jvm.ClassFile.FieldType.byte), Jvm.Cond.code ({ cls := "java/lang/String", name := "charAt", desc := "(I)C" } : Jvm.MethodName) jdk_42_method_56_code (2 : Nat) (Option.some Jvm.ClassFile.FieldType.char), Jvm.Cond.code ({ cls := "java/lang/String", name := "isLatin1", desc := "()Z" } : Jvm.MethodName) jdk_42_method_154_code (1 : Nat) (Option.some Jvm.ClassFile.FieldType.boolean), Jvm.Cond.code ({ cls := "java/lang/StringLatin1", name := "charAt", desc := "([BI)C" } : Jvm.MethodName) jdk_43_method_2_code (2 : Nat) (Option.some Jvm.ClassFile.FieldType.char), Jvm.Cond.code ({ cls := "java/lang/String", name := "checkIndex", desc := "(II)V" } : Jvm.MethodName) jdk_42_method_155_code (2 : Nat) (Option.none : Option Jvm.ClassFile.FieldType), Jvm.Cond.code ({ cls := "jdk/internal/util/Preconditions", name := "checkIndex", desc := "(IILjava/util/function/BiFunction;)I" } : Jvm.MethodName) jdk_41_method_11_code (3 : Nat) (Option.some Jvm.ClassFile.FieldType.int), Jvm.Cond.code ({ cls := "com/example/traceloom/traceloom/TraceIds", name := "isAcceptedCharacter", desc := "(C)Z" } : Jvm.MethodName) prog_18_method_3_code (1 : Nat) (Option.some Jvm.ClassFile.FieldType.boolean), Jvm.Cond.code ({ cls := "com/example/traceloom/traceloom/TraceIdsIsAcceptedPinLaw", name := "ok", desc := "(C)Z" } : Jvm.MethodName) method_3_code (2 : Nat) (Option.some Jvm.ClassFile.FieldType.boolean), Jvm.Cond.code ({ cls := "java/lang/StringUTF16", name := "toBytes", desc := "([CII)[B" } : Jvm.MethodName) jdk_52_method_14_code (5 : Nat) (Option.some (Jvm.ClassFile.FieldType.array Jvm.ClassFile.FieldType.byte)), Jvm.Cond.code ({ cls := "java/lang/StringUTF16", name := "newBytesFor", desc := "(I)[B" } : Jvm.MethodName) jdk_52_method_2_code (1 : Nat) (Option.some (Jvm.ClassFile.FieldType.array Jvm.ClassFile.FieldType.byte)), Jvm.Cond.code ({ cls := "java/lang/StringUTF16", name := "newBytesLength", desc := "(I)I" } : Jvm.MethodName) jdk_52_method_3_code (1 : Nat) (Option.some Jvm.ClassFile.FieldType.int), Jvm.Cond.code ({ cls := "java/lang/StringUTF16", name := "putChar", desc := "([BII)V" } : Jvm.MethodName) jdk_52_method_4_code (3 : Nat) (Option.none : Option Jvm.ClassFile.FieldType), Jvm.Cond.code ({ cls := "java/lang/StringUTF16", name := "getChar", desc := "([BI)C" } : Jvm.MethodName) jdk_52_method_5_code (2 : Nat) (Option.some Jvm.ClassFile.FieldType.char), Jvm.Cond.code ({ cls := "java/lang/StringUTF16", name := "charAt", desc := "([BI)C" } : Jvm.MethodName) jdk_52_method_83_code (2 : Nat) (Option.some Jvm.ClassFile.FieldType.char), Jvm.Cond.code ({ cls := "java/lang/StringUTF16", name := "checkIndex", desc := "(I[B)V" } : Jvm.MethodName) jdk_52_method_91_code (2 : Nat) (Option.none : Option Jvm.ClassFile.FieldType), Jvm.Cond.code ({ cls := "java/lang/StringUTF16", name := "length", desc := "([B)I" } : Jvm.MethodName) jdk_52_method_6_code (1 : Nat) (Option.some Jvm.ClassFile.FieldType.int), Jvm.Cond.code ({ cls := "java/lang/String", name := "valueOf", desc := "(C)Ljava/lang/String;" } : Jvm.MethodName) jdk_42_method_139_code (1 : Nat) (Option.some (Jvm.ClassFile.FieldType.object "java/lang/String")), Jvm.Cond.code ({ cls := "java/lang/StringLatin1", name := "canEncode", desc := "(C)Z" } : Jvm.MethodName) jdk_43_method_3_code (1 : Nat) (Option.some Jvm.ClassFile.FieldType.boolean), Jvm.Cond.code ({ cls := "java/lang/StringUTF16", name := "toBytes", desc := "(C)[B" } : Jvm.MethodName) jdk_52_method_24_code (2 : Nat) (Option.some (Jvm.ClassFile.FieldType.array Jvm.ClassFile.FieldType.byte)), Jvm.Cond.code ({ cls := "java/lang/String", name := "<init>", desc := "([BB)V" } : Jvm.MethodName) jdk_42_method_151_code (3 : Nat) (Option.none : Option Jvm.ClassFile.FieldType), Jvm.Cond.code ({ cls := "java/lang/StringLatin1", name := "toBytes", desc := "(C)[B" } : Jvm.MethodName) jdk_43_method_46_code (1 : Nat) (Option.some (Jvm.ClassFile.FieldType.array Jvm.ClassFile.FieldType.byte))]
set_option maxRecDepth 65536 in
theorem codes_eq : words1.filter isCode = codes1 := rfl
theorem w_codes : ∀ c ∈ words1.filter isCode, c.before args0 about1 = true := by
  rw [codes_eq]
  intro c hc
  simp only [codes1, List.mem_cons, List.not_mem_nil, or_false] at hc
  rcases hc with rfl | rfl | rfl | rfl | rfl | rfl | rfl | rfl | rfl | rfl | rfl | rfl | rfl | rfl | rfl | rfl | rfl | rfl | rfl | rfl | rfl | rfl | rfl | rfl | rfl | rfl | rfl | rfl | rfl | rfl | rfl | rfl
  · exact w_c0
  · exact w_c1
  · exact w_c2
  · exact w_c3
  · exact w_c4
  · exact w_c5
  · exact w_c6
  · exact w_c7
  · exact w_c8
  · exact w_c9
  · exact w_c10
  · exact w_c11
  · exact w_c12
  · exact w_c13
  · exact w_c14
  · exact w_c15
  · exact w_c16
  · exact w_c17
  · exact w_c18
  · exact w_c19
  · exact w_c20
  · exact w_c21
  · exact w_c22
  · exact w_c23
  · exact w_c24
  · exact w_c25
  · exact w_c26
  · exact w_c27
  · exact w_c28
  · exact w_c29
  · exact w_c30
  · exact w_c31
set_option maxRecDepth 65536 in
theorem w_t1 : (words1.take 24).all (fun c => isCode c || c.before args0 about1) = true := by decide +kernel
set_option maxRecDepth 65536 in
theorem w_t2 : ((words1.drop 24).take 24).all (fun c => isCode c || c.before args0 about1) = true := by decide +kernel
set_option maxRecDepth 65536 in
theorem w_t3 : (((words1.drop 24).drop 24).take 24).all (fun c => isCode c || c.before args0 about1) = true := by decide +kernel
set_option maxRecDepth 65536 in
theorem w_t4 : ((((words1.drop 24).drop 24).drop 24).take 24).all (fun c => isCode c || c.before args0 about1) = true := by decide +kernel
set_option maxRecDepth 65536 in
theorem w_t5 : (((((words1.drop 24).drop 24).drop 24).drop 24).take 24).all (fun c => isCode c || c.before args0 about1) = true := by decide +kernel
set_option maxRecDepth 65536 in
theorem w_t6 : (((((words1.drop 24).drop 24).drop 24).drop 24).drop 24).all (fun c => isCode c || c.before args0 about1) = true := by decide +kernel
theorem w_tables : (allAtoms (Jvm.Cond.code x code maxLocals ret :: tables_1)).before args0 about1 = true := by
  rw [allAtoms_all]
  show words1.all (fun c => c.before args0 about1) = true
  refine all_split ?_ w_codes
  rw [← List.take_append_drop 24 words1, List.all_append, w_t1, ← List.take_append_drop 24 (words1.drop 24), List.all_append, w_t2, ← List.take_append_drop 24 ((words1.drop 24).drop 24), List.all_append, w_t3, ← List.take_append_drop 24 (((words1.drop 24).drop 24).drop 24), List.all_append, w_t4, ← List.take_append_drop 24 ((((words1.drop 24).drop 24).drop 24).drop 24), List.all_append, w_t5, w_t6]
  rfl
set_option maxRecDepth 65536 in
theorem w_rest : rest_1_c.before args0 about1 = true := by decide +kernel
set_option maxRecDepth 65536 in
theorem w_case : (Jvm.Cond.and given_1 narrow_1).before args0 about1 = true := by decide +kernel
set_option maxRecDepth 65536 in
theorem w_consts : constsHeld consts_1 about1 := Jvm.Lit.constsHeldB_iff.mp (by decide +kernel)
theorem w_applies : (headSpec (Jvm.Cond.code x code maxLocals ret :: tables_1) room_1).applies x e0.platform about1 = true :=
  (Spec.applies_iff w_frames).mpr ⟨w_running, w_runnable, w_alone, w_named, w_hears, w_ripe, w_room, w_tables⟩
theorem atStart : AtStart classFile x code maxLocals ret World_1 tables_1 room_1 Calls_1 rest_1 Pre_1 launch0 p0 e0 about1 theMethod args0 below0 :=
  ⟨lists_1, trivial, launch0.admits_env _ _ _, launch0.least_env, fairChoices_fair.cas, fairChoices_fair.clock, w_frames, w_args, w_heap, w_applies, ⟨w_consts, trivial⟩, w_rest, w_case⟩
end start1
theorem witness_1 : WitnessClaimed_1 := ⟨start1.p0, start1.e0, start1.about1, start1.theMethod, start1.args0, start1.below0, start1.atStart⟩
end Jvm.Pilot.@@N@@
